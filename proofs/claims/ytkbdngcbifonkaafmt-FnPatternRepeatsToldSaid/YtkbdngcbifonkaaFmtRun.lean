/-
  laws.run9: how many bytes at the beginning of a subject are in a class.
-/
import Derived.Test.YtkbdngcbifonkaaFmtInc
import Derived.Test.YtkbdngcbifonkaaFmtRpp
import Derived.Test.YtkbdngcbifonkaaFmtPln
namespace Go.Proofs.YtkbdngcbifonkaaFmt
set_option linter.all false
open Go.RowKit

theorem run_drop (c : Pm.Cls) (s : List UInt8) : ∀ i, (h : i < s.length) → c.mat (s[i].toNat : Int) = true → Pm.run c (s.drop i) = Pm.run c (s.drop (i + 1)) + 1 := by
  intro i h hm
  rw [List.drop_eq_getElem_cons h, Pm.run, if_pos hm]

theorem run_stop (c : Pm.Cls) (s : List UInt8) : ∀ i, (h : i < s.length) → c.mat (s[i].toNat : Int) = false → Pm.run c (s.drop i) = 0 := by
  intro i h hm
  rw [List.drop_eq_getElem_cons h, Pm.run, if_neg (by simp [hm])]

theorem run_le (c : Pm.Cls) : ∀ s : List UInt8, Pm.run c s ≤ s.length
  | [] => Nat.le_refl _
  | b :: r => by
    have := run_le c r
    unfold Pm.run
    split
    · simp only [List.length_cons]; omega
    · omega

set_option maxRecDepth 100000 in
set_option maxHeartbeats 4000000 in
theorem run_calls {w : World} {x : UInt8} {s : ByteArray} {c : Pm.Cls} (hx : IsLet x.toNat) (hc : IsCls (low x.toNat)) (hcl : c = .atom (.single (x.toNat : Int))) (hs : s.size ≤ 100000) (hp : ∀ j (h : j < s.size), s[j].toNat < 128) :
    Calls Tryf.prog 15 #[.int .u8 (x.toNat : Int), .string s] w fun e w' => Ch (fun _ => False) w w' ∧ e = .returned (.int .i64 (Pm.run c s.data.toList : Nat)) := by
  have HIN : Hid (∀ (b : UInt8) (_ : b.toNat < 128) w1, Calls Tryf.prog 12 #[.int .u8 (x.toNat : Int), .int .u8 (b.toNat : Int)] w1 fun e w' => Ch (fun _ => False) w1 w' ∧ e = .returned (.tuple #[.bool (c.mat (b.toNat : Int)), .bool true])) := Lib.hid fun b hb w1 => by
    subst hcl
    show Calls Tryf.prog 12 #[.int .u8 (x.toNat : Int), .int .u8 (b.toNat : Int)] w1 fun e w' => Ch (fun _ => False) w1 w' ∧ e = .returned (.tuple #[.bool (Pm.single (x.toNat : Int) (b.toNat : Int)), .bool true])
    rw [single_eq _ _ hx hc]
    exact inclass_cls hx hc hb
  have HP := Lib.hid hp
  clear hp hx hc hcl
  have hlen : s.data.toList.length = s.size := Array.length_toList
  have hget : ∀ i (h : i < s.size) (h2 : i < s.data.toList.length), s.data.toList[i]'h2 = s[i] := fun i h h2 => by rw [Array.getElem_toList]; rfl
  have HGET := Lib.hid hget
  have HLEN := Lib.hid hlen
  clear hget hlen
  go_enter Tryf.func15, Tryf.ntmps15
  go_wp2_with fail
  go_loopg [5] s.size (fun k s5 wr => ∃ i : Nat, s5 = .int .i64 i ∧ i ≤ s.size ∧ k = s.size - i ∧ Ch (fun _ => False) w wr ∧ Pm.run c s.data.toList = i + Pm.run c (s.data.toList.drop i))
  case atStart => exact ⟨0, rfl, Nat.zero_le _, rfl, .refl _ _, by simp⟩
  case round =>
    obtain ⟨i, rfl, hi, rfl, hch, hrun⟩ := hrel
    have HCH := Lib.hid hch
    have HRUN := Lib.hid hrun
    clear hch hrun
    by_cases hlt : i < s.size
    · have hlti : (i : Int) < s.size := by omega
      have hw : IntKind.i64.wrap ((i : Int) + 1) = ((i + 1 : Nat) : Int) := by rw [IntKind.wrap_i64]; omega
      cases hm : c.mat (s[i].toNat : Int) with
      | true =>
        have HM := Lib.hid hm
        clear hm
        go_wp2_with fail
        refine (HIN.out s[i] (HP.out i hlt) _).mono ?_
        rw [HM.out]
        rintro e w' ⟨hch, rfl⟩
        have HC2 := Lib.hid hch
        clear hch
        simp only []
        go_wp2_with fail
        go_roundg (s.size - (i + 1))
        case measure => omega
        case rel =>
          refine ⟨i + 1, rfl, hlt, rfl, HCH.out.trans HC2.out, ?_⟩
          rw [HRUN.out, run_drop c _ i (by rw [HLEN.out]; exact hlt) (by rw [HGET.out i hlt]; exact HM.out)]
          omega
      | false =>
        have HM := Lib.hid hm
        clear hm
        go_wp2_with fail
        refine (HIN.out s[i] (HP.out i hlt) _).mono ?_
        rw [HM.out]
        rintro e w' ⟨hch, rfl⟩
        have HC2 := Lib.hid hch
        clear hch
        simp only []
        go_wp2_with fail
        go_ret
        refine ⟨HCH.out.trans HC2.out, ?_⟩
        rw [HRUN.out, run_stop c _ i (by rw [HLEN.out]; exact hlt) (by rw [HGET.out i hlt]; exact HM.out)]
        rfl
    · have hie : i = s.size := by omega
      subst hie
      have hf : ¬ (s.size : Int) < s.size := by omega
      go_wp2_with fail
      go_ret
      refine ⟨HCH.out, ?_⟩
      rw [HRUN.out, List.drop_eq_nil_of_le (by rw [HLEN.out]; exact Nat.le_refl _)]
      rfl
end Go.Proofs.YtkbdngcbifonkaaFmt
