/-
  spec.ptSingle at a byte that stands for itself, and at a point; spec.stIsBytes; spec.has; spec.ptWith.
-/
import Derived.Test.YtkbdngcbifonkaaFmtEsc
import Derived.Deep.LoopGhost
import Derived.BigQuiet
import Derived.OwnWalk
import Derived.Test.YtkbdngcbifonkaaFmtScan
namespace Go.Proofs.YtkbdngcbifonkaaFmt
set_option linter.all false
open Go.RowKit

/-- A set of bytes in memory. -/
def SetIs (w : World) (D : Nat) (f : Nat → Bool) : Prop := D < w.heap.size ∧ ∀ k, k < 128 → w.cell? ⟨D, k, none⟩ = some (.bool (f k))

theorem SetIs.keep {w w' : World} {D : Nat} {f : Nat → Bool} {T : Nat → Prop} (h : SetIs w D f) (hc : Ch T w w') (hT : ¬ T D) : SetIs w' D f :=
  ⟨Nat.lt_of_lt_of_le h.1 hc.size, fun k hk => hc.cell_some (h.2 k hk) hT⟩

/-- What ptSingle gives. -/
def SglPost (w : World) (k : Int) (f : Nat → Bool) (e : Ending) (w' : World) : Prop :=
  Ch (fun _ => False) w w' ∧ ∃ D, e = .returned (.tuple #[.slice (some ⟨D, 0, none⟩) 128 128, .int .i64 k, .bool true]) ∧ w.heap.size ≤ D ∧ SetIs w' D f

set_option maxRecDepth 100000 in
set_option maxHeartbeats 4000000 in
theorem single_byte {w : World} {s : ByteArray} {k : Nat} {b : Nat} (hk : k < s.size) (hs : s.size ≤ 100000) (hb : s[k].toNat = b) (hb1 : b < 128)
    (n46 : ((b : Int) == 46) = false) (n37 : ((b : Int) == 37) = false) (n91 : ((b : Int) == 91) = false) (n93 : ((b : Int) == 93) = false) (n42 : ((b : Int) == 42) = false) (n43 : ((b : Int) == 43) = false) (n45 : ((b : Int) == 45) = false) (n63 : ((b : Int) == 63) = false) :
    Calls Tryf.prog 45 #[.string s, .int .i64 (k : Int)] w (SglPost w ((k + 1 : Nat) : Int) (fun i => decide (i = b))) := by
  have hb2 : (s[k].toNat : Int) = (b : Int) := by omega
  have hk2 : (k : Int) < s.size := by omega
  have hk0 : (0 : Int) ≤ k := by omega
  have hw1 : IntKind.i64.wrap ((k : Int) + 1) = ((k + 1 : Nat) : Int) := by rw [IntKind.wrap_i64]; omega
  have hbi0 : (0 : Int) ≤ (b : Int) := by omega
  have hbi1 : (b : Int) < 128 := by omega
  go_enter Tryf.func45, Tryf.ntmps45
  go_wp2_with fail
  refine (empty_calls _).mono ?_
  rintro e w1 ⟨rfl, hch, hlt, hcell, hfz⟩
  have c0 := hcell b hb1
  have z0 := hfz b
  have HCH := Lib.hid hch
  have HCELL := Lib.hid hcell
  clear hch hcell hfz
  simp only []
  go_wp2_with fail
  refine bodyPost_ret (results_tmp3 rfl _ _ _) rfl ?_
  refine ⟨HCH.out.setCell (fun h => absurd h (Nat.lt_irrefl _)) _, _, rfl, Nat.le_refl _, by simpa using hlt, fun i hi => ?_⟩
  show World.cell? _ _ = some (Value.bool (decide (i = b)))
  by_cases e : i = b
  · subst e
    rw [decide_eq_true rfl]
    exact World.cell?_setCell_same _ _ _ c0
  · rw [decide_eq_false e, World.cell?_setCell_other _ _ _ _ (addr_ne (fun e2 => e (by simpa using e2.symm)))]
    exact HCELL.out i hi

set_option maxRecDepth 100000 in
set_option maxHeartbeats 4000000 in
theorem single_dot {w : World} {s : ByteArray} {k : Nat} (hk : k < s.size) (hs : s.size ≤ 100000) (hb : s[k].toNat = 46) :
    Calls Tryf.prog 45 #[.string s, .int .i64 (k : Int)] w (SglPost w ((k + 1 : Nat) : Int) (fun _ => true)) := by
  have hb2 : (s[k].toNat : Int) = 46 := by omega
  have hk2 : (k : Int) < s.size := by omega
  have hk0 : (0 : Int) ≤ k := by omega
  have hw1 : IntKind.i64.wrap ((k : Int) + 1) = ((k + 1 : Nat) : Int) := by rw [IntKind.wrap_i64]; omega
  go_enter Tryf.func45, Tryf.ntmps45
  go_wp2_with fail
  refine (empty_calls _).mono ?_
  rintro e w1 ⟨rfl, hch, hlt, hcell, hfz⟩
  have HCH := Lib.hid hch
  have HCELL := Lib.hid hcell
  have HFZ := Lib.hid hfz
  clear hch hcell hfz
  simp only []
  go_wp2_with fail
  go_loopg [22] 128 (fun n s22 wr => ∃ i : Nat, s22 = .int .i64 i ∧ i ≤ 128 ∧ n = 128 - i ∧ Ch (fun _ => False) w wr ∧ w.heap.size < wr.heap.size ∧ (∀ j, j < 128 → wr.cell? ⟨w.heap.size, j, none⟩ = some (.bool (decide (j < i)))) ∧ (∀ j, wr.frozen? ⟨w.heap.size, j, none⟩ = false))
  case atStart => exact ⟨0, rfl, by omega, rfl, HCH.out, hlt, fun j hj => by simpa using HCELL.out j hj, HFZ.out⟩
  case round =>
    obtain ⟨i, rfl, hi, rfl, hch, hl2, hc, hf⟩ := hrel
    have HC := Lib.hid hc
    have HF := Lib.hid hf
    have HH := Lib.hid hch
    clear HCH HCELL HFZ
    by_cases hlt2 : i < 128
    · have c0 := hc i hlt2
      have z0 := hf i
      have i1 : (i : Int) < 128 := by omega
      have i0 : (0 : Int) ≤ (i : Int) := by omega
      have hw : IntKind.i64.wrap ((i : Int) + 1) = ((i + 1 : Nat) : Int) := by rw [IntKind.wrap_i64]; omega
      clear hc hf hch
      go_wp2_with fail
      go_roundg (128 - (i + 1))
      case measure => omega
      case rel =>
        refine ⟨i + 1, rfl, by omega, rfl, HH.out.setCell (fun h => absurd h (Nat.lt_irrefl _)) _, by simpa using hl2, fun j hj => ?_, fun j => by rw [World.frozen?_setCell]; exact HF.out j⟩
        by_cases e : j = i
        · subst e
          rw [decide_eq_true (by omega)]
          exact World.cell?_setCell_same _ _ _ c0
        · rw [World.cell?_setCell_other _ _ _ _ (addr_ne (fun e2 => e (by simpa using e2.symm))), HC.out j hj]
          congr 2
          rw [decide_eq_decide]
          omega
    · have hie : i = 128 := by omega
      subst hie
      clear hc hf hch
      go_wp2_with fail
      refine bodyPost_ret (results_tmp3 rfl _ _ _) rfl ?_
      refine ⟨HH.out, _, rfl, Nat.le_refl _, hl2, fun j hj => ?_⟩
      rw [HC.out j hj, decide_eq_true hj]

set_option maxRecDepth 100000 in
theorem bytes_calls {w : World} {s : ByteArray} (hs : s.size ≤ 100000) (hp : ∀ j (h : j < s.size), s[j].toNat ≤ 127) :
    Calls Tryf.prog 24 #[.string s] w fun e w' => w = w' ∧ e = .returned (.bool true) := by
  have HP := Lib.hid hp
  clear hp
  go_enter Tryf.func24, Tryf.ntmps24
  go_wp2_with fail
  go_loopg [3] s.size (fun k s3 wr => wr = w ∧ ∃ i : Nat, s3 = .int .i64 i ∧ i ≤ s.size ∧ k = s.size - i)
  case atStart => exact ⟨rfl, 0, rfl, by omega, rfl⟩
  case round =>
    obtain ⟨rfl, i, rfl, hi, rfl⟩ := hrel
    by_cases hlt : i < s.size
    · have hlti : (i : Int) < s.size := by omega
      have hw : IntKind.i64.wrap ((i : Int) + 1) = ((i + 1 : Nat) : Int) := by rw [IntKind.wrap_i64]; omega
      have hb := HP.out i hlt
      have g1 : decide ((127 : Int) < (s[i].toNat : Int)) = false := by simp; omega
      clear hb
      go_wp2_with fail
      go_roundg (s.size - (i + 1))
      case measure => omega
      case rel => exact ⟨rfl, i + 1, rfl, hlt, rfl⟩
    · have hie : i = s.size := by omega
      subst hie
      have hf : ¬ (s.size : Int) < s.size := by omega
      go_wp2_with fail
      go_ret
      exact ⟨rfl, rfl⟩
end Go.Proofs.YtkbdngcbifonkaaFmt
