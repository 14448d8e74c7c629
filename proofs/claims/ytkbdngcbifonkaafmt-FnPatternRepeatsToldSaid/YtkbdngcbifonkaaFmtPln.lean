/-
  laws.plain9, laws.balance9.
-/
import Derived.Test.YtkbdngcbifonkaaFmtFst
import Derived.Test.YtkbdngcbifonkaaFmtBalP
namespace Go.Proofs.YtkbdngcbifonkaaFmt
set_option linter.all false
open Go.RowKit

/-- What plain9 says. -/
def plainB (s : ByteArray) (m : Int) : Bool := decide (∀ b ∈ s.data.toList, b.toNat ≠ 0 ∧ b.toNat ≤ 127) && decide ((s.size : Int) ≤ m)

theorem plainB_no {s : ByteArray} {m : Int} {i : Nat} (h : i < s.size) (hb : ¬ (s[i].toNat ≠ 0 ∧ s[i].toNat ≤ 127)) : plainB s m = false := by
  unfold plainB
  rw [decide_eq_false, Bool.false_and]
  intro hall
  refine hb (hall s[i] ?_)
  have : s[i] = s.data.toList[i]'(by simpa using h) := by rw [Array.getElem_toList]; rfl
  rw [this]
  exact List.getElem_mem _

theorem plainB_yes {s : ByteArray} {m : Int} (h : ∀ j (h : j < s.size), s[j].toNat ≠ 0 ∧ s[j].toNat ≤ 127) : plainB s m = decide ((s.size : Int) ≤ m) := by
  unfold plainB
  rw [decide_eq_true, Bool.true_and]
  intro b hb
  obtain ⟨j, hj, rfl⟩ := List.getElem_of_mem hb
  have hj2 : j < s.size := by simpa using hj
  have := h j hj2
  rw [Array.getElem_toList]
  exact this

theorem plainB_true {s : ByteArray} {m : Int} (h : plainB s m = true) : (∀ b ∈ s.data.toList, b.toNat ≠ 0 ∧ b.toNat ≤ 127) ∧ (s.size : Int) ≤ m := by
  unfold plainB at h
  simpa using h

def PlainPost (w : World) (s : ByteArray) (m : Int) (e : Ending) (w' : World) : Prop := w = w' ∧ e = .returned (.bool (plainB s m))

set_option maxRecDepth 100000 in
theorem plain_calls {w : World} {s : ByteArray} {m : Int} (hs : s.size ≤ 2147483647) :
    Calls Tryf.prog 9 #[.string s, .int .i64 m] w (PlainPost w s m) := by
  go_enter Tryf.func9, Tryf.ntmps9
  go_wp2_with fail
  go_loopg [5] s.size (fun k s5 wr => wr = w ∧ ∃ i : Nat, s5 = .int .i64 i ∧ i ≤ s.size ∧ k = s.size - i ∧ ∀ j (h : j < s.size), j < i → s[j].toNat ≠ 0 ∧ s[j].toNat ≤ 127)
  case atStart => exact ⟨rfl, 0, rfl, by omega, rfl, fun j h h0 => by omega⟩
  case round =>
    obtain ⟨rfl, i, rfl, hi, rfl, hall⟩ := hrel
    have HA := Lib.hid hall
    clear hall
    by_cases hlt : i < s.size
    · have hlti : (i : Int) < s.size := by omega
      have hw : IntKind.i64.wrap ((i : Int) + 1) = ((i + 1 : Nat) : Int) := by rw [IntKind.wrap_i64]; omega
      by_cases h0 : s[i].toNat = 0
      · have g0 : ((s[i].toNat : Int) == 0) = true := by simp [h0]
        have HNO := Lib.hid (plainB_no (m := m) hlt (by simp [h0]))
        clear h0
        go_wp2_with fail
        go_ret
        exact ⟨rfl, by rw [HNO.out]; rfl⟩
      · by_cases h1 : s[i].toNat ≤ 127
        · have HG := Lib.hid (show s[i].toNat ≠ 0 ∧ s[i].toNat ≤ 127 from ⟨h0, h1⟩)
          have g0 : ((s[i].toNat : Int) == 0) = false := by simp; omega
          have g1 : decide ((127 : Int) < (s[i].toNat : Int)) = false := by simp; omega
          clear h0 h1
          go_wp2_with fail
          go_roundg (s.size - (i + 1))
          case measure => omega
          case rel => exact ⟨rfl, i + 1, rfl, hlt, rfl, fun j h hj => by
            by_cases e : j = i
            · subst e; exact HG.out
            · exact HA.out j h (by omega)⟩
        · have g0 : ((s[i].toNat : Int) == 0) = false := by simp; omega
          have g1 : (127 : Int) < (s[i].toNat : Int) := by omega
          have HNO := Lib.hid (plainB_no (m := m) hlt (fun h => h1 h.2))
          clear h0 h1
          go_wp2_with fail
          go_ret
          exact ⟨rfl, by rw [HNO.out]; rfl⟩
    · have hie : i = s.size := by omega
      subst hie
      have hf : ¬ (s.size : Int) < s.size := by omega
      go_wp2_with fail
      go_ret
      exact ⟨rfl, by rw [plainB_yes (fun j h => HA.out j h h)]; rfl⟩

/-- What balance9 gives behind the opening byte. -/
def balRes (c : Nat) (r : Option Nat) : Int := match r with
  | some n => ((c + n : Nat) : Int)
  | none => -1

theorem balRes_map (i : Nat) (r : Option Nat) : balRes i (r.map (· + 1)) = balRes (i + 1) r := by
  cases r with
  | none => rfl
  | some n => simp only [Option.map, balRes]; congr 1; omega

set_option maxRecDepth 100000 in
set_option maxHeartbeats 4000000 in
theorem balance_calls {w : World} {s : ByteArray} {l : List UInt8} {o c : Nat} {at' : Nat} (hl : s.data.toList = l) (hs : s.size ≤ 100000) (hat : at' < s.size) (hoc : (o : Int) ≠ c) (ho : s[at'].toNat = o) :
    Calls Tryf.prog 10 #[.string s, .int .u8 (o : Int), .int .u8 (c : Int), .int .i64 at'] w fun e w' => w = w' ∧ e = .returned (.int .i64 (balRes (at' + 1) (Pm.bal o c (l.drop (at' + 1)) 1))) := by
  have HL := Lib.hid hl
  have HO := Lib.hid ho
  clear hl ho
  go_enter Tryf.func10, Tryf.ntmps10
  go_wp2_with fail
  go_loopg [9, 10] (s.size - at') (fun k s9 s10 wr => wr = w ∧ ∃ i d : Nat, s9 = .int .i64 d ∧ s10 = .int .i64 i ∧ at' ≤ i ∧ i ≤ s.size ∧ k = s.size - i ∧ d ≤ i ∧ ((i = at' ∧ d = 0) ∨ (at' < i ∧ 1 ≤ d ∧ balRes i (Pm.bal o c (l.drop i) d) = balRes (at' + 1) (Pm.bal o c (l.drop (at' + 1)) 1))))
  case atStart => exact ⟨rfl, at', 0, rfl, rfl, Nat.le_refl _, by omega, rfl, by omega, .inl ⟨rfl, rfl⟩⟩
  case round =>
    obtain ⟨rfl, i, d, rfl, rfl, hi1, hi2, rfl, hdi, hcase⟩ := hrel
    have hwi : IntKind.i64.wrap ((i : Int) + 1) = ((i + 1 : Nat) : Int) := by rw [IntKind.wrap_i64]; omega
    have hwd : IntKind.i64.wrap ((d : Int) + 1) = ((d + 1 : Nat) : Int) := by rw [IntKind.wrap_i64]; omega
    have hwe : 1 ≤ d → IntKind.i64.wrap ((d : Int) - 1) = ((d - 1 : Nat) : Int) := fun h => by rw [IntKind.wrap_i64]; omega
    rcases hcase with ⟨rfl, rfl⟩ | ⟨hlt0, hd1, hbal⟩
    · -- the opening byte itself
      have hlti : (i : Int) < s.size := by omega
      have g0 : ((s[i].toNat : Int) == (o : Int)) = true := by have := HO.out; simp [this]
      clear hwe
      go_wp2_with fail
      go_roundg (s.size - (i + 1))
      case measure => omega
      case rel => exact ⟨rfl, i + 1, 1, rfl, rfl, by omega, by omega, rfl, by omega, .inr ⟨by omega, by omega, rfl⟩⟩
    · have HB := Lib.hid hbal
      have hwe' := hwe hd1
      clear hbal hwe
      by_cases hlt : i < s.size
      · have hlti : (i : Int) < s.size := by omega
        have hls : i < l.length := by rw [← HL.out]; simpa using hlt
        have hgl : l[i].toNat = s[i].toNat := by have := HL.out; subst this; simp; rfl
        have hdrop : l.drop i = l[i] :: l.drop (i + 1) := List.drop_eq_getElem_cons hls
        have hb2 := HB.out
        rw [hdrop, Pm.bal] at hb2
        rw [show (l[i].toNat : Int) = (s[i].toNat : Int) from by rw [hgl]] at hb2
        have HB2 := Lib.hid hb2
        clear hb2 hdrop hgl hls
        have hne : ((i : Int) == (at' : Int)) = false := by simp; omega
        by_cases hxo : (s[i].toNat : Int) = o
        · have g0 : ((s[i].toNat : Int) == (o : Int)) = true := by simp only [hxo, beq_self_eq_true]
          have g1 : (((d + 1 : Nat) : Int) == 0) = false := by simp; omega
          have hxc : ¬ (s[i].toNat : Int) = c := by rw [hxo]; exact hoc
          have HX := Lib.hid hxo
          have HY := Lib.hid hxc
          clear hxo hxc
          go_wp2_with fail
          go_roundg (s.size - (i + 1))
          case measure => omega
          case rel => exact ⟨rfl, i + 1, d + 1, rfl, rfl, by omega, by omega, rfl, by omega, .inr ⟨by omega, by omega, by
            rw [← HB2.out]; simp only [HX.out, HY.out, if_false, if_true]; rw [if_neg hoc, if_neg (by omega), balRes_map]⟩⟩
        · have g0 : ((s[i].toNat : Int) == (o : Int)) = false := by simpa using hxo
          by_cases hxc : (s[i].toNat : Int) = c
          · have g1 : ((s[i].toNat : Int) == (c : Int)) = true := by simp only [hxc, beq_self_eq_true]
            have HX := Lib.hid hxo
            have HY := Lib.hid hxc
            clear hxo hxc
            by_cases hd : d = 1
            · subst hd
              have g2 : (((1 - 1 : Nat) : Int) == 0) = true := rfl
              go_wp2_with fail
              go_ret
              refine ⟨rfl, ?_⟩
              rw [← HB2.out]
              simp [HY.out, balRes]
            · have g2 : (((d - 1 : Nat) : Int) == 0) = false := by simp; omega
              go_wp2_with fail
              go_roundg (s.size - (i + 1))
              case measure => omega
              case rel => exact ⟨rfl, i + 1, d - 1, rfl, rfl, by omega, by omega, rfl, by omega, .inr ⟨by omega, by omega, by
                rw [← HB2.out]; simp only [HX.out, HY.out, if_true]; rw [if_neg (by omega), if_neg (fun h => hoc h.symm), balRes_map]⟩⟩
          · have g1 : ((s[i].toNat : Int) == (c : Int)) = false := by simpa using hxc
            have g2 : (((d : Nat) : Int) == 0) = false := by simp; omega
            have HX := Lib.hid hxo
            have HY := Lib.hid hxc
            clear hxo hxc
            go_wp2_with fail
            go_roundg (s.size - (i + 1))
            case measure => omega
            case rel => exact ⟨rfl, i + 1, d, rfl, rfl, by omega, by omega, rfl, by omega, .inr ⟨by omega, by omega, by
              rw [← HB2.out]; simp only [HX.out, HY.out, if_false]; rw [if_neg (by omega), balRes_map]⟩⟩
      · have hie : i = s.size := by omega
        subst hie
        have hf : ¬ (s.size : Int) < s.size := by omega
        go_wp2_with fail
        go_ret
        refine ⟨rfl, ?_⟩
        have := HB.out
        rw [List.drop_eq_nil_of_le (by rw [← HL.out]; simp), Pm.bal] at this
        rw [← this]
        rfl
end Go.Proofs.YtkbdngcbifonkaaFmt
