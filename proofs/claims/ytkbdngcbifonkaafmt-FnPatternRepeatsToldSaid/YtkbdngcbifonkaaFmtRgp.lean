/-
  FnPatternRange: the law gives true, whatever the input.
-/
import Derived.Test.YtkbdngcbifonkaaFmtOne
import Derived.Test.YtkbdngcbifonkaaFmtPlp
import Derived.Test.YtkbdngcbifonkaaFmtBalL
import Derived.Deep.RegionHeld3
namespace Go.Proofs.YtkbdngcbifonkaaFmt
set_option linter.all false
open Go.RowKit

theorem setGo_range {a z : UInt8} (pre : List UInt8) (f : Nat) (a2 : ¬ (a.toNat : Int) = 93) (a3 : ¬ (a.toNat : Int) = 45) (a4 : ¬ (a.toNat : Int) = 37) (a5 : ¬ (a.toNat : Int) = 46) (a6 : ¬ (a.toNat : Int) = 91) (a7 : ¬ (a.toNat : Int) = -1)
    (z2 : ¬ (z.toNat : Int) = 93) (z3 : ¬ (z.toNat : Int) = 45) (z4 : ¬ (z.toNat : Int) = 37) (z5 : ¬ (z.toNat : Int) = 46) (z6 : ¬ (z.toNat : Int) = 91) (z7 : ¬ (z.toNat : Int) = -1) :
    setGo (pre ++ [a, 45, z, 93]) (f + 4) pre.length [] false = some ([.range (.chr (a.toNat : Int)) (.chr (z.toNat : Int))], pre.length + 4) := by
  have h0 : at_ (pre ++ [a, 45, z, 93]) pre.length = (a.toNat : Int) := by have := at_append pre [a, 45, z, 93] 0; rw [Nat.add_zero] at this; rw [this]; simp [at_]
  have h1 : at_ (pre ++ [a, 45, z, 93]) (pre.length + 1) = 45 := by rw [at_append]; simp [at_]
  have h2 : at_ (pre ++ [a, 45, z, 93]) (pre.length + 2) = (z.toNat : Int) := by rw [at_append]; simp [at_]
  have h3 : at_ (pre ++ [a, 45, z, 93]) (pre.length + 3) = 93 := by rw [at_append]; simp [at_]
  have e0 : atomAt (pre ++ [a, 45, z, 93]) pre.length = some (.chr (a.toNat : Int), pre.length + 1) := by simp [atomAt, h0, a4, a5, a6, a7]
  have e2 : atomAt (pre ++ [a, 45, z, 93]) (pre.length + 1 + 1) = some (.chr (z.toNat : Int), pre.length + 1 + 1 + 1) := by
    show atomAt (pre ++ [a, 45, z, 93]) (pre.length + 2) = _
    simp [atomAt, h2, z4, z5, z6, z7]
  rw [setGo]
  simp only [h0, a2, a3, if_false, e0, List.nil_append, Bool.false_eq_true]
  rw [setGo]
  simp only [h1, if_true]
  rw [if_neg (by decide), if_pos (by simp)]
  rw [setGo]
  rw [show pre.length + 1 + 1 = pre.length + 2 from rfl] at e2 ⊢
  simp only [h2, z2, z3, if_false, e2, if_true]
  rw [setGo]
  rw [show pre.length + 2 + 1 = pre.length + 3 from rfl]
  simp only [h3, if_true]
  rw [if_pos (by simp)]

theorem parses_range {a z : UInt8} (ha : (48 ≤ a.toNat ∧ a.toNat ≤ 90) ∨ (95 ≤ a.toNat ∧ a.toNat ≤ 122)) (hz : (48 ≤ z.toNat ∧ z.toNat ≤ 90) ∨ (95 ≤ z.toNat ∧ z.toNat ≤ 122)) :
    Parses [91, a, 45, z, 93] false [.part (.one (.set false [.range (.chr a.toNat) (.chr z.toNat)]))] := by
  have hset : setAt [91, a, 45, z, 93] 1 = some (false, [.range (.chr a.toNat) (.chr z.toNat)], 5) := by
    have h1 : at_ [91, a, 45, z, 93] 1 = (a.toNat : Int) := by simp [at_]
    unfold setAt
    rw [h1, if_neg (by omega)]
    have := setGo_range (a := a) (z := z) [91] 96 (by omega) (by omega) (by omega) (by omega) (by omega) (by omega) (by omega) (by omega) (by omega) (by omega) (by omega) (by omega)
    have e : setGo [91, a, 45, z, 93] 100 1 [] false = some ([.range (.chr (a.toNat : Int)) (.chr (z.toNat : Int))], 5) := this
    rw [e]
    rfl
  intro w Sc A cap h hA
  have h0 : at_ [91, a, 45, z, 93] 0 = 91 := by simp [at_]
  have h5 : at_ [91, a, 45, z, 93] 5 = -1 := by simp [at_]
  refine parse_basic (f := 2) h hA (Nat.zero_le _) (by simp) (by rw [h0]; rfl) ?_
  rw [patTo]
  simp only [h0, show ¬ (91 : Int) = 37 from by decide, show ¬ (91 : Int) = 46 from by decide, if_false, if_true]
  rw [show 0 + 1 = 1 from rfl, hset]
  simp only
  rw [patTo]
  simp [h5]

theorem parses_range_not {a z : UInt8} (ha : (48 ≤ a.toNat ∧ a.toNat ≤ 90) ∨ (95 ≤ a.toNat ∧ a.toNat ≤ 122)) (hz : (48 ≤ z.toNat ∧ z.toNat ≤ 90) ∨ (95 ≤ z.toNat ∧ z.toNat ≤ 122)) :
    Parses [91, 94, a, 45, z, 93] false [.part (.one (.set true [.range (.chr a.toNat) (.chr z.toNat)]))] := by
  have hset : setAt [91, 94, a, 45, z, 93] 1 = some (true, [.range (.chr a.toNat) (.chr z.toNat)], 6) := by
    have h1 : at_ [91, 94, a, 45, z, 93] 1 = 94 := by simp [at_]
    unfold setAt
    rw [h1, if_pos rfl]
    have := setGo_range (a := a) (z := z) [91, 94] 96 (by omega) (by omega) (by omega) (by omega) (by omega) (by omega) (by omega) (by omega) (by omega) (by omega) (by omega) (by omega)
    have e : setGo [91, 94, a, 45, z, 93] 100 (1 + 1) [] false = some ([.range (.chr (a.toNat : Int)) (.chr (z.toNat : Int))], 6) := this
    rw [e]
    rfl
  intro w Sc A cap h hA
  have h0 : at_ [91, 94, a, 45, z, 93] 0 = 91 := by simp [at_]
  have h5 : at_ [91, 94, a, 45, z, 93] 6 = -1 := by simp [at_]
  refine parse_basic (f := 2) h hA (Nat.zero_le _) (by simp) (by rw [h0]; rfl) ?_
  rw [patTo]
  simp only [h0, show ¬ (91 : Int) = 37 from by decide, show ¬ (91 : Int) = 46 from by decide, if_false, if_true]
  rw [show 0 + 1 = 1 from rfl, hset]
  simp only
  rw [patTo]
  simp [h5]

end Go.Proofs.YtkbdngcbifonkaaFmt
