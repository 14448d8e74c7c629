/-
  FnPatternClass: how its three patterns are read.
-/
import Derived.Test.YtkbdngcbifonkaaFmtInc
import Derived.Test.YtkbdngcbifonkaaFmtRgp
namespace Go.Proofs.YtkbdngcbifonkaaFmt
set_option linter.all false
open Go.RowKit

theorem parses_cls {x : UInt8} (hx : IsLet x.toNat) (hc : IsCls (low x.toNat)) : Parses [37, x] false [.part (.one (.atom (.single (x.toNat : Int))))] := by
  have hb : ¬ (x.toNat : Int) = 98 := by
    intro e
    have e2 : x.toNat = 98 := by omega
    rw [e2] at hc
    revert hc
    decide
  have n1 : ¬ (x.toNat : Int) = 49 := by unfold IsLet at hx; omega
  have n3 : ¬ (48 ≤ (x.toNat : Int) ∧ (x.toNat : Int) ≤ 57 ∨ (x.toNat : Int) = -1) := by unfold IsLet at hx; omega
  intro w Sc A cap h hA
  have h0 : at_ [37, x] 0 = 37 := by simp [at_]
  have h1 : at_ [37, x] 1 = (x.toNat : Int) := by simp [at_]
  have h2 : at_ [37, x] 2 = -1 := by simp [at_]
  refine parse_basic (f := 2) h hA (Nat.zero_le _) (by simp) (by rw [h0]; rfl) ?_
  rw [patTo]
  rw [show 0 + 1 = 1 from rfl, h0, h1]
  simp only [n1, hb, n3, if_false, if_true]
  rw [patTo]
  simp [h2]

theorem setGo_cls {x : UInt8} (pre : List UInt8) (f : Nat) : setGo (pre ++ [37, x, 93]) (f + 2) pre.length [] false = some ([.atom (.single (x.toNat : Int))], pre.length + 3) := by
  have h0 : at_ (pre ++ [37, x, 93]) pre.length = 37 := by have := at_append pre [37, x, 93] 0; rw [Nat.add_zero] at this; rw [this]; simp [at_]
  have h1 : at_ (pre ++ [37, x, 93]) (pre.length + 1) = (x.toNat : Int) := by rw [at_append]; simp [at_]
  have h2 : at_ (pre ++ [37, x, 93]) (pre.length + 2) = 93 := by rw [at_append]; simp [at_]
  have e0 : atomAt (pre ++ [37, x, 93]) pre.length = some (.single (x.toNat : Int), pre.length + 2) := by
    unfold atomAt
    rw [h0, if_pos rfl, if_pos (by simp), h1]
  rw [setGo]
  rw [h0, if_neg (by decide), if_neg (by decide), e0]
  simp only [Bool.false_eq_true, if_false, List.nil_append]
  rw [setGo]
  rw [h2, if_pos rfl, if_pos (by simp)]

theorem parses_cls_set {x : UInt8} : Parses [91, 37, x, 93] false [.part (.one (.set false [.atom (.single (x.toNat : Int))]))] := by
  have hset : setAt [91, 37, x, 93] 1 = some (false, [.atom (.single (x.toNat : Int))], 4) := by
    have h1 : at_ [91, 37, x, 93] 1 = 37 := by simp [at_]
    unfold setAt
    rw [h1, if_neg (by decide)]
    have := setGo_cls (x := x) [91] 98
    have e : setGo [91, 37, x, 93] 100 1 [] false = some ([.atom (.single (x.toNat : Int))], 4) := this
    rw [e]
    rfl
  intro w Sc A cap h hA
  have h0 : at_ [91, 37, x, 93] 0 = 91 := by simp [at_]
  have h5 : at_ [91, 37, x, 93] 4 = -1 := by simp [at_]
  refine parse_basic (f := 2) h hA (Nat.zero_le _) (by simp) (by rw [h0]; rfl) ?_
  rw [patTo]
  simp only [h0, show ¬ (91 : Int) = 37 from by decide, show ¬ (91 : Int) = 46 from by decide, if_false, if_true]
  rw [show 0 + 1 = 1 from rfl, hset]
  simp only
  rw [patTo]
  simp [h5]

theorem parses_cls_not {x : UInt8} : Parses [91, 94, 37, x, 93] false [.part (.one (.set true [.atom (.single (x.toNat : Int))]))] := by
  have hset : setAt [91, 94, 37, x, 93] 1 = some (true, [.atom (.single (x.toNat : Int))], 5) := by
    have h1 : at_ [91, 94, 37, x, 93] 1 = 94 := by simp [at_]
    unfold setAt
    rw [h1, if_pos rfl]
    have := setGo_cls (x := x) [91, 94] 98
    have e : setGo [91, 94, 37, x, 93] 100 (1 + 1) [] false = some ([.atom (.single (x.toNat : Int))], 5) := this
    rw [e]
    rfl
  intro w Sc A cap h hA
  have h0 : at_ [91, 94, 37, x, 93] 0 = 91 := by simp [at_]
  have h5 : at_ [91, 94, 37, x, 93] 5 = -1 := by simp [at_]
  refine parse_basic (f := 2) h hA (Nat.zero_le _) (by simp) (by rw [h0]; rfl) ?_
  rw [patTo]
  simp only [h0, show ¬ (91 : Int) = 37 from by decide, show ¬ (91 : Int) = 46 from by decide, if_false, if_true]
  rw [show 0 + 1 = 1 from rfl, hset]
  simp only
  rw [patTo]
  simp [h5]

end Go.Proofs.YtkbdngcbifonkaaFmt
