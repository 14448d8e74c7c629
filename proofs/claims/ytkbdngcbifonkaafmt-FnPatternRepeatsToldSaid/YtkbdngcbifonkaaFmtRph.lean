/-
  FnPatternRepeats: how its patterns are read, and what first9 gives.
-/
import Derived.Test.YtkbdngcbifonkaaFmtParB
import Derived.Test.YtkbdngcbifonkaaFmtRun
import Derived.Test.YtkbdngcbifonkaaFmtClp
import Derived.Test.YtkbdngcbifonkaaFmtOne
namespace Go.Proofs.YtkbdngcbifonkaaFmt
set_option linter.all false
open Go.RowKit

/-- What stands behind the class. -/
def rptSign : Nat → List UInt8
  | 0 => []
  | 1 => [42]
  | 2 => [43]
  | 3 => [63]
  | _ => [45]

theorem parses_rpt {x : UInt8} (hx : IsLet x.toNat) (hc : IsCls (low x.toNat)) (i : Nat) (hi : i < 5) : Parses ([94, 37, x] ++ rptSign i) true [.part (rpt (.atom (.single (x.toNat : Int))) i)] := by
  have hb : ¬ (x.toNat : Int) = 98 := by
    intro e
    have e2 : x.toNat = 98 := by omega
    rw [e2] at hc
    revert hc
    decide
  have n1 : ¬ (x.toNat : Int) = 49 := by unfold IsLet at hx; omega
  have n3 : ¬ (48 ≤ (x.toNat : Int) ∧ (x.toNat : Int) ≤ 57 ∨ (x.toNat : Int) = -1) := by unfold IsLet at hx; omega
  have n4 : ¬ x = 40 := by
    intro e
    subst e
    unfold IsLet at hx
    revert hx
    decide
  intro w Sc A cap h hA
  have hno : ∀ j, ¬ at_ ([94, 37, x] ++ rptSign i) j = 40 := by
    intro j e
    have hj := at_lt (l := [94, 37, x] ++ rptSign i) (k := j) (by rw [e]; decide)
    have hm : ([94, 37, x] ++ rptSign i)[j].toNat = 40 := by simp only [at_, dif_pos hj] at e; omega
    have hm2 : ([94, 37, x] ++ rptSign i)[j] = 40 := UInt8.toNat_inj.1 hm
    have hmem : (40 : UInt8) ∈ ([94, 37, x] ++ rptSign i) := hm2 ▸ List.getElem_mem hj
    match i, hi with
    | 0, _ => simp [rptSign] at hmem; exact n4 hmem.symm
    | 1, _ => simp [rptSign] at hmem; exact n4 hmem.symm
    | 2, _ => simp [rptSign] at hmem; exact n4 hmem.symm
    | 3, _ => simp [rptSign] at hmem; exact n4 hmem.symm
    | 4, _ => simp [rptSign] at hmem; exact n4 hmem.symm
  match i, hi with
  | 0, _ =>
    have h0 : at_ [94, 37, x] 0 = 94 := by simp [at_]
    have h1 : at_ [94, 37, x] 1 = 37 := by simp [at_]
    have h2 : at_ [94, 37, x] 2 = (x.toNat : Int) := by simp [at_]
    have h3 : at_ [94, 37, x] 3 = -1 := by simp [at_]
    refine parse_head (f := 2) h hA (by simp [rptSign]) (by simp [rptSign, h0]) hno ?_
    show patTo [94, 37, x] true 2 1 [] = _
    rw [patTo]
    rw [show 1 + 1 = 2 from rfl, h1, h2]
    simp only [n1, hb, n3, if_false, if_true]
    rw [patTo]
    simp [h3, rpt]
  | 1, _ =>
    have h0 : at_ [94, 37, x, 42] 0 = 94 := by simp [at_]
    have h1 : at_ [94, 37, x, 42] 1 = 37 := by simp [at_]
    have h2 : at_ [94, 37, x, 42] 2 = (x.toNat : Int) := by simp [at_]
    have h3 : at_ [94, 37, x, 42] 3 = 42 := by simp [at_]
    have h4 : at_ [94, 37, x, 42] 4 = -1 := by simp [at_]
    refine parse_head (f := 3) h hA (by simp [rptSign]) (by simp [rptSign, h0]) hno ?_
    show patTo [94, 37, x, 42] true 3 1 [] = _
    rw [patTo]
    rw [show 1 + 1 = 2 from rfl, h1, h2]
    simp only [n1, hb, n3, if_false, if_true]
    rw [patTo]
    simp only [show 1 + 2 = 3 from rfl, h3]
    simp [lastOne]
    rw [patTo]
    simp [h4, rpt]
  | 2, _ =>
    have h0 : at_ [94, 37, x, 43] 0 = 94 := by simp [at_]
    have h1 : at_ [94, 37, x, 43] 1 = 37 := by simp [at_]
    have h2 : at_ [94, 37, x, 43] 2 = (x.toNat : Int) := by simp [at_]
    have h3 : at_ [94, 37, x, 43] 3 = 43 := by simp [at_]
    have h4 : at_ [94, 37, x, 43] 4 = -1 := by simp [at_]
    refine parse_head (f := 3) h hA (by simp [rptSign]) (by simp [rptSign, h0]) hno ?_
    show patTo [94, 37, x, 43] true 3 1 [] = _
    rw [patTo]
    rw [show 1 + 1 = 2 from rfl, h1, h2]
    simp only [n1, hb, n3, if_false, if_true]
    rw [patTo]
    simp only [show 1 + 2 = 3 from rfl, h3]
    simp [lastOne]
    rw [patTo]
    simp [h4, rpt]
  | 3, _ =>
    have h0 : at_ [94, 37, x, 63] 0 = 94 := by simp [at_]
    have h1 : at_ [94, 37, x, 63] 1 = 37 := by simp [at_]
    have h2 : at_ [94, 37, x, 63] 2 = (x.toNat : Int) := by simp [at_]
    have h3 : at_ [94, 37, x, 63] 3 = 63 := by simp [at_]
    have h4 : at_ [94, 37, x, 63] 4 = -1 := by simp [at_]
    refine parse_head (f := 3) h hA (by simp [rptSign]) (by simp [rptSign, h0]) hno ?_
    show patTo [94, 37, x, 63] true 3 1 [] = _
    rw [patTo]
    rw [show 1 + 1 = 2 from rfl, h1, h2]
    simp only [n1, hb, n3, if_false, if_true]
    rw [patTo]
    simp only [show 1 + 2 = 3 from rfl, h3]
    simp [lastOne]
    rw [patTo]
    simp [h4, rpt]
  | 4, _ =>
    have h0 : at_ [94, 37, x, 45] 0 = 94 := by simp [at_]
    have h1 : at_ [94, 37, x, 45] 1 = 37 := by simp [at_]
    have h2 : at_ [94, 37, x, 45] 2 = (x.toNat : Int) := by simp [at_]
    have h3 : at_ [94, 37, x, 45] 3 = 45 := by simp [at_]
    have h4 : at_ [94, 37, x, 45] 4 = -1 := by simp [at_]
    refine parse_head (f := 3) h hA (by simp [rptSign]) (by simp [rptSign, h0]) hno ?_
    show patTo [94, 37, x, 45] true 3 1 [] = _
    rw [patTo]
    rw [show 1 + 1 = 2 from rfl, h1, h2]
    simp only [n1, hb, n3, if_false, if_true]
    rw [patTo]
    simp only [show 1 + 2 = 3 from rfl, h3]
    simp [lastOne]
    rw [patTo]
    simp [h4, rpt]

theorem pats_rpt (a : Pm.Atom) (i : Nat) (hi : i < 5) : PatsOk [.part (rpt (.atom a) i)] where
  len := by
    match i, hi with
    | 0, _ => simp [Pm.code, Pm.patsCode, Pm.Pat.code, Pm.Part.code, rpt]
    | 1, _ => simp [Pm.code, Pm.patsCode, Pm.Pat.code, Pm.Part.code, rpt]
    | 2, _ => simp [Pm.code, Pm.patsCode, Pm.Pat.code, Pm.Part.code, rpt]
    | 3, _ => simp [Pm.code, Pm.patsCode, Pm.Pat.code, Pm.Part.code, rpt]
    | 4, _ => simp [Pm.code, Pm.patsCode, Pm.Pat.code, Pm.Part.code, rpt]
  caps := by simp [kn, Pm.Pat.next]
  n := by simp
  n2 := by simp
  ok := by
    match i, hi with
    | 0, _ => simp [PatOk, PartOk, rpt]
    | 1, _ => simp [PatOk, PartOk, rpt]
    | 2, _ => simp [PatOk, PartOk, rpt]
    | 3, _ => simp [PatOk, PartOk, rpt]
    | 4, _ => simp [PatOk, PartOk, rpt]
  ins := by
    intro k hk
    match i, hi with
    | 0, _ =>
      simp [Pm.code, Pm.patsCode, Pm.Pat.code, Pm.Part.code, rpt] at hk
      match k, hk with
      | 0, _ => exact Nat.zero_le _
      | 1, _ => exact fun _ _ h => by cases h
      | 2, _ => exact (by decide : 1 ≤ 100)
      | 3, _ => trivial
    | 1, _ =>
      simp [Pm.code, Pm.patsCode, Pm.Pat.code, Pm.Part.code, rpt] at hk
      match k, hk with
      | 0, _ => exact Nat.zero_le _
      | 1, _ => trivial
      | 2, _ => exact fun _ _ h => by cases h
      | 3, _ => trivial
      | 4, _ => exact (by decide : 1 ≤ 100)
      | 5, _ => trivial
    | 2, _ =>
      simp [Pm.code, Pm.patsCode, Pm.Pat.code, Pm.Part.code, rpt] at hk
      match k, hk with
      | 0, _ => exact Nat.zero_le _
      | 1, _ => exact fun _ _ h => by cases h
      | 2, _ => trivial
      | 3, _ => exact (by decide : 1 ≤ 100)
      | 4, _ => trivial
    | 3, _ =>
      simp [Pm.code, Pm.patsCode, Pm.Pat.code, Pm.Part.code, rpt] at hk
      match k, hk with
      | 0, _ => exact Nat.zero_le _
      | 1, _ => trivial
      | 2, _ => exact fun _ _ h => by cases h
      | 3, _ => exact (by decide : 1 ≤ 100)
      | 4, _ => trivial
    | 4, _ =>
      simp [Pm.code, Pm.patsCode, Pm.Pat.code, Pm.Part.code, rpt] at hk
      match k, hk with
      | 0, _ => exact Nat.zero_le _
      | 1, _ => trivial
      | 2, _ => exact fun _ _ h => by cases h
      | 3, _ => trivial
      | 4, _ => exact (by decide : 1 ≤ 100)
      | 5, _ => trivial

/-- What first9 gives at a repetition. -/
def RptPost (w : World) (r : Bool) (d : Nat) (e : Ending) (w' : World) : Prop :=
  Ch (fun _ => False) w w' ∧ ∃ (p q : Int) (A A' : Option Addr) (c c' : Nat), e = .returned (.tuple #[.agg #[.int .i64 p, .int .i64 q, .slice A 0 c, .slice A' 0 c'], .bool true, .bool r]) ∧ (r = true → p = 0 ∧ q = (d : Int))

theorem rptDue_le (n i : Nat) : rptDue n i ≤ n := by
  unfold rptDue
  split <;> omega

theorem first_rpt {w : World} {s t : ByteArray} {x : UInt8} (hx : IsLet x.toNat) (hc : IsCls (low x.toNat)) {i : Nat} (hi : i < 5) (hs : s.data.toList = [94, 37, x] ++ rptSign i) {src : List UInt8} (ht : t.data.toList = src) (hsrc : src.length ≤ 1000) {n : Nat} (hn : Pm.run (.atom (.single (x.toNat : Int))) src = n) :
    Calls Tryf.prog 11 #[.string s, .string t, .int .i64 0] w (RptPost w (rptIs n i) (rptDue n i)) := by
  have hf := find_rpt (.atom (.single (x.toNat : Int))) src i hi
  rw [hn] at hf
  have hl := run_le (.atom (.single (x.toNat : Int))) src
  have hd := rptDue_le n i
  have hlen : ([94, 37, x] ++ rptSign i).length ≤ 1000 := by
    match i, hi with
    | 0, _ => simp [rptSign]
    | 1, _ => simp [rptSign]
    | 2, _ => simp [rptSign]
    | 3, _ => simp [rptSign]
    | 4, _ => simp [rptSign]
  cases h : rptIs n i with
  | true =>
    rw [h] at hf
    refine (first_some (s := s) (t := t) (l := [94, 37, x] ++ rptSign i) (src := src) (sp0 := 0) (f := 10 + 3 * src.length) (a := 0) (b := rptDue n i) hs hlen ht (Lib.hid (parses_rpt hx hc i hi)) (Lib.hid (pats_rpt _ i hi)) (by omega) (Nat.zero_le _) (by omega) (by omega) (by omega) (Lib.hid hf)).mono ?_
    rintro e w' ⟨hch, a, b, rfl⟩
    exact ⟨hch, _, _, _, _, _, _, rfl, fun _ => ⟨rfl, rfl⟩⟩
  | false =>
    rw [h] at hf
    refine (first_none (s := s) (t := t) (l := [94, 37, x] ++ rptSign i) (src := src) (sp0 := 0) (f := 10 + 3 * src.length) hs hlen ht (Lib.hid (parses_rpt hx hc i hi)) (Lib.hid (pats_rpt _ i hi)) (by omega) (Nat.zero_le _) (by omega) (Lib.hid hf)).mono ?_
    rintro e w' ⟨hch, rfl⟩
    exact ⟨hch, _, _, _, _, _, _, rfl, fun h => by cases h⟩
end Go.Proofs.YtkbdngcbifonkaaFmt
