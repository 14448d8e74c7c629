/-
  A CLASS WITH A REPETITION, AT THE BEGINNING OF A SUBJECT: what the machine gives, in plain Lean.
-/
import Derived.Test.YtkbdngcbifonkaaFmtPm
namespace Go.Proofs.YtkbdngcbifonkaaFmt
set_option linter.all false

/-- How many bytes at the beginning are in a class. -/
def Pm.run (c : Pm.Cls) : List UInt8 → Nat
  | [] => 0
  | b :: r => if c.mat (b.toNat : Int) then Pm.run c r + 1 else 0

theorem drop_nil {src : List UInt8} {sp : Nat} (h : src.drop sp = []) : src[sp]? = none := by
  rw [List.drop_eq_nil_iff] at h
  exact List.getElem?_eq_none h

theorem drop_cons {src r : List UInt8} {b : UInt8} {sp : Nat} (h : src.drop sp = b :: r) : src[sp]? = some b ∧ src.drop (sp + 1) = r := by
  constructor
  · have : (src.drop sp)[0]? = some b := by rw [h]; rfl
    rw [List.getElem?_drop] at this
    simpa using this
  · rw [← List.drop_drop, h]
    rfl

theorem vm_star (c : Pm.Cls) (src : List UInt8) (f : Nat) : ∀ (r : List UInt8) (sp : Nat), src.drop sp = r →
    Pm.vm [.save 0, .split 2 4, .chr c, .jmp 1, .save 1, .done] src (f + 3 + 3 * r.length) 1 sp [0] = some (true, sp + Pm.run c r, [0, 2 * (sp + Pm.run c r)])
  | [], sp, h => by
    have h0 := drop_nil h
    simp [Pm.vm, h0, Pm.pad, Pm.run]
  | b :: r, sp, h => by
    obtain ⟨h0, h1⟩ := drop_cons h
    have ih := vm_star c src f r (sp + 1) h1
    rw [show f + 3 + 3 * (b :: r).length = (f + 3 + 3 * r.length) + 1 + 1 + 1 from by simp only [List.length_cons]; omega]
    cases hm : c.mat (b.toNat : Int) with
    | true =>
      simp [Pm.vm, h0, hm, ih, Pm.run]
      omega
    | false =>
      rw [show f + 3 + 3 * r.length = (f + 1 + 3 * r.length) + 1 + 1 from by omega]
      simp [Pm.vm, h0, hm, Pm.pad, Pm.run]

theorem vm_plus (c : Pm.Cls) (src : List UInt8) (f : Nat) : ∀ (r : List UInt8) (sp : Nat), src.drop sp = r →
    Pm.vm [.save 0, .chr c, .split 1 3, .save 1, .done] src (f + 4 + 2 * r.length) 1 sp [0] = if Pm.run c r = 0 then some (false, sp, [0]) else some (true, sp + Pm.run c r, [0, 2 * (sp + Pm.run c r)])
  | [], sp, h => by
    have h0 := drop_nil h
    simp [Pm.vm, h0, Pm.pad, Pm.run]
  | b :: r, sp, h => by
    obtain ⟨h0, h1⟩ := drop_cons h
    have ih := vm_plus c src f r (sp + 1) h1
    rw [show f + 4 + 2 * (b :: r).length = (f + 4 + 2 * r.length) + 1 + 1 from by simp only [List.length_cons]; omega]
    cases hm : c.mat (b.toNat : Int) with
    | true =>
      have hr : Pm.run c (b :: r) = Pm.run c r + 1 := by simp [Pm.run, hm]
      rw [hr, if_neg (by omega)]
      by_cases h2 : Pm.run c r = 0
      · rw [if_pos h2] at ih
        rw [Pm.vm]
        simp only [List.getElem?_cons_succ, List.getElem?_cons_zero, h0, hm, if_true]
        rw [Pm.vm]
        simp only [List.getElem?_cons_succ, List.getElem?_cons_zero, ih]
        rw [show f + 4 + 2 * r.length = (f + 2 + 2 * r.length) + 1 + 1 from by omega]
        simp [Pm.vm, Pm.pad, h2]
      · rw [if_neg h2] at ih
        rw [Pm.vm]
        simp only [List.getElem?_cons_succ, List.getElem?_cons_zero, h0, hm, if_true]
        rw [Pm.vm]
        simp only [List.getElem?_cons_succ, List.getElem?_cons_zero, ih]
        rw [show sp + 1 + Pm.run c r = sp + (Pm.run c r + 1) from by omega]
    | false =>
      have hr : Pm.run c (b :: r) = 0 := by simp [Pm.run, hm]
      rw [hr, if_pos rfl, Pm.vm]
      simp [h0, hm]

/-- The parts behind the ^ of the patterns. -/
def rpt (c : Pm.Cls) : Nat → Pm.Part
  | 0 => .one c
  | 1 => .rep 42 c
  | 2 => .rep 43 c
  | 3 => .rep 63 c
  | _ => .rep 45 c

def rptDue (count : Nat) : Nat → Nat
  | 0 => min count 1
  | 1 => count
  | 2 => count
  | 3 => min count 1
  | _ => 0

def rptIs (count : Nat) (i : Nat) : Bool := decide (0 < count) || decide (i = 1) || decide (i = 3) || decide (i = 4)

theorem find_head (code : List Pm.Ins) (src : List UInt8) (f n : Nat) (r : Bool) (c : List Nat) (d : Nat) (h : Pm.vm code src f 0 0 [] = some (r, n, c)) : Pm.find code src true f (d + 1) 0 = some (if r then some c else none) := by
  rw [Pm.find, h]
  cases r <;> rfl

theorem find_rpt (c : Pm.Cls) (src : List UInt8) (i : Nat) (hi : i < 5) : Pm.find (Pm.code [.part (rpt c i)]) src true (10 + 3 * src.length) (src.length + 1) 0 =
    some (if rptIs (Pm.run c src) i then some [2 * 0, 2 * rptDue (Pm.run c src) i] else none) := by
  have hd : src.drop 0 = src := rfl
  match i, hi with
  | 0, _ =>
    cases src with
    | nil =>
      refine find_head _ _ _ 0 false [0] _ ?_ |>.trans ?_
      · simp [Pm.code, Pm.patsCode, Pm.Pat.code, Pm.Part.code, rpt, Pm.vm, Pm.pad]
      · simp [rptIs, Pm.run]
    | cons b r =>
      rw [show 10 + 3 * (b :: r).length = (6 + 3 * (b :: r).length) + 1 + 1 + 1 + 1 from by omega]
      cases hm : c.mat (b.toNat : Int) with
      | true =>
        refine find_head _ _ _ 1 true [0, 2] _ ?_ |>.trans ?_
        · simp [Pm.code, Pm.patsCode, Pm.Pat.code, Pm.Part.code, rpt, Pm.vm, Pm.pad, hm]
        · simp [rptIs, Pm.run, hm, rptDue]
      | false =>
        refine find_head _ _ _ 0 false [0] _ ?_ |>.trans ?_
        · simp [Pm.code, Pm.patsCode, Pm.Pat.code, Pm.Part.code, rpt, Pm.vm, Pm.pad, hm]
        · simp [rptIs, Pm.run, hm]
  | 1, _ =>
    have hv := vm_star c src 6 src 0 hd
    rw [show 10 + 3 * src.length = (6 + 3 + 3 * src.length) + 1 from by omega]
    refine find_head _ _ _ (0 + Pm.run c src) true [0, 2 * (0 + Pm.run c src)] _ ?_ |>.trans ?_
    · rw [show Pm.code [.part (rpt c 1)] = [.save 0, .split 2 4, .chr c, .jmp 1, .save 1, .done] from by simp [Pm.code, Pm.patsCode, Pm.Pat.code, Pm.Part.code, rpt]]
      rw [Pm.vm]
      simp only [List.getElem?_cons_zero]
      rw [show (Pm.pad [] 0).set 0 (2 * 0) = [0] from rfl, show 0 + 1 = 1 from rfl, hv]
    · simp [rptIs, rptDue]
  | 2, _ =>
    have hv := vm_plus c src (5 + src.length) src 0 hd
    rw [show 10 + 3 * src.length = (5 + src.length + 4 + 2 * src.length) + 1 from by omega]
    have hc : Pm.code [.part (rpt c 2)] = [.save 0, .chr c, .split 1 3, .save 1, .done] := by simp [Pm.code, Pm.patsCode, Pm.Pat.code, Pm.Part.code, rpt]
    by_cases h0 : Pm.run c src = 0
    · rw [if_pos h0] at hv
      refine find_head _ _ _ 0 false [0] _ ?_ |>.trans ?_
      · rw [hc, Pm.vm]
        simp only [List.getElem?_cons_zero]
        rw [show (Pm.pad [] 0).set 0 (2 * 0) = [0] from rfl, show 0 + 1 = 1 from rfl, hv]
        rfl
      · simp [rptIs, h0]
    · rw [if_neg h0] at hv
      refine find_head _ _ _ (0 + Pm.run c src) true [0, 2 * (0 + Pm.run c src)] _ ?_ |>.trans ?_
      · rw [hc, Pm.vm]
        simp only [List.getElem?_cons_zero]
        rw [show (Pm.pad [] 0).set 0 (2 * 0) = [0] from rfl, show 0 + 1 = 1 from rfl, hv]
      · simp [rptIs, rptDue, show 0 < Pm.run c src from by omega]
  | 3, _ =>
    have hc : Pm.code [.part (rpt c 3)] = [.save 0, .split 2 3, .chr c, .save 1, .done] := by simp [Pm.code, Pm.patsCode, Pm.Pat.code, Pm.Part.code, rpt]
    rw [show 10 + 3 * src.length = (5 + 3 * src.length) + 1 + 1 + 1 + 1 + 1 from by omega]
    cases src with
    | nil =>
      refine find_head _ _ _ 0 true [0, 0] _ ?_ |>.trans ?_
      · rw [hc]
        simp [Pm.vm, Pm.pad]
      · simp [rptIs, rptDue, Pm.run]
    | cons b r =>
      cases hm : c.mat (b.toNat : Int) with
      | true =>
        refine find_head _ _ _ 1 true [0, 2] _ ?_ |>.trans ?_
        · rw [hc]; simp [Pm.vm, Pm.pad, hm]
        · simp [rptIs, Pm.run, hm, rptDue]
      | false =>
        refine find_head _ _ _ 0 true [0, 0] _ ?_ |>.trans ?_
        · rw [hc]; simp [Pm.vm, Pm.pad, hm]
        · simp [rptIs, Pm.run, hm, rptDue]
  | 4, _ =>
    have hc : Pm.code [.part (rpt c 4)] = [.save 0, .split 4 2, .chr c, .jmp 1, .save 1, .done] := by simp [Pm.code, Pm.patsCode, Pm.Pat.code, Pm.Part.code, rpt]
    rw [show 10 + 3 * src.length = (5 + 3 * src.length) + 1 + 1 + 1 + 1 + 1 from by omega]
    refine find_head _ _ _ 0 true [0, 0] _ ?_ |>.trans ?_
    · rw [hc]; simp [Pm.vm, Pm.pad]
    · simp [rptIs, rptDue]

end Go.Proofs.YtkbdngcbifonkaaFmt
