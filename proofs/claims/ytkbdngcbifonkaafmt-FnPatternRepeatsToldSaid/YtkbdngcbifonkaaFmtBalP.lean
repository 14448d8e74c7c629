/-
  THE BALANCE, IN PLAIN LEAN: what the machine finds with the code of '%bxy' is the first place at which something is balanced.
-/
import Derived.Test.YtkbdngcbifonkaaFmtPm
namespace Go.Proofs.YtkbdngcbifonkaaFmt.Pm
set_option linter.all false

/-- The place behind what is balanced from a place on. -/
def balAt (o s : Int) (src : List UInt8) (sp : Nat) : Option Nat :=
  match src[sp]? with
  | none => none
  | some c => if (c.toNat : Int) = o then (bal o s (src.drop (sp + 1)) 1).map (sp + 1 + ·) else none

def firstBal (o s : Int) (src : List UInt8) : Nat → Nat → Option (Nat × Nat)
  | 0, _ => none
  | d + 1, sp => match balAt o s src sp with
    | some e => some (sp, e)
    | none => firstBal o s src d (sp + 1)

theorem vm_bal (o s : Int) (src : List UInt8) (f sp : Nat) : ∃ r, vm (code [.part (.brace o s)]) src (f + 4) 0 sp [] = some r ∧ match balAt o s src sp with | some e => r = (true, e, [2 * sp, 2 * e]) | none => r.1 = false := by
  simp only [code, patsCode, Pat.code, Part.code, List.append_nil, List.cons_append, List.nil_append, balAt]
  cases h : src[sp]? with
  | none => simp [vm, h, pad]
  | some c =>
    by_cases hc : (c.toNat : Int) = o
    · cases hb : bal o s (src.drop (sp + 1)) 1 with
      | none => simp [vm, h, pad, hc, hb]
      | some n => simp [vm, h, pad, hc, hb]
    · simp [vm, h, pad, hc]

theorem find_bal (o s : Int) (src : List UInt8) (f : Nat) : ∀ d sp, find (code [.part (.brace o s)]) src false (f + 4) d sp = some ((firstBal o s src d sp).map fun p => [2 * p.1, 2 * p.2])
  | 0, _ => rfl
  | d + 1, sp => by
    obtain ⟨⟨b, n, cs⟩, hr, hm⟩ := vm_bal o s src f sp
    rw [find, hr, firstBal]
    cases hb : balAt o s src sp with
    | none =>
      rw [hb] at hm
      subst hm
      exact find_bal o s src f d (sp + 1)
    | some e =>
      rw [hb] at hm
      cases hm
      rfl

end Go.Proofs.YtkbdngcbifonkaaFmt.Pm
