/-
  compilePattern: the ground of its statements that append to the code.
-/
import Derived.Test.YtkbdngcbifonkaaFmtIns
import Derived.Test.YtkbdngcbifonkaaFmtCap
import Derived.Deep.RegionHeld3
namespace Go.Proofs.YtkbdngcbifonkaaFmt
set_option linter.all false
open Go.RowKit

/-- The region of a number in a code. -/
noncomputable def rgc (id : Nat) : Code → Option Code
  | .region i ops d => if i = id then some (.region i ops d) else none
  | .seq a b => (rgc id a).orElse fun _ => rgc id b
  | .cond _ a b => (rgc id a).orElse fun _ => rgc id b
  | .block _ b => rgc id b
  | .loop b => rgc id b
  | .scope b => rgc id b
  | _ => none
noncomputable def reg38 (id : Nat) : Code := (rgc id (Tryf.f38.body.getD .skip)).getD .skip
theorem Tryf.info155 : (Tryf.prog.info? 155).map (fun i => (i.zero, i.size, i.bytes)) = some (some (.agg #[.int .i64 0, .nilIface, .int .i64 0, .int .i64 0]), 4, 40) := by kernel_rfl
theorem ins_one (x : Value) (hx : ∃ u y, x = .iface u y) (i : Pm.Ins) : ∀ y ∈ insCells x i, y.oneCell' = true := by
  obtain ⟨u, z, rfl⟩ := hx
  intro y hy
  cases i <;> simp [insCells] at hy <;> (rcases hy with rfl | rfl | rfl | rfl <;> rfl)
theorem one_nil (a b c : Int) : ∀ y ∈ [Value.int .i64 a, Value.nilIface, Value.int .i64 b, Value.int .i64 c], y.oneCell' = true := by
  intro y hy
  simp at hy
  rcases hy with rfl | rfl | rfl | rfl <;> rfl
theorem one_cls (a b c : Int) (u : TypeId) (x : Value) : ∀ y ∈ [Value.int .i64 a, Value.iface u x, Value.int .i64 b, Value.int .i64 c], y.oneCell' = true := by
  intro y hy
  simp at hy
  rcases hy with rfl | rfl | rfl | rfl <;> rfl
theorem one_app {a b : List Value} (ha : ∀ y ∈ a, y.oneCell' = true) (hb : ∀ y ∈ b, y.oneCell' = true) : ∀ y ∈ a ++ b, y.oneCell' = true := by
  intro y hy
  rcases List.mem_append.1 hy with h | h
  · exact ha y h
  · exact hb y h

end Go.Proofs.YtkbdngcbifonkaaFmt
