/-
  WORLDS: what a call leaves as it was. 'Ch T w w'': of the blocks that were there in w only those of T may have turned; new ones may have come.
-/
import Derived.WalkKit
import Derived.Lib.Hide
import Derived.Deep.Draws
namespace Go.Proofs.YtbgjjbffpckimaaDoor
set_option linter.all false
open Go.RowKit

structure Ch (T : Nat → Prop) (w w' : World) : Prop where
  os : w'.os = w.os
  tape : w'.tape = w.tape
  output : w'.output = w.output
  size : w.heap.size ≤ w'.heap.size
  block : ∀ k, k < w.heap.size → ¬ T k → w'.heap[k]? = w.heap[k]?

namespace Ch
variable {T T' : Nat → Prop} {a b c w w' : World}

theorem refl (T : Nat → Prop) (w : World) : Ch T w w := ⟨rfl, rfl, rfl, Nat.le_refl _, fun _ _ _ => rfl⟩
theorem trans (h : Ch T a b) (k : Ch T b c) : Ch T a c :=
  ⟨k.os.trans h.os, k.tape.trans h.tape, k.output.trans h.output, Nat.le_trans h.size k.size, fun i hi hn => (k.block i (Nat.lt_of_lt_of_le hi h.size) hn).trans (h.block i hi hn)⟩
/-- What a later step touches may lie in new blocks. -/
theorem trans' (h : Ch T a b) (k : Ch T' b c) (hT : ∀ i, i < a.heap.size → T' i → T i) : Ch T a c :=
  ⟨k.os.trans h.os, k.tape.trans h.tape, k.output.trans h.output, Nat.le_trans h.size k.size, fun i hi hn => (k.block i (Nat.lt_of_lt_of_le hi h.size) (fun h' => hn (hT i hi h'))).trans (h.block i hi hn)⟩
theorem mono (h : Ch T a b) (hT : ∀ i, i < a.heap.size → T i → T' i) : Ch T' a b :=
  ⟨h.os, h.tape, h.output, h.size, fun i hi hn => h.block i hi (fun h' => hn (hT i hi h'))⟩
theorem drew (h : Ch T a b) : Ch T a b.drew := ⟨h.os, h.tape, h.output, h.size, h.block⟩
theorem drewN (h : Ch T a b) (n : Nat) : Ch T a (b.drewN n) := ⟨h.os, h.tape, h.output, h.size, h.block⟩
theorem alloc (h : Ch T a b) (o : Obj) : Ch T a (b.alloc o) :=
  ⟨h.os, h.tape, h.output, Nat.le_trans h.size (by simp), fun i hi hn => (Below.heap_alloc _ _ _ (Nat.lt_of_lt_of_le hi h.size)).trans (h.block i hi hn)⟩
theorem setCell (h : Ch T a b) {p : Addr} (hp : p.block < a.heap.size → T p.block) (u : Value) : Ch T a (b.setCell p u) :=
  ⟨h.os, h.tape, h.output, Nat.le_trans h.size (by simp [World.setCell]), fun i hi hn => (Below.heap_setCell _ _ _ _ (fun e => hn (by subst e; exact hp hi))).trans (h.block i hi hn)⟩
theorem grown {row : Option Nat} (h : Ch T a b) (hg : b.grownBy c row) (hr : ∀ k, row = some k → k < a.heap.size → T k) : Ch T a c :=
  h.trans' (T' := fun k => some k = row) ⟨hg.os, hg.tape, hg.output, hg.size, fun k hk hn => hg.block k hk hn⟩ (fun i hi e => hr i e.symm hi)
theorem cell (h : Ch T a b) {p : Addr} (hp : p.block < a.heap.size) (hn : ¬ T p.block) : b.cell? p = a.cell? p := World.cell?_of_block (w := a) (h.block p.block hp hn)
theorem frozen (h : Ch T a b) {p : Addr} (hp : p.block < a.heap.size) (hn : ¬ T p.block) : b.frozen? p = a.frozen? p := World.frozen?_of_block (w := a) (h.block p.block hp hn)
theorem cell_some (h : Ch T a b) {p : Addr} {v : Value} (hv : a.cell? p = some v) (hn : ¬ T p.block) : b.cell? p = some v := (h.cell (World.block_lt_of_cell? a p hv) hn).trans hv
theorem below (h : Ch T a b) {B : Nat} (hB : B ≤ a.heap.size) (hT : ∀ k, k < B → ¬ T k) : Below B a b :=
  ⟨h.os, h.tape, h.output, h.size, fun k hk => h.block k (Nat.lt_of_lt_of_le hk hB) (hT k hk)⟩
theorem of_below {B : Nat} (h : Below B a b) (hT : ∀ k, B ≤ k → k < a.heap.size → T k) : Ch T a b :=
  ⟨h.os, h.tape, h.output, h.size, fun k hk hn => by
    by_cases hlt : k < B
    · exact h.block k hlt
    · exact absurd (hT k (by omega) hk) hn⟩
/-- An owned row stays owned where its block is not touched. -/
theorem owns {base : Nat} {e : TypeId} {size : Nat} {v : Value} {n : Nat} {xs : List Value} (h : Ch T a b) (ho : a.ownsRow base e size v n xs) (hn : ∀ k, v.ownBlock = some k → ¬ T k) : b.ownsRow base e size v n xs := by
  refine ⟨ho.1, ?_⟩
  rcases ho.2 with h0 | ⟨g, cap, cur, rfl, hb, hgg, rest⟩
  · exact .inl h0
  · refine .inr ⟨g, cap, cur, rfl, hb, ?_, rest⟩
    rw [h.block g (Array.getElem?_eq_some_iff.1 hgg).1 (hn g rfl)]
    exact hgg
end Ch

end Go.Proofs.YtbgjjbffpckimaaDoor
