/-
  THE CODE OF A PATTERN IN MEMORY: the cells of its instructions, and the code that grows.
-/
import Derived.Test.YtkbdngcbifonkaaFmtPat
namespace Go.Proofs.YtkbdngcbifonkaaFmt
set_option linter.all false
open Go.RowKit

/-- The cells of an instruction; x is its class's value. -/
def insCells (x : Value) : Pm.Ins → List Value
  | .chr _ => [.int .i64 0, x, .int .i64 (-1), .int .i64 (-1)]
  | .done => [.int .i64 1, .nilIface, .int .i64 (-1), .int .i64 (-1)]
  | .jmp a => [.int .i64 3, .nilIface, .int .i64 a, .int .i64 (-1)]
  | .split a b => [.int .i64 4, .nilIface, .int .i64 a, .int .i64 b]
  | .save s => [.int .i64 5, .nilIface, .int .i64 s, .int .i64 (-1)]
  | .brace b e => [.int .i64 7, .nilIface, .int .i64 b, .int .i64 e]
  | .num n => [.int .i64 8, .nilIface, .int .i64 n, .int .i64 (-1)]

def insOk (w : World) (ok : Nat → Prop) (x : Value) : Pm.Ins → Prop
  | .chr c => RepCls w ok x c
  | _ => True

/-- The cells of a code. -/
def Flat (w : World) (ok : Nat → Prop) : List Value → List Pm.Ins → Prop
  | us, [] => us = []
  | us, i :: l => ∃ x r, us = insCells x i ++ r ∧ insOk w ok x i ∧ Flat w ok r l

section flat
variable {w w' : World} {ok ok' : Nat → Prop}

theorem insCells_length (x : Value) (i : Pm.Ins) : (insCells x i).length = 4 := by cases i <;> rfl

theorem insOk.keep (h : Keeps w w' ok ok') {x : Value} {i : Pm.Ins} (r : insOk w ok x i) : insOk w' ok' x i := by
  cases i <;> first | exact trivial | exact RepCls.keep h r

theorem Flat.keep (h : Keeps w w' ok ok') : ∀ {l : List Pm.Ins} {us : List Value}, Flat w ok us l → Flat w' ok' us l
  | [], _, r => r
  | _ :: _, _, ⟨x, r, e, hx, hr⟩ => ⟨x, r, e, hx.keep h, Flat.keep h hr⟩

theorem Flat.append : ∀ {l m : List Pm.Ins} {us vs : List Value}, Flat w ok us l → Flat w ok vs m → Flat w ok (us ++ vs) (l ++ m)
  | [], _, _, _, hu, hv => by cases hu; exact hv
  | _ :: _, _, _, _, ⟨x, r, e, hx, hr⟩, hv => ⟨x, r ++ _, by rw [e, List.append_assoc], hx, hr.append hv⟩

theorem Flat.length : ∀ {l : List Pm.Ins} {us : List Value}, Flat w ok us l → us.length = l.length * 4
  | [], _, r => by cases r; rfl
  | i :: _, _, ⟨x, r, e, _, hr⟩ => by subst e; rw [List.length_append, insCells_length, hr.length, List.length_cons]; omega

theorem Flat.one (x : Value) (i : Pm.Ins) (h : insOk w ok x i) : Flat w ok (insCells x i) [i] := ⟨x, [], by simp, h, rfl⟩

theorem Flat.at : ∀ {l : List Pm.Ins} {us : List Value}, Flat w ok us l → ∀ k (hk : k < l.length), ∃ x, insOk w ok x l[k] ∧ ∀ j, j < 4 → us[k * 4 + j]? = (insCells x l[k])[j]?
  | [], _, _, k, hk => absurd hk (by simp)
  | i :: l, _, ⟨x, r, e, hx, hr⟩, 0, _ => ⟨x, hx, fun j hj => by
      subst e
      simp only [List.getElem_cons_zero]
      rw [List.getElem?_append_left (by rw [insCells_length]; omega)]
      congr 1
      omega⟩
  | i :: l, _, ⟨x, r, e, hx, hr⟩, k + 1, hk => by
    obtain ⟨y, hy, hj⟩ := Flat.at hr k (by simpa using hk)
    refine ⟨y, hy, fun j hj4 => ?_⟩
    subst e
    rw [List.getElem?_append_right (by rw [insCells_length]; omega), insCells_length, show (k + 1) * 4 + j - 4 = k * 4 + j from by omega]
    exact hj j hj4
end flat

/-- A code that grows: its block I (what it holds, and the number of the next capture), what it owns. The classes lie below: they are as they were in w0. -/
structure IpAt (w0 : World) (I : Nat) (l : List Pm.Ins) (k : Nat) (w : World) (B : Option Addr) (c : Nat) (us : List Value) : Prop where
  ch : Ch (fun _ => False) w0 w
  base : w0.heap.size ≤ I
  lt : I < w.heap.size
  c0 : w.cell? ⟨I, 0, none⟩ = some (.slice B l.length c)
  c1 : w.cell? ⟨I, 1, none⟩ = some (.int .i64 k)
  fz : ∀ i, w.frozen? ⟨I, i, none⟩ = false
  ne : ¬ blk B = some I
  own : w.ownsRow w0.heap.size 155 4 (.slice B l.length c) l.length us
  flat : Flat w0 (· < w0.heap.size) us l

theorem IpAt.blk_lt {w0 w : World} {I k c : Nat} {l : List Pm.Ins} {B : Option Addr} {us : List Value} (h : IpAt w0 I l k w B c us) {g : Nat} (hg : blk B = some g) : w0.heap.size ≤ g ∧ g < w.heap.size :=
  h.own.lt g (by rw [own_blk]; exact hg)

/-- What a step that touches nothing of it leaves. -/
theorem IpAt.moved {w0 w w' : World} {I k c : Nat} {l : List Pm.Ins} {B : Option Addr} {us : List Value} (h : IpAt w0 I l k w B c us) (hc : Ch (fun _ => False) w w') : IpAt w0 I l k w' B c us where
  ch := h.ch.trans hc
  base := h.base
  lt := Nat.lt_of_lt_of_le h.lt hc.size
  c0 := hc.cell_some h.c0 id
  c1 := hc.cell_some h.c1 id
  fz i := (hc.frozen (p := ⟨I, i, none⟩) h.lt id).trans (h.fz i)
  ne := h.ne
  own := hc.owns h.own (fun _ _ => id)
  flat := h.flat

theorem IpAt.alloc {w0 w : World} {I k c : Nat} {l : List Pm.Ins} {B : Option Addr} {us : List Value} (h : IpAt w0 I l k w B c us) (o : Obj) : IpAt w0 I l k (w.alloc o) B c us := h.moved ((Ch.refl _ _).alloc o)
theorem IpAt.drew {w0 w : World} {I k c : Nat} {l : List Pm.Ins} {B : Option Addr} {us : List Value} (h : IpAt w0 I l k w B c us) : IpAt w0 I l k w.drew B c us := h.moved (Ch.refl _ _).drew

/-- Behind an append: the variable's cell as it was, and what the store will leave. -/
theorem IpAt.pushed {w0 w w1 w2 : World} {I k c g' c' : Nat} {l m : List Pm.Ins} {B : Option Addr} {us vs : List Value} (h : IpAt w0 I l k w B c us) (hx : Flat w0 (· < w0.heap.size) vs m) (hw1 : Ch (fun _ => False) w w1)
    (hg : w1.grownBy w2 (Value.slice B l.length c).ownBlock) (hat : (Value.slice B l.length c).ownBlock = some g' ∨ w1.heap.size ≤ g') {n : Nat} (hn : n = (l ++ m).length) (ho : w2.ownsRow w0.heap.size 155 4 (.slice (some ⟨g', 0, none⟩) n c') n (us ++ vs)) :
    IpAt w0 I (l ++ m) k (w2.setCell ⟨I, 0, none⟩ (.slice (some ⟨g', 0, none⟩) n c')) (some ⟨g', 0, none⟩) c' (us ++ vs) ∧
      w2.cell? ⟨I, 0, none⟩ = some (.slice B l.length c) ∧ w2.frozen? ⟨I, 0, none⟩ = false := by
  subst hn
  rw [own_blk] at hg hat
  have s1 := hw1.size
  have s2 := hg.size
  have hI := h.lt
  have hne : ¬ blk (some (⟨g', 0, none⟩ : Addr)) = some I := by
    intro e
    have e' : g' = I := by simpa [blk] using e
    subst e'
    rcases hat with e | e
    · exact h.ne e
    · omega
  have ch2 : Ch (fun b => blk B = some b) w w2 := (hw1.mono (T' := fun b => blk B = some b) (fun _ _ h => h.elim)).grown hg (fun k hk _ => hk)
  have ch3 : Ch (fun b => blk B = some b ∨ b = I) w (w2.setCell ⟨I, 0, none⟩ (.slice (some ⟨g', 0, none⟩) (l ++ m).length c')) := (ch2.mono (fun _ _ h => .inl h)).setCell (p := ⟨I, 0, none⟩) (fun _ => .inr rfl) _
  have hcI : w2.cell? ⟨I, 0, none⟩ = some (.slice B l.length c) := ch2.cell_some h.c0 h.ne
  have hfI : ∀ i, w2.frozen? ⟨I, i, none⟩ = false := fun i => (ch2.frozen (p := ⟨I, i, none⟩) hI h.ne).trans (h.fz i)
  refine ⟨?_, hcI, hfI 0⟩
  exact {
    ch := h.ch.trans' ch3 (fun i hi e => by
      rcases e with e | e
      · have := (h.blk_lt e).1; omega
      · have := h.base; omega)
    base := h.base
    lt := by simp; omega
    c0 := World.cell?_setCell_same _ _ _ hcI
    c1 := by rw [World.cell?_setCell_other _ _ _ _ (addr_ne (by decide))]; exact ch2.cell_some h.c1 h.ne
    fz := fun i => by rw [World.frozen?_setCell]; exact hfI i
    ne := hne
    own := Ch.owns (T := (· = I)) ((Ch.refl (· = I) w2).setCell (p := ⟨I, 0, none⟩) (fun _ => rfl) _) ho (fun k hk => by intro e; rw [own_blk] at hk; subst e; exact hne hk)
    flat := h.flat.append hx }

/-- The number of the next capture set. -/
theorem IpAt.next {w0 w : World} {I k c : Nat} {l : List Pm.Ins} {B : Option Addr} {us : List Value} (h : IpAt w0 I l k w B c us) (k' : Nat) : IpAt w0 I l k' (w.setCell ⟨I, 1, none⟩ (.int .i64 k')) B c us := by
  have ch : Ch (· = I) w (w.setCell ⟨I, 1, none⟩ (.int .i64 k')) := (Ch.refl (· = I) w).setCell (p := ⟨I, 1, none⟩) (fun _ => rfl) _
  exact {
    ch := h.ch.trans' ch (fun i hi e => by have := h.base; omega)
    base := h.base
    lt := by simp [h.lt]
    c0 := by rw [World.cell?_setCell_other _ _ _ _ (addr_ne (by decide))]; exact h.c0
    c1 := World.cell?_setCell_same _ _ _ h.c1
    fz := fun i => by rw [World.frozen?_setCell]; exact h.fz i
    ne := h.ne
    own := ch.owns h.own (fun k hk => by intro e; rw [own_blk] at hk; subst e; exact h.ne hk)
    flat := h.flat }

/-- The code that begins: its first instruction. -/
theorem IpAt.start (w0 : World) (w1 : World) (G : Nat) (h1 : Ch (fun _ => False) w0 w1) (hG : w0.heap.size ≤ G) (hg : w1.heap[G]? = some (.cells #[.int .i64 5, .nilIface, .int .i64 0, .int .i64 (-1)] 155)) :
    IpAt w0 w1.heap.size [.save 0] 2 (w1.alloc (.cells #[.slice (some ⟨G, 0, none⟩) 1 1, .int .i64 2] 157)) (some ⟨G, 0, none⟩) 1 [.int .i64 5, .nilIface, .int .i64 0, .int .i64 (-1)] where
  ch := h1.alloc _
  base := h1.size
  lt := by simp
  c0 := World.cell?_alloc_at _ _ _ _ rfl
  c1 := World.cell?_alloc_at _ _ _ _ rfl
  fz i := World.frozen?_alloc_at _ _ _ _ rfl
  ne := by have := (Array.getElem?_eq_some_iff.1 hg).1; simp [blk]; omega
  own := ⟨rfl, .inr ⟨G, 1, _, rfl, hG, (Below.heap_alloc _ _ _ (Array.getElem?_eq_some_iff.1 hg).1).trans hg, Nat.le_refl _, by unfold maxLen; omega, rfl, rfl⟩⟩
  flat := ⟨.nilIface, [], rfl, trivial, rfl⟩

end Go.Proofs.YtkbdngcbifonkaaFmt
