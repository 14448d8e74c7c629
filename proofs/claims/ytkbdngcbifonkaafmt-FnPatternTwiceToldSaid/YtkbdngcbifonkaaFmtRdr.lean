/-
  spec.ptReader: a pattern's items as they are read. Lines laid by a program of this session (mkrdr.py).
-/
import Derived.Test.YtkbdngcbifonkaaFmtSgl
import Derived.Test.YtkbdngcbifonkaaFmtCmp
import Derived.Deep.RegionHeld3
namespace Go.Proofs.YtkbdngcbifonkaaFmt
set_option linter.all false
open Go.RowKit

/-- The reader's block R: the place k, the captures cp, the open ones o (their block go), the items' cells us, the sets that were made. -/
structure RdAt (w0 : World) (R k cp : Nat) (o : Value) (go : Option Nat) (n : Nat) (us : List Value) (ds : List (Nat × (Nat → Bool))) (w : World) (B : Option Addr) (c : Nat) : Prop where
  ch : Ch (fun _ => False) w0 w
  base : w0.heap.size ≤ R
  lt : R < w.heap.size
  c0 : w.cell? ⟨R, 0, none⟩ = some (.string ⟨#[1, 40, 46, 43, 41, 37, 49, 2]⟩)
  c1 : w.cell? ⟨R, 1, none⟩ = some (.int .i64 (k : Int))
  c2 : w.cell? ⟨R, 2, none⟩ = some o
  c3 : w.cell? ⟨R, 3, none⟩ = some (.bool false)
  c4 : w.cell? ⟨R, 4, none⟩ = some (.slice B n c)
  c5 : w.cell? ⟨R, 5, none⟩ = some (.int .i64 (cp : Int))
  fz : ∀ i, w.frozen? ⟨R, i, none⟩ = false
  ne : ¬ blk B = some R
  own : w.ownsRow w0.heap.size 114 6 (.slice B n c) n us
  sets : ∀ d ∈ ds, SetIs w d.1 d.2 ∧ w0.heap.size ≤ d.1 ∧ d.1 ≠ R ∧ ¬ blk B = some d.1
  opn : ∀ g, go = some g → w.cell? ⟨g, 0, none⟩ = some (.int .i64 1) ∧ w0.heap.size ≤ g ∧ g ≠ R ∧ ¬ blk B = some g

section rd
variable {w0 w w' : World} {R k cp n c : Nat} {o : Value} {go : Option Nat} {us : List Value} {ds : List (Nat × (Nat → Bool))} {B : Option Addr}

theorem RdAt.blk_lt (h : RdAt w0 R k cp o go n us ds w B c) {g : Nat} (hg : blk B = some g) : w0.heap.size ≤ g ∧ g < w.heap.size := h.own.lt g (by rw [own_blk]; exact hg)

theorem RdAt.moved (h : RdAt w0 R k cp o go n us ds w B c) (hc : Ch (fun _ => False) w w') : RdAt w0 R k cp o go n us ds w' B c where
  ch := h.ch.trans hc
  base := h.base
  lt := Nat.lt_of_lt_of_le h.lt hc.size
  c0 := hc.cell_some h.c0 id
  c1 := hc.cell_some h.c1 id
  c2 := hc.cell_some h.c2 id
  c3 := hc.cell_some h.c3 id
  c4 := hc.cell_some h.c4 id
  c5 := hc.cell_some h.c5 id
  fz i := (hc.frozen (p := ⟨R, i, none⟩) h.lt id).trans (h.fz i)
  ne := h.ne
  own := hc.owns h.own (fun _ _ => id)
  sets d hd := ⟨(h.sets d hd).1.keep hc id, (h.sets d hd).2⟩
  opn g hg := ⟨hc.cell_some (h.opn g hg).1 id, (h.opn g hg).2⟩

/-- A store into the reader's own cells. -/
theorem RdAt.put (h : RdAt w0 R k cp o go n us ds w B c) (i : Nat) (v : Value) (hw : w' = w.setCell ⟨R, i, none⟩ v) {k' cp' : Nat} {o' : Value} {go' : Option Nat}
    (h1 : if i = 1 then v = .int .i64 (k' : Int) else k' = k) (h2 : if i = 2 then v = o' else o' = o) (h5 : if i = 5 then v = .int .i64 (cp' : Int) else cp' = cp) (hi : i = 1 ∨ i = 2 ∨ i = 5)
    (hgo : ∀ g, go' = some g → w.cell? ⟨g, 0, none⟩ = some (.int .i64 1) ∧ w0.heap.size ≤ g ∧ g ≠ R ∧ ¬ blk B = some g) : RdAt w0 R k' cp' o' go' n us ds w' B c := by
  subst hw
  have ch : Ch (· = R) w (w.setCell ⟨R, i, none⟩ v) := (Ch.refl (· = R) w).setCell (p := ⟨R, i, none⟩) (fun _ => rfl) _
  have other : ∀ j x, i ≠ j → w.cell? ⟨R, j, none⟩ = some x → (w.setCell ⟨R, i, none⟩ v).cell? ⟨R, j, none⟩ = some x := fun j x hj hx => by rw [World.cell?_setCell_other _ _ _ _ (addr_ne hj)]; exact hx
  exact {
    ch := h.ch.trans' ch (fun i hi e => by have := h.base; omega)
    base := h.base
    lt := by simp [h.lt]
    c0 := other 0 _ (by omega) h.c0
    c1 := by
      by_cases e : i = 1
      · subst e
        rw [if_pos rfl] at h1
        rw [h1]
        exact World.cell?_setCell_same _ _ _ h.c1
      · rw [if_neg e] at h1
        rw [h1]
        exact other 1 _ e h.c1
    c2 := by
      by_cases e : i = 2
      · subst e
        rw [if_pos rfl] at h2
        rw [← h2]
        exact World.cell?_setCell_same _ _ _ h.c2
      · rw [if_neg e] at h2
        rw [h2]
        exact other 2 _ e h.c2
    c3 := other 3 _ (by omega) h.c3
    c4 := other 4 _ (by omega) h.c4
    c5 := by
      by_cases e : i = 5
      · subst e
        rw [if_pos rfl] at h5
        rw [h5]
        exact World.cell?_setCell_same _ _ _ h.c5
      · rw [if_neg e] at h5
        rw [h5]
        exact other 5 _ e h.c5
    fz := fun i => by rw [World.frozen?_setCell]; exact h.fz i
    ne := h.ne
    own := ch.owns h.own (fun k hk => by rw [own_blk] at hk; intro e; subst e; exact h.ne hk)
    sets := fun d hd => ⟨(h.sets d hd).1.keep ch (h.sets d hd).2.2.1, (h.sets d hd).2⟩
    opn := fun g hg => ⟨ch.cell_some (hgo g hg).1 (hgo g hg).2.2.1, (hgo g hg).2⟩ }

/-- One set more. -/
theorem RdAt.withSet (h : RdAt w0 R k cp o go n us ds w B c) {D : Nat} {f : Nat → Bool} (hs : SetIs w D f) (hD : w0.heap.size ≤ D) (h1 : D ≠ R) (h2 : ¬ blk B = some D) : RdAt w0 R k cp o go n us ((D, f) :: ds) w B c :=
  by
  refine { h with sets := fun d hd => ?_ }
  rcases List.mem_cons.1 hd with rfl | hd
  · exact ⟨hs, hD, h1, h2⟩
  · exact h.sets d hd

/-- Behind an append of one item. -/
theorem RdAt.pushed {w1 w2 : World} {g' c' : Nat} {vs : List Value} (h : RdAt w0 R k cp o go n us ds w B c) (hw1 : Ch (fun _ => False) w w1)
    (hg : w1.grownBy w2 (Value.slice B n c).ownBlock) (hat : (Value.slice B n c).ownBlock = some g' ∨ w1.heap.size ≤ g') (ho : w2.ownsRow w0.heap.size 114 6 (.slice (some ⟨g', 0, none⟩) (n + 1) c') (n + 1) (us ++ vs)) :
    RdAt w0 R k cp o go (n + 1) (us ++ vs) ds (w2.setCell ⟨R, 4, none⟩ (.slice (some ⟨g', 0, none⟩) (n + 1) c')) (some ⟨g', 0, none⟩) c' ∧
      w2.cell? ⟨R, 4, none⟩ = some (.slice B n c) ∧ w2.frozen? ⟨R, 4, none⟩ = false := by
  rw [own_blk] at hg hat
  have s1 := hw1.size
  have s2 := hg.size
  have hR := h.lt
  have old : ∀ d, d < w.heap.size → ¬ blk B = some d → ¬ blk (some (⟨g', 0, none⟩ : Addr)) = some d := by
    intro d hd hb e
    have e' : g' = d := by simpa [blk] using e
    subst e'
    rcases hat with e | e
    · exact hb e
    · omega
  have ch2 : Ch (fun b => blk B = some b) w w2 := (hw1.mono (T' := fun b => blk B = some b) (fun _ _ h => h.elim)).grown hg (fun k hk _ => hk)
  have ch3 : Ch (fun b => blk B = some b ∨ b = R) w (w2.setCell ⟨R, 4, none⟩ (.slice (some ⟨g', 0, none⟩) (n + 1) c')) := (ch2.mono (fun _ _ h => .inl h)).setCell (p := ⟨R, 4, none⟩) (fun _ => .inr rfl) _
  have hcR : w2.cell? ⟨R, 4, none⟩ = some (.slice B n c) := ch2.cell_some h.c4 h.ne
  have hfR : ∀ i, w2.frozen? ⟨R, i, none⟩ = false := fun i => (ch2.frozen (p := ⟨R, i, none⟩) hR h.ne).trans (h.fz i)
  have other : ∀ j x, j ≠ 4 → w.cell? ⟨R, j, none⟩ = some x → (w2.setCell ⟨R, 4, none⟩ (.slice (some ⟨g', 0, none⟩) (n + 1) c')).cell? ⟨R, j, none⟩ = some x := fun j x hj hx => by rw [World.cell?_setCell_other _ _ _ _ (addr_ne (fun e => hj e.symm))]; exact ch2.cell_some hx h.ne
  refine ⟨?_, hcR, hfR 4⟩
  exact {
    ch := h.ch.trans' ch3 (fun i hi e => by
      rcases e with e | e
      · have := (h.blk_lt e).1; omega
      · have := h.base; omega)
    base := h.base
    lt := by simp; omega
    c0 := other 0 _ (by omega) h.c0
    c1 := other 1 _ (by omega) h.c1
    c2 := other 2 _ (by omega) h.c2
    c3 := other 3 _ (by omega) h.c3
    c4 := World.cell?_setCell_same _ _ _ hcR
    c5 := other 5 _ (by omega) h.c5
    fz := fun i => by rw [World.frozen?_setCell]; exact hfR i
    ne := old R hR h.ne
    own := Ch.owns (T := (· = R)) ((Ch.refl (· = R) w2).setCell (p := ⟨R, 4, none⟩) (fun _ => rfl) _) ho (fun k hk => by intro e; rw [own_blk] at hk; subst e; exact old k hR h.ne hk)
    sets := fun d hd => by
      obtain ⟨a1, a2, a3, a4⟩ := h.sets d hd
      exact ⟨a1.keep ch3 (by rintro (e | e); exact a4 e; exact a3 e), a2, a3, old _ a1.1 a4⟩
    opn := fun g hg => by
      obtain ⟨a1, a2, a3, a4⟩ := h.opn g hg
      exact ⟨ch3.cell_some a1 (by rintro (e | e); exact a4 e; exact a3 e), a2, a3, old _ (World.block_lt_of_cell? w _ a1) a4⟩ }
end rd

theorem Tryf.info114 : (Tryf.prog.info? 114).map (fun i => (i.zero, i.size, i.bytes)) = some (some (.agg #[.int .i64 0, .slice none 0 0, .int .u8 0, .int .i64 0, .int .u8 0, .int .u8 0]), 6, 56) := by kernel_rfl

noncomputable def reg43 (id : Nat) : Code := (rgc id (Tryf.f43.body.getD .skip)).getD .skip

abbrev itemCells (a0 : Int) (sB : Option Addr) (sn sc : Nat) (a2 a3 : Int) : List Value := [.int .i64 a0, .slice sB sn sc, .int .u8 a2, .int .i64 a3, .int .u8 0, .int .u8 0]

theorem one_item (a0 : Int) (sB : Option Addr) (sn sc : Nat) (a2 a3 : Int) : ∀ y ∈ itemCells a0 sB sn sc a2 a3, y.oneCell' = true := by
  intro y hy
  simp at hy
  rcases hy with rfl | rfl | rfl | rfl | rfl | rfl <;> rfl

set_option maxRecDepth 100000 in
set_option maxHeartbeats 4000000 in
theorem add_reg {w0 w : World} {R k cp n c : Nat} {o : Value} {go : Option Nat} {us : List Value} {ds : List (Nat × (Nat → Bool))} {B : Option Addr} {X : Nat} {far a0 a2 a3 : Int} {sB : Option Addr} {sn sc : Nat} {Q : Exit → Act → World → Prop} {u3 u5 u6 u7 u8 u9 u10 u11 u12 u13 u14 u15 u16 u17 u18 u19 u20 u21 u22 u23 u24 u25 u26 : Value} (HR : Hid (RdAt w0 R k cp o go n us ds w B c)) (hn : n ≤ 100)
    (x0 : w.cell? ⟨X, 0, none⟩ = some (.int .i64 a0)) (x1 : w.cell? ⟨X, 1, none⟩ = some (.slice sB sn sc)) (x2 : w.cell? ⟨X, 2, none⟩ = some (.int .u8 a2)) (x3 : w.cell? ⟨X, 3, none⟩ = some (.int .i64 a3)) (x4 : w.cell? ⟨X, 4, none⟩ = some (.int .u8 0)) (x5 : w.cell? ⟨X, 5, none⟩ = some (.int .u8 0))
    (hQ : ∀ (w' : World) (B' : Option Addr) (c' : Nat) (y7 y8 y9 y10 y11 y12 y13 y14 y15 y16 y17 y18 : Value), RdAt w0 R k cp o go (n + 1) (us ++ itemCells a0 sB sn sc a2 a3) ds w' B' c' → Q .normal { tmps := #[ptr R, .agg #[.int .i64 a0, .slice sB sn sc, .int .u8 a2, .int .i64 a3, .int .u8 0, .int .u8 0], .int .i64 far, u3, ptr X, u5, u6, y7, y8, y9, y10, y11, y12, y13, y14, y15, y16, y17, y18, u19, u20, u21, u22, u23, u24, u25, u26], defers := [] } w') :
    (reg43 1).wp Tryf.prog Q { tmps := #[ptr R, .agg #[.int .i64 a0, .slice sB sn sc, .int .u8 a2, .int .i64 a3, .int .u8 0, .int .u8 0], .int .i64 far, u3, ptr X, u5, u6, u7, u8, u9, u10, u11, u12, u13, u14, u15, u16, u17, u18, u19, u20, u21, u22, u23, u24, u25, u26], defers := [] } w := by
  obtain ⟨i0, hi0, hz0, hz1, hz2⟩ := info_parts Tryf.info114
  have I0 := Lib.hid hi0
  have Z0 := Lib.hid hz0
  have Z1 := Lib.hid hz1
  have Z2 := Lib.hid hz2
  clear hi0 hz0 hz1 hz2
  have q0 := HR.out.c4
  have q1 := HR.out.lt
  have q2 := HR.out.fz 4
  have HQ := Lib.hid hQ
  clear hQ
  conv => arg 2; whnf
  refine wp_region_noPanic ?_
  go_region_law (first
    | (refine step_append_lies _ rfl (.tmp 12) (.tmp 14) 58 rfl w0.heap.size 114 i0 _ 6 56 Tryf.underlying58 I0.out Z0.out Z1.out Z2.out rfl (by omega) _ _ us rfl ((HR.out.moved ((Ch.refl _ _).drew.alloc _)).own) ⟨w.heap.size, 0, none⟩ 1 1 (itemCells a0 sB sn sc a2 a3) rfl rfl (World.news_of_block (heap_alloc_new w.drew _)) (one_item _ _ _ _ _ _) (by omega) (by unfold maxLen; omega) (by omega) (by have := HR.out.base; have := HR.out.lt; simp; omega) (w.heap.size + 1) (by simp) ?_; intro g' c' w9 hown9 hgrow9 hat9 hlt9
       obtain ⟨hpush, d9, f9⟩ := (HR.out.moved ((Ch.refl _ _).drew)).pushed ((Ch.refl _ _).alloc _) hgrow9 (hat9.imp id (fun e => by simp; omega)) hown9
       have HPUSH := Lib.hid hpush
       clear hown9 hgrow9 hat9 hlt9 hpush))
  all_goals
    refine NoPanic.normal ?_
    exact HQ.out _ _ _ _ _ _ _ _ _ _ _ _ _ _ _ HPUSH.out

set_option maxRecDepth 100000 in
set_option maxHeartbeats 4000000 in
theorem add_calls {w0 w : World} {R k cp n c : Nat} {o : Value} {go : Option Nat} {us : List Value} {ds : List (Nat × (Nat → Bool))} {B : Option Addr} {far : Nat} {a0 a2 a3 : Int} {sB : Option Addr} {sn sc : Nat} (HR : Hid (RdAt w0 R k cp o go n us ds w B c)) (hn : n ≤ 100) (hk : k ≤ 100) (hf : far ≤ 100) :
    Calls Tryf.prog 43 #[ptr R, .agg #[.int .i64 a0, .slice sB sn sc, .int .u8 a2, .int .i64 a3, .int .u8 0, .int .u8 0], .int .i64 (far : Int)] w fun e w' => e = .returned (.bool true) ∧ ∃ B' c', RdAt w0 R (k + far) cp o go (n + 1) (us ++ itemCells a0 sB sn sc a2 a3) ds w' B' c' := by
  have hw1 : IntKind.i64.wrap ((k : Int) + (far : Int)) = ((k + far : Nat) : Int) := by rw [IntKind.wrap_i64]; omega
  go_enter Tryf.func43, Tryf.ntmps43
  go_wp2_with fail
  refine add_reg (Lib.hid (HR.out.moved ((Ch.refl _ _).alloc _))) hn (World.cell?_alloc_at _ _ _ _ rfl) (World.cell?_alloc_at _ _ _ _ rfl) (World.cell?_alloc_at _ _ _ _ rfl) (World.cell?_alloc_at _ _ _ _ rfl) (World.cell?_alloc_at _ _ _ _ rfl) (World.cell?_alloc_at _ _ _ _ rfl) ?_
  intro w2 B2 c2 _ _ _ _ _ _ _ _ _ _ _ _ hr2
  have q1 := hr2.c1
  have q2 := hr2.lt
  have q3 := hr2.fz 1
  have HR2 := Lib.hid hr2
  clear hr2
  simp only [Exit.then]
  go_wp2_with fail
  go_ret
  exact ⟨rfl, B2, c2, HR2.out.put 1 _ rfl (by simp) (by simp) (by simp) (.inl rfl) HR2.out.opn⟩

end Go.Proofs.YtkbdngcbifonkaaFmt
