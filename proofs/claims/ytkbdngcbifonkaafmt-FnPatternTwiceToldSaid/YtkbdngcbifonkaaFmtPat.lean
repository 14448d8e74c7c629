/-
  A PATTERN THAT IS READ: what stands in a text from a place on; how it lies in memory while it grows.
-/
import Derived.Test.YtkbdngcbifonkaaFmtCls
namespace Go.Proofs.YtkbdngcbifonkaaFmt
set_option linter.all false
open Go.RowKit

/-- The set behind its bracket. -/
def setAt (l : List UInt8) (k : Nat) : Option (Bool × List Pm.Elem × Nat) :=
  if at_ l k = 94 then (setGo l 100 (k + 1) [] false).map (fun p => (true, p.1, p.2))
  else (setGo l 100 k [] false).map (fun p => (false, p.1, p.2))

/-- Parts without captures. -/
def parts? : List Pm.Pat → Option (List Pm.Part)
  | [] => some []
  | .part p :: r => (parts? r).map (p :: ·)
  | .cap _ :: _ => none

/-- The single part that stands last. -/
def lastOne : List Pm.Pat → Option (List Pm.Pat × Pm.Cls)
  | [] => none
  | [.part (.one c)] => some ([], c)
  | [_] => none
  | p :: q :: r => (lastOne (q :: r)).map (fun x => (p :: x.1, x.2))

/-- What a capture has from place k on, behind parts that are read: points and repetitions. -/
def inGo (l : List UInt8) : Nat → Nat → List Pm.Pat → Option (List Pm.Pat × Nat)
  | 0, _, _ => none
  | f + 1, k, ps =>
    if at_ l k = 46 then inGo l f (k + 1) (ps ++ [.part (.one .dot)])
    else if at_ l k = 41 then some (ps, k)
    else if at_ l k = 42 ∨ at_ l k = 43 ∨ at_ l k = 45 ∨ at_ l k = 63 then
      match lastOne ps with
      | some (ps', c) => inGo l f (k + 1) (ps' ++ [.part (.rep (at_ l k) c)])
      | none => none
    else none

/-- What a pattern has from place k on, behind parts that are read. -/
def patGo (l : List UInt8) : Nat → Nat → List Pm.Pat → Option (List Pm.Pat)
  | 0, _, _ => none
  | f + 1, k, ps =>
    if at_ l k = 37 then
      if at_ l (k + 1) = 49 then patGo l f (k + 2) (ps ++ [.part (.num (at_ l (k + 1) - 48))])
      else if at_ l (k + 1) = 98 then (if k + 3 < l.length then patGo l f (k + 4) (ps ++ [.part (.brace (at_ l (k + 2)) (at_ l (k + 3)))]) else none)
      else if 48 ≤ at_ l (k + 1) ∧ at_ l (k + 1) ≤ 57 ∨ at_ l (k + 1) = -1 then none
      else patGo l f (k + 2) (ps ++ [.part (.one (.atom (.single (at_ l (k + 1)))))])
    else if at_ l k = 46 then patGo l f (k + 1) (ps ++ [.part (.one .dot)])
    else if at_ l k = 91 then
      match setAt l (k + 1) with
      | some (neg, es, k') => patGo l f k' (ps ++ [.part (.one (.set neg es))])
      | none => none
    else if at_ l k = 40 then
      if at_ l (k + 1) = 41 then none
      else
        match inGo l 100 (k + 1) [] with
        | some (ps', k') =>
          match parts? ps' with
          | some l' => if at_ l k' = 41 then patGo l f (k' + 1) (ps ++ [.cap l']) else none
          | none => none
        | none => none
    else if at_ l k = 42 ∨ at_ l k = 43 ∨ at_ l k = 45 ∨ at_ l k = 63 then
      match lastOne ps with
      | some (ps', c) => patGo l f (k + 1) (ps' ++ [.part (.rep (at_ l k) c)])
      | none => none
    else if at_ l k = 93 ∨ at_ l k = 36 ∨ at_ l k = 41 then none
    else if at_ l k = -1 then some ps
    else patGo l f (k + 1) (ps ++ [.part (.one (.atom (.chr (at_ l k))))])

theorem parts?_some : ∀ {ps : List Pm.Pat} {l : List Pm.Part}, parts? ps = some l → ps = l.map .part
  | [], l, h => by cases h; rfl
  | .part p :: r, l, h => by
    simp only [parts?, Option.map_eq_some_iff] at h
    obtain ⟨x, hx, rfl⟩ := h
    rw [parts?_some hx]
    rfl
  | .cap _ :: _, l, h => by cases h

theorem lastOne_some : ∀ {ps ps' : List Pm.Pat} {c : Pm.Cls}, lastOne ps = some (ps', c) → ps = ps' ++ [.part (.one c)]
  | [], _, _, h => by cases h
  | [.part (.one c)], ps', c', h => by cases h; rfl
  | [.part (.rep _ _)], ps', c', h => by cases h
  | [.part (.num _)], ps', c', h => by cases h
  | [.part (.brace _ _)], ps', c', h => by cases h
  | [.cap _], ps', c', h => by cases h
  | p :: q :: r, ps', c', h => by
    simp only [lastOne, Option.map_eq_some_iff, Prod.mk.injEq] at h
    obtain ⟨x, hx, rfl, rfl⟩ := h
    rw [lastOne_some (ps' := x.1) (c := x.2) hx]
    rfl

theorem RepCls.form {w : World} {ok : Nat → Prop} {v : Value} {c : Pm.Cls} (h : RepCls w ok v c) : ∃ u x, v = .iface u x := by
  cases c with
  | dot => obtain ⟨p, hv⟩ := h; exact ⟨_, _, hv⟩
  | atom a => exact RepAtom.form h
  | set neg l => obtain ⟨b, A, cap, _, _, hv, _⟩ := h; exact ⟨_, _, hv⟩

theorem RepPart.form {w : World} {ok : Nat → Prop} {v : Value} {p : Pm.Part} (h : RepPart w ok v p) : ∃ u x, v = .iface u x := by
  cases p with
  | one c => obtain ⟨b, x, _, hv, _⟩ := h; exact ⟨_, _, hv⟩
  | rep t c => obtain ⟨b, x, _, hv, _⟩ := h; exact ⟨_, _, hv⟩
  | num n => obtain ⟨b, _, hv, _⟩ := h; exact ⟨_, _, hv⟩
  | brace s e => obtain ⟨b, _, hv, _⟩ := h; exact ⟨_, _, hv⟩

theorem RepPat.form {w : World} {ok : Nat → Prop} {v : Value} {p : Pm.Pat} (h : RepPat w ok v p) : ∃ u x, v = .iface u x := by
  cases p with
  | part p => exact RepPart.form h
  | cap l => obtain ⟨b, s, _, hv, _⟩ := h; exact ⟨_, _, hv⟩

theorem RepPats.parts {w : World} {ok : Nat → Prop} {b : Nat} {x y : Bool} {l : List Pm.Part} (h : RepPats w ok b x y (l.map .part)) : RepParts w ok b x y l := by
  obtain ⟨A, cap, hb, hi, h0, h1, h2⟩ := h
  refine ⟨A, cap, hb, fun hl => ?_, h0, h1, by simpa using h2⟩
  obtain ⟨a, rfl, ha, hi⟩ := hi (by simpa using hl)
  refine ⟨a, rfl, ha, fun i hl => ?_⟩
  obtain ⟨u, hu, he⟩ := hi i (by simpa using hl)
  refine ⟨u, hu, ?_⟩
  have e : (l.map Pm.Pat.part)[i]'(by simpa using hl) = .part l[i] := by simp
  rw [e] at he
  exact he

/-- A slice's own block. -/
abbrev blk (B : Option Addr) : Option Nat := B.map (·.block)

theorem own_blk (B : Option Addr) (n c : Nat) : (Value.slice B n c).ownBlock = blk B := by cases B <;> rfl

/-- A pattern that is read: its block P, what it owns. -/
structure PatAt (w0 : World) (S A cap j P : Nat) (l : List UInt8) (head : Bool) (k : Nat) (ps : List Pm.Pat) (w : World) (B : Option Addr) (c : Nat) (us : List Value) : Prop where
  scan : Scan w S A cap l k j
  ch : Ch (· = S) w0 w
  old : S < w0.heap.size ∧ A < w0.heap.size
  base : w0.heap.size ≤ P
  lt : P < w.heap.size
  c0 : w.cell? ⟨P, 0, none⟩ = some (.bool head)
  c1 : w.cell? ⟨P, 1, none⟩ = some (.bool false)
  c2 : w.cell? ⟨P, 2, none⟩ = some (.slice B ps.length c)
  fz : ∀ i, w.frozen? ⟨P, i, none⟩ = false
  ne : ¬ blk B = some P
  len : ps.length ≤ k
  own : w.ownsRow w0.heap.size 137 1 (.slice B ps.length c) ps.length us
  rep : ∀ i (h : i < ps.length), RepPat w (fun b => w0.heap.size ≤ b ∧ b < w.heap.size ∧ b ≠ P ∧ ¬ blk B = some b) (us.getD i undef) ps[i]

theorem PatAt.blk_lt {w0 w : World} {S A cap j P k c : Nat} {l : List UInt8} {head : Bool} {ps : List Pm.Pat} {B : Option Addr} {us : List Value} (h : PatAt w0 S A cap j P l head k ps w B c us) {g : Nat} (hg : blk B = some g) : w0.heap.size ≤ g ∧ g < w.heap.size :=
  h.own.lt g (by rw [own_blk]; exact hg)

/-- What a step of the scanner leaves. -/
theorem PatAt.moved {w0 w w' : World} {S A cap j j' P k k' c : Nat} {l : List UInt8} {head : Bool} {ps : List Pm.Pat} {B : Option Addr} {us : List Value} (h : PatAt w0 S A cap j P l head k ps w B c us)
    (hs : Scan w' S A cap l k' j') (hc : Ch (· = S) w w') (hk : ps.length ≤ k') : PatAt w0 S A cap j' P l head k' ps w' B c us := by
  have hPS : ¬ P = S := by have := h.base; have := h.old.1; omega
  have hgS : ∀ g, blk B = some g → ¬ g = S := fun g hg => by have := (h.blk_lt hg).1; have := h.old.1; omega
  exact {
    scan := hs
    ch := h.ch.trans hc
    old := h.old
    base := h.base
    lt := Nat.lt_of_lt_of_le h.lt hc.size
    c0 := hc.cell_some h.c0 hPS
    c1 := hc.cell_some h.c1 hPS
    c2 := hc.cell_some h.c2 hPS
    fz := fun i => (hc.frozen (p := ⟨P, i, none⟩) h.lt hPS).trans (h.fz i)
    ne := h.ne
    len := hk
    own := hc.owns h.own (fun k hk => hgS k (by rw [← own_blk]; exact hk))
    rep := fun i hi => (h.rep i hi).keep (fun b hb => ⟨hc.block b hb.2.1 (by have := h.old.1; omega), hb.1, Nat.lt_of_lt_of_le hb.2.1 hc.size, hb.2.2⟩) }

/-- What an append of one part leaves. -/
theorem PatAt.push {w0 w w1 w2 : World} {S A cap j P k c g' c' : Nat} {l : List UInt8} {head : Bool} {ps : List Pm.Pat} {B : Option Addr} {us : List Value} {v : Value} {x : Pm.Pat} (h : PatAt w0 S A cap j P l head k ps w B c us) (hk : ps.length < k)
    (hx : RepPat w (fun b => w0.heap.size ≤ b ∧ b < w.heap.size ∧ b ≠ P ∧ ¬ blk B = some b) v x) (hw1 : Ch (fun _ => False) w w1)
    (hg : w1.grownBy w2 (Value.slice B ps.length c).ownBlock) (hat : (Value.slice B ps.length c).ownBlock = some g' ∨ w1.heap.size ≤ g') (ho : w2.ownsRow w0.heap.size 137 1 (.slice (some ⟨g', 0, none⟩) (ps.length + 1) c') (ps.length + 1) (us ++ [v])) :
    PatAt w0 S A cap j P l head k (ps ++ [x]) (w2.setCell ⟨P, 2, none⟩ (.slice (some ⟨g', 0, none⟩) (ps.length + 1) c')) (some ⟨g', 0, none⟩) c' (us ++ [v]) := by
  rw [own_blk] at hg hat
  have hP := h.lt
  have hPS : ¬ P = S := by have := h.base; have := h.old.1; omega
  have hPA : ¬ P = A := by have := h.old.2; have := h.base; omega
  have s1 := hw1.size
  have s2 := hg.size
  have hne : ¬ blk (some (⟨g', 0, none⟩ : Addr)) = some P := by
    intro e
    have e' : g' = P := by simpa [blk] using e
    subst e'
    rcases hat with e | e
    · exact h.ne e
    · omega
  have hnS : ¬ (blk B = some S ∨ S = P) := by
    rintro (e | e)
    · have := (h.blk_lt e).1; have := h.old.1; omega
    · exact hPS e.symm
  have hnA : ¬ (blk B = some A ∨ A = P) := by
    rintro (e | e)
    · have := (h.blk_lt e).1; have := h.old.2; omega
    · exact hPA e.symm
  have ch2 : Ch (fun b => blk B = some b) w w2 := (hw1.mono (T' := fun b => blk B = some b) (fun _ _ h => h.elim)).grown hg (fun k hk _ => hk)
  have ch3 : Ch (fun b => blk B = some b ∨ b = P) w (w2.setCell ⟨P, 2, none⟩ (.slice (some ⟨g', 0, none⟩) (ps.length + 1) c')) := (ch2.mono (fun _ _ h => .inl h)).setCell (p := ⟨P, 2, none⟩) (fun _ => .inr rfl) _
  have hus : us.length = ps.length := by have := h.own.1; omega
  have hcP : w2.cell? ⟨P, 2, none⟩ = some (.slice B ps.length c) := ch2.cell_some h.c2 h.ne
  exact {
    scan := h.scan.kept ch3 hnS hnA
    ch := h.ch.trans' ch3 (fun i hi e => by
      rcases e with e | e
      · have := (h.blk_lt e).1; omega
      · have := h.base; omega)
    old := h.old
    base := h.base
    lt := by simp; omega
    c0 := by rw [World.cell?_setCell_other _ _ _ _ (addr_ne (by decide))]; exact ch2.cell_some h.c0 h.ne
    c1 := by rw [World.cell?_setCell_other _ _ _ _ (addr_ne (by decide))]; exact ch2.cell_some h.c1 h.ne
    c2 := by rw [List.length_append]; exact World.cell?_setCell_same _ _ _ hcP
    fz := fun i => by rw [World.frozen?_setCell]; exact (ch2.frozen (p := ⟨P, i, none⟩) hP h.ne).trans (h.fz i)
    ne := hne
    len := by simp; omega
    own := by rw [List.length_append]; exact Ch.owns (T := (· = P)) ((Ch.refl (· = P) w2).setCell (p := ⟨P, 2, none⟩) (fun _ => rfl) _) ho (fun k hk => by intro e; rw [own_blk] at hk; subst e; exact hne hk)
    rep := fun i hi => by
      have key : Keeps w (w2.setCell ⟨P, 2, none⟩ (.slice (some ⟨g', 0, none⟩) (ps.length + 1) c')) (fun b => w0.heap.size ≤ b ∧ b < w.heap.size ∧ b ≠ P ∧ ¬ blk B = some b) (fun b => w0.heap.size ≤ b ∧ b < (w2.setCell ⟨P, 2, none⟩ (.slice (some ⟨g', 0, none⟩) (ps.length + 1) c')).heap.size ∧ b ≠ P ∧ ¬ blk (some (⟨g', 0, none⟩ : Addr)) = some b) := fun b hb =>
        ⟨ch3.block b hb.2.1 (by rintro (e | e); exact hb.2.2.2 e; exact hb.2.2.1 e), hb.1, by simp; omega, hb.2.2.1, by
          intro e
          have e' : g' = b := by simpa [blk] using e
          subst e'
          rcases hat with e | e
          · exact hb.2.2.2 e
          · omega⟩
      rcases Nat.lt_or_ge i ps.length with hlt | hge
      · have e1 : (us ++ [v]).getD i undef = us.getD i undef := by simp only [List.getD_eq_getElem?_getD]; rw [List.getElem?_append_left (by omega)]
        have e2 : (ps ++ [x])[i] = ps[i] := List.getElem_append_left hlt
        rw [e1, e2]
        exact (h.rep i hlt).keep key
      · have hi' : i = ps.length := by simp at hi; omega
        subst hi'
        have e1 : (us ++ [v]).getD ps.length undef = v := by simp [List.getD_eq_getElem?_getD, ← hus]
        have e2 : (ps ++ [x])[ps.length] = x := by simp
        rw [e1, e2]
        exact hx.keep key }

/-- The last part taken away. -/
theorem PatAt.pop {w0 w : World} {S A cap j P k c : Nat} {l : List UInt8} {head : Bool} {ps : List Pm.Pat} {x : Pm.Pat} {B : Option Addr} {us : List Value} {v : Value} (h : PatAt w0 S A cap j P l head k (ps ++ [x]) w B c (us ++ [v])) :
    PatAt w0 S A cap j P l head k ps (w.setCell ⟨P, 2, none⟩ (.slice B ps.length c)) B c us := by
  have hPS : ¬ P = S := by have := h.base; have := h.old.1; omega
  have hPA : ¬ P = A := by have := h.old.2; have := h.base; omega
  have hus : us.length = ps.length := by have := h.own.1; simp at this; omega
  have ch : Ch (· = P) w (w.setCell ⟨P, 2, none⟩ (.slice B ps.length c)) := (Ch.refl (· = P) w).setCell (p := ⟨P, 2, none⟩) (fun _ => rfl) _
  obtain ⟨g, c0, hB, _⟩ := h.own.form (by simp)
  obtain ⟨rfl, rfl⟩ : B = some ⟨g, 0, none⟩ ∧ c = c0 := by cases hB; exact ⟨rfl, rfl⟩
  have hcut := own_cut h.own (m := ps.length) (by simp)
  have ht : (us ++ [v]).take ps.length = us := by rw [← hus]; simp
  rw [ht] at hcut
  exact {
    scan := h.scan.kept ch (fun e => hPS e.symm) (fun e => hPA e.symm)
    ch := h.ch.trans' ch (fun i hi e => by have := h.base; omega)
    old := h.old
    base := h.base
    lt := by simp [h.lt]
    c0 := by rw [World.cell?_setCell_other _ _ _ _ (addr_ne (by decide))]; exact h.c0
    c1 := by rw [World.cell?_setCell_other _ _ _ _ (addr_ne (by decide))]; exact h.c1
    c2 := World.cell?_setCell_same _ _ _ h.c2
    fz := fun i => by rw [World.frozen?_setCell]; exact h.fz i
    ne := h.ne
    len := by have := h.len; simp at this; omega
    own := ch.owns hcut (fun k hk => by intro e; rw [own_blk] at hk; subst e; exact h.ne hk)
    rep := fun i hi => by
      have hr := h.rep i (by simp; omega)
      have e1 : (us ++ [v]).getD i undef = us.getD i undef := by simp only [List.getD_eq_getElem?_getD]; rw [List.getElem?_append_left (by omega)]
      have e2 : (ps ++ [x])[i]'(by simp; omega) = ps[i] := List.getElem_append_left hi
      rw [e1, e2] at hr
      exact hr.keep (fun b hb => ⟨ch.block b hb.2.1 hb.2.2.1, hb.1, by simp [hb.2.1], hb.2.2⟩) }

theorem PatAt.len_us {w0 w : World} {S A cap j P k c : Nat} {l : List UInt8} {head : Bool} {ps : List Pm.Pat} {B : Option Addr} {us : List Value} (h : PatAt w0 S A cap j P l head k ps w B c us) : us.length = ps.length := by have := h.own.1; omega

theorem PatAt.cellAt {w0 w : World} {S A cap j P k c g : Nat} {l : List UInt8} {head : Bool} {ps : List Pm.Pat} {us : List Value} (h : PatAt w0 S A cap j P l head k ps w (some ⟨g, 0, none⟩) c us) (i : Nat) (v : Value) (hv : us[i]? = some v) : w.cell? ⟨g, i, none⟩ = some v := by
  have hc := h.own.cells (g := g) rfl i v hv
  have hadd : (⟨g, 0, none⟩ : Addr).add i = ⟨g, i, none⟩ := by unfold Addr.add; split <;> simp_all
  rw [hadd] at hc
  exact hc

/-- At its end: the pattern as it lies. -/
theorem PatAt.pats {w0 w : World} {S A cap j P k c : Nat} {l : List UInt8} {head : Bool} {ps : List Pm.Pat} {B : Option Addr} {us : List Value} (h : PatAt w0 S A cap j P l head k ps w B c us) : RepPats w (fun b => w0.heap.size ≤ b ∧ b < w.heap.size) P head false ps := by
  refine ⟨B, c, ⟨h.base, h.lt⟩, fun hne => ?_, h.c0, h.c1, h.c2⟩
  obtain ⟨g, c0, hB, hg1, hg2⟩ := h.own.form (List.length_pos_iff.2 hne)
  obtain ⟨rfl, _⟩ : B = some ⟨g, 0, none⟩ ∧ True := by cases hB; exact ⟨rfl, trivial⟩
  refine ⟨g, rfl, ⟨hg1, hg2⟩, fun i hi => ⟨us.getD i undef, ?_, (h.rep i hi).keep (fun b hb => ⟨rfl, hb.1, hb.2.1⟩)⟩⟩
  have hl := h.len_us
  exact h.cellAt i _ (by rw [List.getD_eq_getElem?_getD, List.getElem?_eq_getElem (by omega)]; rfl)

theorem PatAt.start {w0 : World} {S A cap j k : Nat} {l : List UInt8} (h : Scan w0 S A cap l k j) (hA : A < w0.heap.size) :
    PatAt w0 S A cap j w0.heap.size l false k [] (w0.alloc (.cells #[.bool false, .bool false, .slice none 0 0] 105)) none 0 [] where
  scan := h.kept (T := fun _ => False) ((Ch.refl _ _).alloc _) id id
  ch := (Ch.refl _ _).alloc _
  old := ⟨World.block_lt_of_cell? w0 _ h.c0, hA⟩
  base := Nat.le_refl _
  lt := by simp
  c0 := World.cell?_alloc_at _ _ _ _ rfl
  c1 := World.cell?_alloc_at _ _ _ _ rfl
  c2 := World.cell?_alloc_at _ _ _ _ rfl
  fz i := World.frozen?_alloc_at _ _ _ _ rfl
  ne := by simp [blk]
  len := by simp
  own := World.ownsRow_nil _ _ _ _
  rep i hi := absurd hi (by simp)

theorem PatAt.headed {w0 w : World} {S A cap j P k c : Nat} {l : List UInt8} {head : Bool} {ps : List Pm.Pat} {B : Option Addr} {us : List Value} (h : PatAt w0 S A cap j P l head k ps w B c us) :
    PatAt w0 S A cap j P l true k ps (w.setCell ⟨P, 0, none⟩ (.bool true)) B c us := by
  have hPS : ¬ P = S := by have := h.base; have := h.old.1; omega
  have hPA : ¬ P = A := by have := h.old.2; have := h.base; omega
  have ch : Ch (· = P) w (w.setCell ⟨P, 0, none⟩ (.bool true)) := (Ch.refl (· = P) w).setCell (p := ⟨P, 0, none⟩) (fun _ => rfl) _
  exact {
    scan := h.scan.kept ch (fun e => hPS e.symm) (fun e => hPA e.symm)
    ch := h.ch.trans' ch (fun i hi e => by have := h.base; omega)
    old := h.old
    base := h.base
    lt := by simp [h.lt]
    c0 := World.cell?_setCell_same _ _ _ h.c0
    c1 := by rw [World.cell?_setCell_other _ _ _ _ (addr_ne (by decide))]; exact h.c1
    c2 := by rw [World.cell?_setCell_other _ _ _ _ (addr_ne (by decide))]; exact h.c2
    fz := fun i => by rw [World.frozen?_setCell]; exact h.fz i
    ne := h.ne
    len := h.len
    own := ch.owns h.own (fun k hk => by rw [own_blk] at hk; intro e; subst e; exact h.ne hk)
    rep := fun i hi => (h.rep i hi).keep (fun b hb => ⟨ch.block b hb.2.1 hb.2.2.1, hb.1, by simp [hb.2.1], hb.2.2⟩) }

theorem PatAt.alloc {w0 w : World} {S A cap j P k c : Nat} {l : List UInt8} {head : Bool} {ps : List Pm.Pat} {B : Option Addr} {us : List Value} (h : PatAt w0 S A cap j P l head k ps w B c us) (o : Obj) : PatAt w0 S A cap j P l head k ps (w.alloc o) B c us :=
  h.moved (h.scan.kept (T := fun _ => False) ((Ch.refl _ _).alloc _) id id) ((Ch.refl _ _).alloc _) h.len

theorem PatAt.drew {w0 w : World} {S A cap j P k c : Nat} {l : List UInt8} {head : Bool} {ps : List Pm.Pat} {B : Option Addr} {us : List Value} (h : PatAt w0 S A cap j P l head k ps w B c us) : PatAt w0 S A cap j P l head k ps w.drew B c us :=
  h.moved h.scan.drew (Ch.refl _ _).drew h.len

/-- Behind an append: the variable's cell as it was, and what the store will leave. -/
theorem PatAt.pushed {w0 w w1 w2 : World} {S A cap j P k c g' c' : Nat} {l : List UInt8} {head : Bool} {ps : List Pm.Pat} {B : Option Addr} {us : List Value} {v : Value} {x : Pm.Pat} (h : PatAt w0 S A cap j P l head k ps w B c us) (hk : ps.length < k)
    (hx : RepPat w (fun b => w0.heap.size ≤ b ∧ b < w.heap.size ∧ b ≠ P ∧ ¬ blk B = some b) v x) (hw1 : Ch (fun _ => False) w w1)
    (hg : w1.grownBy w2 (Value.slice B ps.length c).ownBlock) (hat : (Value.slice B ps.length c).ownBlock = some g' ∨ w1.heap.size ≤ g') (ho : w2.ownsRow w0.heap.size 137 1 (.slice (some ⟨g', 0, none⟩) (ps.length + 1) c') (ps.length + 1) (us ++ [v])) :
    PatAt w0 S A cap j P l head k (ps ++ [x]) (w2.setCell ⟨P, 2, none⟩ (.slice (some ⟨g', 0, none⟩) (ps.length + 1) c')) (some ⟨g', 0, none⟩) c' (us ++ [v]) ∧
      w2.cell? ⟨P, 2, none⟩ = some (.slice B ps.length c) ∧ w2.frozen? ⟨P, 2, none⟩ = false := by
  refine ⟨h.push hk hx hw1 hg hat ho, ?_, ?_⟩
  · rw [own_blk] at hg
    exact hg.cell (hw1.cell_some h.c2 id) (fun e => h.ne e.symm)
  · rw [own_blk] at hg
    exact (hg.frozen_far ⟨P, 2, none⟩ (Nat.lt_of_lt_of_le h.lt hw1.size) (fun e => h.ne e.symm)).trans ((hw1.frozen (p := ⟨P, 2, none⟩) h.lt id).trans (h.fz 2))

section new
variable {w0 w : World} {S A cap j P k c m : Nat} {l : List UInt8} {head : Bool} {ps : List Pm.Pat} {B : Option Addr} {us : List Value}

/-- Blocks that were made behind the pattern's own ones. -/
def Fresh (P : Nat) (B : Option Addr) (m : Nat) : Prop := P < m ∧ ∀ g, blk B = some g → g < m

theorem PatAt.fresh (h : PatAt w0 S A cap j P l head k ps w B c us) : Fresh P B w.heap.size := ⟨h.lt, fun g hg => (h.blk_lt hg).2⟩
theorem Fresh.mono {m' : Nat} (h : Fresh P B m) (hm : m ≤ m') : Fresh P B m' := ⟨Nat.lt_of_lt_of_le h.1 hm, fun g hg => Nat.lt_of_lt_of_le (h.2 g hg) hm⟩

theorem Fresh.ok (h : Fresh P B m) (hb : w0.heap.size ≤ P) {b n : Nat} (h1 : m ≤ b) (h2 : b < n) : w0.heap.size ≤ b ∧ b < n ∧ b ≠ P ∧ ¬ blk B = some b :=
  ⟨by have := h.1; omega, h2, by have := h.1; omega, fun e => by have := h.2 b e; omega⟩

theorem new_one {v : Value} {cl : Pm.Cls} (hf : Fresh P B m) (hb : w0.heap.size ≤ P) (hm : m ≤ w.heap.size) (hr : RepCls w (fun b => m ≤ b ∧ b < w.heap.size) v cl) :
    RepPat (w.alloc (.cells #[v] 132)) (fun b => w0.heap.size ≤ b ∧ b < (w.alloc (.cells #[v] 132)).heap.size ∧ b ≠ P ∧ ¬ blk B = some b) (.iface 127 (ptr w.heap.size)) (.part (.one cl)) :=
  ⟨w.heap.size, v, hf.ok hb hm (by simp), rfl, World.cell?_alloc_at _ _ _ _ rfl, hr.keep fun b hbb => ⟨Below.heap_alloc _ _ _ hbb.2, hf.ok hb hbb.1 (by simp; omega)⟩⟩

theorem new_rep {v : Value} {cl : Pm.Cls} {t : Int} (h : PatAt w0 S A cap j P l head k ps w B c us) (hr : RepCls w (fun b => w0.heap.size ≤ b ∧ b < w.heap.size ∧ b ≠ P ∧ ¬ blk B = some b) v cl) :
    RepPat (w.alloc (.cells #[.int .i64 t, v] 143)) (fun b => w0.heap.size ≤ b ∧ b < (w.alloc (.cells #[.int .i64 t, v] 143)).heap.size ∧ b ≠ P ∧ ¬ blk B = some b) (.iface 141 (ptr w.heap.size)) (.part (.rep t cl)) :=
  ⟨w.heap.size, v, h.fresh.ok h.base (Nat.le_refl _) (by simp), rfl, World.cell?_alloc_at _ _ _ _ rfl, World.cell?_alloc_at _ _ _ _ rfl, hr.keep fun b hbb => ⟨Below.heap_alloc _ _ _ hbb.2.1, hbb.1, by simp; omega, hbb.2.2⟩⟩

theorem new_num {n : Int} (h : PatAt w0 S A cap j P l head k ps w B c us) :
    RepPat (w.alloc (.cells #[.int .i64 n] 123)) (fun b => w0.heap.size ≤ b ∧ b < (w.alloc (.cells #[.int .i64 n] 123)).heap.size ∧ b ≠ P ∧ ¬ blk B = some b) (.iface 121 (ptr w.heap.size)) (.part (.num n)) :=
  ⟨w.heap.size, h.fresh.ok h.base (Nat.le_refl _) (by simp), rfl, World.cell?_alloc_at _ _ _ _ rfl⟩

theorem new_brace {s e : Int} (h : PatAt w0 S A cap j P l head k ps w B c us) :
    RepPat (w.alloc (.cells #[.int .i64 s, .int .i64 e] 126)) (fun b => w0.heap.size ≤ b ∧ b < (w.alloc (.cells #[.int .i64 s, .int .i64 e] 126)).heap.size ∧ b ≠ P ∧ ¬ blk B = some b) (.iface 124 (ptr w.heap.size)) (.part (.brace s e)) :=
  ⟨w.heap.size, h.fresh.ok h.base (Nat.le_refl _) (by simp), rfl, World.cell?_alloc_at _ _ _ _ rfl, World.cell?_alloc_at _ _ _ _ rfl⟩

theorem new_chr {n : Int} : RepCls (w.alloc (.cells #[.int .i64 n] 146)) (fun b => w.heap.size ≤ b ∧ b < (w.alloc (.cells #[.int .i64 n] 146)).heap.size) (.iface 144 (ptr w.heap.size)) (.atom (.chr n)) :=
  ⟨w.heap.size, ⟨Nat.le_refl _, by simp⟩, rfl, World.cell?_alloc_at _ _ _ _ rfl⟩

theorem new_cap {s : Nat} {pl : List Pm.Part} (hf : Fresh P B m) (hb : w0.heap.size ≤ P) (hm : m ≤ w.heap.size) (hr : RepParts w (fun b => m ≤ b ∧ b < w.heap.size) s false false pl) :
    RepPat (w.alloc (.cells #[.iface 95 (ptr s)] 139)) (fun b => w0.heap.size ≤ b ∧ b < (w.alloc (.cells #[.iface 95 (ptr s)] 139)).heap.size ∧ b ≠ P ∧ ¬ blk B = some b) (.iface 136 (ptr w.heap.size)) (.cap pl) :=
  ⟨w.heap.size, s, hf.ok hb hm (by simp), rfl, World.cell?_alloc_at _ _ _ _ rfl, hr.keep fun b hbb => ⟨Below.heap_alloc _ _ _ hbb.2, hf.ok hb hbb.1 (by simp; omega)⟩⟩
end new

theorem Tryf.info137 : (Tryf.prog.info? 137).map (fun i => (i.zero, i.size, i.bytes)) = some (some .nilIface, 1, 16) := by kernel_rfl

end Go.Proofs.YtkbdngcbifonkaaFmt
