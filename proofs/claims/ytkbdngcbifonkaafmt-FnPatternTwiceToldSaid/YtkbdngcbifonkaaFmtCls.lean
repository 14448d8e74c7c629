/-
  CLASSES AND SETS ARE READ: parseClass, parseClassSet; what they lay in memory.
-/
import Derived.Test.YtkbdngcbifonkaaFmtScan
import Derived.Test.YtkbdngcbifonkaaFmtRep
import Derived.KernelRfl
import Derived.ScopeJumps
import Derived.WalkMore
import Derived.Deep.LoopGhost
import Derived.Deep.AppendLies
import Derived.Deep.RegionLaw
import Derived.Deep.DeepMust
namespace Go.Proofs.YtkbdngcbifonkaaFmt
set_option linter.all false
open Go.RowKit

theorem ta_chr (v : Value) (w : World) : (Instr.typeAssert (.iface 144 v) 129 144 true).run Tryf.prog w = .ok (.tuple #[v, .bool true]) w := by kernel_rfl
theorem ta_chr_not (v : Value) (w : World) : (Instr.typeAssert (.iface 166 v) 129 144 true).run Tryf.prog w = .ok (.tuple #[.pointer none, .bool false]) w := by kernel_rfl

theorem range_matches (b x y : Nat) (n m ch : Int) (w : World) (h0 : w.cell? ⟨b, 0, none⟩ = some (.iface 144 (ptr x))) (h1 : w.cell? ⟨b, 1, none⟩ = some (.iface 144 (ptr y)))
    (hx : w.cell? ⟨x, 0, none⟩ = some (.int .i64 n)) (hy : w.cell? ⟨y, 0, none⟩ = some (.int .i64 m)) :
    Calls Tryf.prog 87 #[ptr b, .int .i64 ch] w fun e w' => e = .returned (.bool (decide (n ≤ ch ∧ ch ≤ m))) ∧ w = w' := by
  have ta := ta_chr
  by_cases g1 : n ≤ ch
  · have g1' : decide (n ≤ ch) = true := decide_eq_true g1
    go_enter Tryf.func87, Tryf.ntmps87
    go_wp2
    go_ret
    exact ⟨by simp [g1], rfl⟩
  · have g1' : decide (n ≤ ch) = false := decide_eq_false g1
    go_enter Tryf.func87, Tryf.ntmps87
    go_wp2
    go_ret
    exact ⟨by simp, rfl⟩

theorem parseClass_pct {w : World} {S A cap k j : Nat} {l : List UInt8} (h : Scan w S A cap l k j) (hk : k + 1 < l.length) (hp : at_ l k = 37) (al : Bool) :
    Calls Tryf.prog 55 #[ptr S, .bool al] w fun e w' => ∃ v, e = .returned v ∧ RepAtom w' (fun b => w.heap.size ≤ b ∧ b < w'.heap.size) v (.single (at_ l (k + 1))) ∧ Scan w' S A cap l (k + 2) j ∧ Ch (· = S) w w' := by
  go_enter Tryf.func55, Tryf.ntmps55
  go_wp2_with fail
  refine (scan_next h (by omega)).mono ?_
  rintro e w1 ⟨rfl, hs, hc, hz⟩
  rw [hp]
  have haf : after l k = k + 1 := by simp only [after]; omega
  rw [haf] at hs
  clear h haf hp
  have HS := Lib.hid hs
  have HZ := Lib.hid hz
  clear hs hz
  go_wp2_with fail
  refine (scan_next HS.out (by omega)).mono ?_
  rintro e w2 ⟨rfl, hs2, hc2, hz2⟩
  have haf : after l (k + 1) = k + 2 := by simp only [after]; omega
  rw [haf] at hs2
  clear haf
  have HS2 := Lib.hid hs2
  have HZ2 := Lib.hid hz2
  clear hs2 hz2 HS
  go_wp2
  go_ret
  have z1 := HZ.out
  have z2 := HZ2.out
  exact ⟨_, rfl, ⟨w2.heap.size, ⟨by omega, by simp⟩, rfl, World.cell?_alloc_new w2 _ _ _⟩, HS2.out.kept (T := fun _ => False) ((Ch.refl _ _).alloc _) id id, (hc.trans hc2).alloc _⟩

theorem parseClass_dot {w : World} {S A cap k j : Nat} {l : List UInt8} (h : Scan w S A cap l k j) (hk : k < l.length) (hp : at_ l k = 46) :
    Calls Tryf.prog 55 #[ptr S, .bool true] w fun e w' => ∃ v, e = .returned v ∧ RepCls w' (fun b => w.heap.size ≤ b ∧ b < w'.heap.size) v .dot ∧ Scan w' S A cap l (k + 1) j ∧ Ch (· = S) w w' := by
  go_enter Tryf.func55, Tryf.ntmps55
  go_wp2_with fail
  refine (scan_next h (by omega)).mono ?_
  rintro e w1 ⟨rfl, hs, hc, hz⟩
  rw [hp]
  have haf : after l k = k + 1 := by simp only [after]; omega
  rw [haf] at hs
  clear h haf hp
  have HS := Lib.hid hs
  clear hs hz
  go_wp2
  go_ret
  exact ⟨_, rfl, ⟨_, rfl⟩, HS.out.kept (T := fun _ => False) ((Ch.refl _ _).alloc _) id id, hc.alloc _⟩

theorem parseClass_chr {w : World} {S A cap k j : Nat} {l : List UInt8} (h : Scan w S A cap l k j) (hk : k < l.length) (al : Bool) (g1 : (at_ l k == 37) = false) (g2 : (at_ l k == 46) = false) (g3 : (at_ l k == 91) = false) (g4 : (at_ l k == -1) = false) :
    Calls Tryf.prog 55 #[ptr S, .bool al] w fun e w' => ∃ v, e = .returned v ∧ RepAtom w' (fun b => w.heap.size ≤ b ∧ b < w'.heap.size) v (.chr (at_ l k)) ∧ Scan w' S A cap l (k + 1) j ∧ Ch (· = S) w w' := by
  go_enter Tryf.func55, Tryf.ntmps55
  go_wp2_with fail
  refine (scan_next h (by omega)).mono ?_
  rintro e w1 ⟨rfl, hs, hc, hz⟩
  have haf : after l k = k + 1 := by simp only [after]; omega
  rw [haf] at hs
  clear h haf
  have HS := Lib.hid hs
  have HZ := Lib.hid hz
  clear hs hz
  go_wp2
  go_ret
  have z1 := HZ.out
  exact ⟨_, rfl, ⟨w1.heap.size, ⟨by omega, by simp⟩, rfl, World.cell?_alloc_new w1 _ _ _⟩, HS.out.kept (T := fun _ => False) ((Ch.refl _ _).alloc _) id id, hc.alloc _⟩

/-- A part of a set at place k, and the place behind it. -/
def atomAt (l : List UInt8) (k : Nat) : Option (Pm.Atom × Nat) :=
  if at_ l k = 37 then (if k + 1 < l.length then some (.single (at_ l (k + 1)), k + 2) else none)
  else if at_ l k = 46 ∨ at_ l k = 91 ∨ at_ l k = -1 then none
  else some (.chr (at_ l k), k + 1)

theorem at_lt {l : List UInt8} {k : Nat} (h : ¬ at_ l k = -1) : k < l.length := by
  unfold at_ at h
  split at h
  · assumption
  · exact absurd rfl h

theorem atomAt_lt {l : List UInt8} {k k' : Nat} {a : Pm.Atom} (h : atomAt l k = some (a, k')) : k < l.length ∧ k < k' ∧ k' ≤ l.length := by
  have h1 : ¬ at_ l k = -1 := fun e => by simp [atomAt, e] at h
  have hl := at_lt h1
  unfold atomAt at h
  split at h
  · split at h
    · cases h; omega
    · cases h
  · split at h
    · cases h
    · cases h; omega

/-- What stands in a set from place k on, behind parts that are read, 'r': a range is open. -/
def setGo (l : List UInt8) : Nat → Nat → List Pm.Elem → Bool → Option (List Pm.Elem × Nat)
  | 0, _, _, _ => none
  | f + 1, k, es, r =>
    if at_ l k = 93 then (if es ≠ [] ∧ r = false then some (es, k + 1) else none)
    else if at_ l k = 45 then (if es ≠ [] ∧ r = false then setGo l f (k + 1) es true else none)
    else match atomAt l k with
      | none => none
      | some (a, k') =>
        if r then (match es with | [.atom b] => setGo l f k' [.range b a] false | _ => none)
        else setGo l f k' (es ++ [.atom a]) false

theorem RepAtom.form {w : World} {ok : Nat → Prop} {v : Value} {a : Pm.Atom} (h : RepAtom w ok v a) : ∃ u x, v = .iface u x := by
  cases a with
  | chr n => obtain ⟨b, _, hv, _⟩ := h; exact ⟨_, _, hv⟩
  | single n => obtain ⟨b, _, hv, _⟩ := h; exact ⟨_, _, hv⟩

theorem parseClass_atom {w : World} {S A cap k k' j : Nat} {l : List UInt8} {a : Pm.Atom} (h : Scan w S A cap l k j) (ha : atomAt l k = some (a, k')) (al : Bool) :
    Calls Tryf.prog 55 #[ptr S, .bool al] w fun e w' => ∃ u x, e = .returned (.iface u x) ∧ RepAtom w' (fun b => w.heap.size ≤ b ∧ b < w'.heap.size) (.iface u x) a ∧ Scan w' S A cap l k' j ∧ Ch (· = S) w w' := by
  have hk := (atomAt_lt ha).1
  refine Calls.mono (R := fun e w' => ∃ v, e = .returned v ∧ RepAtom w' (fun b => w.heap.size ≤ b ∧ b < w'.heap.size) v a ∧ Scan w' S A cap l k' j ∧ Ch (· = S) w w') ?_ ?_
  · unfold atomAt at ha
    split at ha
    · rename_i h37
      split at ha
      · rename_i hk1
        cases ha
        exact parseClass_pct h hk1 h37 al
      · cases ha
    · split at ha
      · cases ha
      · rename_i h37 hno
        cases ha
        simp only [not_or] at hno
        exact parseClass_chr h hk al (beq_no h37) (beq_no hno.1) (beq_no hno.2.1) (beq_no hno.2.2)
  · rintro e w' ⟨v, he, hr, hs, hc⟩
    obtain ⟨u, x, rfl⟩ := hr.form
    exact ⟨u, x, he, hr, hs, hc⟩

theorem Scan.drew {w : World} {S A cap k j : Nat} {l : List UInt8} (h : Scan w S A cap l k j) : Scan w.drew S A cap l k j := ⟨h.c0, h.c1, h.c2, h.c3, h.c4, h.fz, h.ne, h.len, h.byte⟩

/-- A set that is read: its block C, what it owns. -/
structure SetAt (w0 : World) (S A cap j C : Nat) (l : List UInt8) (neg : Bool) (k : Nat) (es : List Pm.Elem) (w : World) (g c : Nat) (us : List Value) : Prop where
  scan : Scan w S A cap l k j
  ch : Ch (· = S) w0 w
  old : S < w0.heap.size ∧ A < w0.heap.size
  base : w0.heap.size < C
  lt : C < w.heap.size
  c0 : w.cell? ⟨C, 0, none⟩ = some (.bool neg)
  c1 : w.cell? ⟨C, 1, none⟩ = some (.slice (some ⟨g, 0, none⟩) es.length c)
  f0 : w.frozen? ⟨C, 0, none⟩ = false
  f1 : w.frozen? ⟨C, 1, none⟩ = false
  ne : ¬ g = C
  len : es.length ≤ k
  own : w.ownsRow w0.heap.size 129 1 (.slice (some ⟨g, 0, none⟩) es.length c) es.length us
  rep : ∀ i (h : i < es.length), RepElem w (fun b => w0.heap.size ≤ b ∧ b < w.heap.size ∧ b ≠ C ∧ b ≠ g) (us.getD i undef) es[i]

theorem own_g {w : World} {base : Nat} {e : TypeId} {size g n c m : Nat} {xs : List Value} (h : w.ownsRow base e size (.slice (some ⟨g, 0, none⟩) n c) m xs) : base ≤ g ∧ g < w.heap.size := h.lt g rfl

/-- An owned row, shortened. -/
theorem own_cut {w : World} {base : Nat} {e : TypeId} {g n c m : Nat} {xs : List Value} (h : w.ownsRow base e 1 (.slice (some ⟨g, 0, none⟩) n c) n xs) (hm : m ≤ n) : w.ownsRow base e 1 (.slice (some ⟨g, 0, none⟩) m c) m (xs.take m) := by
  obtain ⟨h1, h2⟩ := h
  refine ⟨by simp; omega, .inr ?_⟩
  rcases h2 with ⟨h2, _⟩ | ⟨g', cap', cur, hv, hb, hg, hn, hc, hs, ht⟩
  · cases h2
  · cases hv
    refine ⟨g, c, cur, rfl, hb, hg, by omega, hc, hs, ?_⟩
    rw [← ht, List.take_take]
    congr 1
    omega

/-- What a step of the scanner leaves of a set that is read. -/
theorem SetAt.moved {w0 w w' : World} {S A cap j C k k' g c : Nat} {l : List UInt8} {neg : Bool} {es : List Pm.Elem} {us : List Value} (h : SetAt w0 S A cap j C l neg k es w g c us)
    (hs : Scan w' S A cap l k' j) (hc : Ch (· = S) w w') (hk : es.length ≤ k') : SetAt w0 S A cap j C l neg k' es w' g c us := by
  have hCS : ¬ C = S := by have := h.base; have := h.old.1; omega
  have hgS : ¬ g = S := by have := (own_g h.own).1; have := h.old.1; omega
  exact {
    scan := hs
    ch := h.ch.trans hc
    old := h.old
    base := h.base
    lt := Nat.lt_of_lt_of_le h.lt hc.size
    c0 := hc.cell_some h.c0 hCS
    c1 := hc.cell_some h.c1 hCS
    f0 := (hc.frozen (p := ⟨C, 0, none⟩) h.lt hCS).trans h.f0
    f1 := (hc.frozen (p := ⟨C, 1, none⟩) h.lt hCS).trans h.f1
    ne := h.ne
    len := hk
    own := hc.owns h.own (fun k hk => by cases hk; exact hgS)
    rep := fun i hi => (h.rep i hi).keep (fun b hb => ⟨hc.block b hb.2.1 (by have := h.old.1; omega), hb.1, Nat.lt_of_lt_of_le hb.2.1 hc.size, hb.2.2⟩) }

/-- What an append of one part leaves. -/
theorem SetAt.push {w0 w w1 w2 : World} {S A cap j C k g c g' c' : Nat} {l : List UInt8} {neg : Bool} {es : List Pm.Elem} {us : List Value} {v : Value} {x : Pm.Elem} (h : SetAt w0 S A cap j C l neg k es w g c us) (hk : es.length < k)
    (hx : RepElem w (fun b => w0.heap.size ≤ b ∧ b < w.heap.size ∧ b ≠ C ∧ b ≠ g) v x) (hw1 : Ch (fun _ => False) w w1)
    (hg : w1.grownBy w2 (some g)) (hat : some g = some g' ∨ w1.heap.size ≤ g') (ho : w2.ownsRow w0.heap.size 129 1 (.slice (some ⟨g', 0, none⟩) (es.length + 1) c') (es.length + 1) (us ++ [v])) :
    SetAt w0 S A cap j C l neg k (es ++ [x]) (w2.setCell ⟨C, 1, none⟩ (.slice (some ⟨g', 0, none⟩) (es.length + 1) c')) g' c' (us ++ [v]) := by
  have hC := h.lt
  have hCS : ¬ C = S := by have := h.base; have := h.old.1; omega
  have hgg := own_g h.own
  have hgS : ¬ g = S := by have := h.old.1; omega
  have hgA : ¬ g = A := by have := h.old.2; omega
  have hCA : ¬ C = A := by have := h.old.2; have := h.base; omega
  have s1 := hw1.size
  have s2 := hg.size
  have hne : ¬ g' = C := by
    rcases hat with e | e
    · cases e; exact h.ne
    · omega
  have ch2 : Ch (· = g) w w2 := (hw1.mono (T' := (· = g)) (fun _ _ h => h.elim)).grown hg (fun k hk _ => by cases hk; rfl)
  have ch3 : Ch (fun b => b = g ∨ b = C) w (w2.setCell ⟨C, 1, none⟩ (.slice (some ⟨g', 0, none⟩) (es.length + 1) c')) := (ch2.mono (fun _ _ h => .inl h)).setCell (p := ⟨C, 1, none⟩) (fun _ => .inr rfl) _
  have hus : us.length = es.length := by have := h.own.1; omega
  have hnS : ¬ (S = g ∨ S = C) := by rintro (e | e); exact hgS e.symm; exact hCS e.symm
  have hnA : ¬ (A = g ∨ A = C) := by rintro (e | e); exact hgA e.symm; exact hCA e.symm
  have hcC : w2.cell? ⟨C, 1, none⟩ = some (.slice (some ⟨g, 0, none⟩) es.length c) := ch2.cell_some h.c1 (fun e => h.ne e.symm)
  exact {
    scan := h.scan.kept ch3 hnS hnA
    ch := h.ch.trans' ch3 (fun i hi e => by have := h.base; omega)
    old := h.old
    base := h.base
    lt := by simp; omega
    c0 := by rw [World.cell?_setCell_other _ _ _ _ (addr_ne (by decide))]; exact ch2.cell_some h.c0 (fun e => h.ne e.symm)
    c1 := by rw [List.length_append]; exact World.cell?_setCell_same _ _ _ hcC
    f0 := by rw [World.frozen?_setCell]; exact (ch2.frozen (p := ⟨C, 0, none⟩) hC (fun e => h.ne e.symm)).trans h.f0
    f1 := by rw [World.frozen?_setCell]; exact (ch2.frozen (p := ⟨C, 1, none⟩) hC (fun e => h.ne e.symm)).trans h.f1
    ne := hne
    len := by simp; omega
    own := by rw [List.length_append]; exact Ch.owns (T := (· = C)) ((Ch.refl (· = C) w2).setCell (p := ⟨C, 1, none⟩) (fun _ => rfl) _) ho (fun k hk => by cases hk; exact hne)
    rep := fun i hi => by
      have key : Keeps w (w2.setCell ⟨C, 1, none⟩ (.slice (some ⟨g', 0, none⟩) (es.length + 1) c')) (fun b => w0.heap.size ≤ b ∧ b < w.heap.size ∧ b ≠ C ∧ b ≠ g) (fun b => w0.heap.size ≤ b ∧ b < (w2.setCell ⟨C, 1, none⟩ (.slice (some ⟨g', 0, none⟩) (es.length + 1) c')).heap.size ∧ b ≠ C ∧ b ≠ g') := fun b hb =>
        ⟨ch3.block b hb.2.1 (by rintro (e | e); exact hb.2.2.2 e; exact hb.2.2.1 e), hb.1, by simp; omega, hb.2.2.1, by
          rcases hat with e | e
          · cases e; exact hb.2.2.2
          · omega⟩
      rcases Nat.lt_or_ge i es.length with hlt | hge
      · have e1 : (us ++ [v]).getD i undef = us.getD i undef := by simp only [List.getD_eq_getElem?_getD]; rw [List.getElem?_append_left (by omega)]
        have e2 : (es ++ [x])[i] = es[i] := List.getElem_append_left hlt
        rw [e1, e2]
        exact (h.rep i hlt).keep key
      · have hi' : i = es.length := by simp at hi; omega
        subst hi'
        have e1 : (us ++ [v]).getD es.length undef = v := by simp [List.getD_eq_getElem?_getD, ← hus]
        have e2 : (es ++ [x])[es.length] = x := by simp
        rw [e1, e2]
        exact hx.keep key }

theorem Tryf.info129 : (Tryf.prog.info? 129).map (fun i => (i.zero, i.size, i.bytes)) = some (some .nilIface, 1, 16) := by kernel_rfl

end Go.Proofs.YtkbdngcbifonkaaFmt
