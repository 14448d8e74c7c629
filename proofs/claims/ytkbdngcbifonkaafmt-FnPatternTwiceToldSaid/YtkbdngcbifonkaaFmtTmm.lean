/-
  spec.match at \x01(.+)%1\x02: its items, what it gives.
-/
import Derived.Test.YtkbdngcbifonkaaFmtTmb
import Derived.Test.YtkbdngcbifonkaaFmtTmc
import Derived.Test.YtkbdngcbifonkaaFmtTwp
import Derived.Laws.Strings
namespace Go.Proofs.YtkbdngcbifonkaaFmt
set_option linter.all false
open Go.RowKit

set_option maxRecDepth 100000 in
set_option maxHeartbeats 4000000 in
theorem match_3 {w : World} {M I ic D0 D2 D5 : Nat} {s : ByteArray} {L : Int} {p A B c : Nat} {cost : Int} {t : Option (Nat × Nat × Nat)} (HM : Hid (MatAt w M I ic D0 D2 D5 s L)) (hL : -1000000 ≤ L ∧ L ≤ 1000000) (hcs : 0 ≤ cost) (hic : 6 ≤ ic) (b0 : w.cell? ⟨B, 0, none⟩ = some (.int .i64 (A : Int))) (b1 : w.cell? ⟨B, 1, none⟩ = some (.int .i64 (-1))) (hB : ¬ B = M) (hc : 1 ≤ c) (hp : p ≤ 1000) (hA : A ≤ p)
    (HR : Hid (∀ w1 B' c', MatAt w1 M I ic D0 D2 D5 s (L - 1) → Ch (· = M) w w1 → w1.cell? ⟨B', 0, none⟩ = some (.int .i64 (A : Int)) → w1.cell? ⟨B', 1, none⟩ = some (.int .i64 ((p - A : Nat) : Int)) → ¬ B' = M → 1 ≤ c' → Calls Tryf.prog 34 #[ptr M, .int .i64 4, .int .i64 (p : Int), .slice (some ⟨B', 0, none⟩) 1 c'] w1 (MPost w1 M I ic D0 D2 D5 s (L - 1) cost t))) :
    Calls Tryf.prog 34 #[ptr M, .int .i64 3, .int .i64 (p : Int), .slice (some ⟨B, 0, none⟩) 1 c] w (MPost w M I ic D0 D2 D5 s L (cost + 1) t) := by
  have m1 := HM.out.m1
  have m2 := HM.out.m2
  have mf := HM.out.f2
  have ml := HM.out.lt
  have nI := HM.out.nI
  have hil := World.block_lt_of_cell? w _ (HM.out.it.cells 0 _ rfl)
  have hwL : IntKind.i64.wrap (L - 1) = L - 1 := by rw [IntKind.wrap_i64]; omega
  have HML := Lib.hid (HM.out.left (L - 1))
  have HCL : Hid (Ch (· = M) w (w.setCell ⟨M, 2, none⟩ (.int .i64 (L - 1)))) := Lib.hid ((Ch.refl (· = M) w).setCell (p := ⟨M, 2, none⟩) (fun _ => rfl) _)
  have i0 : w.cell? ⟨I, 18, none⟩ = some (.int .i64 3) := HM.out.it.cells 18 _ rfl
  have i1 : w.cell? ⟨I, 19, none⟩ = some (.slice none 0 0) := HM.out.it.cells 19 _ rfl
  have i2 : w.cell? ⟨I, 20, none⟩ = some (.int .u8 0) := HM.out.it.cells 20 _ rfl
  have i3 : w.cell? ⟨I, 21, none⟩ = some (.int .i64 1) := HM.out.it.cells 21 _ rfl
  have i4 : w.cell? ⟨I, 22, none⟩ = some (.int .u8 0) := HM.out.it.cells 22 _ rfl
  have i5 : w.cell? ⟨I, 23, none⟩ = some (.int .u8 0) := HM.out.it.cells 23 _ rfl
  have hbl := World.block_lt_of_cell? w _ b0
  cases hl : decide (L - 1 < 0) with
  | true =>
    go_enter Tryf.func34, Tryf.ntmps34
    go_wp2_with fail
    refine bodyPost_ret (results_tmp2 rfl _ _ _) rfl ?_
    exact MPost.out HML.out HCL.out (by omega) (.inl (of_decide_eq_true hl))
  | false =>
    have hl2 := of_decide_eq_false hl
    go_enter Tryf.func34, Tryf.ntmps34
    go_wp2_with fail
    have hch : Ch (· = M) w ((w.setCell ⟨M, 2, none⟩ (.int .i64 (L - 1))).alloc (.cells #[.int .i64 3, .slice none 0 0, .int .u8 0, .int .i64 1, .int .u8 0, .int .u8 0] 114)) := HCL.out.alloc _
    refine close_reg (L := L - 1) (X := w.heap.size) (cost := cost) (t := t) (Lib.hid (HML.out.moved ((Ch.refl _ _).alloc _))) (World.cell?_alloc_at _ _ _ _ (by simp)) (hch.cell_some b0 hB) (hch.cell_some b1 hB) hB hc hp hA (Lib.hid fun w1 B' c' h1 h2 h3 h4 h5 h6 => HR.out w1 B' c' h1 (hch.trans h2) h3 h4 h5 h6) ?_
    intro w3 v v2 _ _ _ _ _ _ _ _ _ _ _ _ _ _ _ _ _ _ _ _ _ _ _ _ _ _ _ _ hpost
    have HX := Lib.hid (MPost.step hpost hch (Int.le_refl _))
    clear hpost
    simp only [Exit.then]
    go_wp2_with fail
    refine bodyPost_ret (results_tmp2 rfl _ _ _) rfl ?_
    exact HX.out

/-- How many bytes from a place on are in a set. -/
def runOf (f : Nat → Bool) : List UInt8 → Nat
  | [] => 0
  | b :: r => if f b.toNat then runOf f r + 1 else 0

theorem runOf_le (f : Nat → Bool) : ∀ l : List UInt8, runOf f l ≤ l.length
  | [] => Nat.le_refl _
  | b :: r => by
    have := runOf_le f r
    unfold runOf
    split
    · simp only [List.length_cons]; omega
    · omega

theorem runOf_at (f : Nat → Bool) {s : List UInt8} {i : Nat} (h : i < s.length) : runOf f (s.drop i) = if f (s[i].toNat) then runOf f (s.drop (i + 1)) + 1 else 0 := by
  rw [List.drop_eq_getElem_cons h, runOf]

/-- What a call of 'repeated' gives. -/
def RPost (w : World) (M I ic D0 D2 D5 : Nat) (s : ByteArray) (L : Int) (cost : Int) (t : Option (Nat × Nat × Nat)) (e : Ending) (w' : World) : Prop :=
  ∃ (L' : Int) (t' : Option (Nat × Nat × Nat)) (v v2 : Value), MatAt w' M I ic D0 D2 D5 s L' ∧ Ch (· = M) w w' ∧ L - cost ≤ L' ∧ L' ≤ L ∧ e = .returned (.tuple #[v, v2]) ∧ MRes w' M t' (.tuple #[v, v2]) ∧ (0 ≤ L' → t' = t) ∧ (L' < 0 → t' = none)

/-- The contract of 'has' at an item. -/
def HasIs (w : World) (M I ic D0 D2 D5 : Nat) (s : ByteArray) (L : Int) (iv : Value) (f : Nat → Bool) : Prop :=
  ∀ w1 (q : Nat), q ≤ 2000 → MatAt w1 M I ic D0 D2 D5 s L → Ch (· = M) w w1 → Calls Tryf.prog 64 #[ptr M, iv, .int .i64 (q : Int)] w1 fun e w' => e = .returned (.bool (match s.data.toList[q]? with | some b => f b.toNat | none => false)) ∧ Ch (fun _ => False) w1 w'

theorem runOf_all : ∀ l : List UInt8, runOf (fun _ => true) l = l.length
  | [] => rfl
  | b :: r => by simp [runOf, runOf_all r]

theorem has_is {w : World} {M I ic D0 D2 D5 D : Nat} {s : ByteArray} {L : Int} {a2 : Int} {f : Nat → Bool} (hs : s.size ≤ 1000) (hp : ∀ j (h : j < s.size), s[j].toNat < 128) (hD : ∀ w1, MatAt w1 M I ic D0 D2 D5 s L → SetIs w1 D f) :
    HasIs w M I ic D0 D2 D5 s L (.agg #[.int .i64 1, .slice (some ⟨D, 0, none⟩) 128 128, .int .u8 a2, .int .i64 0, .int .u8 0, .int .u8 0]) f := by
  intro w1 q hq hm hch
  have hlen : s.data.toList.length = s.size := Array.length_toList
  by_cases h : q < s.size
  · have e : s.data.toList[q]? = some s[q] := by
      rw [List.getElem?_eq_getElem (by omega), Array.getElem_toList]
      rfl
    rw [e]
    exact has_in (Lib.hid hm) (by omega) h rfl (hp q h) (Lib.hid (hD w1 hm))
  · have e : s.data.toList[q]? = none := List.getElem?_eq_none (by omega)
    rw [e]
    exact has_no (Lib.hid hm) (by omega) (by omega)

set_option maxRecDepth 100000 in
set_option maxHeartbeats 4000000 in
/-- One byte of a class. -/
theorem repeated_one {w : World} {M I ic D0 D2 D5 D k : Nat} {s : ByteArray} {L cost : Int} {p : Nat} {cv : Value} {f : Nat → Bool} {t : Option (Nat × Nat × Nat)} {T : Option (Nat × Nat × Nat)} (hT0 : runOf f (s.data.toList.drop p) = 0 → T = none) (hT1 : 0 < runOf f (s.data.toList.drop p) → T = t) (HM : Hid (MatAt w M I ic D0 D2 D5 s L)) (hs : s.size ≤ 1000) (hp : p ≤ 1000) (hk : k < 6) (hic : 6 ≤ ic) (hcs : 0 ≤ cost)
    (HH : Hid (HasIs w M I ic D0 D2 D5 s L (.agg #[.int .i64 1, .slice (some ⟨D, 0, none⟩) 128 128, .int .u8 32, .int .i64 0, .int .u8 0, .int .u8 0]) f))
    (i0 : w.cell? ⟨I, k * 6, none⟩ = some (.int .i64 1)) (i1 : w.cell? ⟨I, k * 6 + 1, none⟩ = some (.slice (some ⟨D, 0, none⟩) 128 128)) (i2 : w.cell? ⟨I, k * 6 + 2, none⟩ = some (.int .u8 32)) (i3 : w.cell? ⟨I, k * 6 + 3, none⟩ = some (.int .i64 0)) (i4 : w.cell? ⟨I, k * 6 + 4, none⟩ = some (.int .u8 0)) (i5 : w.cell? ⟨I, k * 6 + 5, none⟩ = some (.int .u8 0))
    (HR : Hid (0 < runOf f (s.data.toList.drop p) → ∀ w1, MatAt w1 M I ic D0 D2 D5 s L → Ch (· = M) w w1 → Calls Tryf.prog 34 #[ptr M, .int .i64 ((k : Int) + 1), .int .i64 ((p : Int) + 1), cv] w1 (MPost w1 M I ic D0 D2 D5 s L cost t))) :
    Calls Tryf.prog 48 #[ptr M, .int .i64 (k : Int), .int .i64 (p : Int), cv] w (RPost w M I ic D0 D2 D5 s L cost T) := by
  have m1 := HM.out.m1
  have ml := HM.out.lt
  have hil := World.block_lt_of_cell? w _ i0
  have k0 : (0 : Int) ≤ (k : Int) := by omega
  have k1 : (k : Int) < 6 := by omega
  have hwk : IntKind.i64.wrap ((k : Int) + 1) = (k : Int) + 1 := by rw [IntKind.wrap_i64]; omega
  have hwp : IntKind.i64.wrap ((p : Int) + 1) = (p : Int) + 1 := by rw [IntKind.wrap_i64]; omega
  have hlen : s.data.toList.length = s.size := Array.length_toList
  have HLEN := Lib.hid hlen
  clear hlen
  generalize hsrc : s.data.toList = src at *
  have HSRC := Lib.hid hsrc
  clear hsrc
  have HM1 : Hid (MatAt (w.alloc (.cells #[.int .i64 1, .slice (some ⟨D, 0, none⟩) 128 128, .int .u8 32, .int .i64 0, .int .u8 0, .int .u8 0] 114)) M I ic D0 D2 D5 s L) := Lib.hid (HM.out.moved ((Ch.refl _ _).alloc _))
  go_enter Tryf.func48, Tryf.ntmps48
  go_wp2_with fail
  go_loopg [12] (s.size + 1) (fun kk s12 wr => ∃ n : Nat, s12 = .int .i64 (n : Int) ∧ kk = s.size + 1 - n ∧ n ≤ s.size ∧ Ch (fun _ => False) (w.alloc (.cells #[.int .i64 1, .slice (some ⟨D, 0, none⟩) 128 128, .int .u8 32, .int .i64 0, .int .u8 0, .int .u8 0] 114)) wr ∧ runOf f (src.drop p) = n + runOf f (src.drop (p + n)))
  case atStart => exact ⟨0, rfl, rfl, Nat.zero_le _, .refl _ _, by simp⟩
  case round =>
    obtain ⟨n, rfl, rfl, hn, hch, hrun⟩ := hrel
    have x0 := hch.cell_some (World.cell?_alloc_at _ _ _ 0 rfl) id
    have x1 := hch.cell_some (World.cell?_alloc_at _ _ _ 1 rfl) id
    have x2 := hch.cell_some (World.cell?_alloc_at _ _ _ 2 rfl) id
    have x3 := hch.cell_some (World.cell?_alloc_at _ _ _ 3 rfl) id
    have x4 := hch.cell_some (World.cell?_alloc_at _ _ _ 4 rfl) id
    have x5 := hch.cell_some (World.cell?_alloc_at _ _ _ 5 rfl) id
    have HMR := Lib.hid (HM1.out.moved hch)
    have HCR : Hid (Ch (· = M) w wr) := Lib.hid ((((Ch.refl (fun _ => False) w).alloc _).trans hch).mono fun _ _ h => h.elim)
    have HCH := Lib.hid hch
    have HRUN := Lib.hid hrun
    clear hch hrun
    have hw1 : IntKind.i64.wrap ((p : Int) + (n : Int)) = ((p + n : Nat) : Int) := by rw [IntKind.wrap_i64]; omega
    have hw2 : IntKind.i64.wrap ((n : Int) + 1) = ((n + 1 : Nat) : Int) := by rw [IntKind.wrap_i64]; omega
    go_wp2_with fail
    refine (HH.out wr (p + n) (by omega) HMR.out HCR.out).mono ?_
    rw [HSRC.out]
    cases hq : (match src[p + n]? with | some b => f b.toNat | none => false) with
    | true =>
      rintro e w2 ⟨rfl, hch2⟩
      have HC2 := Lib.hid hch2
      clear hch2
      simp only []
      go_wp2_with fail
      have hlt : p + n < src.length := by
        cases h : src[p + n]? with
        | none => rw [h] at hq; simp at hq
        | some b => exact (List.getElem?_eq_some_iff.1 h).1
      go_roundg (s.size + 1 - (n + 1))
      case measure => have := HLEN.out; omega
      case rel =>
        refine ⟨n + 1, rfl, rfl, by have := HLEN.out; omega, HCH.out.trans HC2.out, ?_⟩
        rw [HRUN.out, runOf_at f hlt]
        rw [List.getElem?_eq_getElem hlt] at hq
        simp only at hq
        rw [if_pos hq, Nat.add_assoc p n 1]
        omega
    | false =>
      rintro e w2 ⟨rfl, hch2⟩
      have hr0 : runOf f (src.drop (p + n)) = 0 := by
        cases h : src[p + n]? with
        | none => rw [List.drop_eq_nil_of_le (List.getElem?_eq_none_iff.1 h)]; rfl
        | some b =>
          obtain ⟨h1, h2⟩ := List.getElem?_eq_some_iff.1 h
          rw [h] at hq
          simp only at hq
          rw [runOf_at f h1, h2, hq]
          rfl
      have hrn : runOf f (src.drop p) = n := by rw [HRUN.out, hr0]; rfl
      have y2 := hch2.cell_some x2 id
      have HM2 := Lib.hid (HMR.out.moved hch2)
      have HC2 := Lib.hid (HCR.out.trans (hch2.mono fun _ _ h => h.elim))
      clear hch2 hr0 hq x0 x1 x2 x3 x4 x5 HRUN HCH HMR HCR
      rw [hrn] at hT0 hT1
      simp only []
      rcases (show n = 0 ∨ n = 1 ∨ 2 ≤ n by omega) with rfl | rfl | hn2
      · obtain rfl := hT0 rfl
        go_wp2_with fail
        refine wp_loop_rounds 1 ?_
        rw [rounds_succ]
        go_wp2_with fail
        refine bodyPost_ret (results_tmp2 rfl _ _ _) rfl ?_
        exact ⟨L, none, _, _, HM2.out, HC2.out, by omega, by omega, rfl, rfl, fun _ => rfl, fun _ => rfl⟩
      · have hTt := hT1 (by omega)
        subst hTt
        go_wp2_with fail
        refine wp_loop_rounds 2 ?_
        rw [rounds_succ]
        go_wp2_with fail
        refine (HR.out (by rw [hrn]; omega) _ HM2.out HC2.out).mono ?_
        rintro e w3 ⟨L', t', v, h1, h2, h3, h4, rfl, h5, h6, h7⟩
        cases t' with
        | none =>
          obtain rfl := h5
          have HX : Hid (RPost w M I ic D0 D2 D5 s L cost T (.returned (.tuple #[.int .i64 (-1), .slice none 0 0])) w3) := Lib.hid ⟨L', none, _, _, h1, HC2.out.trans h2, h3, by omega, rfl, rfl, h6, h7⟩
          clear h1 h2
          simp only []
          go_wp2_with fail
          rw [rounds_succ]
          go_wp2_with fail
          refine bodyPost_ret (results_tmp2 rfl _ _ _) rfl ?_
          exact HX.out
        | some r =>
          obtain ⟨e1, A1, S1⟩ := r
          obtain ⟨B', c', rfl, g1, g2, g3, g4⟩ := h5
          have e0 : (0 : Int) ≤ (e1 : Int) := by omega
          have HX : Hid (RPost w M I ic D0 D2 D5 s L cost T (.returned (.tuple #[.int .i64 (e1 : Int), .slice (some ⟨B', 0, none⟩) 1 c'])) w3) := Lib.hid ⟨L', some (e1, A1, S1), _, _, h1, HC2.out.trans h2, h3, by omega, rfl, ⟨B', c', rfl, g1, g2, g3, g4⟩, h6, h7⟩
          clear h1 h2 g1 g2
          simp only []
          go_wp2_with fail
          refine bodyPost_ret (results_tmp2 rfl _ _ _) rfl ?_
          exact HX.out
      · have hTt := hT1 (by omega)
        subst hTt
        have hn3 : ¬ (n : Int) ≤ 1 := by omega
        have hn4 : (1 : Int) < (n : Int) := by omega
        go_wp2_with fail
        refine wp_loop_rounds 2 ?_
        rw [rounds_succ]
        go_wp2_with fail
        refine (HR.out (by rw [hrn]; omega) _ HM2.out HC2.out).mono ?_
        rintro e w3 ⟨L', t', v, h1, h2, h3, h4, rfl, h5, h6, h7⟩
        cases t' with
        | none =>
          obtain rfl := h5
          have HX : Hid (RPost w M I ic D0 D2 D5 s L cost T (.returned (.tuple #[.int .i64 (-1), .slice none 0 0])) w3) := Lib.hid ⟨L', none, _, _, h1, HC2.out.trans h2, h3, by omega, rfl, rfl, h6, h7⟩
          clear h1 h2
          simp only []
          go_wp2_with fail
          rw [rounds_succ]
          go_wp2_with fail
          refine bodyPost_ret (results_tmp2 rfl _ _ _) rfl ?_
          exact HX.out
        | some r =>
          obtain ⟨e1, A1, S1⟩ := r
          obtain ⟨B', c', rfl, g1, g2, g3, g4⟩ := h5
          have e0 : (0 : Int) ≤ (e1 : Int) := by omega
          have HX : Hid (RPost w M I ic D0 D2 D5 s L cost T (.returned (.tuple #[.int .i64 (e1 : Int), .slice (some ⟨B', 0, none⟩) 1 c'])) w3) := Lib.hid ⟨L', some (e1, A1, S1), _, _, h1, HC2.out.trans h2, h3, by omega, rfl, ⟨B', c', rfl, g1, g2, g3, g4⟩, h6, h7⟩
          clear h1 h2 g1 g2
          simp only []
          go_wp2_with fail
          refine bodyPost_ret (results_tmp2 rfl _ _ _) rfl ?_
          exact HX.out
set_option maxRecDepth 100000 in
set_option maxHeartbeats 4000000 in
/-- As many bytes as possible. -/
theorem repeated_dots {w : World} {M I ic D0 D2 D5 A : Nat} {s : ByteArray} {L : Int} {p : Nat} {cv : Value} {src : List UInt8} (hsrc : s.data.toList = src) (HM : Hid (MatAt w M I ic D0 D2 D5 s L)) (hs : s.size ≤ 1000) (hp : p ≤ s.size) (hic : 6 ≤ ic)
    (HH : Hid (HasIs w M I ic D0 D2 D5 s L (.agg #[.int .i64 1, .slice (some ⟨D2, 0, none⟩) 128 128, .int .u8 43, .int .i64 0, .int .u8 0, .int .u8 0]) (fun _ => true)))
    (HR : Hid (∀ w1 (q : Nat) (qi L1 : Int), qi = (q : Int) → p < q → q ≤ s.size → L - 4 * s.size ≤ L1 → L1 ≤ L → MatAt w1 M I ic D0 D2 D5 s L1 → Ch (· = M) w w1 → Calls Tryf.prog 34 #[ptr M, .int .i64 3, .int .i64 qi, cv] w1 (MPost w1 M I ic D0 D2 D5 s L1 4 (Tw.t3 src q A)))) :
    Calls Tryf.prog 48 #[ptr M, .int .i64 2, .int .i64 (p : Int), cv] w (RPost w M I ic D0 D2 D5 s L (4 * s.size) (Tw.t2 src A p (src.length - p))) := by
  have m1 := HM.out.m1
  have ml := HM.out.lt
  have i0 : w.cell? ⟨I, 12, none⟩ = some (.int .i64 1) := HM.out.it.cells 12 _ rfl
  have i1 : w.cell? ⟨I, 13, none⟩ = some (.slice (some ⟨D2, 0, none⟩) 128 128) := HM.out.it.cells 13 _ rfl
  have i2 : w.cell? ⟨I, 14, none⟩ = some (.int .u8 43) := HM.out.it.cells 14 _ rfl
  have i3 : w.cell? ⟨I, 15, none⟩ = some (.int .i64 0) := HM.out.it.cells 15 _ rfl
  have i4 : w.cell? ⟨I, 16, none⟩ = some (.int .u8 0) := HM.out.it.cells 16 _ rfl
  have i5 : w.cell? ⟨I, 17, none⟩ = some (.int .u8 0) := HM.out.it.cells 17 _ rfl
  have hil := World.block_lt_of_cell? w _ i0
  have hlen : s.data.toList.length = s.size := Array.length_toList
  rw [hsrc] at hlen
  have HLEN := Lib.hid hlen
  have HSRC := Lib.hid hsrc
  clear hlen hsrc
  have HM1 : Hid (MatAt (w.alloc (.cells #[.int .i64 1, .slice (some ⟨D2, 0, none⟩) 128 128, .int .u8 43, .int .i64 0, .int .u8 0, .int .u8 0] 114)) M I ic D0 D2 D5 s L) := Lib.hid (HM.out.moved ((Ch.refl _ _).alloc _))
  go_enter Tryf.func48, Tryf.ntmps48
  go_wp2_with fail
  go_loopg [12] (s.size + 1) (fun kk s12 wr => ∃ n : Nat, s12 = .int .i64 (n : Int) ∧ kk = s.size + 1 - n ∧ n ≤ s.size ∧ Ch (fun _ => False) (w.alloc (.cells #[.int .i64 1, .slice (some ⟨D2, 0, none⟩) 128 128, .int .u8 43, .int .i64 0, .int .u8 0, .int .u8 0] 114)) wr ∧ runOf (fun _ => true) (src.drop p) = n + runOf (fun _ => true) (src.drop (p + n)))
  case atStart => exact ⟨0, rfl, rfl, Nat.zero_le _, .refl _ _, by simp⟩
  case round =>
    obtain ⟨n, rfl, rfl, hn, hch, hrun⟩ := hrel
    have x0 := hch.cell_some (World.cell?_alloc_at _ _ _ 0 rfl) id
    have x1 := hch.cell_some (World.cell?_alloc_at _ _ _ 1 rfl) id
    have x2 := hch.cell_some (World.cell?_alloc_at _ _ _ 2 rfl) id
    have x3 := hch.cell_some (World.cell?_alloc_at _ _ _ 3 rfl) id
    have x4 := hch.cell_some (World.cell?_alloc_at _ _ _ 4 rfl) id
    have x5 := hch.cell_some (World.cell?_alloc_at _ _ _ 5 rfl) id
    have HMR := Lib.hid (HM1.out.moved hch)
    have HCR : Hid (Ch (· = M) w wr) := Lib.hid ((((Ch.refl (fun _ => False) w).alloc _).trans hch).mono fun _ _ h => h.elim)
    have HCH := Lib.hid hch
    have HRUN := Lib.hid hrun
    clear hch hrun
    have hw1 : IntKind.i64.wrap ((p : Int) + (n : Int)) = ((p + n : Nat) : Int) := by rw [IntKind.wrap_i64]; omega
    have hw2 : IntKind.i64.wrap ((n : Int) + 1) = ((n + 1 : Nat) : Int) := by rw [IntKind.wrap_i64]; omega
    go_wp2_with fail
    refine (HH.out wr (p + n) (by omega) HMR.out HCR.out).mono ?_
    rw [HSRC.out]
    cases hq : (match src[p + n]? with | some b => true | none => false) with
    | true =>
      rintro e w2 ⟨rfl, hch2⟩
      have HC2 := Lib.hid hch2
      clear hch2
      simp only []
      go_wp2_with fail
      have hlt : p + n < src.length := by
        cases h : src[p + n]? with
        | none => rw [h] at hq; simp at hq
        | some b => exact (List.getElem?_eq_some_iff.1 h).1
      go_roundg (s.size + 1 - (n + 1))
      case measure => have := HLEN.out; omega
      case rel =>
        refine ⟨n + 1, rfl, rfl, by have := HLEN.out; omega, HCH.out.trans HC2.out, ?_⟩
        rw [HRUN.out, runOf_at (fun _ => true) hlt]
        rw [if_pos rfl, Nat.add_assoc p n 1]
        omega
    | false =>
      rintro e w2 ⟨rfl, hch2⟩
      have hr0 : runOf (fun _ => true) (src.drop (p + n)) = 0 := by
        cases h : src[p + n]? with
        | none => rw [List.drop_eq_nil_of_le (List.getElem?_eq_none_iff.1 h)]; rfl
        | some b =>
          obtain ⟨h1, h2⟩ := List.getElem?_eq_some_iff.1 h
          rw [h] at hq
          simp at hq
      have hrn : runOf (fun _ => true) (src.drop p) = n := by rw [HRUN.out, hr0]; rfl
      have y2 := hch2.cell_some x2 id
      have HM2 := Lib.hid (HMR.out.moved hch2)
      have HC2 := Lib.hid (HCR.out.trans (hch2.mono fun _ _ h => h.elim))
      clear hch2 hr0 hq x0 x1 x2 x3 x4 x5 HRUN HCH HMR HCR
      have hn2 : n = src.length - p := by rw [← hrn]; exact (runOf_all _)|>.trans List.length_drop
      have hnl : n ≤ 1000 := by omega
      have hps : p + n = s.size := by have := HLEN.out; omega
      simp only []
      go_wp2_with fail
      go_loopg [13] n (fun kk s13 wr => ∃ j : Nat, s13 = .int .i64 (j : Int) ∧ 1 ≤ j ∧ j ≤ n + 1 ∧ kk = n + 1 - j ∧ wr.cell? ⟨w.heap.size, 2, none⟩ = some (.int .u8 43) ∧ Ch (· = M) w wr ∧ ∃ Lj, MatAt wr M I ic D0 D2 D5 s Lj ∧ L - 4 * ((j : Int) - 1) ≤ Lj ∧ Lj ≤ L ∧ (0 ≤ Lj → Tw.t2 src A p (src.length - p) = Tw.t2 src A p (n + 1 - j)))
      case atStart => exact ⟨1, rfl, by omega, by omega, rfl, y2, HC2.out, L, HM2.out, by omega, by omega, fun _ => by rw [hn2]; rfl⟩
      case round =>
        obtain ⟨j, rfl, hj1, hj2, rfl, z2, hch, Lj, hmj, hL1, hL2, hTt⟩ := hrel
        have HCJ := Lib.hid hch
        have HMJ := Lib.hid hmj
        have HTT := Lib.hid hTt
        clear hch hmj hTt
        have hwa : IntKind.i64.wrap ((j : Int) - 1) = ((j - 1 : Nat) : Int) := by rw [IntKind.wrap_i64]; omega
        have hwb : IntKind.i64.wrap ((n : Int) - ((j - 1 : Nat) : Int)) = ((n + 1 - j : Nat) : Int) := by rw [IntKind.wrap_i64]; omega
        have hwc : IntKind.i64.wrap ((p : Int) + ((n + 1 - j : Nat) : Int)) = (p : Int) + ((n + 1 - j : Nat) : Int) := by rw [IntKind.wrap_i64]; omega
        have hwd : IntKind.i64.wrap ((j : Int) + 1) = ((j + 1 : Nat) : Int) := by rw [IntKind.wrap_i64]; omega
        by_cases hjn : j ≤ n
        · have hjn2 : (j : Int) ≤ (n : Int) := by omega
          go_wp2_with fail
          refine (HR.out _ (p + (n + 1 - j)) _ Lj (by omega) (by omega) (by omega) (by omega) hL2 HMJ.out HCJ.out).mono ?_
          rintro e w3 ⟨L', t', v, h1, h2, h3, h4, rfl, h5, h6, h7⟩
          obtain ⟨c', hc'⟩ : ∃ c', n + 1 - j = c' + 1 := ⟨n - j, by omega⟩
          have hstep : Tw.t2 src A p (n + 1 - j) = match Tw.t3 src (p + (n + 1 - j)) A with | some r => some r | none => Tw.t2 src A p (n + 1 - (j + 1)) := by
            rw [hc', show n + 1 - (j + 1) = c' from by omega]
            rfl
          have z3 := h2.cell_some z2 (show ¬ w.heap.size = M by omega)
          cases t' with
          | none =>
            obtain rfl := h5
            have HM3 := Lib.hid h1
            have HC3 := Lib.hid (HCJ.out.trans h2)
            have HT3 : Hid (0 ≤ L' → Tw.t2 src A p (src.length - p) = Tw.t2 src A p (n + 1 - (j + 1))) := Lib.hid fun h0 => by
              rw [HTT.out (by omega), hstep, ← h6 h0]
            clear h1 h2 h6 h7 hstep z2
            simp only []
            go_wp2_with fail
            go_roundg (n + 1 - (j + 1))
            case measure => omega
            case rel => exact ⟨j + 1, rfl, by omega, by omega, rfl, z3, HC3.out, L', HM3.out, by omega, by omega, HT3.out⟩
          | some r =>
            obtain ⟨e1, A1, S1⟩ := r
            obtain ⟨B', c2, rfl, g1, g2, g3, g4⟩ := h5
            have e0 : (0 : Int) ≤ (e1 : Int) := by omega
            have HX : Hid (RPost w M I ic D0 D2 D5 s L (4 * s.size) (Tw.t2 src A p (src.length - p)) (.returned (.tuple #[.int .i64 (e1 : Int), .slice (some ⟨B', 0, none⟩) 1 c2])) w3) := Lib.hid ⟨L', some (e1, A1, S1), _, _, h1, HCJ.out.trans h2, by omega, by omega, rfl, ⟨B', c2, rfl, g1, g2, g3, g4⟩, fun h0 => by rw [HTT.out (by omega), hstep, ← h6 h0], fun h0 => by have := h7 h0; cases this⟩
            clear h1 h2 g1 g2 hstep z2 h6 h7
            simp only []
            go_wp2_with fail
            refine bodyPost_ret (results_tmp2 rfl _ _ _) rfl ?_
            exact HX.out
        · have hjn2 : ¬ (j : Int) ≤ (n : Int) := by omega
          have hje : n + 1 - j = 0 := by omega
          go_wp2_with fail
          refine bodyPost_ret (results_tmp2 rfl _ _ _) rfl ?_
          exact ⟨Lj, none, _, _, HMJ.out, HCJ.out, by omega, hL2, rfl, rfl, fun h0 => by rw [HTT.out h0, hje]; rfl, fun _ => rfl⟩

theorem ext_list (s : ByteArray) (a n : Nat) : (s.extract a (a + n)).toList = (s.data.toList.drop a).take n := by
  rw [ByteArray.toList_eq, ByteArray.data_extract, Array.toList_extract, List.extract_eq_drop_take, Nat.add_sub_cancel_left]

/-- What is fixed: the subject, its bytes. -/
structure Subj (s : ByteArray) (src : List UInt8) : Prop where
  src : s.data.toList = src
  size : s.size ≤ 1000
  low : ∀ j (h : j < s.size), s[j].toNat < 128

theorem Subj.len {s : ByteArray} {src : List UInt8} (h : Subj s src) : src.length = s.size := by rw [← h.src]; exact Array.length_toList

section mt
variable {w : World} {M I ic D0 D2 D5 : Nat} {s : ByteArray} {L : Int} {src : List UInt8}

theorem mt5 (hS : Subj s src) (HM : Hid (MatAt w M I ic D0 D2 D5 s L)) (hic : 6 ≤ ic) (hL : -900000 ≤ L ∧ L ≤ 900000) {p A S B c : Nat} (hp : p ≤ 1000) (b0 : w.cell? ⟨B, 0, none⟩ = some (.int .i64 (A : Int))) (b1 : w.cell? ⟨B, 1, none⟩ = some (.int .i64 (S : Int))) (hB : ¬ B = M) (hc : 1 ≤ c) :
    Calls Tryf.prog 34 #[ptr M, .int .i64 5, .int .i64 (p : Int), .slice (some ⟨B, 0, none⟩) 1 c] w (MPost w M I ic D0 D2 D5 s L 2 (Tw.t5 src p A S)) := by
  have hlen := hS.len
  refine match_5 (cost := 1) HM ⟨by omega, by omega⟩ (by omega) hic (Lib.hid fun w1 hm hch h0 => ?_)
  refine repeated_one (k := 5) (D := D5) (f := fun i => decide (i = 2)) (t := some (p + 1, A, S)) (T := Tw.t5 src p A S) (cost := 1) ?_ ?_ (Lib.hid hm) hS.size hp (by omega) hic (by omega) (Lib.hid (has_is hS.size hS.low fun w2 hm2 => hm2.it.s5)) (hm.it.cells 30 _ rfl) (hm.it.cells 31 _ rfl) (hm.it.cells 32 _ rfl) (hm.it.cells 33 _ rfl) (hm.it.cells 34 _ rfl) (hm.it.cells 35 _ rfl) (Lib.hid fun _ w2 hm2 hch2 => ?_)
  · intro h
    rw [hS.src] at h
    unfold Tw.t5
    by_cases hlt : p < src.length
    · rw [runOf_at _ hlt] at h
      rw [List.getElem?_eq_getElem hlt]
      by_cases e : src[p].toNat = 2
      · rw [if_pos (by simp [e])] at h; omega
      · rw [if_neg]
        intro e2
        injection e2 with e3
        rw [e3] at e
        exact e rfl
    · rw [List.getElem?_eq_none (by omega)]
      rfl
  · intro h
    rw [hS.src] at h
    unfold Tw.t5
    by_cases hlt : p < src.length
    · rw [runOf_at _ hlt] at h
      rw [List.getElem?_eq_getElem hlt]
      by_cases e : src[p].toNat = 2
      · rw [if_pos (by rw [UInt8.toNat_inj.1 (show src[p].toNat = (2 : UInt8).toNat from e)])]
      · rw [if_neg (by simp [e])] at h; omega
    · rw [List.drop_eq_nil_of_le (by omega)] at h; simp [runOf] at h
  · have hx := match_6 (p := p + 1) (Lib.hid hm2) ⟨by omega, by omega⟩ ((hch.trans hch2).cell_some b0 hB) ((hch.trans hch2).cell_some b1 hB) hB hc
    rw [show ((p + 1 : Nat) : Int) = (p : Int) + 1 from by omega] at hx
    exact hx

theorem mt4 (hS : Subj s src) (HM : Hid (MatAt w M I ic D0 D2 D5 s L)) (hic : 6 ≤ ic) (hL : -900000 < L ∧ L ≤ 900000) {p A S B c : Nat} (hp : p ≤ s.size) (hA : A + S ≤ s.size) (b0 : w.cell? ⟨B, 0, none⟩ = some (.int .i64 (A : Int))) (b1 : w.cell? ⟨B, 1, none⟩ = some (.int .i64 (S : Int))) (hB : ¬ B = M) (hc : 1 ≤ c) :
    Calls Tryf.prog 34 #[ptr M, .int .i64 4, .int .i64 (p : Int), .slice (some ⟨B, 0, none⟩) 1 c] w (MPost w M I ic D0 D2 D5 s L 3 (Tw.t4 src p A S)) := by
  have hlen := hS.len
  have hsz := hS.size
  unfold Tw.t4
  by_cases hle : p + S ≤ s.size
  · cases g3 : ((s.extract p (p + S)).toList == (s.extract A (A + S)).toList) with
    | true =>
      have e := g3
      rw [ext_list, ext_list, hS.src, beq_iff_eq] at e
      rw [if_pos ⟨by omega, e⟩]
      refine match_4 (cost := 2) HM ⟨by omega, by omega⟩ hic b0 b1 hB hc hsz hA (by omega) (by omega) hle g3 (Lib.hid fun w1 hm hch => ?_)
      have hx := mt5 (p := p + S) hS (Lib.hid hm) hic ⟨by omega, by omega⟩ (by omega) (hch.cell_some b0 hB) (hch.cell_some b1 hB) hB hc
      rw [show ((p + S : Nat) : Int) = (p : Int) + (S : Int) from by omega] at hx
      exact hx
    | false =>
      have e := g3
      rw [ext_list, ext_list, hS.src] at e
      rw [if_neg (fun h => by rw [h.2] at e; simp at e)]
      exact (match_4no HM ⟨by omega, by omega⟩ hic b0 b1 hB hc hsz hA (by omega) hle g3).mono fun e w' h => h.cost (by omega)
  · rw [if_neg (fun h => hle (by omega))]
    exact (match_4far HM ⟨by omega, by omega⟩ hic b0 b1 hB hc hsz hA (by omega) (by omega)).mono fun e w' h => h.cost (by omega)
theorem mt3 (hS : Subj s src) (HM : Hid (MatAt w M I ic D0 D2 D5 s L)) (hic : 6 ≤ ic) (hL : -899990 < L ∧ L ≤ 900000) {q A B c : Nat} (hq : q ≤ s.size) (hA : A ≤ q) (b0 : w.cell? ⟨B, 0, none⟩ = some (.int .i64 (A : Int))) (b1 : w.cell? ⟨B, 1, none⟩ = some (.int .i64 (-1))) (hB : ¬ B = M) (hc : 1 ≤ c) :
    Calls Tryf.prog 34 #[ptr M, .int .i64 3, .int .i64 (q : Int), .slice (some ⟨B, 0, none⟩) 1 c] w (MPost w M I ic D0 D2 D5 s L 4 (Tw.t3 src q A)) := by
  have hsz := hS.size
  unfold Tw.t3
  refine match_3 (cost := 3) HM ⟨by omega, by omega⟩ (by omega) hic b0 b1 hB hc (by omega) hA (Lib.hid fun w1 B' c' hm hch g0 g1 hB' hc' => ?_)
  exact mt4 hS (Lib.hid hm) hic ⟨by omega, by omega⟩ hq (by omega) g0 g1 hB' hc'

theorem mt2 (hS : Subj s src) (HM : Hid (MatAt w M I ic D0 D2 D5 s L)) (hic : 6 ≤ ic) (hL : -800000 < L ∧ L ≤ 900000) {p B c : Nat} (hp : p ≤ s.size) (b0 : w.cell? ⟨B, 0, none⟩ = some (.int .i64 (p : Int))) (b1 : w.cell? ⟨B, 1, none⟩ = some (.int .i64 (-1))) (hB : ¬ B = M) (hc : 1 ≤ c) :
    Calls Tryf.prog 34 #[ptr M, .int .i64 2, .int .i64 (p : Int), .slice (some ⟨B, 0, none⟩) 1 c] w (MPost w M I ic D0 D2 D5 s L (4 * s.size + 1) (Tw.t1 src p)) := by
  have hsz := hS.size
  unfold Tw.t1
  refine match_2 (cost := 4 * s.size) HM ⟨by omega, by omega⟩ (by omega) hic (Lib.hid fun w1 hm hch h0 => ?_)
  refine repeated_dots (A := p) hS.src (Lib.hid hm) hsz hp hic (Lib.hid (has_is hS.size hS.low fun w2 hm2 => hm2.it.s2)) (Lib.hid fun w2 q qi L1 hqi hpq hqs hl1 hl2 hm2 hch2 => ?_)
  subst hqi
  exact mt3 hS (Lib.hid hm2) hic ⟨by omega, by omega⟩ hqs (by omega) ((hch.trans hch2).cell_some b0 hB) ((hch.trans hch2).cell_some b1 hB) hB hc

theorem mt1 (hS : Subj s src) (HM : Hid (MatAt w M I ic D0 D2 D5 s L)) (hic : 6 ≤ ic) (hL : -700000 < L ∧ L ≤ 900000) {p X xc : Nat} (hp : p ≤ s.size) (hX : X < w.heap.size) :
    Calls Tryf.prog 34 #[ptr M, .int .i64 1, .int .i64 (p : Int), .slice (some ⟨X, 0, none⟩) 0 xc] w (MPost w M I ic D0 D2 D5 s L (4 * s.size + 2) (Tw.t1 src p)) := by
  have hsz := hS.size
  have := match_1 (p := p) (xc := xc) (cost := 4 * s.size + 1) (t := Tw.t1 src p) HM ⟨by omega, by omega⟩ (by omega) hic hX (Lib.hid fun w1 B c hm hch g0 g1 hB hc => mt2 hS (Lib.hid hm) hic ⟨by omega, by omega⟩ hp g0 g1 hB hc)
  exact this.mono fun e w' h => h.cost (by omega)

theorem mt0 (hS : Subj s src) (HM : Hid (MatAt w M I ic D0 D2 D5 s L)) (hic : 6 ≤ ic) (hL : -600000 < L ∧ L ≤ 900000) {p X xc : Nat} (hp : p ≤ s.size) (hX : X < w.heap.size) :
    Calls Tryf.prog 34 #[ptr M, .int .i64 0, .int .i64 (p : Int), .slice (some ⟨X, 0, none⟩) 0 xc] w (MPost w M I ic D0 D2 D5 s L (4 * s.size + 3) (Tw.t0 src p)) := by
  have hlen := hS.len
  have hsz := hS.size
  have key := match_0 (cv := .slice (some ⟨X, 0, none⟩) 0 xc) (p := p) (cost := 4 * s.size + 2) (t := Tw.t0 src p) HM ⟨by omega, by omega⟩ (by omega) hic (Lib.hid fun w1 hm hch h0 => ?_)
  · exact key.mono fun e w' h => h.cost (by omega)
  refine repeated_one (k := 0) (D := D0) (f := fun i => decide (i = 1)) (t := Tw.t1 src (p + 1)) (T := Tw.t0 src p) (cost := 4 * s.size + 2) ?_ ?_ (Lib.hid hm) hS.size (by omega) (by omega) hic (by omega) (Lib.hid (has_is hS.size hS.low fun w2 hm2 => hm2.it.s0)) (hm.it.cells 0 _ rfl) (hm.it.cells 1 _ rfl) (hm.it.cells 2 _ rfl) (hm.it.cells 3 _ rfl) (hm.it.cells 4 _ rfl) (hm.it.cells 5 _ rfl) (Lib.hid fun hpos w2 hm2 hch2 => ?_)
  · intro h
    rw [hS.src] at h
    unfold Tw.t0
    by_cases hlt : p < src.length
    · rw [runOf_at _ hlt] at h
      rw [List.getElem?_eq_getElem hlt]
      by_cases e : src[p].toNat = 1
      · rw [if_pos (by simp [e])] at h; omega
      · rw [if_neg]
        intro e2
        injection e2 with e3
        rw [e3] at e
        exact e rfl
    · rw [List.getElem?_eq_none (by omega)]
      rfl
  · intro h
    rw [hS.src] at h
    unfold Tw.t0
    by_cases hlt : p < src.length
    · rw [runOf_at _ hlt] at h
      rw [List.getElem?_eq_getElem hlt]
      by_cases e : src[p].toNat = 1
      · rw [if_pos (by rw [UInt8.toNat_inj.1 (show src[p].toNat = (1 : UInt8).toNat from e)])]
      · rw [if_neg (by simp [e])] at h; omega
    · rw [List.drop_eq_nil_of_le (by omega)] at h; simp [runOf] at h
  · have hps : p < s.size := by
      by_cases hps : p < s.size
      · exact hps
      · rw [hS.src, List.drop_eq_nil_of_le (by omega)] at hpos; simp [runOf] at hpos
    have hx := mt1 (p := p + 1) (xc := xc) hS (Lib.hid hm2) hic ⟨by omega, by omega⟩ (by omega) (Nat.lt_of_lt_of_le hX (hch.trans hch2).size)
    rw [show ((p + 1 : Nat) : Int) = (p : Int) + 1 from by omega] at hx
    exact hx
end mt

end Go.Proofs.YtkbdngcbifonkaaFmt
