/-
  spec.match, item by item. Lines laid by a program of this session (mkmm.py).
-/
import Derived.Test.YtkbdngcbifonkaaFmtTma
namespace Go.Proofs.YtkbdngcbifonkaaFmt
set_option linter.all false
open Go.RowKit

/-- What a result of the matcher says. -/
def MRes (w : World) (M : Nat) : Option (Nat × Nat × Nat) → Value → Prop
  | none, v => v = .tuple #[.int .i64 (-1), .slice none 0 0]
  | some (e, A, S), v => ∃ B c, v = .tuple #[.int .i64 (e : Int), .slice (some ⟨B, 0, none⟩) 1 c] ∧ w.cell? ⟨B, 0, none⟩ = some (.int .i64 (A : Int)) ∧ w.cell? ⟨B, 1, none⟩ = some (.int .i64 (S : Int)) ∧ ¬ B = M ∧ 1 ≤ c

/-- What a call of the matcher gives. -/
def MPost (w : World) (M I ic D0 D2 D5 : Nat) (s : ByteArray) (L : Int) (cost : Int) (t : Option (Nat × Nat × Nat)) (e : Ending) (w' : World) : Prop :=
  ∃ (L' : Int) (t' : Option (Nat × Nat × Nat)) (v : Value), MatAt w' M I ic D0 D2 D5 s L' ∧ Ch (· = M) w w' ∧ L - cost ≤ L' ∧ L' < L ∧ e = .returned v ∧ MRes w' M t' v ∧ (0 ≤ L' → t' = t) ∧ (L' < 0 → t' = none)

theorem MPost.cost {w : World} {M I ic D0 D2 D5 : Nat} {s : ByteArray} {L c c' : Int} {t : Option (Nat × Nat × Nat)} {e : Ending} {w' : World} (h : MPost w M I ic D0 D2 D5 s L c t e w') (hc : c ≤ c') : MPost w M I ic D0 D2 D5 s L c' t e w' := by
  obtain ⟨L', t', v, h1, h2, h3, h4, h5⟩ := h
  exact ⟨L', t', v, h1, h2, by omega, h4, h5⟩

/-- A call from a later world, with one step less. -/
theorem MPost.step {w w1 : World} {M I ic D0 D2 D5 : Nat} {s : ByteArray} {L c c' : Int} {t : Option (Nat × Nat × Nat)} {e : Ending} {w' : World} (h : MPost w1 M I ic D0 D2 D5 s (L - 1) c t e w') (hch : Ch (· = M) w w1) (hc : c + 1 ≤ c') : MPost w M I ic D0 D2 D5 s L c' t e w' := by
  obtain ⟨L', t', v, h1, h2, h3, h4, h5⟩ := h
  exact ⟨L', t', v, h1, hch.trans h2, by omega, by omega, h5⟩

theorem MPost.out {w w1 : World} {M I ic D0 D2 D5 : Nat} {s : ByteArray} {L c : Int} {t : Option (Nat × Nat × Nat)} (hm : MatAt w1 M I ic D0 D2 D5 s (L - 1)) (hch : Ch (· = M) w w1) (hc : 1 ≤ c) (hL : L - 1 < 0 ∨ t = none) : MPost w M I ic D0 D2 D5 s L c t (.returned (.tuple #[.int .i64 (-1), .slice none 0 0])) w1 :=
  ⟨L - 1, none, _, hm, hch, by omega, by omega, rfl, rfl, fun h => by
    rcases hL with h1 | h1
    · omega
    · exact h1.symm, fun _ => rfl⟩

theorem it_cell {w : World} {I D0 D2 D5 : Nat} (h : ItemsAt w I D0 D2 D5) (i j : Nat) (v : Value) (hv : (twCells D0 D2 D5)[i * 6 + j]? = some v) : w.cell? ⟨I, i * 6 + j, none⟩ = some v := h.cells _ v hv

set_option maxRecDepth 100000 in
set_option maxHeartbeats 4000000 in
theorem match_6 {w : World} {M I ic D0 D2 D5 : Nat} {s : ByteArray} {L : Int} {p A S B c : Nat} (HM : Hid (MatAt w M I ic D0 D2 D5 s L)) (hL : -1000000 ≤ L ∧ L ≤ 1000000) (b0 : w.cell? ⟨B, 0, none⟩ = some (.int .i64 (A : Int))) (b1 : w.cell? ⟨B, 1, none⟩ = some (.int .i64 (S : Int))) (hB : ¬ B = M) (hc : 1 ≤ c) :
    Calls Tryf.prog 34 #[ptr M, .int .i64 6, .int .i64 (p : Int), .slice (some ⟨B, 0, none⟩) 1 c] w (MPost w M I ic D0 D2 D5 s L 1 (some (p, A, S))) := by
  have m1 := HM.out.m1
  have m2 := HM.out.m2
  have mf := HM.out.f2
  have ml := HM.out.lt
  have nI := HM.out.nI
  have hil := World.block_lt_of_cell? w _ (HM.out.it.cells 0 _ rfl)
  have hwL : IntKind.i64.wrap (L - 1) = L - 1 := by rw [IntKind.wrap_i64]; omega
  have HML := Lib.hid (HM.out.left (L - 1))
  have HCL : Hid (Ch (· = M) w (w.setCell ⟨M, 2, none⟩ (.int .i64 (L - 1)))) := Lib.hid ((Ch.refl (· = M) w).setCell (p := ⟨M, 2, none⟩) (fun _ => rfl) _)
  cases hl : decide (L - 1 < 0) with
  | true =>
    go_enter Tryf.func34, Tryf.ntmps34
    go_wp2_with fail
    refine bodyPost_ret (results_tmp2 rfl _ _ _) rfl ?_
    exact MPost.out HML.out HCL.out (by omega) (.inl (of_decide_eq_true hl))
  | false =>
    have hl2 := of_decide_eq_false hl
    go_enter Tryf.func34, Tryf.ntmps34
    go_wp2_with fail
    refine bodyPost_ret (results_tmp2 rfl _ _ _) rfl ?_
    exact ⟨L - 1, some (p, A, S), _, HML.out, HCL.out, by omega, by omega, rfl, ⟨B, c, rfl, HCL.out.cell_some b0 hB, HCL.out.cell_some b1 hB, hB, hc⟩, fun _ => rfl, fun h => by omega⟩

set_option maxRecDepth 100000 in
set_option maxHeartbeats 4000000 in
theorem match_5 {w : World} {M I ic D0 D2 D5 : Nat} {s : ByteArray} {L : Int} {p : Nat} {cv : Value} {cost : Int} {t : Option (Nat × Nat × Nat)} (HM : Hid (MatAt w M I ic D0 D2 D5 s L)) (hL : -1000000 ≤ L ∧ L ≤ 1000000) (hcs : 0 ≤ cost) (hic : 6 ≤ ic)
    (HR : Hid (∀ w1, MatAt w1 M I ic D0 D2 D5 s (L - 1) → Ch (· = M) w w1 → 0 ≤ L - 1 → Calls Tryf.prog 48 #[ptr M, .int .i64 5, .int .i64 (p : Int), cv] w1 (fun e w' => ∃ (L' : Int) (t' : Option (Nat × Nat × Nat)) (v v2 : Value), MatAt w' M I ic D0 D2 D5 s L' ∧ Ch (· = M) w1 w' ∧ L - 1 - cost ≤ L' ∧ L' ≤ L - 1 ∧ e = .returned (.tuple #[v, v2]) ∧ MRes w' M t' (.tuple #[v, v2]) ∧ (0 ≤ L' → t' = t) ∧ (L' < 0 → t' = none)))) :
    Calls Tryf.prog 34 #[ptr M, .int .i64 5, .int .i64 (p : Int), cv] w (MPost w M I ic D0 D2 D5 s L (cost + 1) t) := by
  have m1 := HM.out.m1
  have m2 := HM.out.m2
  have mf := HM.out.f2
  have ml := HM.out.lt
  have nI := HM.out.nI
  have hil := World.block_lt_of_cell? w _ (HM.out.it.cells 0 _ rfl)
  have hwL : IntKind.i64.wrap (L - 1) = L - 1 := by rw [IntKind.wrap_i64]; omega
  have HML := Lib.hid (HM.out.left (L - 1))
  have HCL : Hid (Ch (· = M) w (w.setCell ⟨M, 2, none⟩ (.int .i64 (L - 1)))) := Lib.hid ((Ch.refl (· = M) w).setCell (p := ⟨M, 2, none⟩) (fun _ => rfl) _)
  have i0 : w.cell? ⟨I, 30, none⟩ = some (.int .i64 1) := HM.out.it.cells 30 _ rfl
  have i1 : w.cell? ⟨I, 31, none⟩ = some (.slice (some ⟨D5, 0, none⟩) 128 128) := HM.out.it.cells 31 _ rfl
  have i2 : w.cell? ⟨I, 32, none⟩ = some (.int .u8 32) := HM.out.it.cells 32 _ rfl
  have i3 : w.cell? ⟨I, 33, none⟩ = some (.int .i64 0) := HM.out.it.cells 33 _ rfl
  have i4 : w.cell? ⟨I, 34, none⟩ = some (.int .u8 0) := HM.out.it.cells 34 _ rfl
  have i5 : w.cell? ⟨I, 35, none⟩ = some (.int .u8 0) := HM.out.it.cells 35 _ rfl
  cases hl : decide (L - 1 < 0) with
  | true =>
    go_enter Tryf.func34, Tryf.ntmps34
    go_wp2_with fail
    refine bodyPost_ret (results_tmp2 rfl _ _ _) rfl ?_
    exact MPost.out HML.out HCL.out (by omega) (.inl (of_decide_eq_true hl))
  | false =>
    have hl2 := of_decide_eq_false hl
    go_enter Tryf.func34, Tryf.ntmps34
    go_wp2_with fail
    refine (HR.out _ (HML.out.moved ((Ch.refl _ _).alloc _)) (HCL.out.alloc _) (by omega)).mono ?_
    rintro e w2 ⟨L', t', v, v2, h1, h2, h3, h4, rfl, h5, h6, h7⟩
    have HX : Hid (MPost w M I ic D0 D2 D5 s L (cost + 1) t (.returned (.tuple #[v, v2])) w2) := Lib.hid ⟨L', t', _, h1, (HCL.out.alloc _).trans h2, by omega, by omega, rfl, h5, h6, h7⟩
    clear h1 h2 h5
    simp only []
    go_wp2_with fail
    refine bodyPost_ret (results_tmp2 rfl _ _ _) rfl ?_
    exact HX.out

set_option maxRecDepth 100000 in
set_option maxHeartbeats 4000000 in
theorem match_2 {w : World} {M I ic D0 D2 D5 : Nat} {s : ByteArray} {L : Int} {p : Nat} {cv : Value} {cost : Int} {t : Option (Nat × Nat × Nat)} (HM : Hid (MatAt w M I ic D0 D2 D5 s L)) (hL : -1000000 ≤ L ∧ L ≤ 1000000) (hcs : 0 ≤ cost) (hic : 6 ≤ ic)
    (HR : Hid (∀ w1, MatAt w1 M I ic D0 D2 D5 s (L - 1) → Ch (· = M) w w1 → 0 ≤ L - 1 → Calls Tryf.prog 48 #[ptr M, .int .i64 2, .int .i64 (p : Int), cv] w1 (fun e w' => ∃ (L' : Int) (t' : Option (Nat × Nat × Nat)) (v v2 : Value), MatAt w' M I ic D0 D2 D5 s L' ∧ Ch (· = M) w1 w' ∧ L - 1 - cost ≤ L' ∧ L' ≤ L - 1 ∧ e = .returned (.tuple #[v, v2]) ∧ MRes w' M t' (.tuple #[v, v2]) ∧ (0 ≤ L' → t' = t) ∧ (L' < 0 → t' = none)))) :
    Calls Tryf.prog 34 #[ptr M, .int .i64 2, .int .i64 (p : Int), cv] w (MPost w M I ic D0 D2 D5 s L (cost + 1) t) := by
  have m1 := HM.out.m1
  have m2 := HM.out.m2
  have mf := HM.out.f2
  have ml := HM.out.lt
  have nI := HM.out.nI
  have hil := World.block_lt_of_cell? w _ (HM.out.it.cells 0 _ rfl)
  have hwL : IntKind.i64.wrap (L - 1) = L - 1 := by rw [IntKind.wrap_i64]; omega
  have HML := Lib.hid (HM.out.left (L - 1))
  have HCL : Hid (Ch (· = M) w (w.setCell ⟨M, 2, none⟩ (.int .i64 (L - 1)))) := Lib.hid ((Ch.refl (· = M) w).setCell (p := ⟨M, 2, none⟩) (fun _ => rfl) _)
  have i0 : w.cell? ⟨I, 12, none⟩ = some (.int .i64 1) := HM.out.it.cells 12 _ rfl
  have i1 : w.cell? ⟨I, 13, none⟩ = some (.slice (some ⟨D2, 0, none⟩) 128 128) := HM.out.it.cells 13 _ rfl
  have i2 : w.cell? ⟨I, 14, none⟩ = some (.int .u8 43) := HM.out.it.cells 14 _ rfl
  have i3 : w.cell? ⟨I, 15, none⟩ = some (.int .i64 0) := HM.out.it.cells 15 _ rfl
  have i4 : w.cell? ⟨I, 16, none⟩ = some (.int .u8 0) := HM.out.it.cells 16 _ rfl
  have i5 : w.cell? ⟨I, 17, none⟩ = some (.int .u8 0) := HM.out.it.cells 17 _ rfl
  cases hl : decide (L - 1 < 0) with
  | true =>
    go_enter Tryf.func34, Tryf.ntmps34
    go_wp2_with fail
    refine bodyPost_ret (results_tmp2 rfl _ _ _) rfl ?_
    exact MPost.out HML.out HCL.out (by omega) (.inl (of_decide_eq_true hl))
  | false =>
    have hl2 := of_decide_eq_false hl
    go_enter Tryf.func34, Tryf.ntmps34
    go_wp2_with fail
    refine (HR.out _ (HML.out.moved ((Ch.refl _ _).alloc _)) (HCL.out.alloc _) (by omega)).mono ?_
    rintro e w2 ⟨L', t', v, v2, h1, h2, h3, h4, rfl, h5, h6, h7⟩
    have HX : Hid (MPost w M I ic D0 D2 D5 s L (cost + 1) t (.returned (.tuple #[v, v2])) w2) := Lib.hid ⟨L', t', _, h1, (HCL.out.alloc _).trans h2, by omega, by omega, rfl, h5, h6, h7⟩
    clear h1 h2 h5
    simp only []
    go_wp2_with fail
    refine bodyPost_ret (results_tmp2 rfl _ _ _) rfl ?_
    exact HX.out

set_option maxRecDepth 100000 in
set_option maxHeartbeats 4000000 in
theorem match_0 {w : World} {M I ic D0 D2 D5 : Nat} {s : ByteArray} {L : Int} {p : Nat} {cv : Value} {cost : Int} {t : Option (Nat × Nat × Nat)} (HM : Hid (MatAt w M I ic D0 D2 D5 s L)) (hL : -1000000 ≤ L ∧ L ≤ 1000000) (hcs : 0 ≤ cost) (hic : 6 ≤ ic)
    (HR : Hid (∀ w1, MatAt w1 M I ic D0 D2 D5 s (L - 1) → Ch (· = M) w w1 → 0 ≤ L - 1 → Calls Tryf.prog 48 #[ptr M, .int .i64 0, .int .i64 (p : Int), cv] w1 (fun e w' => ∃ (L' : Int) (t' : Option (Nat × Nat × Nat)) (v v2 : Value), MatAt w' M I ic D0 D2 D5 s L' ∧ Ch (· = M) w1 w' ∧ L - 1 - cost ≤ L' ∧ L' ≤ L - 1 ∧ e = .returned (.tuple #[v, v2]) ∧ MRes w' M t' (.tuple #[v, v2]) ∧ (0 ≤ L' → t' = t) ∧ (L' < 0 → t' = none)))) :
    Calls Tryf.prog 34 #[ptr M, .int .i64 0, .int .i64 (p : Int), cv] w (MPost w M I ic D0 D2 D5 s L (cost + 1) t) := by
  have m1 := HM.out.m1
  have m2 := HM.out.m2
  have mf := HM.out.f2
  have ml := HM.out.lt
  have nI := HM.out.nI
  have hil := World.block_lt_of_cell? w _ (HM.out.it.cells 0 _ rfl)
  have hwL : IntKind.i64.wrap (L - 1) = L - 1 := by rw [IntKind.wrap_i64]; omega
  have HML := Lib.hid (HM.out.left (L - 1))
  have HCL : Hid (Ch (· = M) w (w.setCell ⟨M, 2, none⟩ (.int .i64 (L - 1)))) := Lib.hid ((Ch.refl (· = M) w).setCell (p := ⟨M, 2, none⟩) (fun _ => rfl) _)
  have i0 : w.cell? ⟨I, 0, none⟩ = some (.int .i64 1) := HM.out.it.cells 0 _ rfl
  have i1 : w.cell? ⟨I, 1, none⟩ = some (.slice (some ⟨D0, 0, none⟩) 128 128) := HM.out.it.cells 1 _ rfl
  have i2 : w.cell? ⟨I, 2, none⟩ = some (.int .u8 32) := HM.out.it.cells 2 _ rfl
  have i3 : w.cell? ⟨I, 3, none⟩ = some (.int .i64 0) := HM.out.it.cells 3 _ rfl
  have i4 : w.cell? ⟨I, 4, none⟩ = some (.int .u8 0) := HM.out.it.cells 4 _ rfl
  have i5 : w.cell? ⟨I, 5, none⟩ = some (.int .u8 0) := HM.out.it.cells 5 _ rfl
  cases hl : decide (L - 1 < 0) with
  | true =>
    go_enter Tryf.func34, Tryf.ntmps34
    go_wp2_with fail
    refine bodyPost_ret (results_tmp2 rfl _ _ _) rfl ?_
    exact MPost.out HML.out HCL.out (by omega) (.inl (of_decide_eq_true hl))
  | false =>
    have hl2 := of_decide_eq_false hl
    go_enter Tryf.func34, Tryf.ntmps34
    go_wp2_with fail
    refine (HR.out _ (HML.out.moved ((Ch.refl _ _).alloc _)) (HCL.out.alloc _) (by omega)).mono ?_
    rintro e w2 ⟨L', t', v, v2, h1, h2, h3, h4, rfl, h5, h6, h7⟩
    have HX : Hid (MPost w M I ic D0 D2 D5 s L (cost + 1) t (.returned (.tuple #[v, v2])) w2) := Lib.hid ⟨L', t', _, h1, (HCL.out.alloc _).trans h2, by omega, by omega, rfl, h5, h6, h7⟩
    clear h1 h2 h5
    simp only []
    go_wp2_with fail
    refine bodyPost_ret (results_tmp2 rfl _ _ _) rfl ?_
    exact HX.out

set_option maxRecDepth 100000 in
set_option maxHeartbeats 4000000 in
theorem match_1 {w : World} {M I ic D0 D2 D5 : Nat} {s : ByteArray} {L : Int} {p X xc : Nat} {cost : Int} {t : Option (Nat × Nat × Nat)} (HM : Hid (MatAt w M I ic D0 D2 D5 s L)) (hL : -1000000 ≤ L ∧ L ≤ 1000000) (hcs : 0 ≤ cost) (hic : 6 ≤ ic) (hX : X < w.heap.size)
    (HR : Hid (∀ w1 B c, MatAt w1 M I ic D0 D2 D5 s (L - 1) → Ch (· = M) w w1 → w1.cell? ⟨B, 0, none⟩ = some (.int .i64 (p : Int)) → w1.cell? ⟨B, 1, none⟩ = some (.int .i64 (-1)) → ¬ B = M → 1 ≤ c → Calls Tryf.prog 34 #[ptr M, .int .i64 2, .int .i64 (p : Int), .slice (some ⟨B, 0, none⟩) 1 c] w1 (MPost w1 M I ic D0 D2 D5 s (L - 1) cost t))) :
    Calls Tryf.prog 34 #[ptr M, .int .i64 1, .int .i64 (p : Int), .slice (some ⟨X, 0, none⟩) 0 xc] w (MPost w M I ic D0 D2 D5 s L (cost + 1) t) := by
  have m1 := HM.out.m1
  have m2 := HM.out.m2
  have mf := HM.out.f2
  have ml := HM.out.lt
  have nI := HM.out.nI
  have hil := World.block_lt_of_cell? w _ (HM.out.it.cells 0 _ rfl)
  have hwL : IntKind.i64.wrap (L - 1) = L - 1 := by rw [IntKind.wrap_i64]; omega
  have HML := Lib.hid (HM.out.left (L - 1))
  have HCL : Hid (Ch (· = M) w (w.setCell ⟨M, 2, none⟩ (.int .i64 (L - 1)))) := Lib.hid ((Ch.refl (· = M) w).setCell (p := ⟨M, 2, none⟩) (fun _ => rfl) _)
  have i0 : w.cell? ⟨I, 6, none⟩ = some (.int .i64 2) := HM.out.it.cells 6 _ rfl
  have i1 : w.cell? ⟨I, 7, none⟩ = some (.slice none 0 0) := HM.out.it.cells 7 _ rfl
  have i2 : w.cell? ⟨I, 8, none⟩ = some (.int .u8 0) := HM.out.it.cells 8 _ rfl
  have i3 : w.cell? ⟨I, 9, none⟩ = some (.int .i64 1) := HM.out.it.cells 9 _ rfl
  have i4 : w.cell? ⟨I, 10, none⟩ = some (.int .u8 0) := HM.out.it.cells 10 _ rfl
  have i5 : w.cell? ⟨I, 11, none⟩ = some (.int .u8 0) := HM.out.it.cells 11 _ rfl
  cases hl : decide (L - 1 < 0) with
  | true =>
    go_enter Tryf.func34, Tryf.ntmps34
    go_wp2_with fail
    refine bodyPost_ret (results_tmp2 rfl _ _ _) rfl ?_
    exact MPost.out HML.out HCL.out (by omega) (.inl (of_decide_eq_true hl))
  | false =>
    have hl2 := of_decide_eq_false hl
    go_enter Tryf.func34, Tryf.ntmps34
    go_wp2_with fail
    refine (with_none (by simp; omega)).mono ?_
    rintro e w2 ⟨hch, B, c, rfl, hb0, hb1, hB, hc⟩
    have HM2 := Lib.hid ((HML.out.moved ((Ch.refl _ _).alloc _)).moved hch)
    have HC2 := Lib.hid ((HCL.out.alloc _).trans (hch.mono fun _ _ h => h.elim))
    have hBM : ¬ B = M := by simp at hB; omega
    clear hch
    simp only []
    go_wp2_with fail
    refine (HR.out _ B c HM2.out HC2.out hb0 hb1 hBM hc).mono ?_
    rintro e w3 hpost
    obtain ⟨L', t', v, h1, h2, h3, h4, rfl, h5, h6, h7⟩ := hpost
    obtain ⟨v1, v2, rfl⟩ : ∃ v1 v2, v = .tuple #[v1, v2] := by
      cases t' with
      | none => exact ⟨_, _, h5⟩
      | some r => obtain ⟨e, A, S⟩ := r; obtain ⟨B', c', hv, _⟩ := h5; exact ⟨_, _, hv⟩
    have HX : Hid (MPost w M I ic D0 D2 D5 s L (cost + 1) t (.returned (.tuple #[v1, v2])) w3) := Lib.hid ⟨L', t', _, h1, HC2.out.trans h2, by omega, by omega, rfl, h5, h6, h7⟩
    clear h1 h2 h5
    simp only []
    go_wp2_with fail
    refine bodyPost_ret (results_tmp2 rfl _ _ _) rfl ?_
    exact HX.out

set_option maxRecDepth 100000 in
set_option maxHeartbeats 4000000 in
theorem match_4far {w : World} {M I ic D0 D2 D5 : Nat} {s : ByteArray} {L : Int} {p A S B c : Nat} (HM : Hid (MatAt w M I ic D0 D2 D5 s L)) (hL : -1000000 ≤ L ∧ L ≤ 1000000) (hic : 6 ≤ ic) (b0 : w.cell? ⟨B, 0, none⟩ = some (.int .i64 (A : Int))) (b1 : w.cell? ⟨B, 1, none⟩ = some (.int .i64 (S : Int))) (hB : ¬ B = M) (hc : 1 ≤ c) (hs : s.size ≤ 1000) (hA : A + S ≤ s.size) (hp : p ≤ 1000) (hno : s.size < p + S) :
    Calls Tryf.prog 34 #[ptr M, .int .i64 4, .int .i64 (p : Int), .slice (some ⟨B, 0, none⟩) 1 c] w (MPost w M I ic D0 D2 D5 s L 1 none) := by
  have m1 := HM.out.m1
  have m2 := HM.out.m2
  have mf := HM.out.f2
  have ml := HM.out.lt
  have nI := HM.out.nI
  have hil := World.block_lt_of_cell? w _ (HM.out.it.cells 0 _ rfl)
  have hwL : IntKind.i64.wrap (L - 1) = L - 1 := by rw [IntKind.wrap_i64]; omega
  have HML := Lib.hid (HM.out.left (L - 1))
  have HCL : Hid (Ch (· = M) w (w.setCell ⟨M, 2, none⟩ (.int .i64 (L - 1)))) := Lib.hid ((Ch.refl (· = M) w).setCell (p := ⟨M, 2, none⟩) (fun _ => rfl) _)
  have i0 : w.cell? ⟨I, 24, none⟩ = some (.int .i64 5) := HM.out.it.cells 24 _ rfl
  have i1 : w.cell? ⟨I, 25, none⟩ = some (.slice none 0 0) := HM.out.it.cells 25 _ rfl
  have i2 : w.cell? ⟨I, 26, none⟩ = some (.int .u8 0) := HM.out.it.cells 26 _ rfl
  have i3 : w.cell? ⟨I, 27, none⟩ = some (.int .i64 1) := HM.out.it.cells 27 _ rfl
  have i4 : w.cell? ⟨I, 28, none⟩ = some (.int .u8 0) := HM.out.it.cells 28 _ rfl
  have i5 : w.cell? ⟨I, 29, none⟩ = some (.int .u8 0) := HM.out.it.cells 29 _ rfl
  have m0 := HM.out.m0
  have hbl := World.block_lt_of_cell? w _ b0
  cases hl : decide (L - 1 < 0) with
  | true =>
    go_enter Tryf.func34, Tryf.ntmps34
    go_wp2_with fail
    refine bodyPost_ret (results_tmp2 rfl _ _ _) rfl ?_
    exact MPost.out HML.out HCL.out (by omega) (.inl (of_decide_eq_true hl))
  | false =>
    have hl2 := of_decide_eq_false hl
    have c1 : (1 : Int) ≤ c := by omega
    have S0 : ¬ (S : Int) < 0 := by omega
    have hwS : IntKind.i64.wrap ((p : Int) + (S : Int)) = (p : Int) + (S : Int) := by rw [IntKind.wrap_i64]; omega
    have hwA : IntKind.i64.wrap ((A : Int) + (S : Int)) = (A : Int) + (S : Int) := by rw [IntKind.wrap_i64]; omega
    have p0 : (0 : Int) ≤ (p : Int) := by omega
    have a0 : (0 : Int) ≤ (A : Int) := by omega
    have pS : (p : Int) ≤ (p : Int) + (S : Int) := by omega
    have aS : (A : Int) ≤ (A : Int) + (S : Int) := by omega
    have aE : (A : Int) + (S : Int) ≤ s.size := by omega
    have tp : ((p : Int) + (S : Int)).toNat = p + S := by omega
    have ta : ((A : Int) + (S : Int)).toNat = A + S := by omega
    have g1 : decide ((s.size : Int) < (p : Int) + (S : Int)) = true := decide_eq_true (by omega)
    have g2 : decide (s.size < p + S) = true := decide_eq_true hno
    go_enter Tryf.func34, Tryf.ntmps34
    go_wp2_with fail
    go_quiet (fail)
    simp only [Exit.then]
    go_wp2_with fail
    refine bodyPost_ret (results_tmp2 rfl _ _ _) rfl ?_
    exact MPost.out (HML.out.moved ((((Ch.refl _ _).alloc _).alloc _).drewN _)) (((HCL.out.alloc _).alloc _).drewN _) (by omega) (.inr rfl)

set_option maxRecDepth 100000 in
set_option maxHeartbeats 4000000 in
theorem match_4no {w : World} {M I ic D0 D2 D5 : Nat} {s : ByteArray} {L : Int} {p A S B c : Nat} (HM : Hid (MatAt w M I ic D0 D2 D5 s L)) (hL : -1000000 ≤ L ∧ L ≤ 1000000) (hic : 6 ≤ ic) (b0 : w.cell? ⟨B, 0, none⟩ = some (.int .i64 (A : Int))) (b1 : w.cell? ⟨B, 1, none⟩ = some (.int .i64 (S : Int))) (hB : ¬ B = M) (hc : 1 ≤ c) (hs : s.size ≤ 1000) (hA : A + S ≤ s.size) (hp : p ≤ 1000) (hle : p + S ≤ s.size) (g3 : ((s.extract p (p + S)).toList == (s.extract A (A + S)).toList) = false) :
    Calls Tryf.prog 34 #[ptr M, .int .i64 4, .int .i64 (p : Int), .slice (some ⟨B, 0, none⟩) 1 c] w (MPost w M I ic D0 D2 D5 s L 1 none) := by
  have m1 := HM.out.m1
  have m2 := HM.out.m2
  have mf := HM.out.f2
  have ml := HM.out.lt
  have nI := HM.out.nI
  have hil := World.block_lt_of_cell? w _ (HM.out.it.cells 0 _ rfl)
  have hwL : IntKind.i64.wrap (L - 1) = L - 1 := by rw [IntKind.wrap_i64]; omega
  have HML := Lib.hid (HM.out.left (L - 1))
  have HCL : Hid (Ch (· = M) w (w.setCell ⟨M, 2, none⟩ (.int .i64 (L - 1)))) := Lib.hid ((Ch.refl (· = M) w).setCell (p := ⟨M, 2, none⟩) (fun _ => rfl) _)
  have i0 : w.cell? ⟨I, 24, none⟩ = some (.int .i64 5) := HM.out.it.cells 24 _ rfl
  have i1 : w.cell? ⟨I, 25, none⟩ = some (.slice none 0 0) := HM.out.it.cells 25 _ rfl
  have i2 : w.cell? ⟨I, 26, none⟩ = some (.int .u8 0) := HM.out.it.cells 26 _ rfl
  have i3 : w.cell? ⟨I, 27, none⟩ = some (.int .i64 1) := HM.out.it.cells 27 _ rfl
  have i4 : w.cell? ⟨I, 28, none⟩ = some (.int .u8 0) := HM.out.it.cells 28 _ rfl
  have i5 : w.cell? ⟨I, 29, none⟩ = some (.int .u8 0) := HM.out.it.cells 29 _ rfl
  have m0 := HM.out.m0
  have hbl := World.block_lt_of_cell? w _ b0
  cases hl : decide (L - 1 < 0) with
  | true =>
    go_enter Tryf.func34, Tryf.ntmps34
    go_wp2_with fail
    refine bodyPost_ret (results_tmp2 rfl _ _ _) rfl ?_
    exact MPost.out HML.out HCL.out (by omega) (.inl (of_decide_eq_true hl))
  | false =>
    have hl2 := of_decide_eq_false hl
    have c1 : (1 : Int) ≤ c := by omega
    have S0 : ¬ (S : Int) < 0 := by omega
    have hwS : IntKind.i64.wrap ((p : Int) + (S : Int)) = (p : Int) + (S : Int) := by rw [IntKind.wrap_i64]; omega
    have hwA : IntKind.i64.wrap ((A : Int) + (S : Int)) = (A : Int) + (S : Int) := by rw [IntKind.wrap_i64]; omega
    have p0 : (0 : Int) ≤ (p : Int) := by omega
    have a0 : (0 : Int) ≤ (A : Int) := by omega
    have pS : (p : Int) ≤ (p : Int) + (S : Int) := by omega
    have aS : (A : Int) ≤ (A : Int) + (S : Int) := by omega
    have aE : (A : Int) + (S : Int) ≤ s.size := by omega
    have tp : ((p : Int) + (S : Int)).toNat = p + S := by omega
    have ta : ((A : Int) + (S : Int)).toNat = A + S := by omega
    have g1 : decide ((s.size : Int) < (p : Int) + (S : Int)) = false := decide_eq_false (by omega)
    have g2 : decide (s.size < p + S) = false := decide_eq_false (by omega)
    have pE : (p : Int) + (S : Int) ≤ s.size := by omega
    go_enter Tryf.func34, Tryf.ntmps34
    go_wp2_with fail
    go_quiet (fail)
    simp only [Exit.then]
    go_wp2_with fail
    refine bodyPost_ret (results_tmp2 rfl _ _ _) rfl ?_
    exact MPost.out (HML.out.moved ((((Ch.refl _ _).alloc _).alloc _).drewN _)) (((HCL.out.alloc _).alloc _).drewN _) (by omega) (.inr rfl)

set_option maxRecDepth 100000 in
set_option maxHeartbeats 4000000 in
theorem match_4 {w : World} {M I ic D0 D2 D5 : Nat} {s : ByteArray} {L : Int} {p A S B c : Nat} (HM : Hid (MatAt w M I ic D0 D2 D5 s L)) (hL : -1000000 ≤ L ∧ L ≤ 1000000) (hic : 6 ≤ ic) (b0 : w.cell? ⟨B, 0, none⟩ = some (.int .i64 (A : Int))) (b1 : w.cell? ⟨B, 1, none⟩ = some (.int .i64 (S : Int))) (hB : ¬ B = M) (hc : 1 ≤ c) (hs : s.size ≤ 1000) (hA : A + S ≤ s.size) (hp : p ≤ 1000) {cost : Int} {t : Option (Nat × Nat × Nat)} (hcs : 0 ≤ cost) (hle : p + S ≤ s.size) (g3 : ((s.extract p (p + S)).toList == (s.extract A (A + S)).toList) = true)
    (HR : Hid (∀ w1, MatAt w1 M I ic D0 D2 D5 s (L - 1) → Ch (· = M) w w1 → Calls Tryf.prog 34 #[ptr M, .int .i64 5, .int .i64 ((p : Int) + (S : Int)), .slice (some ⟨B, 0, none⟩) 1 c] w1 (MPost w1 M I ic D0 D2 D5 s (L - 1) cost t))) :
    Calls Tryf.prog 34 #[ptr M, .int .i64 4, .int .i64 (p : Int), .slice (some ⟨B, 0, none⟩) 1 c] w (MPost w M I ic D0 D2 D5 s L (cost + 1) t) := by
  have m1 := HM.out.m1
  have m2 := HM.out.m2
  have mf := HM.out.f2
  have ml := HM.out.lt
  have nI := HM.out.nI
  have hil := World.block_lt_of_cell? w _ (HM.out.it.cells 0 _ rfl)
  have hwL : IntKind.i64.wrap (L - 1) = L - 1 := by rw [IntKind.wrap_i64]; omega
  have HML := Lib.hid (HM.out.left (L - 1))
  have HCL : Hid (Ch (· = M) w (w.setCell ⟨M, 2, none⟩ (.int .i64 (L - 1)))) := Lib.hid ((Ch.refl (· = M) w).setCell (p := ⟨M, 2, none⟩) (fun _ => rfl) _)
  have i0 : w.cell? ⟨I, 24, none⟩ = some (.int .i64 5) := HM.out.it.cells 24 _ rfl
  have i1 : w.cell? ⟨I, 25, none⟩ = some (.slice none 0 0) := HM.out.it.cells 25 _ rfl
  have i2 : w.cell? ⟨I, 26, none⟩ = some (.int .u8 0) := HM.out.it.cells 26 _ rfl
  have i3 : w.cell? ⟨I, 27, none⟩ = some (.int .i64 1) := HM.out.it.cells 27 _ rfl
  have i4 : w.cell? ⟨I, 28, none⟩ = some (.int .u8 0) := HM.out.it.cells 28 _ rfl
  have i5 : w.cell? ⟨I, 29, none⟩ = some (.int .u8 0) := HM.out.it.cells 29 _ rfl
  have m0 := HM.out.m0
  have hbl := World.block_lt_of_cell? w _ b0
  cases hl : decide (L - 1 < 0) with
  | true =>
    go_enter Tryf.func34, Tryf.ntmps34
    go_wp2_with fail
    refine bodyPost_ret (results_tmp2 rfl _ _ _) rfl ?_
    exact MPost.out HML.out HCL.out (by omega) (.inl (of_decide_eq_true hl))
  | false =>
    have hl2 := of_decide_eq_false hl
    have c1 : (1 : Int) ≤ c := by omega
    have S0 : ¬ (S : Int) < 0 := by omega
    have hwS : IntKind.i64.wrap ((p : Int) + (S : Int)) = (p : Int) + (S : Int) := by rw [IntKind.wrap_i64]; omega
    have hwA : IntKind.i64.wrap ((A : Int) + (S : Int)) = (A : Int) + (S : Int) := by rw [IntKind.wrap_i64]; omega
    have p0 : (0 : Int) ≤ (p : Int) := by omega
    have a0 : (0 : Int) ≤ (A : Int) := by omega
    have pS : (p : Int) ≤ (p : Int) + (S : Int) := by omega
    have aS : (A : Int) ≤ (A : Int) + (S : Int) := by omega
    have aE : (A : Int) + (S : Int) ≤ s.size := by omega
    have tp : ((p : Int) + (S : Int)).toNat = p + S := by omega
    have ta : ((A : Int) + (S : Int)).toNat = A + S := by omega
    have g1 : decide ((s.size : Int) < (p : Int) + (S : Int)) = false := decide_eq_false (by omega)
    have g2 : decide (s.size < p + S) = false := decide_eq_false (by omega)
    have pE : (p : Int) + (S : Int) ≤ s.size := by omega
    go_enter Tryf.func34, Tryf.ntmps34
    go_wp2_with fail
    go_quiet (fail)
    simp only [Exit.then]
    go_wp2_with fail
    refine (HR.out _ (HML.out.moved ((((Ch.refl _ _).alloc _).alloc _).drewN _)) (((HCL.out.alloc _).alloc _).drewN _)).mono ?_
    rintro e w3 hpost
    obtain ⟨L', t', v, h1, h2, h3, h4, rfl, h5, h6, h7⟩ := hpost
    obtain ⟨v1, v2, rfl⟩ : ∃ v1 v2, v = .tuple #[v1, v2] := by
      cases t' with
      | none => exact ⟨_, _, h5⟩
      | some r => obtain ⟨e, A, S⟩ := r; obtain ⟨B', c', hv, _⟩ := h5; exact ⟨_, _, hv⟩
    have HX : Hid (MPost w M I ic D0 D2 D5 s L (cost + 1) t (.returned (.tuple #[v1, v2])) w3) := Lib.hid ⟨L', t', _, h1, (((HCL.out.alloc _).alloc _).drewN _).trans h2, by omega, by omega, rfl, h5, h6, h7⟩
    clear h1 h2 h5
    simp only []
    go_wp2_with fail
    refine bodyPost_ret (results_tmp2 rfl _ _ _) rfl ?_
    exact HX.out

end Go.Proofs.YtkbdngcbifonkaaFmt
