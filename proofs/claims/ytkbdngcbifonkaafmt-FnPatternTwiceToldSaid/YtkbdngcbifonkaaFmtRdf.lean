/-
  spec.ptRead at \x01(.+)%1\x02.
-/
import Derived.Test.YtkbdngcbifonkaaFmtRds
import Derived.Deep.LoopGhost
namespace Go.Proofs.YtkbdngcbifonkaaFmt
set_option linter.all false
open Go.RowKit

abbrev twStr : ByteArray := ⟨#[1, 40, 46, 43, 41, 37, 49, 2]⟩

/-- The items' cells. -/
def twCells (D0 D2 D5 : Nat) : List Value :=
  itemCells 1 (some ⟨D0, 0, none⟩) 128 128 32 0 ++ itemCells 2 none 0 0 0 1 ++ itemCells 1 (some ⟨D2, 0, none⟩) 128 128 43 0 ++ itemCells 3 none 0 0 0 1 ++ itemCells 5 none 0 0 0 1 ++ itemCells 1 (some ⟨D5, 0, none⟩) 128 128 32 0

/-- The items in memory. -/
structure ItemsAt (w : World) (I D0 D2 D5 : Nat) : Prop where
  cells : ∀ j v, (twCells D0 D2 D5)[j]? = some v → w.cell? ⟨I, j, none⟩ = some v
  s0 : SetIs w D0 (fun i => decide (i = 1))
  s2 : SetIs w D2 (fun _ => true)
  s5 : SetIs w D5 (fun i => decide (i = 2))

theorem ItemsAt.keep {w w' : World} {I D0 D2 D5 : Nat} {T : Nat → Prop} (h : ItemsAt w I D0 D2 D5) (hc : Ch T w w') (hI : ¬ T I) (h0 : ¬ T D0) (h2 : ¬ T D2) (h5 : ¬ T D5) : ItemsAt w' I D0 D2 D5 :=
  ⟨fun j v hv => hc.cell_some (h.cells j v hv) hI, h.s0.keep hc h0, h.s2.keep hc h2, h.s5.keep hc h5⟩

/-- The reader behind so many rounds. -/
def twRd (w0 : World) (R : Nat) : Nat → World → Prop
  | 6, w => ∃ B c, RdAt w0 R 0 0 (.slice none 0 0) none 0 [] [] w B c
  | 5, w => ∃ D0 B c, RdAt w0 R 1 0 (.slice none 0 0) none 1 ([] ++ itemCells 1 (some ⟨D0, 0, none⟩) 128 128 32 0) [(D0, fun i => decide (i = 1))] w B c
  | 4, w => ∃ D0 g c2 B c, 1 ≤ c2 ∧ RdAt w0 R 2 1 (.slice (some ⟨g, 0, none⟩) 1 c2) (some g) 2 ([] ++ itemCells 1 (some ⟨D0, 0, none⟩) 128 128 32 0 ++ itemCells 2 none 0 0 0 1) [(D0, fun i => decide (i = 1))] w B c
  | 3, w => ∃ D0 D2 g c2 B c, 1 ≤ c2 ∧ RdAt w0 R 4 1 (.slice (some ⟨g, 0, none⟩) 1 c2) (some g) 3 ([] ++ itemCells 1 (some ⟨D0, 0, none⟩) 128 128 32 0 ++ itemCells 2 none 0 0 0 1 ++ itemCells 1 (some ⟨D2, 0, none⟩) 128 128 43 0) [(D2, fun _ => true), (D0, fun i => decide (i = 1))] w B c
  | 2, w => ∃ D0 D2 oB oc B c, RdAt w0 R 5 1 (.slice oB 0 oc) none 4 ([] ++ itemCells 1 (some ⟨D0, 0, none⟩) 128 128 32 0 ++ itemCells 2 none 0 0 0 1 ++ itemCells 1 (some ⟨D2, 0, none⟩) 128 128 43 0 ++ itemCells 3 none 0 0 0 1) [(D2, fun _ => true), (D0, fun i => decide (i = 1))] w B c
  | 1, w => ∃ D0 D2 oB oc B c, RdAt w0 R 7 1 (.slice oB 0 oc) none 5 ([] ++ itemCells 1 (some ⟨D0, 0, none⟩) 128 128 32 0 ++ itemCells 2 none 0 0 0 1 ++ itemCells 1 (some ⟨D2, 0, none⟩) 128 128 43 0 ++ itemCells 3 none 0 0 0 1 ++ itemCells 5 none 0 0 0 1) [(D2, fun _ => true), (D0, fun i => decide (i = 1))] w B c
  | _, w => ∃ D0 D2 D5 oB oc B c, RdAt w0 R 8 1 (.slice oB 0 oc) none 6 ([] ++ itemCells 1 (some ⟨D0, 0, none⟩) 128 128 32 0 ++ itemCells 2 none 0 0 0 1 ++ itemCells 1 (some ⟨D2, 0, none⟩) 128 128 43 0 ++ itemCells 3 none 0 0 0 1 ++ itemCells 5 none 0 0 0 1 ++ itemCells 1 (some ⟨D5, 0, none⟩) 128 128 32 0) [(D5, fun i => decide (i = 2)), (D2, fun _ => true), (D0, fun i => decide (i = 1))] w B c

/-- The place behind so many rounds. -/
def twK : Nat → Nat
  | 6 => 0
  | 5 => 1
  | 4 => 2
  | 3 => 4
  | 2 => 5
  | 1 => 7
  | _ => 8

theorem twRd_cells {w0 w : World} {R n : Nat} (hn : n ≤ 6) (h : twRd w0 R n w) : w.cell? ⟨R, 1, none⟩ = some (.int .i64 (twK n : Int)) := by
  match n, hn with
  | 6, _ => obtain ⟨_, _, h⟩ := h; exact h.c1
  | 5, _ => obtain ⟨_, _, _, h⟩ := h; exact h.c1
  | 4, _ => obtain ⟨_, _, _, _, _, _, h⟩ := h; exact h.c1
  | 3, _ => obtain ⟨_, _, _, _, _, _, _, h⟩ := h; exact h.c1
  | 2, _ => obtain ⟨_, _, _, _, _, _, h⟩ := h; exact h.c1
  | 1, _ => obtain ⟨_, _, _, _, _, _, h⟩ := h; exact h.c1
  | 0, _ => obtain ⟨_, _, _, _, _, _, _, h⟩ := h; exact h.c1

theorem twRd_item {w0 w : World} {R n : Nat} (hn : n ≤ 5) (h : twRd w0 R (n + 1) w) : Calls Tryf.prog 33 #[ptr R] w fun e w' => e = .returned (.bool true) ∧ twRd w0 R n w' := by
  match n, hn with
  | 5, _ =>
    obtain ⟨B, c, h⟩ := h
    refine (item_one (Lib.hid h) (by omega)).mono ?_
    rintro e w' ⟨rfl, D, B', c', h'⟩
    exact ⟨rfl, D, B', c', h'⟩
  | 4, _ =>
    obtain ⟨D0, B, c, h⟩ := h
    refine (item_cap (Lib.hid h) (by omega)).mono ?_
    rintro e w' ⟨rfl, g, c2, B', c', h1, h'⟩
    exact ⟨rfl, D0, g, c2, B', c', h1, h'⟩
  | 3, _ =>
    obtain ⟨D0, g, c2, B, c, h1, h⟩ := h
    refine (item_dot (Lib.hid h) (by omega)).mono ?_
    rintro e w' ⟨rfl, D, B', c', h'⟩
    exact ⟨rfl, D0, D, g, c2, B', c', h1, h'⟩
  | 2, _ =>
    obtain ⟨D0, D2, g, c2, B, c, h1, h⟩ := h
    refine (item_close (Lib.hid h) (by omega) h1).mono ?_
    rintro e w' ⟨rfl, oB, oc, B', c', h'⟩
    exact ⟨rfl, D0, D2, oB, oc, B', c', h'⟩
  | 1, _ =>
    obtain ⟨D0, D2, oB, oc, B, c, h⟩ := h
    refine (item_back (Lib.hid h) (by omega)).mono ?_
    rintro e w' ⟨rfl, B', c', h'⟩
    exact ⟨rfl, D0, D2, oB, oc, B', c', h'⟩
  | 0, _ =>
    obtain ⟨D0, D2, oB, oc, B, c, h⟩ := h
    refine (item_two (Lib.hid h) (by omega)).mono ?_
    rintro e w' ⟨rfl, D, B', c', h'⟩
    exact ⟨rfl, D0, D2, D, oB, oc, B', c', h'⟩

/-- What ptRead gives. -/
def ReadPost (w : World) (e : Ending) (w' : World) : Prop :=
  Ch (fun _ => False) w w' ∧ ∃ I ic D0 D2 D5, e = .returned (.tuple #[.agg #[.bool false, .slice (some ⟨I, 0, none⟩) 6 ic, .int .i64 1], .bool true]) ∧ w.heap.size ≤ I ∧ I < w'.heap.size ∧ ItemsAt w' I D0 D2 D5 ∧ 6 ≤ ic

noncomputable def reg23 (id : Nat) : Code := (rgc id (Tryf.f23.body.getD .skip)).getD .skip

set_option maxRecDepth 100000 in
set_option maxHeartbeats 4000000 in
theorem read_reg {w : World} {X R oc I ic : Nat} {oB : Option Addr} {Q : Exit → Act → World → Prop} {u1 u3 u4 u6 u7 u8 u9 u10 u11 u12 u13 u14 u15 u16 u17 u18 u19 u20 u21 u22 u23 u24 u25 u26 u27 u28 u29 u30 u31 u32 u33 u34 u35 u36 u37 u38 u39 u40 u41 u42 u43 u44 u45 u46 u47 u48 u49 u50 u51 u52 u53 u54 u55 u56 u57 u58 u59 u60 u61 u62 u63 u64 : Value} (c2 : w.cell? ⟨R, 2, none⟩ = some (.slice oB 0 oc)) (c3 : w.cell? ⟨R, 3, none⟩ = some (.bool false)) (c4 : w.cell? ⟨R, 4, none⟩ = some (.slice (some ⟨I, 0, none⟩) 6 ic)) (c5 : w.cell? ⟨R, 5, none⟩ = some (.int .i64 1))
    (x0 : w.cell? ⟨X, 0, none⟩ = some (.bool false)) (x1 : w.cell? ⟨X, 1, none⟩ = some (.slice none 0 0)) (x2 : w.cell? ⟨X, 2, none⟩ = some (.int .i64 0)) (f0 : w.frozen? ⟨X, 0, none⟩ = false) (f1 : w.frozen? ⟨X, 1, none⟩ = false) (f2 : w.frozen? ⟨X, 2, none⟩ = false) (xl : X < w.heap.size) (hRX : ¬ R = X) (hXR : ¬ X = R)
    (hQ : ∀ (w' : World) (y55 y56 y57 y58 y59 y60 y61 y62 y63 y64 : Value), Ch (· = X) w w' → w'.cell? ⟨X, 0, none⟩ = some (.bool false) → w'.cell? ⟨X, 1, none⟩ = some (.slice (some ⟨I, 0, none⟩) 6 ic) → w'.cell? ⟨X, 2, none⟩ = some (.int .i64 1) → Q .normal { tmps := #[.string twStr, u1, ptr X, .bool true, u4, ptr R, u6, u7, u8, u9, u10, u11, u12, u13, u14, u15, u16, u17, u18, u19, u20, u21, u22, u23, u24, u25, u26, u27, u28, u29, u30, u31, u32, u33, u34, u35, u36, u37, u38, u39, u40, u41, u42, u43, u44, u45, u46, u47, u48, u49, u50, u51, u52, u53, u54, y55, y56, y57, y58, y59, y60, y61, y62, y63, y64], defers := [] } w') :
    (reg23 15).wp Tryf.prog Q { tmps := #[.string twStr, u1, ptr X, u3, u4, ptr R, u6, u7, u8, u9, u10, u11, u12, u13, u14, u15, u16, u17, u18, u19, u20, u21, u22, u23, u24, u25, u26, u27, u28, u29, u30, u31, u32, u33, u34, u35, u36, u37, u38, u39, u40, u41, u42, u43, u44, u45, u46, u47, u48, u49, u50, u51, u52, u53, u54, u55, u56, u57, u58, u59, u60, u61, u62, u63, u64], defers := [] } w := by
  have HCH : Hid (Ch (· = X) w ((((w.setCell ⟨X, 0, none⟩ (.bool false)).setCell ⟨X, 1, none⟩ (.slice (some ⟨I, 0, none⟩) 6 ic)).setCell ⟨X, 2, none⟩ (.int .i64 1)).drew)) := Lib.hid (((((Ch.refl (· = X) w).setCell (p := ⟨X, 0, none⟩) (fun _ => rfl) _).setCell (p := ⟨X, 1, none⟩) (fun _ => rfl) _).setCell (p := ⟨X, 2, none⟩) (fun _ => rfl) _).drew)
  have H0 : Hid (((((w.setCell ⟨X, 0, none⟩ (.bool false)).setCell ⟨X, 1, none⟩ (.slice (some ⟨I, 0, none⟩) 6 ic)).setCell ⟨X, 2, none⟩ (.int .i64 1)).drew).cell? ⟨X, 0, none⟩ = some (.bool false)) := Lib.hid (by
    show World.cell? (((w.setCell _ _).setCell _ _).setCell _ _) _ = _
    rw [World.cell?_setCell_other _ _ _ _ (addr_ne (by decide)), World.cell?_setCell_other _ _ _ _ (addr_ne (by decide))]
    exact World.cell?_setCell_same _ _ _ x0)
  have H1 : Hid (((((w.setCell ⟨X, 0, none⟩ (.bool false)).setCell ⟨X, 1, none⟩ (.slice (some ⟨I, 0, none⟩) 6 ic)).setCell ⟨X, 2, none⟩ (.int .i64 1)).drew).cell? ⟨X, 1, none⟩ = some (.slice (some ⟨I, 0, none⟩) 6 ic)) := Lib.hid (by
    show World.cell? (((w.setCell _ _).setCell _ _).setCell _ _) _ = _
    rw [World.cell?_setCell_other _ _ _ _ (addr_ne (by decide))]
    exact World.cell?_setCell_same _ _ _ ((World.cell?_setCell_other _ _ _ _ (addr_ne (by decide))).trans x1))
  have H2 : Hid (((((w.setCell ⟨X, 0, none⟩ (.bool false)).setCell ⟨X, 1, none⟩ (.slice (some ⟨I, 0, none⟩) 6 ic)).setCell ⟨X, 2, none⟩ (.int .i64 1)).drew).cell? ⟨X, 2, none⟩ = some (.int .i64 1)) := Lib.hid (World.cell?_setCell_same _ _ _ ((World.cell?_setCell_other _ _ _ _ (addr_ne (by decide))).trans ((World.cell?_setCell_other _ _ _ _ (addr_ne (by decide))).trans x2)))
  have HQ := Lib.hid hQ
  clear hQ
  conv => arg 2; whnf
  refine wp_region_noPanic ?_
  go_region_law (fail)
  all_goals
    refine NoPanic.normal ?_
    go_simp
    exact HQ.out _ _ _ _ _ _ _ _ _ _ _ HCH.out H0.out H1.out H2.out

theorem results_c2 {fn : Func} {p u : Tmp} {ty : TypeId} (h : fn.results = #[.cell p ty, .tmp u]) (tmps : Array Value) (P : Program) (w : World) :
    (results fn tmps).run P w =
      ((asAddr (tmps.getD p undef)).run P w).andThen fun a w₁ => ((loadVar ty a).run P w₁).andThen fun x w₂ => .ok (.tuple #[x, tmps.getD u undef]) w₂ := by
  simp only [results, h]
  simp [Sem.run_bind, Result.andThen]

theorem tw_byte (i : Nat) (h : i < 8) : ((((twStr[i]'h).toNat : Nat) : Int) == 0) = false := by
  match i, h with
  | 0, _ => rfl
  | 1, _ => rfl
  | 2, _ => rfl
  | 3, _ => rfl
  | 4, _ => rfl
  | 5, _ => rfl
  | 6, _ => rfl
  | 7, _ => rfl

theorem RdAt.start (w0 : World) : RdAt w0 w0.heap.size 0 0 (.slice none 0 0) none 0 [] [] (w0.alloc (.cells #[.string twStr, .int .i64 0, .slice none 0 0, .bool false, .slice none 0 0, .int .i64 0] 84)) none 0 where
  ch := (Ch.refl _ _).alloc _
  base := Nat.le_refl _
  lt := by simp
  c0 := World.cell?_alloc_at _ _ _ _ rfl
  c1 := World.cell?_alloc_at _ _ _ _ rfl
  c2 := World.cell?_alloc_at _ _ _ _ rfl
  c3 := World.cell?_alloc_at _ _ _ _ rfl
  c4 := World.cell?_alloc_at _ _ _ _ rfl
  c5 := World.cell?_alloc_at _ _ _ _ rfl
  fz i := World.frozen?_alloc_at _ _ _ _ rfl
  ne := by simp [blk]
  own := World.ownsRow_nil _ _ _ _
  sets d hd := by cases hd
  opn g hg := by cases hg

theorem twRd_ch {w0 w : World} {R n : Nat} (hn : n ≤ 6) (h : twRd w0 R n w) : Ch (fun _ => False) w0 w := by
  match n, hn with
  | 6, _ => obtain ⟨_, _, h⟩ := h; exact h.ch
  | 5, _ => obtain ⟨_, _, _, h⟩ := h; exact h.ch
  | 4, _ => obtain ⟨_, _, _, _, _, _, h⟩ := h; exact h.ch
  | 3, _ => obtain ⟨_, _, _, _, _, _, _, h⟩ := h; exact h.ch
  | 2, _ => obtain ⟨_, _, _, _, _, _, h⟩ := h; exact h.ch
  | 1, _ => obtain ⟨_, _, _, _, _, _, h⟩ := h; exact h.ch
  | 0, _ => obtain ⟨_, _, _, _, _, _, _, h⟩ := h; exact h.ch

theorem twK_lt {n : Nat} (hn : n ≤ 5) : (twK (n + 1) : Int) < 8 := by
  match n, hn with
  | 5, _ => decide
  | 4, _ => decide
  | 3, _ => decide
  | 2, _ => decide
  | 1, _ => decide
  | 0, _ => decide

theorem row_at {w : World} {base g n c e size : Nat} {us : List Value} (h : w.ownsRow base e size (.slice (some ⟨g, 0, none⟩) n c) n us) (j : Nat) (v : Value) (hv : us[j]? = some v) : w.cell? ⟨g, j, none⟩ = some v := by
  have hc := h.cells (g := g) rfl j v hv
  have hadd : (⟨g, 0, none⟩ : Addr).add j = ⟨g, j, none⟩ := by unfold Addr.add; split <;> simp_all
  rw [hadd] at hc
  exact hc

set_option maxRecDepth 100000 in
set_option maxHeartbeats 4000000 in
theorem read_calls (w : World) : Calls Tryf.prog 23 #[.string twStr] w (ReadPost w) := by
  have HB : Hid (∀ w1, Calls Tryf.prog 24 #[.string twStr] w1 fun e w' => w1 = w' ∧ e = .returned (.bool true)) := Lib.hid fun w1 => bytes_calls (by decide) (fun j h => by
    match j, h with
    | 0, _ => exact Nat.le_of_ble_eq_true rfl
    | 1, _ => exact Nat.le_of_ble_eq_true rfl
    | 2, _ => exact Nat.le_of_ble_eq_true rfl
    | 3, _ => exact Nat.le_of_ble_eq_true rfl
    | 4, _ => exact Nat.le_of_ble_eq_true rfl
    | 5, _ => exact Nat.le_of_ble_eq_true rfl
    | 6, _ => exact Nat.le_of_ble_eq_true rfl
    | 7, _ => exact Nat.le_of_ble_eq_true rfl)
  have h94 : (((((twStr : ByteArray)[0]'(by decide)).toNat : Nat) : Int) == 94) = false := rfl
  go_enter Tryf.func23, Tryf.ntmps23
  go_wp2_with fail
  refine (HB.out _).mono ?_
  rintro e w1 ⟨rfl, rfl⟩
  simp only []
  go_wp2_with fail
  go_loopg [4] 8 (fun k s4 wr => ∃ i : Nat, s4 = .int .i64 i ∧ i ≤ 8 ∧ k = 8 - i ∧ wr = w.alloc (.cells #[.bool false, .slice none 0 0, .int .i64 0] 60))
  case atStart => exact ⟨0, rfl, by omega, rfl, rfl⟩
  case round =>
    obtain ⟨i, rfl, hi, rfl, rfl⟩ := hrel
    by_cases hlt : i < 8
    · have i1 : (i : Int) < 8 := by omega
      have i0 : (0 : Int) ≤ (i : Int) := by omega
      have hw : IntKind.i64.wrap ((i : Int) + 1) = ((i + 1 : Nat) : Int) := by rw [IntKind.wrap_i64]; omega
      have hb := tw_byte i hlt
      go_wp2_with fail
      go_roundg (8 - (i + 1))
      case measure => omega
      case rel => exact ⟨i + 1, rfl, by omega, by omega, rfl⟩
    · obtain rfl : i = 8 := by omega
      go_wp2_with fail
      go_loopg [47] 6 (fun k s47 wr => ∃ n, k = n ∧ n ≤ 6 ∧ twRd (w.alloc (.cells #[.bool false, .slice none 0 0, .int .i64 0] 60)) (w.heap.size + 1) n wr)
      case atStart => exact ⟨6, rfl, by omega, none, 0, by have := RdAt.start (w.alloc (.cells #[.bool false, .slice none 0 0, .int .i64 0] 60)); simpa using this⟩
      case round =>
        obtain ⟨nk, hnk, hk6, hrd⟩ := hrel
        have hnk2 := hnk.symm
        clear hnk
        subst hnk2
        have hc1 := twRd_cells hk6 hrd
        have HRD := Lib.hid hrd
        clear hrd
        cases nk with
        | succ n =>
          have hk5 : n ≤ 5 := by omega
          have hkl := twK_lt hk5
          go_wp2_with fail
          refine (twRd_item hk5 HRD.out).mono ?_
          rintro e w2 ⟨rfl, hrd2⟩
          have HRD2 := Lib.hid hrd2
          clear hrd2
          simp only []
          go_wp2_with fail
          go_roundg n
          case measure => omega
          case rel => exact ⟨n, rfl, by omega, HRD2.out⟩
        | zero =>
          have hc1' : wr.cell? ⟨w.heap.size + 1, 1, none⟩ = some (.int .i64 8) := hc1
          clear hc1
          have hch := twRd_ch hk6 HRD.out
          obtain ⟨D0, D2, D5, oB, oc, B, c, hr⟩ := HRD.out
          obtain ⟨g, c0, hB, hg1, hg2⟩ := hr.own.form (by decide)
          obtain ⟨rfl, rfl⟩ : B = some ⟨g, 0, none⟩ ∧ c = c0 := by cases hB; exact ⟨rfl, rfl⟩
          have x0 : wr.cell? ⟨w.heap.size, 0, none⟩ = some (.bool false) := hch.cell_some (World.cell?_alloc_at _ _ _ _ rfl) id
          have x1 : wr.cell? ⟨w.heap.size, 1, none⟩ = some (.slice none 0 0) := hch.cell_some (World.cell?_alloc_at _ _ _ _ rfl) id
          have x2 : wr.cell? ⟨w.heap.size, 2, none⟩ = some (.int .i64 0) := hch.cell_some (World.cell?_alloc_at _ _ _ _ rfl) id
          have xf : ∀ i, wr.frozen? ⟨w.heap.size, i, none⟩ = false := fun i => (hch.frozen (p := ⟨w.heap.size, i, none⟩) (by simp) id).trans (World.frozen?_alloc_at _ _ _ _ rfl)
          have HR := Lib.hid hr
          have HCH := Lib.hid hch
          clear hr hch HRD
          have hng : ¬ g = w.heap.size := by simp at hg1; omega
          have hic6 : 6 ≤ c := by
            rcases HR.out.own.2 with ⟨h2, _⟩ | ⟨g', cap', cur, hv, _, _, hn, _⟩
            · cases h2
            · cases hv
              exact hn
          go_wp2_with fail
          refine read_reg (X := w.heap.size) (R := w.heap.size + 1) HR.out.c2 HR.out.c3 HR.out.c4 HR.out.c5 x0 x1 x2 (xf 0) (xf 1) (xf 2) (World.block_lt_of_cell? _ _ x0) (by omega) (by omega) ?_
          intro w3 _ _ _ _ _ _ _ _ _ _ hch3 y0 y1 y2
          have HCH3 := Lib.hid hch3
          clear hch3
          simp only [Exit.then]
          go_wp2_with fail
          refine bodyPost_ret (v := .tuple #[.agg #[.bool false, .slice (some ⟨g, 0, none⟩) 6 c, .int .i64 1], .bool true]) (by rw [results_c2 rfl]; simp [go_sem, y0, y1, y2]) rfl ?_
          refine ⟨((Ch.refl _ w).alloc _).trans HCH.out |>.trans' HCH3.out (fun i hi e => by omega), g, c, D0, D2, D5, rfl, by simp at hg1; omega, Nat.lt_of_lt_of_le hg2 HCH3.out.size, ?_, hic6⟩
          have hs := HR.out.sets
          refine ItemsAt.keep (w := wr) ⟨fun j v hv => row_at HR.out.own j v hv, (hs (D0, _) (.tail _ (.tail _ (.head _)))).1, (hs (D2, _) (.tail _ (.head _))).1, (hs (D5, _) (.head _)).1⟩ HCH3.out hng ?_ ?_ ?_
          · have := (hs (D0, _) (.tail _ (.tail _ (.head _)))).2.1; simp at this; omega
          · have := (hs (D2, _) (.tail _ (.head _))).2.1; simp at this; omega
          · have := (hs (D5, _) (.head _)).2.1; simp at this; omega

end Go.Proofs.YtkbdngcbifonkaaFmt
