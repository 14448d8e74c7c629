/-
  spec.ptFind, spec.found, spec.FirstMatch at \x01(.+)%1\x02.
-/
import Derived.Test.YtkbdngcbifonkaaFmtTmm
import Derived.Test.YtkbdngcbifonkaaFmtMtc
namespace Go.Proofs.YtkbdngcbifonkaaFmt
set_option linter.all false
open Go.RowKit

/-- What ptFind gives. -/
def PfPost (w : World) (src : List UInt8) (e : Ending) (w' : World) : Prop :=
  Ch (fun _ => False) w w' ∧ ∃ (code : Int) (a b : Int) (B : Option Addr) (n c : Nat), e = .returned (.tuple #[.agg #[.int .i64 a, .int .i64 b, .slice B n c], .int .i64 code]) ∧
    (code = 0 → ∃ p q A S g, Tw.tfind src (src.length + 1) 0 = some (p, q, A, S) ∧ a = (p : Int) ∧ b = (q : Int) ∧ B = some ⟨g, 0, none⟩ ∧ n = 1 ∧ 1 ≤ c ∧ w'.cell? ⟨g, 0, none⟩ = some (.int .i64 (A : Int)) ∧ w'.cell? ⟨g, 1, none⟩ = some (.int .i64 (S : Int)))

set_option maxRecDepth 100000 in
set_option maxHeartbeats 4000000 in
theorem pf_calls {w : World} {I ic D0 D2 D5 : Nat} {s : ByteArray} {src : List UInt8} (hS : Subj s src) (hs2 : s.size ≤ 300) (HI : Hid (ItemsAt w I D0 D2 D5)) (hic : 6 ≤ ic) :
    Calls Tryf.prog 25 #[.agg #[.bool false, .slice (some ⟨I, 0, none⟩) 6 ic, .int .i64 1], .string s, .int .i64 0] w (PfPost w src) := by
  have hlen := hS.len
  have hI : I < w.heap.size := World.block_lt_of_cell? w _ (HI.out.cells 0 _ rfl)
  have h0 := HI.out.s0.1
  have h2 := HI.out.s2.1
  have h5 := HI.out.s5.1
  have HC0 : Hid (Ch (fun _ => False) w (((w.alloc (.cells #[.bool false, .slice (some ⟨I, 0, none⟩) 6 ic, .int .i64 1] 60)).alloc (.cells #[.int .i64 0, .int .i64 0, .slice none 0 0] 66)).alloc (.cells #[.string s, .slice (some ⟨I, 0, none⟩) 6 ic, .int .i64 20000] 88))) := Lib.hid ((((Ch.refl _ _).alloc _).alloc _).alloc _)
  have HM0 : Hid (MatAt (((w.alloc (.cells #[.bool false, .slice (some ⟨I, 0, none⟩) 6 ic, .int .i64 1] 60)).alloc (.cells #[.int .i64 0, .int .i64 0, .slice none 0 0] 66)).alloc (.cells #[.string s, .slice (some ⟨I, 0, none⟩) 6 ic, .int .i64 20000] 88)) (w.heap.size + 2) I ic D0 D2 D5 s 20000) := Lib.hid
    ⟨World.cell?_alloc_at _ _ _ _ (by simp), World.cell?_alloc_at _ _ _ _ (by simp), World.cell?_alloc_at _ _ _ _ (by simp), World.frozen?_alloc_at _ _ _ _ (by simp), HI.out.keep HC0.out id id id id, by omega, by omega, by omega, by omega⟩
  go_enter Tryf.func25, Tryf.ntmps25
  go_wp2_with fail
  go_loopg [9] (s.size + 1) (fun kk s9 wr => ∃ p : Nat, s9 = .int .i64 (p : Int) ∧ p ≤ s.size + 1 ∧ kk = s.size + 1 - p ∧ Ch (· = w.heap.size + 2) (((w.alloc (.cells #[.bool false, .slice (some ⟨I, 0, none⟩) 6 ic, .int .i64 1] 60)).alloc (.cells #[.int .i64 0, .int .i64 0, .slice none 0 0] 66)).alloc (.cells #[.string s, .slice (some ⟨I, 0, none⟩) 6 ic, .int .i64 20000] 88)) wr ∧
    Tw.tfind src (src.length + 1) 0 = Tw.tfind src (src.length + 1 - p) p ∧ ∃ L, MatAt wr (w.heap.size + 2) I ic D0 D2 D5 s L ∧ 0 < L ∧ L ≤ 20000)
  case atStart => exact ⟨0, rfl, by omega, rfl, .refl _ _, rfl, 20000, HM0.out, by omega, by omega⟩
  case round =>
    obtain ⟨p, rfl, hp, rfl, hch, htf, L, hm, hL1, hL2⟩ := hrel
    have hne1 : ¬ w.heap.size = w.heap.size + 2 := by omega
    have hne2 : ¬ w.heap.size + 1 = w.heap.size + 2 := by omega
    have x0 : wr.cell? ⟨w.heap.size + 1, 0, none⟩ = some (.int .i64 0) := hch.cell_some (Ch.cell_some (T := fun _ => False) ((Ch.refl _ _).alloc _) (World.cell?_alloc_at _ _ _ _ (by simp)) id) hne2
    have x1 : wr.cell? ⟨w.heap.size + 1, 1, none⟩ = some (.int .i64 0) := hch.cell_some (Ch.cell_some (T := fun _ => False) ((Ch.refl _ _).alloc _) (World.cell?_alloc_at _ _ _ _ (by simp)) id) hne2
    have x2 : wr.cell? ⟨w.heap.size + 1, 2, none⟩ = some (.slice none 0 0) := hch.cell_some (Ch.cell_some (T := fun _ => False) ((Ch.refl _ _).alloc _) (World.cell?_alloc_at _ _ _ _ (by simp)) id) hne2
    have b0 : wr.cell? ⟨w.heap.size, 0, none⟩ = some (.bool false) := hch.cell_some (Ch.cell_some (T := fun _ => False) (((Ch.refl _ _).alloc _).alloc _) (World.cell?_alloc_at _ _ _ _ rfl) id) hne1
    have xf : ∀ i, wr.frozen? ⟨w.heap.size + 1, i, none⟩ = false := fun i => (hch.frozen (p := ⟨w.heap.size + 1, i, none⟩) (by simp) hne2).trans ((Ch.frozen (T := fun _ => False) (p := ⟨w.heap.size + 1, i, none⟩) ((Ch.refl _ ((w.alloc (.cells #[.bool false, .slice (some ⟨I, 0, none⟩) 6 ic, .int .i64 1] 60)).alloc (.cells #[.int .i64 0, .int .i64 0, .slice none 0 0] 66))).alloc _) (by simp) id).trans (World.frozen?_alloc_at _ _ _ _ (by simp)))
    have hwp : IntKind.i64.wrap ((p : Int) + 1) = ((p + 1 : Nat) : Int) := by rw [IntKind.wrap_i64]; omega
    have hxl : w.heap.size + 1 < wr.heap.size := World.block_lt_of_cell? _ _ x0
    have HCH := Lib.hid hch
    have HMR := Lib.hid hm
    have HTF := Lib.hid htf
    have HXF := Lib.hid xf
    clear hch hm htf xf
    by_cases hps : p ≤ s.size
    · have hps2 : (p : Int) ≤ s.size := by omega
      go_wp2_with fail
      refine (mt0 (p := p) (xc := 0) hS (Lib.hid (HMR.out.moved ((Ch.refl _ _).alloc _))) hic ⟨by omega, by omega⟩ hps (by simp)).mono ?_
      rintro e w3 ⟨L', t', v, h1, h2, h3, h4, rfl, h6, h7, h8⟩
      have hc3 : Ch (· = w.heap.size + 2) wr w3 := ((Ch.refl _ wr).alloc _).trans h2
      have y0 := hc3.cell_some x0 hne2
      have y1 := hc3.cell_some x1 hne2
      have y2 := hc3.cell_some x2 hne2
      have c0 := hc3.cell_some b0 hne1
      have z0 := (hc3.frozen (p := ⟨w.heap.size + 1, 0, none⟩) hxl hne2).trans (HXF.out 0)
      have z1 := (hc3.frozen (p := ⟨w.heap.size + 1, 1, none⟩) hxl hne2).trans (HXF.out 1)
      have z2 := (hc3.frozen (p := ⟨w.heap.size + 1, 2, none⟩) hxl hne2).trans (HXF.out 2)
      have m2 := h1.m2
      have HM3 := Lib.hid h1
      have HC3 := Lib.hid hc3
      clear h1 h2 x0 x1 x2 b0 hc3
      cases hl : decide (L' ≤ 0) with
      | true =>
        obtain ⟨v1, v2, rfl⟩ : ∃ v1 v2, v = .tuple #[v1, v2] := by
          cases t' with
          | none => exact ⟨_, _, h6⟩
          | some r => obtain ⟨e, A, S⟩ := r; obtain ⟨B', c', hv, _⟩ := h6; exact ⟨_, _, hv⟩
        simp only []
        go_wp2_with fail
        refine bodyPost_ret (v := .tuple #[.agg #[.int .i64 0, .int .i64 0, .slice none 0 0], .int .i64 2]) (by rw [results_c2 rfl]; simp [go_sem, y0, y1, y2]) rfl ?_
        exact ⟨((HC0.out.trans' (HCH.out.trans HC3.out) (fun i hi e => by omega)).setCell (fun h => absurd h (show ¬ w.heap.size + 1 < w.heap.size by omega)) _ |>.setCell (fun h => absurd h (show ¬ w.heap.size + 1 < w.heap.size by omega)) _).setCell (fun h => absurd h (show ¬ w.heap.size + 1 < w.heap.size by omega)) _, 2, 0, 0, none, 0, 0, rfl, fun h => by cases h⟩
      | false =>
        have hl2 := of_decide_eq_false hl
        have ht := h7 (by omega)
        subst ht
        have hstep : Tw.tfind src (src.length + 1 - p) p = match Tw.t0 src p with | some r => some (p, r) | none => Tw.tfind src (src.length + 1 - (p + 1)) (p + 1) := by
          rw [show src.length + 1 - p = (src.length + 1 - (p + 1)) + 1 from by omega]
          rfl
        cases ht0 : Tw.t0 src p with
        | none =>
          rw [ht0] at h6 hstep
          obtain rfl := h6
          have HT2 := Lib.hid (HTF.out.trans hstep)
          clear hstep ht0 h7 h8 y0 y1 y2
          simp only []
          go_wp2_with fail
          go_roundg (s.size + 1 - (p + 1))
          case measure => omega
          case rel => exact ⟨p + 1, rfl, by omega, rfl, HCH.out.trans HC3.out, HT2.out, L', HM3.out, by omega, by omega⟩
        | some r =>
          obtain ⟨e1, A1, S1⟩ := r
          rw [ht0] at h6 hstep
          obtain ⟨B', c', rfl, g0, g1, g2, g3⟩ := h6
          have HT2 := Lib.hid (HTF.out.trans hstep)
          have e0 : (0 : Int) ≤ (e1 : Int) := by omega
          have hA1 : A1 = p + 1 := by
            obtain ⟨S2, _, _, h⟩ := Tw.t0_some ht0
            cases h
            rfl
          have hgx : ¬ B' = w.heap.size + 1 := fun e => by
            rw [e, y0] at g0
            injection g0 with g0
            injection g0 with _ g0
            omega
          have G0 := Lib.hid g0
          have G1 := Lib.hid g1
          clear hstep ht0 h7 h8 g0 g1
          simp only []
          go_wp2_with fail
          refine bodyPost_ret (v := .tuple #[.agg #[.int .i64 (p : Int), .int .i64 (e1 : Int), .slice (some ⟨B', 0, none⟩) 1 c'], .int .i64 0]) (by rw [results_c2 rfl]; simp [go_sem, y0, y1, y2]) rfl ?_
          refine ⟨((HC0.out.trans' (HCH.out.trans HC3.out) (fun i hi e => by omega)).setCell (fun h => absurd h (show ¬ w.heap.size + 1 < w.heap.size by omega)) _ |>.setCell (fun h => absurd h (show ¬ w.heap.size + 1 < w.heap.size by omega)) _).setCell (fun h => absurd h (show ¬ w.heap.size + 1 < w.heap.size by omega)) _, 0, p, e1, _, 1, c', rfl, fun _ => ⟨p, e1, A1, S1, B', HT2.out, rfl, rfl, rfl, rfl, g3, ?_, ?_⟩⟩
          · rw [World.cell?_setCell_other _ _ _ _ (fun e => hgx (congrArg Addr.block e).symm), World.cell?_setCell_other _ _ _ _ (fun e => hgx (congrArg Addr.block e).symm), World.cell?_setCell_other _ _ _ _ (fun e => hgx (congrArg Addr.block e).symm)]
            exact G0.out
          · rw [World.cell?_setCell_other _ _ _ _ (fun e => hgx (congrArg Addr.block e).symm), World.cell?_setCell_other _ _ _ _ (fun e => hgx (congrArg Addr.block e).symm), World.cell?_setCell_other _ _ _ _ (fun e => hgx (congrArg Addr.block e).symm)]
            exact G1.out
    · have hpe : p = s.size + 1 := by omega
      have hps2 : ¬ (p : Int) ≤ s.size := by omega
      have z0 := HXF.out 0
      have z1 := HXF.out 1
      have z2 := HXF.out 2
      go_wp2_with fail
      refine bodyPost_ret (v := .tuple #[.agg #[.int .i64 0, .int .i64 0, .slice none 0 0], .int .i64 1]) (by rw [results_c2 rfl]; simp [go_sem, x0, x1, x2]) rfl ?_
      exact ⟨((HC0.out.trans' HCH.out (fun i hi e => by omega)).setCell (fun h => absurd h (show ¬ w.heap.size + 1 < w.heap.size by omega)) _ |>.setCell (fun h => absurd h (show ¬ w.heap.size + 1 < w.heap.size by omega)) _).setCell (fun h => absurd h (show ¬ w.heap.size + 1 < w.heap.size by omega)) _, 1, 0, 0, none, 0, 0, rfl, fun h => by cases h⟩

theorem results_c1 {fn : Func} {p : Tmp} {ty : TypeId} (h : fn.results = #[.cell p ty]) (tmps : Array Value) (P : Program) (w : World) :
    (results fn tmps).run P w = ((asAddr (tmps.getD p undef)).run P w).andThen fun a w₁ => (loadVar ty a).run P w₁ := by
  simp only [results, h]
  simp [Sem.run_bind, Result.andThen]

/-- What found gives. -/
def FoPost (w : World) (p q A S : Nat) (e : Ending) (w' : World) : Prop :=
  Ch (fun _ => False) w w' ∧ ∃ G c, e = .returned (.agg #[.int .i64 (p : Int), .int .i64 (q : Int), .slice (some ⟨G, 0, none⟩) 1 c]) ∧ w'.cell? ⟨G, 0, none⟩ = some (.int .i64 (A : Int)) ∧ w'.cell? ⟨G, 1, none⟩ = some (.int .i64 ((A : Int) + (S : Int))) ∧ w'.cell? ⟨G, 2, none⟩ = some (.bool false)

set_option maxRecDepth 100000 in
set_option maxHeartbeats 4000000 in
theorem found_calls {w : World} {p q A S g c : Nat} (g0 : w.cell? ⟨g, 0, none⟩ = some (.int .i64 (A : Int))) (g1 : w.cell? ⟨g, 1, none⟩ = some (.int .i64 (S : Int))) (hc : 1 ≤ c) (hS : 0 < S) (hA : A ≤ 1000) (hS2 : S ≤ 1000) :
    Calls Tryf.prog 26 #[.agg #[.int .i64 (p : Int), .int .i64 (q : Int), .slice (some ⟨g, 0, none⟩) 1 c]] w (FoPost w p q A S) := by
  have hg : g < w.heap.size := World.block_lt_of_cell? w _ g0
  have hg1 : g < w.heap.size + 1 := by omega
  have hg2 : g < w.heap.size + 1 + 1 := by omega
  have hn0 : ¬ g = w.heap.size := by omega
  have hn1 : ¬ g = w.heap.size + 1 := by omega
  have hn2 : ¬ g = w.heap.size + 1 + 1 := by omega
  have c1 : (1 : Int) ≤ c := by omega
  have S1 : (0 : Int) < (S : Int) := by omega
  have S2 : ((S : Int) == -2) = false := by simp
  have hw : IntKind.i64.wrap ((A : Int) + (S : Int)) = (A : Int) + (S : Int) := by rw [IntKind.wrap_i64]; omega
  go_enter Tryf.func26, Tryf.ntmps26
  go_wp2_with fail
  refine wp_loop_rounds 2 ?_
  rw [rounds_succ]
  go_wp2_with fail
  rw [rounds_succ]
  go_wp2_with fail
  refine bodyPost_ret (v := .agg #[.int .i64 (p : Int), .int .i64 (q : Int), .slice (some ⟨w.heap.size + 1 + 1 + 1 + 1 + 1 + 1, 0, none⟩) 1 ((Question.appendCap 1 0 71).cut (w.tape w.drawn (Question.appendCap 1 0 71)))]) (by rw [results_c1 rfl]; simp [go_sem]) rfl ?_
  refine ⟨?_, _, _, rfl, cell_new (by simp) _ _ _ _ _ rfl, cell_new (by simp) _ _ _ _ _ rfl, cell_new (by simp) _ _ _ _ _ rfl⟩
  repeat first | exact Ch.refl _ _ | refine Ch.drew ?_ | refine Ch.alloc ?_ _

/-- What FirstMatch gives. -/
def FmPost (w : World) (src : List UInt8) (e : Ending) (w' : World) : Prop :=
  Ch (fun _ => False) w w' ∧ ∃ (code : Int) (a b : Int) (B : Option Addr) (n c : Nat), e = .returned (.tuple #[.agg #[.int .i64 a, .int .i64 b, .slice B n c], .int .i64 code]) ∧
    (code = 0 → ∃ p S G, Tw.tfind src (src.length + 1) 0 = some (p, p + 1 + S + S + 1, p + 1, S) ∧ p + 1 + S + S + 1 ≤ src.length ∧ a = (p : Int) ∧ b = ((p + 1 + S + S + 1 : Nat) : Int) ∧ B = some ⟨G, 0, none⟩ ∧ n = 1 ∧ w'.cell? ⟨G, 0, none⟩ = some (.int .i64 ((p + 1 : Nat) : Int)) ∧ w'.cell? ⟨G, 1, none⟩ = some (.int .i64 (((p + 1 : Nat) : Int) + (S : Int))) ∧ w'.cell? ⟨G, 2, none⟩ = some (.bool false))

set_option maxRecDepth 100000 in
set_option maxHeartbeats 4000000 in
theorem fm_far {w : World} {s : ByteArray} {src : List UInt8} (hS : Subj s src) (hs : s.size ≤ 300) (hfar : 200 < s.size) : Calls Tryf.prog 16 #[.string twStr, .string s, .int .i64 0] w (FmPost w src) := by
  have HB : Hid (∀ w1, Calls Tryf.prog 24 #[.string s] w1 fun e w' => w1 = w' ∧ e = .returned (.bool true)) := Lib.hid fun w1 => bytes_calls (by omega) (fun j h => by have := hS.low j h; omega)
  have g1 : decide ((200 : Int) < s.size) = true := decide_eq_true (by omega)
  have g2 : (200 : Int) < s.size := by omega
  go_enter Tryf.func16, Tryf.ntmps16
  go_wp2_with fail
  refine (read_calls _).mono ?_
  rintro e w2 ⟨hch, I, ic, D0, D2, D5, rfl, hI, hIl, hit, hic⟩
  have x0 : w2.cell? ⟨w.heap.size, 0, none⟩ = some (.int .i64 0) := hch.cell_some (World.cell?_alloc_at _ _ _ _ rfl) id
  have x1 : w2.cell? ⟨w.heap.size, 1, none⟩ = some (.int .i64 0) := hch.cell_some (World.cell?_alloc_at _ _ _ _ rfl) id
  have x2 : w2.cell? ⟨w.heap.size, 2, none⟩ = some (.slice none 0 0) := hch.cell_some (World.cell?_alloc_at _ _ _ _ rfl) id
  have xf : ∀ i, w2.frozen? ⟨w.heap.size, i, none⟩ = false := fun i => (hch.frozen (p := ⟨w.heap.size, i, none⟩) (by simp) id).trans (World.frozen?_alloc_at _ _ _ _ rfl)
  have z0 := xf 0
  have z1 := xf 1
  have z2 := xf 2
  have hwl : w.heap.size < w2.heap.size := World.block_lt_of_cell? _ _ x0
  have HCH := Lib.hid (((Ch.refl (fun _ => False) w).alloc _).trans hch)
  clear hch hit xf
  simp only []
  go_wp2_with fail
  refine (HB.out _).mono ?_
  rintro e w3 ⟨rfl, rfl⟩
  simp only []
  go_wp2_with fail
  refine bodyPost_ret (v := .tuple #[.agg #[.int .i64 0, .int .i64 0, .slice none 0 0], .int .i64 2]) (by rw [results_c2 rfl]; simp [go_sem, x0, x1, x2, hwl]) rfl ?_
  refine ⟨?_, 2, 0, 0, none, 0, 0, rfl, fun h => by cases h⟩
  repeat first | exact HCH.out | refine Ch.alloc ?_ _ | refine Ch.drew ?_ | refine Ch.setCell ?_ (fun h => absurd h (Nat.lt_irrefl _)) _

set_option maxRecDepth 100000 in
set_option maxHeartbeats 4000000 in
theorem fm_calls {w : World} {s : ByteArray} {src : List UInt8} (hS : Subj s src) (hs : s.size ≤ 200) : Calls Tryf.prog 16 #[.string twStr, .string s, .int .i64 0] w (FmPost w src) := by
  have HB : Hid (∀ w1, Calls Tryf.prog 24 #[.string s] w1 fun e w' => w1 = w' ∧ e = .returned (.bool true)) := Lib.hid fun w1 => bytes_calls (by omega) (fun j h => by have := hS.low j h; omega)
  have g1 : decide ((200 : Int) < s.size) = false := decide_eq_false (by omega)
  have g2 : ¬ (200 : Int) < s.size := by omega
  have g3 : decide ((s.size : Int) < 0) = false := decide_eq_false (by omega)
  have HS := Lib.hid hS
  clear hS
  go_enter Tryf.func16, Tryf.ntmps16
  go_wp2_with fail
  refine (read_calls _).mono ?_
  rintro e w2 ⟨hch, I, ic, D0, D2, D5, rfl, hI, hIl, hit, hic⟩
  have x0 : w2.cell? ⟨w.heap.size, 0, none⟩ = some (.int .i64 0) := hch.cell_some (World.cell?_alloc_at _ _ _ _ rfl) id
  have x1 : w2.cell? ⟨w.heap.size, 1, none⟩ = some (.int .i64 0) := hch.cell_some (World.cell?_alloc_at _ _ _ _ rfl) id
  have x2 : w2.cell? ⟨w.heap.size, 2, none⟩ = some (.slice none 0 0) := hch.cell_some (World.cell?_alloc_at _ _ _ _ rfl) id
  have xf : ∀ i, w2.frozen? ⟨w.heap.size, i, none⟩ = false := fun i => (hch.frozen (p := ⟨w.heap.size, i, none⟩) (by simp) id).trans (World.frozen?_alloc_at _ _ _ _ rfl)
  have hwl : w.heap.size < w2.heap.size := World.block_lt_of_cell? _ _ x0
  have HCH := Lib.hid (((Ch.refl (fun _ => False) w).alloc _).trans hch)
  have HIT := Lib.hid hit
  have HXF := Lib.hid xf
  clear hch hit xf
  simp only []
  go_wp2_with fail
  refine (HB.out _).mono ?_
  rintro e w3 ⟨rfl, rfl⟩
  simp only []
  go_wp2_with fail
  refine (pf_calls HS.out (by omega) (Lib.hid (HIT.out.keep (T := fun _ => False) ((Ch.refl _ _).alloc _) id id id id)) hic).mono ?_
  rintro e w4 ⟨hch4, code, a, b, B, n, c, rfl, hpost⟩
  have hc24 : Ch (fun _ => False) w2 w4 := ((Ch.refl _ _).alloc _).trans hch4
  have y0 := hc24.cell_some x0 id
  have y1 := hc24.cell_some x1 id
  have y2 := hc24.cell_some x2 id
  have z0 := (hc24.frozen (p := ⟨w.heap.size, 0, none⟩) hwl id).trans (HXF.out 0)
  have z1 := (hc24.frozen (p := ⟨w.heap.size, 1, none⟩) hwl id).trans (HXF.out 1)
  have z2 := (hc24.frozen (p := ⟨w.heap.size, 2, none⟩) hwl id).trans (HXF.out 2)
  have hw4 : w.heap.size < w4.heap.size := World.block_lt_of_cell? _ _ y0
  have HCH4 := Lib.hid (HCH.out.trans hc24)
  have HPOST := Lib.hid hpost
  clear x0 x1 x2 hch4 hc24 hpost
  cases hcd : (code != 0) with
  | true =>
    simp only []
    go_wp2_with fail
    refine bodyPost_ret (v := .tuple #[.agg #[.int .i64 0, .int .i64 0, .slice none 0 0], .int .i64 code]) (by rw [results_c2 rfl]; simp [go_sem, y0, y1, y2, hw4]) rfl ?_
    refine ⟨?_, code, 0, 0, none, 0, 0, rfl, fun h => by simp [h] at hcd⟩
    repeat first | exact HCH4.out | refine Ch.alloc ?_ _ | refine Ch.drew ?_ | refine Ch.setCell ?_ (fun h => absurd h (Nat.lt_irrefl _)) _
  | false =>
    have h0 : code = 0 := by simpa using hcd
    subst h0
    obtain ⟨p, q, A, S, g, htf, rfl, rfl, rfl, rfl, hc1, g0, g1⟩ := HPOST.out rfl
    obtain ⟨p', S', k1, k2, k3⟩ := Tw.tfind_some htf
    cases k3
    have hln := HS.out.len
    have HTF := Lib.hid htf
    have G0 := Lib.hid (Ch.cell_some (T := fun _ => False) ((Ch.refl _ _).alloc (.cells #[.int .i64 (p : Int), .int .i64 ((p + 1 + S + S + 1 : Nat) : Int), .slice (some ⟨g, 0, none⟩) 1 c] 66)) g0 id)
    have G1 := Lib.hid (Ch.cell_some (T := fun _ => False) ((Ch.refl _ _).alloc (.cells #[.int .i64 (p : Int), .int .i64 ((p + 1 + S + S + 1 : Nat) : Int), .slice (some ⟨g, 0, none⟩) 1 c] 66)) g1 id)
    clear htf g0 g1 HPOST hcd
    simp only []
    go_wp2_with fail
    refine (found_calls (p := p) (q := p + 1 + S + S + 1) (A := p + 1) (S := S) G0.out G1.out hc1 k1 (by omega) (by omega)).mono ?_
    rintro e w5 ⟨hch5, G, gc, rfl, q0, q1, q2⟩
    have hc45 : Ch (fun _ => False) w4 w5 := ((Ch.refl _ _).alloc _).trans hch5
    have v0 := hc45.cell_some y0 id
    have v1 := hc45.cell_some y1 id
    have v2 := hc45.cell_some y2 id
    have u0 := (hc45.frozen (p := ⟨w.heap.size, 0, none⟩) hw4 id).trans z0
    have u1 := (hc45.frozen (p := ⟨w.heap.size, 1, none⟩) hw4 id).trans z1
    have u2 := (hc45.frozen (p := ⟨w.heap.size, 2, none⟩) hw4 id).trans z2
    have HCH5 := Lib.hid (HCH4.out.trans hc45)
    have hGn : ¬ G = w.heap.size := by
      rintro rfl
      rw [v0] at q0
      injection q0 with q0
      injection q0 with _ q0
      omega
    have Q0 := Lib.hid q0
    have Q1 := Lib.hid q1
    have Q2 := Lib.hid q2
    clear y0 y1 y2 z0 z1 z2 q0 q1 q2 hch5 hc45
    simp only []
    go_wp2_with fail
    refine bodyPost_ret (v := .tuple #[.agg #[.int .i64 (p : Int), .int .i64 ((p + 1 + S + S + 1 : Nat) : Int), .slice (some ⟨G, 0, none⟩) 1 gc], .int .i64 0]) (by rw [results_c2 rfl]; simp [go_sem, v0, v1, v2]) rfl ?_
    refine ⟨?_, 0, p, _, _, 1, gc, rfl, fun _ => ⟨p, S, G, HTF.out, by omega, rfl, rfl, rfl, rfl, ?_, ?_, ?_⟩⟩
    · repeat first | exact HCH5.out | refine Ch.alloc ?_ _ | refine Ch.drew ?_ | refine Ch.setCell ?_ (fun h => absurd h (Nat.lt_irrefl _)) _
    · rw [World.cell?_setCell_other _ _ _ _ (fun e => hGn (congrArg Addr.block e).symm), World.cell?_setCell_other _ _ _ _ (fun e => hGn (congrArg Addr.block e).symm), World.cell?_setCell_other _ _ _ _ (fun e => hGn (congrArg Addr.block e).symm)]
      exact Q0.out
    · rw [World.cell?_setCell_other _ _ _ _ (fun e => hGn (congrArg Addr.block e).symm), World.cell?_setCell_other _ _ _ _ (fun e => hGn (congrArg Addr.block e).symm), World.cell?_setCell_other _ _ _ _ (fun e => hGn (congrArg Addr.block e).symm)]
      exact Q1.out
    · rw [World.cell?_setCell_other _ _ _ _ (fun e => hGn (congrArg Addr.block e).symm), World.cell?_setCell_other _ _ _ _ (fun e => hGn (congrArg Addr.block e).symm), World.cell?_setCell_other _ _ _ _ (fun e => hGn (congrArg Addr.block e).symm)]
      exact Q2.out

end Go.Proofs.YtkbdngcbifonkaaFmt
