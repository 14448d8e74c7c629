/-
  Scan: its end, behind the second label.
-/
import Derived.Test.YtbgjjbffpckimaaDoorTka
namespace Go.Proofs.YtbgjjbffpckimaaDoor
set_option linter.all false
open Go.RowKit

/-- The inside of a scope; the block of a number in a code. -/
def scp : Code → Option Code
  | .scope c => some c
  | .seq a b => (scp a).orElse fun _ => scp b
  | _ => none
def blk (n : Nat) : Code → Option Code
  | .block m c => if m = n then some (.block m c) else none
  | .seq a b => (blk n a).orElse fun _ => blk n b
  | _ => none
noncomputable def c12 : Code := ((Tryd.f12.body.bind scp)).getD .skip
noncomputable def rest12 (l : Nat) : Code := (findLabel c12 l).getD .skip
/-- The second part of a sequence. -/
def sqb : Code → Code
  | .seq _ b => b
  | c => c
noncomputable def fin12 : Code := sqb (rest12 1)
noncomputable def sw12 : Code := (blk 0 (rest12 0)).getD .skip

theorem results_c2 {fn : Func} {p u : Tmp} {ty : TypeId} (h : fn.results = #[.cell p ty, .tmp u]) (tmps : Array Value) (P : Program) (w : World) :
    (results fn tmps).run P w =
      ((asAddr (tmps.getD p undef)).run P w).andThen fun a w₁ => ((loadVar ty a).run P w₁).andThen fun x w₂ => .ok (.tuple #[x, tmps.getD u undef]) w₂ := by
  simp only [results, h]
  simp [Sem.run_bind, Result.andThen]

/-- The parser's part of the state that the scanner writes. -/
structure LxAt (w : World) (X : Nat) : Prop where
  c2 : ∃ v : Bool, w.cell? ⟨X, 2, none⟩ = some (.bool v)
  c9 : ∃ v : Int, w.cell? ⟨X, 9, none⟩ = some (.int .i64 v)
  fz : ∀ j, w.frozen? ⟨X, j, none⟩ = false
theorem LxAt.keep {U : Nat → Prop} {w w' : World} {X : Nat} (h : LxAt w X) (hc : Ch U w w') (hU : ¬ U X) : LxAt w' X := by
  obtain ⟨v2, h2⟩ := h.c2
  obtain ⟨v9, h9⟩ := h.c9
  exact ⟨⟨v2, hc.cell_some h2 hU⟩, ⟨v9, hc.cell_some h9 hU⟩, fun j => (hc.frozen (p := ⟨X, j, none⟩) (show X < w.heap.size from World.block_lt_of_cell? w _ h2) hU).trans (h.fz j)⟩
theorem LxAt.set2 {w : World} {X : Nat} (h : LxAt w X) (v : Bool) : LxAt (w.setCell ⟨X, 2, none⟩ (.bool v)) X := by
  obtain ⟨v2, h2⟩ := h.c2
  obtain ⟨v9, h9⟩ := h.c9
  exact ⟨⟨v, cs h2⟩, ⟨v9, co h9 (addr_ne (by decide))⟩, fun j => by rw [World.frozen?_setCell]; exact h.fz j⟩

/-- Where all lies when Scan begins. -/
structure Env (w0 : World) (b : Bl) (X bm : Nat) : Prop where
  xl : X < w0.heap.size
  ml : bm < w0.heap.size
  l2 : 2 < w0.heap.size
  tr : ∀ k, Tr b k → k < w0.heap.size
  nX : ¬ Tr b X
  low : ∀ k, (k = 0 ∨ k = 1 ∨ k = 2 ∨ k = bm) → ¬ (Tr b k ∨ k = X)
def Us (b : Bl) (X k : Nat) : Prop := Tr b k ∨ k = X

/-- The state at Scan's end: the token is laid, what is left is r'. -/
structure Fin (w0 : World) (b : Bl) (r' : Bs) (L' : Int) (X R T bm : Nat) (obj : Obj) (ty : Int) (st so : ByteArray) (ln cl : Int) (w : World) : Prop where
  rd : Rd w b r' L'
  tk : TokAt w T ty ⟨#[]⟩ st so ln cl
  rk : TokAt w R 0 ⟨#[]⟩ ⟨#[]⟩ ⟨#[]⟩ 0 0
  tb : Tab w bm obj
  lx : LxAt w X
  ch : Ch (Us b X) w0 w
  nT : w0.heap.size ≤ T
  nR : w0.heap.size ≤ R
  TR : T ≠ R
/-- What Scan gives. -/
def ScanOut (w0 : World) (b : Bl) (r' : Bs) (L' : Int) (X bm : Nat) (obj : Obj) (ty : Int) (st : ByteArray) (ln : Int) (er : Value) (e : Ending) (w' : World) : Prop :=
  ∃ nm so cl, e = .returned (.tuple #[.agg #[.int .i64 ty, .string nm, .string st, .string so, .int .i64 ln, .int .i64 cl], er]) ∧ Rd w' b r' L' ∧ Tab w' bm obj ∧ LxAt w' X ∧ Ch (Us b X) w0 w'

set_option maxRecDepth 100000 in
set_option maxHeartbeats 4000000 in
theorem scan_fin {w0 w : World} {b : Bl} {r' : Bs} {L' : Int} {X R T bm : Nat} {obj : Obj} {ty : Int} {st so : ByteArray} {ln cl : Int} {er : Value} {J : Nat → Act → World → Prop} {P : Ending → World → Prop} (u : Nat → Value) (HE : Hid (Env w0 b X bm)) (H : Hid (Fin w0 b r' L' X R T bm obj ty st so ln cl w)) (hty : ty < 57402) (hP : ∀ e w', ScanOut w0 b r' L' X bm obj ty st ln er e w' → P e w') :
    fin12.wp Tryd.prog (Exit.jumps J (bodyPost Tryd.prog Tryd.f12 P)) { tmps := #[ptr b.Z, ptr X, u 2, u 3, ptr R, u 5, er, ptr T, u 8, u 9, u 10, u 11, u 12, u 13, u 14, u 15, u 16, u 17, u 18, u 19, u 20, u 21, u 22, u 23, u 24, u 25, u 26, u 27, u 28, u 29, u 30, u 31, u 32, u 33, u 34, u 35, u 36, u 37, u 38, u 39, u 40, u 41, u 42, u 43, u 44, u 45, u 46, u 47, u 48, u 49, u 50, u 51, u 52, u 53, u 54, u 55, u 56, u 57, u 58, u 59, u 60, u 61, u 62, u 63, u 64, u 65, u 66, u 67, u 68, u 69, u 70, u 71, u 72, u 73, u 74, u 75, u 76, u 77, u 78, u 79, u 80, u 81, u 82, u 83, u 84, u 85, u 86, u 87, u 88, u 89, u 90, u 91, u 92, u 93, u 94, u 95, u 96, u 97, u 98, u 99, u 100, u 101, u 102, u 103, u 104, u 105, u 106, u 107, u 108, u 109, u 110, u 111, u 112, u 113, u 114, u 115, u 116, u 117, u 118, u 119, u 120, u 121, u 122, u 123, u 124, u 125, u 126, u 127, u 128, u 129, u 130, u 131, u 132, u 133, u 134, u 135, u 136, u 137, u 138, u 139, u 140, u 141, u 142, u 143, u 144, u 145, u 146, u 147, u 148, u 149, u 150, u 151, u 152, u 153, u 154, u 155, u 156, u 157, u 158, u 159, u 160, u 161, u 162, u 163, u 164, u 165, u 166, u 167, u 168, u 169, u 170, u 171, u 172, u 173, u 174, u 175, u 176, u 177, u 178, u 179, u 180, u 181, u 182, u 183, u 184, u 185, u 186, u 187, u 188, u 189, u 190, u 191, u 192, u 193, u 194, u 195, u 196, u 197, u 198, u 199, u 200, u 201, u 202, u 203, u 204, u 205, u 206, u 207, u 208, u 209, u 210, u 211, u 212, u 213, u 214, u 215, u 216, u 217, u 218, u 219, u 220, u 221, u 222, u 223, u 224, u 225, u 226, u 227, u 228, u 229, u 230, u 231, u 232, u 233, u 234, u 235, u 236, u 237, u 238, u 239, u 240, u 241, u 242, u 243, u 244, u 245, u 246, u 247, u 248, u 249, u 250, u 251, u 252, u 253, u 254, u 255, u 256, u 257, u 258, u 259, u 260, u 261, u 262, u 263, u 264, u 265, u 266, u 267, u 268, u 269, u 270, u 271, u 272, u 273, u 274, u 275, u 276, u 277, u 278, u 279, u 280, u 281, u 282], defers := [] } w := by
  have HP := Lib.hid hP
  have t0 := H.out.tk.c0
  clear hP
  conv => arg 2; whnf
  go_wp2_with fail
  refine (tokName_calls (Lib.hid H.out.tb) hty).mono ?_
  rintro e w1 ⟨⟨nm, rfl⟩, hc⟩
  have HR1 := Lib.hid (H.out.rd.moved hc)
  have HT1 := Lib.hid (H.out.tk.keep hc id)
  have HK1 := Lib.hid (H.out.rk.keep hc id)
  have HB1 := Lib.hid (H.out.tb.keep hc id id id)
  have HL1 := Lib.hid (H.out.lx.keep hc id)
  have HC1 := Lib.hid (H.out.ch.trans (hc.mono fun _ _ h => h.elim))
  have nT := H.out.nT
  have nR := H.out.nR
  have TR := H.out.TR
  clear hc H t0
  have t1 := HT1.out.c1
  have z1 := HT1.out.fz 1
  have HT2 := Lib.hid (HT1.out.set1 nm)
  have hcT : Ch (fun k => k = T) w1 (w1.setCell ⟨T, 1, none⟩ (.string nm)) := Ch.setCell (T := fun k => k = T) (Ch.refl _ _) (p := ⟨T, 1, none⟩) (fun _ => rfl) _
  have HK2 := Lib.hid (HK1.out.keep hcT (fun e => TR e.symm))
  have a0 := HT2.out.c0
  have a1 := HT2.out.c1
  have a2 := HT2.out.c2
  have a3 := HT2.out.c3
  have a4 := HT2.out.c4
  have a5 := HT2.out.c5
  have b0 := HK2.out.c0
  have b1 := HK2.out.c1
  have b2 := HK2.out.c2
  have b3 := HK2.out.c3
  have b4 := HK2.out.c4
  have b5 := HK2.out.c5
  have f0 := HK2.out.fz 0
  have f1 := HK2.out.fz 1
  have f2 := HK2.out.fz 2
  have f3 := HK2.out.fz 3
  have f4 := HK2.out.fz 4
  have f5 := HK2.out.fz 5
  have hcR := Lib.hid ((((((Ch.setCell (T := fun k => k = R) (Ch.refl _ (w1.setCell ⟨T, 1, none⟩ (.string nm))) (p := ⟨R, 0, none⟩) (fun _ => rfl) (.int .i64 ty)).setCell (p := ⟨R, 1, none⟩) (fun _ => rfl) (.string nm)).setCell (p := ⟨R, 2, none⟩) (fun _ => rfl) (.string st)).setCell (p := ⟨R, 3, none⟩) (fun _ => rfl) (.string so)).setCell (p := ⟨R, 4, none⟩) (fun _ => rfl) (.int .i64 ln)).setCell (p := ⟨R, 5, none⟩) (fun _ => rfl) (.int .i64 cl))
  have HCT := Lib.hid hcT
  clear hcT
  simp only []
  go_wp2_with fail
  show bodyPost Tryd.prog Tryd.f12 _ .ret _ _
  refine bodyPost_ret (v := .tuple #[.agg #[.int .i64 ty, .string nm, .string st, .string so, .int .i64 ln, .int .i64 cl], er]) (by rw [results_c2 rfl]; simp [go_sem, b0, b1, b2, b3, b4, b5]) rfl ?_
  have hx : ∀ k, k < w0.heap.size → ¬ k = T ∧ ¬ k = R := fun k hk => ⟨by omega, by omega⟩
  refine HP.out _ _ ⟨nm, so, cl, rfl, ?_, ?_, ?_, ?_⟩
  · exact (HR1.out.keep HCT.out (fun k hk e => (hx k (HE.out.tr k hk)).1 e) (hx 2 HE.out.l2).1).keep hcR.out (fun k hk e => (hx k (HE.out.tr k hk)).2 e) (hx 2 HE.out.l2).2
  · exact (HB1.out.keep HCT.out (hx 0 (by have := HE.out.l2; omega)).1 (hx 1 (by have := HE.out.l2; omega)).1 (hx bm HE.out.ml).1).keep hcR.out (hx 0 (by have := HE.out.l2; omega)).2 (hx 1 (by have := HE.out.l2; omega)).2 (hx bm HE.out.ml).2
  · exact (HL1.out.keep HCT.out (hx X HE.out.xl).1).keep hcR.out (hx X HE.out.xl).2
  · exact (HC1.out.trans' HCT.out fun k hk e => absurd e (hx k hk).1).trans' hcR.out fun k hk e => absurd e (hx k hk).2

end Go.Proofs.YtbgjjbffpckimaaDoor
