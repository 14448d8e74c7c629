/-
  Scan: its beginning, up to the switch.
-/
import Derived.Test.YtbgjjbffpckimaaDoorSwC
import Derived.Deep.CutBlock
namespace Go.Proofs.YtbgjjbffpckimaaDoor
set_option linter.all false
open Go.RowKit

/-- The frame at the switch. -/
def FrW (b : Bl) (X R T g : Nat) (v : Value) (a : Act) : Prop := ∃ u : Nat → Value, a = { tmps := #[ptr b.Z, ptr X, u 2, u 3, ptr R, u 5, .nilIface, ptr T, u 8, v, ptr g, ptr g, u 12, u 13, u 14, u 15, u 16, u 17, u 18, u 19, u 20, u 21, u 22, u 23, u 24, u 25, u 26, u 27, u 28, u 29, u 30, u 31, u 32, u 33, u 34, u 35, u 36, u 37, u 38, u 39, u 40, u 41, u 42, u 43, u 44, u 45, u 46, u 47, u 48, u 49, u 50, u 51, u 52, u 53, u 54, u 55, u 56, u 57, u 58, u 59, u 60, u 61, u 62, u 63, u 64, u 65, u 66, u 67, u 68, u 69, u 70, u 71, u 72, u 73, u 74, u 75, u 76, u 77, u 78, u 79, u 80, u 81, u 82, u 83, u 84, u 85, u 86, u 87, u 88, u 89, u 90, u 91, u 92, u 93, u 94, u 95, u 96, u 97, u 98, u 99, u 100, u 101, u 102, u 103, u 104, u 105, u 106, u 107, u 108, u 109, u 110, u 111, u 112, u 113, u 114, u 115, u 116, u 117, u 118, u 119, u 120, u 121, u 122, u 123, u 124, u 125, u 126, u 127, u 128, u 129, u 130, u 131, u 132, u 133, u 134, u 135, u 136, u 137, u 138, u 139, u 140, u 141, u 142, u 143, u 144, u 145, u 146, u 147, u 148, u 149, u 150, u 151, u 152, u 153, u 154, u 155, u 156, u 157, u 158, u 159, u 160, u 161, u 162, u 163, u 164, u 165, u 166, u 167, u 168, u 169, u 170, u 171, u 172, u 173, u 174, u 175, u 176, u 177, u 178, u 179, u 180, u 181, u 182, u 183, u 184, u 185, u 186, u 187, u 188, u 189, u 190, u 191, u 192, u 193, u 194, u 195, u 196, u 197, u 198, u 199, u 200, u 201, u 202, u 203, u 204, u 205, u 206, u 207, u 208, u 209, u 210, u 211, u 212, u 213, u 214, u 215, u 216, u 217, u 218, u 219, u 220, u 221, u 222, u 223, u 224, u 225, u 226, u 227, u 228, u 229, u 230, u 231, u 232, u 233, u 234, u 235, u 236, u 237, u 238, u 239, u 240, u 241, u 242, u 243, u 244, u 245, u 246, u 247, u 248, u 249, u 250, u 251, u 252, u 253, u 254, u 255, u 256, u 257, u 258, u 259, u 260, u 261, u 262, u 263, u 264, u 265, u 266, u 267, u 268, u 269, u 270, u 271, u 272, u 273, u 274, u 275, u 276, u 277, u 278, u 279, u 280, u 281, u 282], defers := [] }
set_option maxRecDepth 100000 in
theorem frW_mk {b : Bl} {X R T g : Nat} {v : Value} {t : Array Value} (hs : t.size = 283) (h0 : t.getD 0 undef = ptr b.Z) (h1 : t.getD 1 undef = ptr X) (h4 : t.getD 4 undef = ptr R) (h6 : t.getD 6 undef = .nilIface) (h7 : t.getD 7 undef = ptr T) (h9 : t.getD 9 undef = v) (h10 : t.getD 10 undef = ptr g) (h11 : t.getD 11 undef = ptr g) : FrW b X R T g v { tmps := t, defers := [] } := by
  refine ⟨fun i => t.getD i undef, ?_⟩
  have := (arr_ofFn t hs).trans (ofFn283 fun i => t.getD i undef)
  rw [h0, h1, h4, h6, h7, h9, h10, h11] at this
  exact congrArg (fun x => ({ tmps := x, defers := [] } : Act)) this

/-- What follows a block. -/
def aft (n : Nat) : Code → Option Code
  | .seq (.block m c) b => if m = n then some b else aft n b
  | .seq _ b => aft n b
  | _ => none
noncomputable def beg12 : Code := sqb (rest12 0)
noncomputable def lab12 : Code := (aft 0 (rest12 0)).getD .skip

/-- The state at the first label. -/
structure Pre (w0 : World) (b : Bl) (r : Bs) (L : Int) (X R bm : Nat) (obj : Obj) (w : World) : Prop where
  rd : Rd w b r L
  rk : TokAt w R 0 ⟨#[]⟩ ⟨#[]⟩ ⟨#[]⟩ 0 0
  tb : Tab w bm obj
  lx : LxAt w X
  ch : Ch (Us b X) w0 w
  nR : w0.heap.size ≤ R

theorem skip_a (r : Bs) (h : hd (r.dropWhile sp1) ≠ 10) : r.dropWhile isSp = r.dropWhile sp1 := by
  induction r with
  | nil => rfl
  | cons c t ih =>
    rw [List.dropWhile_cons] at h ⊢
    rw [List.dropWhile_cons]
    by_cases h1 : sp1 c = true
    · rw [if_pos h1] at h ⊢
      have : isSp c = true := by
        unfold sp1 at h1
        unfold isSp
        rw [h1]
        rfl
      rw [if_pos this]
      exact ih h
    · rw [if_neg h1] at h ⊢
      rw [if_neg]
      intro h2
      have h10 : c = 10 := by
        unfold isSp at h2
        unfold sp1 at h1
        simp at h1 h2
        rcases h2 with (h2 | h2) | h2
        · exact absurd h2 h1.1
        · exact absurd h2 h1.2
        · exact h2
      exact h (by rw [h10]; rfl)
theorem skip_b {r t : Bs} (hr : r.dropWhile sp1 = 10 :: t) (hcr : NoCr t) : r.dropWhile isSp = t.dropWhile sp2 := by
  have e : ∀ t : Bs, NoCr t → t.dropWhile isSp = t.dropWhile sp2 := by
    intro t
    induction t with
    | nil => intro _; rfl
    | cons c t ih =>
      intro h
      have h13 : c ≠ 13 := h c (by simp)
      have : sp2 c = isSp c := by
        unfold sp2 isSp
        have : (c == 13) = false := by simpa using h13
        rw [this, Bool.or_false]
      rw [List.dropWhile_cons, List.dropWhile_cons, this, ih h.tail]
  induction r with
  | nil => cases hr
  | cons c r ih =>
    rw [List.dropWhile_cons] at hr ⊢
    by_cases h1 : sp1 c = true
    · rw [if_pos h1] at hr
      have : isSp c = true := by
        unfold sp1 at h1
        unfold isSp
        rw [h1]
        rfl
      rw [if_pos this]
      exact ih hr
    · rw [if_neg h1] at hr
      injection hr with hc hr
      subst hc
      subst hr
      rw [if_pos (by decide)]
      exact e _ hcr

set_option maxRecDepth 100000 in
set_option maxHeartbeats 4000000 in
theorem pre_a {w0 w : World} {b : Bl} {r rc : Bs} {L : Int} {X R bm : Nat} {obj : Obj} {Q : Exit → Act → World → Prop} (u : Nat → Value) (HE : Hid (Env w0 b X bm)) (H : Hid (Pre w0 b r L X R bm obj w)) (h13 : NoCr r) (hn : hd rc ≠ 10) (hrc : r.dropWhile sp1 = rc)
    (hQ : ∀ (K : Act → World → Prop) (a' : Act) (w' : World) (T g : Nat) (so : ByteArray) (cl : Int), (∀ a w, lab12.wp Tryd.prog Q a w → K a w) → FrW b X R T g (.int .i64 (hd rc)) a' → Mid w0 b (tl1 rc) (ln1 rc (L + nl r - nl rc)) g [] X R T bm obj 0 ⟨#[]⟩ so (ln1 rc (L + nl r - nl rc)) cl w' → sw12.wp Tryd.prog (Exit.then K Q) a' w') :
    beg12.wp Tryd.prog Q { tmps := #[ptr b.Z, ptr X, u 2, u 3, ptr R, u 5, u 6, u 7, u 8, u 9, u 10, u 11, u 12, u 13, u 14, u 15, u 16, u 17, u 18, u 19, u 20, u 21, u 22, u 23, u 24, u 25, u 26, u 27, u 28, u 29, u 30, u 31, u 32, u 33, u 34, u 35, u 36, u 37, u 38, u 39, u 40, u 41, u 42, u 43, u 44, u 45, u 46, u 47, u 48, u 49, u 50, u 51, u 52, u 53, u 54, u 55, u 56, u 57, u 58, u 59, u 60, u 61, u 62, u 63, u 64, u 65, u 66, u 67, u 68, u 69, u 70, u 71, u 72, u 73, u 74, u 75, u 76, u 77, u 78, u 79, u 80, u 81, u 82, u 83, u 84, u 85, u 86, u 87, u 88, u 89, u 90, u 91, u 92, u 93, u 94, u 95, u 96, u 97, u 98, u 99, u 100, u 101, u 102, u 103, u 104, u 105, u 106, u 107, u 108, u 109, u 110, u 111, u 112, u 113, u 114, u 115, u 116, u 117, u 118, u 119, u 120, u 121, u 122, u 123, u 124, u 125, u 126, u 127, u 128, u 129, u 130, u 131, u 132, u 133, u 134, u 135, u 136, u 137, u 138, u 139, u 140, u 141, u 142, u 143, u 144, u 145, u 146, u 147, u 148, u 149, u 150, u 151, u 152, u 153, u 154, u 155, u 156, u 157, u 158, u 159, u 160, u 161, u 162, u 163, u 164, u 165, u 166, u 167, u 168, u 169, u 170, u 171, u 172, u 173, u 174, u 175, u 176, u 177, u 178, u 179, u 180, u 181, u 182, u 183, u 184, u 185, u 186, u 187, u 188, u 189, u 190, u 191, u 192, u 193, u 194, u 195, u 196, u 197, u 198, u 199, u 200, u 201, u 202, u 203, u 204, u 205, u 206, u 207, u 208, u 209, u 210, u 211, u 212, u 213, u 214, u 215, u 216, u 217, u 218, u 219, u 220, u 221, u 222, u 223, u 224, u 225, u 226, u 227, u 228, u 229, u 230, u 231, u 232, u 233, u 234, u 235, u 236, u 237, u 238, u 239, u 240, u 241, u 242, u 243, u 244, u 245, u 246, u 247, u 248, u 249, u 250, u 251, u 252, u 253, u 254, u 255, u 256, u 257, u 258, u 259, u 260, u 261, u 262, u 263, u 264, u 265, u 266, u 267, u 268, u 269, u 270, u 271, u 272, u 273, u 274, u 275, u 276, u 277, u 278, u 279, u 280, u 281, u 282], defers := [] } w := by
  have HQ := Lib.hid hQ
  have H13 := Lib.hid h13
  have HRC := Lib.hid hrc
  have HNL := Lib.hid hn
  have lR := H.out.rk.lt
  have nR := H.out.nR
  obtain ⟨v9, l9⟩ := H.out.lx.c9
  clear hQ h13 hrc hn
  conv => arg 2; whnf
  go_wp2_with fail
  have C1 : Hid (Ch (fun _ => False) w (w.alloc (.cells #[.int .i64 0, .string ⟨#[]⟩, .string ⟨#[]⟩, .string ⟨#[]⟩, .int .i64 0, .int .i64 0] 42))) := Lib.hid ((Ch.refl _ _).alloc _)
  have HT1 := Lib.hid (TokAt.fresh w)
  generalize hW : (w.alloc (.cells #[.int .i64 0, .string ⟨#[]⟩, .string ⟨#[]⟩, .string ⟨#[]⟩, .int .i64 0, .int .i64 0] 42)) = w1 at C1 HT1 ⊢
  clear hW
  have HR1 := Lib.hid (H.out.rk.keep C1.out id)
  have HB1 := Lib.hid (H.out.tb.keep C1.out id id id)
  have HL1 := Lib.hid (H.out.lx.keep C1.out id)
  have HC1 := Lib.hid (H.out.ch.trans (C1.out.mono fun _ _ h => h.elim))
  have HD1 := Lib.hid (H.out.rd.moved C1.out)
  have hT : w0.heap.size ≤ w.heap.size := H.out.ch.size
  have l9' := C1.out.cell_some l9 id
  generalize hTT : w.heap.size = T at HT1 hT lR ⊢
  clear hTT H C1 l9
  refine (skip1_calls HD1 H13.out).mono ?_
  rintro e w2 ⟨rfl, hc, hs⟩
  have nt2 : ∀ k, w0.heap.size ≤ k → ¬ Tr b k := fun k hk ht => by have := HE.out.tr k ht; omega
  have HT2 := Lib.hid (HT1.out.keep hc (nt2 T hT))
  have HR2 := Lib.hid (HR1.out.keep hc (nt2 R nR))
  have HB2 := Lib.hid (HB1.out.keep hc (fun ht => HE.out.low 0 (by simp) (.inl ht)) (fun ht => HE.out.low 1 (by simp) (.inl ht)) (fun ht => HE.out.low bm (by simp) (.inl ht)))
  have HL2 := Lib.hid (HL1.out.keep hc HE.out.nX)
  have HC2 := Lib.hid (HC1.out.trans (hc.mono fun _ _ h => .inl h))
  have l92 := hc.cell_some l9' HE.out.nX
  rw [HRC.out] at hs
  have HD2 := Lib.hid hs
  have g10 : (hd rc == 10) = false := by have := HNL.out; simpa using this
  have g13 : (hd rc == 13) = false := by
    have := (H13.out.drop (p := sp1)).hd
    rw [HRC.out] at this
    simpa using this
  rw [HRC.out]
  clear hs hc HT1 HR1 HB1 HL1 HC1 HD1 l9' nt2
  simp only []
  by_cases h40 : hd rc = 40
  · have g40 : (hd rc == 40) = true := by simpa using h40
    have H40 := Lib.hid h40
    clear h40
    by_cases h41 : v9 = 41
    · have g41 : (v9 == 41) = true := by simpa using h41
      have H41 := Lib.hid h41
      clear h41
      have hx2 := HL2.out.c2
      obtain ⟨v2, l2⟩ := hx2
      have z2 := HL2.out.fz 2
      have hcx : Ch (fun k => k = X) w2 (w2.setCell ⟨X, 2, none⟩ (.bool false)) := Ch.setCell (T := fun k => k = X) (Ch.refl _ _) (p := ⟨X, 2, none⟩) (fun _ => rfl) _
      have nX := HE.out.nX
      have nTX : ¬ T = X := by have := HE.out.xl; omega
      have nRX : ¬ R = X := by have := HE.out.xl; omega
      have HT5 := Lib.hid (HT2.out.keep hcx nTX)
      have HR5 := Lib.hid (HR2.out.keep hcx nRX)
      have HB5 := Lib.hid (HB2.out.keep hcx (fun e => HE.out.low 0 (by simp) (.inr e)) (fun e => HE.out.low 1 (by simp) (.inr e)) (fun e => HE.out.low bm (by simp) (.inr e)))
      have HL5 := Lib.hid (HL2.out.set2 false)
      have HC5 := Lib.hid (HC2.out.trans (hcx.mono fun _ _ h => .inr h))
      have HD5 := Lib.hid (HD2.out.keep hcx (fun k hk e => nX (e ▸ hk)) (fun e => HE.out.low 2 (by simp) (.inr e)))
      clear hcx
      clear HT2 HR2 HB2 HL2 HC2 HD2
      go_upto_region 11 with fail
      generalize hW5 : (w2.setCell ⟨X, 2, none⟩ (.bool false)) = w5 at HT5 HR5 HB5 HL5 HC5 HD5 ⊢
      clear hW5 l2 z2
      obtain ⟨so, q0⟩ := HD5.out.z0
      obtain ⟨cl, q2⟩ := HD5.out.z2
      have q1 := HD5.out.ln
      have tl5 := HT5.out.lt
      have rl5 := HR5.out.lt
      have zl5 := HD5.out.size b.Z (.inl rfl)
      have t3 := HT5.out.c3
      have t4 := HT5.out.c4
      have t5 := HT5.out.c5
      have f3 := HT5.out.fz 3
      have f4 := HT5.out.fz 4
      have f5 := HT5.out.fz 5
      go_upto_block 0 with fail
      have hc7 : Ch (fun k => k = T) w5 (((w5.setCell ⟨T, 3, none⟩ (.string so)).setCell ⟨T, 4, none⟩ (.int .i64 (ln1 rc (L + nl r - nl rc)))).setCell ⟨T, 5, none⟩ (.int .i64 cl)) :=
        ((Ch.setCell (T := fun k => k = T) (Ch.refl _ _) (p := ⟨T, 3, none⟩) (fun _ => rfl) _).setCell (p := ⟨T, 4, none⟩) (fun _ => rfl) _).setCell (p := ⟨T, 5, none⟩) (fun _ => rfl) _
      have hsz : (((w5.setCell ⟨T, 3, none⟩ (.string so)).setCell ⟨T, 4, none⟩ (.int .i64 (ln1 rc (L + nl r - nl rc)))).setCell ⟨T, 5, none⟩ (.int .i64 cl)).heap.size = w5.heap.size := by simp [World.setCell]
      have HT6 := Lib.hid (HT5.out.pos so (ln1 rc (L + nl r - nl rc)) cl)
      have HR6 := Lib.hid (HR5.out.keep hc7 (by omega))
      have HB6 := Lib.hid (HB5.out.keep hc7 (by have := HE.out.l2; omega) (by have := HE.out.l2; omega) (by have := HE.out.ml; omega))
      have HL6 := Lib.hid (HL5.out.keep hc7 (by have := HE.out.xl; omega))
      have HC6 := Lib.hid (HC5.out.trans' hc7 (fun k hk e => by omega))
      have HD6 := Lib.hid (HD5.out.keep hc7 (fun k hk e => by have := HE.out.tr k hk; omega) (by have := HE.out.l2; omega))
      have HS6 := HD6.out.buf
      clear hc7 HT5 HR5 HB5 HL5 HC5 HD5
      generalize (((w5.setCell ⟨T, 3, none⟩ (.string so)).setCell ⟨T, 4, none⟩ (.int .i64 (ln1 rc (L + nl r - nl rc)))).setCell ⟨T, 5, none⟩ (.int .i64 cl)) = w6 at HT6 HR6 HB6 HL6 HC6 HD6 HS6 hsz ⊢
      have hca : Ch (fun _ => False) w6 (w6.alloc (.cells #[.slice none 0 0, .int .i64 0, .int .i8 0] 62)) := (Ch.refl _ _).alloc _
      rw [hsz] at HS6
      refine HQ.out _ _ _ T w5.heap.size so cl ?_ ?_ ⟨HS6, HT6.out.keep hca id, HR6.out.keep hca id, HB6.out.keep hca id id id, HL6.out.keep hca id, HC6.out.trans (hca.mono fun _ _ h => h.elim), hT, nR, by omega, tl5, rl5⟩
      · assumption
      · exact frW_mk rfl rfl rfl rfl rfl rfl rfl rfl rfl
    · have g41 : (v9 == 41) = false := by simpa using h41
      clear h41
      have hx2 := HL2.out.c2
      obtain ⟨v2, l2⟩ := hx2
      have z2 := HL2.out.fz 2
      have hcx : Ch (fun k => k = X) w2 (w2.setCell ⟨X, 2, none⟩ (.bool false)) := Ch.setCell (T := fun k => k = X) (Ch.refl _ _) (p := ⟨X, 2, none⟩) (fun _ => rfl) _
      have nX := HE.out.nX
      have nTX : ¬ T = X := by have := HE.out.xl; omega
      have nRX : ¬ R = X := by have := HE.out.xl; omega
      have HT5 := Lib.hid (HT2.out.keep hcx nTX)
      have HR5 := Lib.hid (HR2.out.keep hcx nRX)
      have HB5 := Lib.hid (HB2.out.keep hcx (fun e => HE.out.low 0 (by simp) (.inr e)) (fun e => HE.out.low 1 (by simp) (.inr e)) (fun e => HE.out.low bm (by simp) (.inr e)))
      have HL5 := Lib.hid (HL2.out.set2 false)
      have HC5 := Lib.hid (HC2.out.trans (hcx.mono fun _ _ h => .inr h))
      have HD5 := Lib.hid (HD2.out.keep hcx (fun k hk e => nX (e ▸ hk)) (fun e => HE.out.low 2 (by simp) (.inr e)))
      clear hcx
      clear HT2 HR2 HB2 HL2 HC2 HD2
      go_upto_region 11 with fail
      generalize hW5 : (w2.setCell ⟨X, 2, none⟩ (.bool false)) = w5 at HT5 HR5 HB5 HL5 HC5 HD5 ⊢
      clear hW5 l2 z2
      obtain ⟨so, q0⟩ := HD5.out.z0
      obtain ⟨cl, q2⟩ := HD5.out.z2
      have q1 := HD5.out.ln
      have tl5 := HT5.out.lt
      have rl5 := HR5.out.lt
      have zl5 := HD5.out.size b.Z (.inl rfl)
      have t3 := HT5.out.c3
      have t4 := HT5.out.c4
      have t5 := HT5.out.c5
      have f3 := HT5.out.fz 3
      have f4 := HT5.out.fz 4
      have f5 := HT5.out.fz 5
      go_upto_block 0 with fail
      have hc7 : Ch (fun k => k = T) w5 (((w5.setCell ⟨T, 3, none⟩ (.string so)).setCell ⟨T, 4, none⟩ (.int .i64 (ln1 rc (L + nl r - nl rc)))).setCell ⟨T, 5, none⟩ (.int .i64 cl)) :=
        ((Ch.setCell (T := fun k => k = T) (Ch.refl _ _) (p := ⟨T, 3, none⟩) (fun _ => rfl) _).setCell (p := ⟨T, 4, none⟩) (fun _ => rfl) _).setCell (p := ⟨T, 5, none⟩) (fun _ => rfl) _
      have hsz : (((w5.setCell ⟨T, 3, none⟩ (.string so)).setCell ⟨T, 4, none⟩ (.int .i64 (ln1 rc (L + nl r - nl rc)))).setCell ⟨T, 5, none⟩ (.int .i64 cl)).heap.size = w5.heap.size := by simp [World.setCell]
      have HT6 := Lib.hid (HT5.out.pos so (ln1 rc (L + nl r - nl rc)) cl)
      have HR6 := Lib.hid (HR5.out.keep hc7 (by omega))
      have HB6 := Lib.hid (HB5.out.keep hc7 (by have := HE.out.l2; omega) (by have := HE.out.l2; omega) (by have := HE.out.ml; omega))
      have HL6 := Lib.hid (HL5.out.keep hc7 (by have := HE.out.xl; omega))
      have HC6 := Lib.hid (HC5.out.trans' hc7 (fun k hk e => by omega))
      have HD6 := Lib.hid (HD5.out.keep hc7 (fun k hk e => by have := HE.out.tr k hk; omega) (by have := HE.out.l2; omega))
      have HS6 := HD6.out.buf
      clear hc7 HT5 HR5 HB5 HL5 HC5 HD5
      generalize (((w5.setCell ⟨T, 3, none⟩ (.string so)).setCell ⟨T, 4, none⟩ (.int .i64 (ln1 rc (L + nl r - nl rc)))).setCell ⟨T, 5, none⟩ (.int .i64 cl)) = w6 at HT6 HR6 HB6 HL6 HC6 HD6 HS6 hsz ⊢
      have hca : Ch (fun _ => False) w6 (w6.alloc (.cells #[.slice none 0 0, .int .i64 0, .int .i8 0] 62)) := (Ch.refl _ _).alloc _
      rw [hsz] at HS6
      refine HQ.out _ _ _ T w5.heap.size so cl ?_ ?_ ⟨HS6, HT6.out.keep hca id, HR6.out.keep hca id, HB6.out.keep hca id id id, HL6.out.keep hca id, HC6.out.trans (hca.mono fun _ _ h => h.elim), hT, nR, by omega, tl5, rl5⟩
      · assumption
      · exact frW_mk rfl rfl rfl rfl rfl rfl rfl rfl rfl
  · have g40 : (hd rc == 40) = false := by simpa using h40
    clear h40
    have hx2 := HL2.out.c2
    obtain ⟨v2, l2⟩ := hx2
    have z2 := HL2.out.fz 2
    have hcx : Ch (fun k => k = X) w2 (w2.setCell ⟨X, 2, none⟩ (.bool false)) := Ch.setCell (T := fun k => k = X) (Ch.refl _ _) (p := ⟨X, 2, none⟩) (fun _ => rfl) _
    have nX := HE.out.nX
    have nTX : ¬ T = X := by have := HE.out.xl; omega
    have nRX : ¬ R = X := by have := HE.out.xl; omega
    have HT5 := Lib.hid (HT2.out.keep hcx nTX)
    have HR5 := Lib.hid (HR2.out.keep hcx nRX)
    have HB5 := Lib.hid (HB2.out.keep hcx (fun e => HE.out.low 0 (by simp) (.inr e)) (fun e => HE.out.low 1 (by simp) (.inr e)) (fun e => HE.out.low bm (by simp) (.inr e)))
    have HL5 := Lib.hid (HL2.out.set2 false)
    have HC5 := Lib.hid (HC2.out.trans (hcx.mono fun _ _ h => .inr h))
    have HD5 := Lib.hid (HD2.out.keep hcx (fun k hk e => nX (e ▸ hk)) (fun e => HE.out.low 2 (by simp) (.inr e)))
    clear hcx
    clear HT2 HR2 HB2 HL2 HC2 HD2
    go_upto_region 11 with fail
    generalize hW5 : (w2.setCell ⟨X, 2, none⟩ (.bool false)) = w5 at HT5 HR5 HB5 HL5 HC5 HD5 ⊢
    clear hW5 l2 z2
    obtain ⟨so, q0⟩ := HD5.out.z0
    obtain ⟨cl, q2⟩ := HD5.out.z2
    have q1 := HD5.out.ln
    have tl5 := HT5.out.lt
    have rl5 := HR5.out.lt
    have zl5 := HD5.out.size b.Z (.inl rfl)
    have t3 := HT5.out.c3
    have t4 := HT5.out.c4
    have t5 := HT5.out.c5
    have f3 := HT5.out.fz 3
    have f4 := HT5.out.fz 4
    have f5 := HT5.out.fz 5
    go_upto_block 0 with fail
    have hc7 : Ch (fun k => k = T) w5 (((w5.setCell ⟨T, 3, none⟩ (.string so)).setCell ⟨T, 4, none⟩ (.int .i64 (ln1 rc (L + nl r - nl rc)))).setCell ⟨T, 5, none⟩ (.int .i64 cl)) :=
      ((Ch.setCell (T := fun k => k = T) (Ch.refl _ _) (p := ⟨T, 3, none⟩) (fun _ => rfl) _).setCell (p := ⟨T, 4, none⟩) (fun _ => rfl) _).setCell (p := ⟨T, 5, none⟩) (fun _ => rfl) _
    have hsz : (((w5.setCell ⟨T, 3, none⟩ (.string so)).setCell ⟨T, 4, none⟩ (.int .i64 (ln1 rc (L + nl r - nl rc)))).setCell ⟨T, 5, none⟩ (.int .i64 cl)).heap.size = w5.heap.size := by simp [World.setCell]
    have HT6 := Lib.hid (HT5.out.pos so (ln1 rc (L + nl r - nl rc)) cl)
    have HR6 := Lib.hid (HR5.out.keep hc7 (by omega))
    have HB6 := Lib.hid (HB5.out.keep hc7 (by have := HE.out.l2; omega) (by have := HE.out.l2; omega) (by have := HE.out.ml; omega))
    have HL6 := Lib.hid (HL5.out.keep hc7 (by have := HE.out.xl; omega))
    have HC6 := Lib.hid (HC5.out.trans' hc7 (fun k hk e => by omega))
    have HD6 := Lib.hid (HD5.out.keep hc7 (fun k hk e => by have := HE.out.tr k hk; omega) (by have := HE.out.l2; omega))
    have HS6 := HD6.out.buf
    clear hc7 HT5 HR5 HB5 HL5 HC5 HD5
    generalize (((w5.setCell ⟨T, 3, none⟩ (.string so)).setCell ⟨T, 4, none⟩ (.int .i64 (ln1 rc (L + nl r - nl rc)))).setCell ⟨T, 5, none⟩ (.int .i64 cl)) = w6 at HT6 HR6 HB6 HL6 HC6 HD6 HS6 hsz ⊢
    have hca : Ch (fun _ => False) w6 (w6.alloc (.cells #[.slice none 0 0, .int .i64 0, .int .i8 0] 62)) := (Ch.refl _ _).alloc _
    rw [hsz] at HS6
    refine HQ.out _ _ _ T w5.heap.size so cl ?_ ?_ ⟨HS6, HT6.out.keep hca id, HR6.out.keep hca id, HB6.out.keep hca id id id, HL6.out.keep hca id, HC6.out.trans (hca.mono fun _ _ h => h.elim), hT, nR, by omega, tl5, rl5⟩
    · assumption
    · exact frW_mk rfl rfl rfl rfl rfl rfl rfl rfl rfl

set_option maxRecDepth 100000 in
set_option maxHeartbeats 4000000 in
theorem pre_b {w0 w : World} {b : Bl} {r rc : Bs} {L : Int} {X R bm : Nat} {obj : Obj} {Q : Exit → Act → World → Prop} (u : Nat → Value) (HE : Hid (Env w0 b X bm)) (H : Hid (Pre w0 b r L X R bm obj w)) (h13 : NoCr r) {t : Bs} (hn : r.dropWhile sp1 = 10 :: t) (hrc : t.dropWhile sp2 = rc)
    (hQ : ∀ (K : Act → World → Prop) (a' : Act) (w' : World) (T g : Nat) (so : ByteArray) (cl : Int), (∀ a w, lab12.wp Tryd.prog Q a w → K a w) → FrW b X R T g (.int .i64 (hd rc)) a' → Mid w0 b (tl1 rc) (ln1 rc (L + nl r - nl rc)) g [] X R T bm obj 0 ⟨#[]⟩ so (ln1 rc (L + nl r - nl rc)) cl w' → sw12.wp Tryd.prog (Exit.then K Q) a' w') :
    beg12.wp Tryd.prog Q { tmps := #[ptr b.Z, ptr X, u 2, u 3, ptr R, u 5, u 6, u 7, u 8, u 9, u 10, u 11, u 12, u 13, u 14, u 15, u 16, u 17, u 18, u 19, u 20, u 21, u 22, u 23, u 24, u 25, u 26, u 27, u 28, u 29, u 30, u 31, u 32, u 33, u 34, u 35, u 36, u 37, u 38, u 39, u 40, u 41, u 42, u 43, u 44, u 45, u 46, u 47, u 48, u 49, u 50, u 51, u 52, u 53, u 54, u 55, u 56, u 57, u 58, u 59, u 60, u 61, u 62, u 63, u 64, u 65, u 66, u 67, u 68, u 69, u 70, u 71, u 72, u 73, u 74, u 75, u 76, u 77, u 78, u 79, u 80, u 81, u 82, u 83, u 84, u 85, u 86, u 87, u 88, u 89, u 90, u 91, u 92, u 93, u 94, u 95, u 96, u 97, u 98, u 99, u 100, u 101, u 102, u 103, u 104, u 105, u 106, u 107, u 108, u 109, u 110, u 111, u 112, u 113, u 114, u 115, u 116, u 117, u 118, u 119, u 120, u 121, u 122, u 123, u 124, u 125, u 126, u 127, u 128, u 129, u 130, u 131, u 132, u 133, u 134, u 135, u 136, u 137, u 138, u 139, u 140, u 141, u 142, u 143, u 144, u 145, u 146, u 147, u 148, u 149, u 150, u 151, u 152, u 153, u 154, u 155, u 156, u 157, u 158, u 159, u 160, u 161, u 162, u 163, u 164, u 165, u 166, u 167, u 168, u 169, u 170, u 171, u 172, u 173, u 174, u 175, u 176, u 177, u 178, u 179, u 180, u 181, u 182, u 183, u 184, u 185, u 186, u 187, u 188, u 189, u 190, u 191, u 192, u 193, u 194, u 195, u 196, u 197, u 198, u 199, u 200, u 201, u 202, u 203, u 204, u 205, u 206, u 207, u 208, u 209, u 210, u 211, u 212, u 213, u 214, u 215, u 216, u 217, u 218, u 219, u 220, u 221, u 222, u 223, u 224, u 225, u 226, u 227, u 228, u 229, u 230, u 231, u 232, u 233, u 234, u 235, u 236, u 237, u 238, u 239, u 240, u 241, u 242, u 243, u 244, u 245, u 246, u 247, u 248, u 249, u 250, u 251, u 252, u 253, u 254, u 255, u 256, u 257, u 258, u 259, u 260, u 261, u 262, u 263, u 264, u 265, u 266, u 267, u 268, u 269, u 270, u 271, u 272, u 273, u 274, u 275, u 276, u 277, u 278, u 279, u 280, u 281, u 282], defers := [] } w := by
  have HQ := Lib.hid hQ
  have H13 := Lib.hid h13
  have HRC := Lib.hid hrc
  have HNL := Lib.hid hn
  have lR := H.out.rk.lt
  have nR := H.out.nR
  obtain ⟨v9, l9⟩ := H.out.lx.c9
  clear hQ h13 hrc hn
  conv => arg 2; whnf
  go_wp2_with fail
  have C1 : Hid (Ch (fun _ => False) w (w.alloc (.cells #[.int .i64 0, .string ⟨#[]⟩, .string ⟨#[]⟩, .string ⟨#[]⟩, .int .i64 0, .int .i64 0] 42))) := Lib.hid ((Ch.refl _ _).alloc _)
  have HT1 := Lib.hid (TokAt.fresh w)
  generalize hW : (w.alloc (.cells #[.int .i64 0, .string ⟨#[]⟩, .string ⟨#[]⟩, .string ⟨#[]⟩, .int .i64 0, .int .i64 0] 42)) = w1 at C1 HT1 ⊢
  clear hW
  have HR1 := Lib.hid (H.out.rk.keep C1.out id)
  have HB1 := Lib.hid (H.out.tb.keep C1.out id id id)
  have HL1 := Lib.hid (H.out.lx.keep C1.out id)
  have HC1 := Lib.hid (H.out.ch.trans (C1.out.mono fun _ _ h => h.elim))
  have HD1 := Lib.hid (H.out.rd.moved C1.out)
  have hT : w0.heap.size ≤ w.heap.size := H.out.ch.size
  have l9' := C1.out.cell_some l9 id
  generalize hTT : w.heap.size = T at HT1 hT lR ⊢
  clear hTT H C1 l9
  refine (skip1_calls HD1 H13.out).mono ?_
  rintro e w2 ⟨rfl, hc, hs⟩
  have nt2 : ∀ k, w0.heap.size ≤ k → ¬ Tr b k := fun k hk ht => by have := HE.out.tr k ht; omega
  have HT2 := Lib.hid (HT1.out.keep hc (nt2 T hT))
  have HR2 := Lib.hid (HR1.out.keep hc (nt2 R nR))
  have HB2 := Lib.hid (HB1.out.keep hc (fun ht => HE.out.low 0 (by simp) (.inl ht)) (fun ht => HE.out.low 1 (by simp) (.inl ht)) (fun ht => HE.out.low bm (by simp) (.inl ht)))
  have HL2 := Lib.hid (HL1.out.keep hc HE.out.nX)
  have HC2 := Lib.hid (HC1.out.trans (hc.mono fun _ _ h => .inl h))
  have l92 := hc.cell_some l9' HE.out.nX
  rw [HNL.out, show tl1 ((10 : UInt8) :: t) = t from rfl, show ln1 ((10 : UInt8) :: t) (L + nl r - nl ((10 : UInt8) :: t)) = L + nl r - nl ((10 : UInt8) :: t) + 1 from rfl] at hs
  have e10 : ((UInt8.toNat 10 : Nat) : Int) = 10 := rfl
  have hcr : NoCr t := by
    have := H13.out.drop (p := sp1)
    rw [HNL.out] at this
    exact this.tail
  have HD2 := Lib.hid hs
  have HCR := Lib.hid hcr
  rw [HNL.out]
  clear hs hc HT1 HR1 HB1 HL1 HC1 HD1 l9' nt2 hcr
  simp only [hd_c, e10]
  go_wp2_with fail
  refine (skip2_calls HD2 HCR.out).mono ?_
  rintro e w3 ⟨rfl, hc, hs⟩
  have nt3 : ∀ k, w0.heap.size ≤ k → ¬ Tr b k := fun k hk ht => by have := HE.out.tr k ht; omega
  have HT3 := Lib.hid (HT2.out.keep hc (nt3 T hT))
  have HR3 := Lib.hid (HR2.out.keep hc (nt3 R nR))
  have HB3 := Lib.hid (HB2.out.keep hc (fun ht => HE.out.low 0 (by simp) (.inl ht)) (fun ht => HE.out.low 1 (by simp) (.inl ht)) (fun ht => HE.out.low bm (by simp) (.inl ht)))
  have HL3 := Lib.hid (HL2.out.keep hc HE.out.nX)
  have HC3 := Lib.hid (HC2.out.trans (hc.mono fun _ _ h => .inl h))
  have l93 := hc.cell_some l92 HE.out.nX
  have hLL : L + nl r - nl ((10 : UInt8) :: t) + 1 + nl t - nl rc = L + nl r - nl rc := by rw [nl_cons, if_pos rfl]; omega
  rw [HRC.out, hLL] at hs
  have HD3 := Lib.hid hs
  rw [HRC.out]
  clear hs hc HT2 HR2 HB2 HL2 HC2 HD2 l92 nt3 hLL
  simp only []
  by_cases h40 : hd rc = 40
  · have g40 : (hd rc == 40) = true := by simpa using h40
    have H40 := Lib.hid h40
    clear h40
    by_cases h41 : v9 = 41
    · have g41 : (v9 == 41) = true := by simpa using h41
      have H41 := Lib.hid h41
      clear h41
      have hx2 := HL3.out.c2
      obtain ⟨v2, l2⟩ := hx2
      have z2 := HL3.out.fz 2
      have hcx : Ch (fun k => k = X) w3 (w3.setCell ⟨X, 2, none⟩ (.bool true)) := Ch.setCell (T := fun k => k = X) (Ch.refl _ _) (p := ⟨X, 2, none⟩) (fun _ => rfl) _
      have nX := HE.out.nX
      have nTX : ¬ T = X := by have := HE.out.xl; omega
      have nRX : ¬ R = X := by have := HE.out.xl; omega
      have HT5 := Lib.hid (HT3.out.keep hcx nTX)
      have HR5 := Lib.hid (HR3.out.keep hcx nRX)
      have HB5 := Lib.hid (HB3.out.keep hcx (fun e => HE.out.low 0 (by simp) (.inr e)) (fun e => HE.out.low 1 (by simp) (.inr e)) (fun e => HE.out.low bm (by simp) (.inr e)))
      have HL5 := Lib.hid (HL3.out.set2 true)
      have HC5 := Lib.hid (HC3.out.trans (hcx.mono fun _ _ h => .inr h))
      have HD5 := Lib.hid (HD3.out.keep hcx (fun k hk e => nX (e ▸ hk)) (fun e => HE.out.low 2 (by simp) (.inr e)))
      clear hcx
      clear HT3 HR3 HB3 HL3 HC3 HD3
      go_upto_region 11 with fail
      generalize hW5 : (w3.setCell ⟨X, 2, none⟩ (.bool true)) = w5 at HT5 HR5 HB5 HL5 HC5 HD5 ⊢
      clear hW5 l2 z2
      obtain ⟨so, q0⟩ := HD5.out.z0
      obtain ⟨cl, q2⟩ := HD5.out.z2
      have q1 := HD5.out.ln
      have tl5 := HT5.out.lt
      have rl5 := HR5.out.lt
      have zl5 := HD5.out.size b.Z (.inl rfl)
      have t3 := HT5.out.c3
      have t4 := HT5.out.c4
      have t5 := HT5.out.c5
      have f3 := HT5.out.fz 3
      have f4 := HT5.out.fz 4
      have f5 := HT5.out.fz 5
      go_upto_block 0 with fail
      have hc7 : Ch (fun k => k = T) w5 (((w5.setCell ⟨T, 3, none⟩ (.string so)).setCell ⟨T, 4, none⟩ (.int .i64 (ln1 rc (L + nl r - nl rc)))).setCell ⟨T, 5, none⟩ (.int .i64 cl)) :=
        ((Ch.setCell (T := fun k => k = T) (Ch.refl _ _) (p := ⟨T, 3, none⟩) (fun _ => rfl) _).setCell (p := ⟨T, 4, none⟩) (fun _ => rfl) _).setCell (p := ⟨T, 5, none⟩) (fun _ => rfl) _
      have hsz : (((w5.setCell ⟨T, 3, none⟩ (.string so)).setCell ⟨T, 4, none⟩ (.int .i64 (ln1 rc (L + nl r - nl rc)))).setCell ⟨T, 5, none⟩ (.int .i64 cl)).heap.size = w5.heap.size := by simp [World.setCell]
      have HT6 := Lib.hid (HT5.out.pos so (ln1 rc (L + nl r - nl rc)) cl)
      have HR6 := Lib.hid (HR5.out.keep hc7 (by omega))
      have HB6 := Lib.hid (HB5.out.keep hc7 (by have := HE.out.l2; omega) (by have := HE.out.l2; omega) (by have := HE.out.ml; omega))
      have HL6 := Lib.hid (HL5.out.keep hc7 (by have := HE.out.xl; omega))
      have HC6 := Lib.hid (HC5.out.trans' hc7 (fun k hk e => by omega))
      have HD6 := Lib.hid (HD5.out.keep hc7 (fun k hk e => by have := HE.out.tr k hk; omega) (by have := HE.out.l2; omega))
      have HS6 := HD6.out.buf
      clear hc7 HT5 HR5 HB5 HL5 HC5 HD5
      generalize (((w5.setCell ⟨T, 3, none⟩ (.string so)).setCell ⟨T, 4, none⟩ (.int .i64 (ln1 rc (L + nl r - nl rc)))).setCell ⟨T, 5, none⟩ (.int .i64 cl)) = w6 at HT6 HR6 HB6 HL6 HC6 HD6 HS6 hsz ⊢
      have hca : Ch (fun _ => False) w6 (w6.alloc (.cells #[.slice none 0 0, .int .i64 0, .int .i8 0] 62)) := (Ch.refl _ _).alloc _
      rw [hsz] at HS6
      refine HQ.out _ _ _ T w5.heap.size so cl ?_ ?_ ⟨HS6, HT6.out.keep hca id, HR6.out.keep hca id, HB6.out.keep hca id id id, HL6.out.keep hca id, HC6.out.trans (hca.mono fun _ _ h => h.elim), hT, nR, by omega, tl5, rl5⟩
      · assumption
      · exact frW_mk rfl rfl rfl rfl rfl rfl rfl rfl rfl
    · have g41 : (v9 == 41) = false := by simpa using h41
      clear h41
      have hx2 := HL3.out.c2
      obtain ⟨v2, l2⟩ := hx2
      have z2 := HL3.out.fz 2
      have hcx : Ch (fun k => k = X) w3 (w3.setCell ⟨X, 2, none⟩ (.bool false)) := Ch.setCell (T := fun k => k = X) (Ch.refl _ _) (p := ⟨X, 2, none⟩) (fun _ => rfl) _
      have nX := HE.out.nX
      have nTX : ¬ T = X := by have := HE.out.xl; omega
      have nRX : ¬ R = X := by have := HE.out.xl; omega
      have HT5 := Lib.hid (HT3.out.keep hcx nTX)
      have HR5 := Lib.hid (HR3.out.keep hcx nRX)
      have HB5 := Lib.hid (HB3.out.keep hcx (fun e => HE.out.low 0 (by simp) (.inr e)) (fun e => HE.out.low 1 (by simp) (.inr e)) (fun e => HE.out.low bm (by simp) (.inr e)))
      have HL5 := Lib.hid (HL3.out.set2 false)
      have HC5 := Lib.hid (HC3.out.trans (hcx.mono fun _ _ h => .inr h))
      have HD5 := Lib.hid (HD3.out.keep hcx (fun k hk e => nX (e ▸ hk)) (fun e => HE.out.low 2 (by simp) (.inr e)))
      clear hcx
      clear HT3 HR3 HB3 HL3 HC3 HD3
      go_upto_region 11 with fail
      generalize hW5 : (w3.setCell ⟨X, 2, none⟩ (.bool false)) = w5 at HT5 HR5 HB5 HL5 HC5 HD5 ⊢
      clear hW5 l2 z2
      obtain ⟨so, q0⟩ := HD5.out.z0
      obtain ⟨cl, q2⟩ := HD5.out.z2
      have q1 := HD5.out.ln
      have tl5 := HT5.out.lt
      have rl5 := HR5.out.lt
      have zl5 := HD5.out.size b.Z (.inl rfl)
      have t3 := HT5.out.c3
      have t4 := HT5.out.c4
      have t5 := HT5.out.c5
      have f3 := HT5.out.fz 3
      have f4 := HT5.out.fz 4
      have f5 := HT5.out.fz 5
      go_upto_block 0 with fail
      have hc7 : Ch (fun k => k = T) w5 (((w5.setCell ⟨T, 3, none⟩ (.string so)).setCell ⟨T, 4, none⟩ (.int .i64 (ln1 rc (L + nl r - nl rc)))).setCell ⟨T, 5, none⟩ (.int .i64 cl)) :=
        ((Ch.setCell (T := fun k => k = T) (Ch.refl _ _) (p := ⟨T, 3, none⟩) (fun _ => rfl) _).setCell (p := ⟨T, 4, none⟩) (fun _ => rfl) _).setCell (p := ⟨T, 5, none⟩) (fun _ => rfl) _
      have hsz : (((w5.setCell ⟨T, 3, none⟩ (.string so)).setCell ⟨T, 4, none⟩ (.int .i64 (ln1 rc (L + nl r - nl rc)))).setCell ⟨T, 5, none⟩ (.int .i64 cl)).heap.size = w5.heap.size := by simp [World.setCell]
      have HT6 := Lib.hid (HT5.out.pos so (ln1 rc (L + nl r - nl rc)) cl)
      have HR6 := Lib.hid (HR5.out.keep hc7 (by omega))
      have HB6 := Lib.hid (HB5.out.keep hc7 (by have := HE.out.l2; omega) (by have := HE.out.l2; omega) (by have := HE.out.ml; omega))
      have HL6 := Lib.hid (HL5.out.keep hc7 (by have := HE.out.xl; omega))
      have HC6 := Lib.hid (HC5.out.trans' hc7 (fun k hk e => by omega))
      have HD6 := Lib.hid (HD5.out.keep hc7 (fun k hk e => by have := HE.out.tr k hk; omega) (by have := HE.out.l2; omega))
      have HS6 := HD6.out.buf
      clear hc7 HT5 HR5 HB5 HL5 HC5 HD5
      generalize (((w5.setCell ⟨T, 3, none⟩ (.string so)).setCell ⟨T, 4, none⟩ (.int .i64 (ln1 rc (L + nl r - nl rc)))).setCell ⟨T, 5, none⟩ (.int .i64 cl)) = w6 at HT6 HR6 HB6 HL6 HC6 HD6 HS6 hsz ⊢
      have hca : Ch (fun _ => False) w6 (w6.alloc (.cells #[.slice none 0 0, .int .i64 0, .int .i8 0] 62)) := (Ch.refl _ _).alloc _
      rw [hsz] at HS6
      refine HQ.out _ _ _ T w5.heap.size so cl ?_ ?_ ⟨HS6, HT6.out.keep hca id, HR6.out.keep hca id, HB6.out.keep hca id id id, HL6.out.keep hca id, HC6.out.trans (hca.mono fun _ _ h => h.elim), hT, nR, by omega, tl5, rl5⟩
      · assumption
      · exact frW_mk rfl rfl rfl rfl rfl rfl rfl rfl rfl
  · have g40 : (hd rc == 40) = false := by simpa using h40
    clear h40
    have hx2 := HL3.out.c2
    obtain ⟨v2, l2⟩ := hx2
    have z2 := HL3.out.fz 2
    have hcx : Ch (fun k => k = X) w3 (w3.setCell ⟨X, 2, none⟩ (.bool false)) := Ch.setCell (T := fun k => k = X) (Ch.refl _ _) (p := ⟨X, 2, none⟩) (fun _ => rfl) _
    have nX := HE.out.nX
    have nTX : ¬ T = X := by have := HE.out.xl; omega
    have nRX : ¬ R = X := by have := HE.out.xl; omega
    have HT5 := Lib.hid (HT3.out.keep hcx nTX)
    have HR5 := Lib.hid (HR3.out.keep hcx nRX)
    have HB5 := Lib.hid (HB3.out.keep hcx (fun e => HE.out.low 0 (by simp) (.inr e)) (fun e => HE.out.low 1 (by simp) (.inr e)) (fun e => HE.out.low bm (by simp) (.inr e)))
    have HL5 := Lib.hid (HL3.out.set2 false)
    have HC5 := Lib.hid (HC3.out.trans (hcx.mono fun _ _ h => .inr h))
    have HD5 := Lib.hid (HD3.out.keep hcx (fun k hk e => nX (e ▸ hk)) (fun e => HE.out.low 2 (by simp) (.inr e)))
    clear hcx
    clear HT3 HR3 HB3 HL3 HC3 HD3
    go_upto_region 11 with fail
    generalize hW5 : (w3.setCell ⟨X, 2, none⟩ (.bool false)) = w5 at HT5 HR5 HB5 HL5 HC5 HD5 ⊢
    clear hW5 l2 z2
    obtain ⟨so, q0⟩ := HD5.out.z0
    obtain ⟨cl, q2⟩ := HD5.out.z2
    have q1 := HD5.out.ln
    have tl5 := HT5.out.lt
    have rl5 := HR5.out.lt
    have zl5 := HD5.out.size b.Z (.inl rfl)
    have t3 := HT5.out.c3
    have t4 := HT5.out.c4
    have t5 := HT5.out.c5
    have f3 := HT5.out.fz 3
    have f4 := HT5.out.fz 4
    have f5 := HT5.out.fz 5
    go_upto_block 0 with fail
    have hc7 : Ch (fun k => k = T) w5 (((w5.setCell ⟨T, 3, none⟩ (.string so)).setCell ⟨T, 4, none⟩ (.int .i64 (ln1 rc (L + nl r - nl rc)))).setCell ⟨T, 5, none⟩ (.int .i64 cl)) :=
      ((Ch.setCell (T := fun k => k = T) (Ch.refl _ _) (p := ⟨T, 3, none⟩) (fun _ => rfl) _).setCell (p := ⟨T, 4, none⟩) (fun _ => rfl) _).setCell (p := ⟨T, 5, none⟩) (fun _ => rfl) _
    have hsz : (((w5.setCell ⟨T, 3, none⟩ (.string so)).setCell ⟨T, 4, none⟩ (.int .i64 (ln1 rc (L + nl r - nl rc)))).setCell ⟨T, 5, none⟩ (.int .i64 cl)).heap.size = w5.heap.size := by simp [World.setCell]
    have HT6 := Lib.hid (HT5.out.pos so (ln1 rc (L + nl r - nl rc)) cl)
    have HR6 := Lib.hid (HR5.out.keep hc7 (by omega))
    have HB6 := Lib.hid (HB5.out.keep hc7 (by have := HE.out.l2; omega) (by have := HE.out.l2; omega) (by have := HE.out.ml; omega))
    have HL6 := Lib.hid (HL5.out.keep hc7 (by have := HE.out.xl; omega))
    have HC6 := Lib.hid (HC5.out.trans' hc7 (fun k hk e => by omega))
    have HD6 := Lib.hid (HD5.out.keep hc7 (fun k hk e => by have := HE.out.tr k hk; omega) (by have := HE.out.l2; omega))
    have HS6 := HD6.out.buf
    clear hc7 HT5 HR5 HB5 HL5 HC5 HD5
    generalize (((w5.setCell ⟨T, 3, none⟩ (.string so)).setCell ⟨T, 4, none⟩ (.int .i64 (ln1 rc (L + nl r - nl rc)))).setCell ⟨T, 5, none⟩ (.int .i64 cl)) = w6 at HT6 HR6 HB6 HL6 HC6 HD6 HS6 hsz ⊢
    have hca : Ch (fun _ => False) w6 (w6.alloc (.cells #[.slice none 0 0, .int .i64 0, .int .i8 0] 62)) := (Ch.refl _ _).alloc _
    rw [hsz] at HS6
    refine HQ.out _ _ _ T w5.heap.size so cl ?_ ?_ ⟨HS6, HT6.out.keep hca id, HR6.out.keep hca id, HB6.out.keep hca id id id, HL6.out.keep hca id, HC6.out.trans (hca.mono fun _ _ h => h.elim), hT, nR, by omega, tl5, rl5⟩
    · assumption
    · exact frW_mk rfl rfl rfl rfl rfl rfl rfl rfl rfl

end Go.Proofs.YtbgjjbffpckimaaDoor
