/-
  Scan: the state in the midst of it; frames.
-/
import Derived.Test.YtbgjjbffpckimaaDoorFin
namespace Go.Proofs.YtbgjjbffpckimaaDoor
set_option linter.all false
open Go.RowKit

set_option maxRecDepth 100000 in
theorem ofFn283 (f : Nat → Value) : Array.ofFn (n := 283) (fun i => f i.val) = #[f 0, f 1, f 2, f 3, f 4, f 5, f 6, f 7, f 8, f 9, f 10, f 11, f 12, f 13, f 14, f 15, f 16, f 17, f 18, f 19, f 20, f 21, f 22, f 23, f 24, f 25, f 26, f 27, f 28, f 29, f 30, f 31, f 32, f 33, f 34, f 35, f 36, f 37, f 38, f 39, f 40, f 41, f 42, f 43, f 44, f 45, f 46, f 47, f 48, f 49, f 50, f 51, f 52, f 53, f 54, f 55, f 56, f 57, f 58, f 59, f 60, f 61, f 62, f 63, f 64, f 65, f 66, f 67, f 68, f 69, f 70, f 71, f 72, f 73, f 74, f 75, f 76, f 77, f 78, f 79, f 80, f 81, f 82, f 83, f 84, f 85, f 86, f 87, f 88, f 89, f 90, f 91, f 92, f 93, f 94, f 95, f 96, f 97, f 98, f 99, f 100, f 101, f 102, f 103, f 104, f 105, f 106, f 107, f 108, f 109, f 110, f 111, f 112, f 113, f 114, f 115, f 116, f 117, f 118, f 119, f 120, f 121, f 122, f 123, f 124, f 125, f 126, f 127, f 128, f 129, f 130, f 131, f 132, f 133, f 134, f 135, f 136, f 137, f 138, f 139, f 140, f 141, f 142, f 143, f 144, f 145, f 146, f 147, f 148, f 149, f 150, f 151, f 152, f 153, f 154, f 155, f 156, f 157, f 158, f 159, f 160, f 161, f 162, f 163, f 164, f 165, f 166, f 167, f 168, f 169, f 170, f 171, f 172, f 173, f 174, f 175, f 176, f 177, f 178, f 179, f 180, f 181, f 182, f 183, f 184, f 185, f 186, f 187, f 188, f 189, f 190, f 191, f 192, f 193, f 194, f 195, f 196, f 197, f 198, f 199, f 200, f 201, f 202, f 203, f 204, f 205, f 206, f 207, f 208, f 209, f 210, f 211, f 212, f 213, f 214, f 215, f 216, f 217, f 218, f 219, f 220, f 221, f 222, f 223, f 224, f 225, f 226, f 227, f 228, f 229, f 230, f 231, f 232, f 233, f 234, f 235, f 236, f 237, f 238, f 239, f 240, f 241, f 242, f 243, f 244, f 245, f 246, f 247, f 248, f 249, f 250, f 251, f 252, f 253, f 254, f 255, f 256, f 257, f 258, f 259, f 260, f 261, f 262, f 263, f 264, f 265, f 266, f 267, f 268, f 269, f 270, f 271, f 272, f 273, f 274, f 275, f 276, f 277, f 278, f 279, f 280, f 281, f 282] := by kernel_rfl
theorem arr_ofFn (t : Array Value) {n : Nat} (h : t.size = n) : t = Array.ofFn (n := n) (fun i => t.getD i.val undef) := by
  subst h
  apply Array.ext
  · simp
  · intro i h1 h2
    simp [h1]
/-- A frame at Scan's end. -/
def FrE (b : Bl) (X R T : Nat) (er : Value) (a : Act) : Prop := ∃ u : Nat → Value, a = { tmps := #[ptr b.Z, ptr X, u 2, u 3, ptr R, u 5, er, ptr T, u 8, u 9, u 10, u 11, u 12, u 13, u 14, u 15, u 16, u 17, u 18, u 19, u 20, u 21, u 22, u 23, u 24, u 25, u 26, u 27, u 28, u 29, u 30, u 31, u 32, u 33, u 34, u 35, u 36, u 37, u 38, u 39, u 40, u 41, u 42, u 43, u 44, u 45, u 46, u 47, u 48, u 49, u 50, u 51, u 52, u 53, u 54, u 55, u 56, u 57, u 58, u 59, u 60, u 61, u 62, u 63, u 64, u 65, u 66, u 67, u 68, u 69, u 70, u 71, u 72, u 73, u 74, u 75, u 76, u 77, u 78, u 79, u 80, u 81, u 82, u 83, u 84, u 85, u 86, u 87, u 88, u 89, u 90, u 91, u 92, u 93, u 94, u 95, u 96, u 97, u 98, u 99, u 100, u 101, u 102, u 103, u 104, u 105, u 106, u 107, u 108, u 109, u 110, u 111, u 112, u 113, u 114, u 115, u 116, u 117, u 118, u 119, u 120, u 121, u 122, u 123, u 124, u 125, u 126, u 127, u 128, u 129, u 130, u 131, u 132, u 133, u 134, u 135, u 136, u 137, u 138, u 139, u 140, u 141, u 142, u 143, u 144, u 145, u 146, u 147, u 148, u 149, u 150, u 151, u 152, u 153, u 154, u 155, u 156, u 157, u 158, u 159, u 160, u 161, u 162, u 163, u 164, u 165, u 166, u 167, u 168, u 169, u 170, u 171, u 172, u 173, u 174, u 175, u 176, u 177, u 178, u 179, u 180, u 181, u 182, u 183, u 184, u 185, u 186, u 187, u 188, u 189, u 190, u 191, u 192, u 193, u 194, u 195, u 196, u 197, u 198, u 199, u 200, u 201, u 202, u 203, u 204, u 205, u 206, u 207, u 208, u 209, u 210, u 211, u 212, u 213, u 214, u 215, u 216, u 217, u 218, u 219, u 220, u 221, u 222, u 223, u 224, u 225, u 226, u 227, u 228, u 229, u 230, u 231, u 232, u 233, u 234, u 235, u 236, u 237, u 238, u 239, u 240, u 241, u 242, u 243, u 244, u 245, u 246, u 247, u 248, u 249, u 250, u 251, u 252, u 253, u 254, u 255, u 256, u 257, u 258, u 259, u 260, u 261, u 262, u 263, u 264, u 265, u 266, u 267, u 268, u 269, u 270, u 271, u 272, u 273, u 274, u 275, u 276, u 277, u 278, u 279, u 280, u 281, u 282], defers := [] }

set_option maxRecDepth 100000 in
theorem frE_mk {b : Bl} {X R T : Nat} {er : Value} {t : Array Value} (hs : t.size = 283) (h0 : t.getD 0 undef = ptr b.Z) (h1 : t.getD 1 undef = ptr X) (h4 : t.getD 4 undef = ptr R) (h6 : t.getD 6 undef = er) (h7 : t.getD 7 undef = ptr T) : FrE b X R T er { tmps := t, defers := [] } := by
  refine ⟨fun i => t.getD i undef, ?_⟩
  rw [← h0, ← h1, ← h4, ← h6, ← h7]
  have := (arr_ofFn t hs).trans (ofFn283 fun i => t.getD i undef)
  exact congrArg (fun x => ({ tmps := x, defers := [] } : Act)) this

/-- A frame at the first label. -/
def FrS (b : Bl) (X R : Nat) (a : Act) : Prop := ∃ u : Nat → Value, a = { tmps := #[ptr b.Z, ptr X, u 2, u 3, ptr R, u 5, u 6, u 7, u 8, u 9, u 10, u 11, u 12, u 13, u 14, u 15, u 16, u 17, u 18, u 19, u 20, u 21, u 22, u 23, u 24, u 25, u 26, u 27, u 28, u 29, u 30, u 31, u 32, u 33, u 34, u 35, u 36, u 37, u 38, u 39, u 40, u 41, u 42, u 43, u 44, u 45, u 46, u 47, u 48, u 49, u 50, u 51, u 52, u 53, u 54, u 55, u 56, u 57, u 58, u 59, u 60, u 61, u 62, u 63, u 64, u 65, u 66, u 67, u 68, u 69, u 70, u 71, u 72, u 73, u 74, u 75, u 76, u 77, u 78, u 79, u 80, u 81, u 82, u 83, u 84, u 85, u 86, u 87, u 88, u 89, u 90, u 91, u 92, u 93, u 94, u 95, u 96, u 97, u 98, u 99, u 100, u 101, u 102, u 103, u 104, u 105, u 106, u 107, u 108, u 109, u 110, u 111, u 112, u 113, u 114, u 115, u 116, u 117, u 118, u 119, u 120, u 121, u 122, u 123, u 124, u 125, u 126, u 127, u 128, u 129, u 130, u 131, u 132, u 133, u 134, u 135, u 136, u 137, u 138, u 139, u 140, u 141, u 142, u 143, u 144, u 145, u 146, u 147, u 148, u 149, u 150, u 151, u 152, u 153, u 154, u 155, u 156, u 157, u 158, u 159, u 160, u 161, u 162, u 163, u 164, u 165, u 166, u 167, u 168, u 169, u 170, u 171, u 172, u 173, u 174, u 175, u 176, u 177, u 178, u 179, u 180, u 181, u 182, u 183, u 184, u 185, u 186, u 187, u 188, u 189, u 190, u 191, u 192, u 193, u 194, u 195, u 196, u 197, u 198, u 199, u 200, u 201, u 202, u 203, u 204, u 205, u 206, u 207, u 208, u 209, u 210, u 211, u 212, u 213, u 214, u 215, u 216, u 217, u 218, u 219, u 220, u 221, u 222, u 223, u 224, u 225, u 226, u 227, u 228, u 229, u 230, u 231, u 232, u 233, u 234, u 235, u 236, u 237, u 238, u 239, u 240, u 241, u 242, u 243, u 244, u 245, u 246, u 247, u 248, u 249, u 250, u 251, u 252, u 253, u 254, u 255, u 256, u 257, u 258, u 259, u 260, u 261, u 262, u 263, u 264, u 265, u 266, u 267, u 268, u 269, u 270, u 271, u 272, u 273, u 274, u 275, u 276, u 277, u 278, u 279, u 280, u 281, u 282], defers := [] }
set_option maxRecDepth 100000 in
theorem frS_mk {b : Bl} {X R : Nat} {t : Array Value} (hs : t.size = 283) (h0 : t.getD 0 undef = ptr b.Z) (h1 : t.getD 1 undef = ptr X) (h4 : t.getD 4 undef = ptr R) : FrS b X R { tmps := t, defers := [] } := by
  refine ⟨fun i => t.getD i undef, ?_⟩
  rw [← h0, ← h1, ← h4]
  have := (arr_ofFn t hs).trans (ofFn283 fun i => t.getD i undef)
  exact congrArg (fun x => ({ tmps := x, defers := [] } : Act)) this

/-- In the midst of Scan: the scanner, its buffer g, the token's block T. -/
structure Mid (w0 : World) (b : Bl) (r : Bs) (L : Int) (g : Nat) (l : Bs) (X R T bm : Nat) (obj : Obj) (ty : Int) (st so : ByteArray) (ln cl : Int) (w : World) : Prop where
  sb : Sb w b r L g l
  tk : TokAt w T ty ⟨#[]⟩ st so ln cl
  rk : TokAt w R 0 ⟨#[]⟩ ⟨#[]⟩ ⟨#[]⟩ 0 0
  tb : Tab w bm obj
  lx : LxAt w X
  ch : Ch (Us b X) w0 w
  nT : w0.heap.size ≤ T
  nR : w0.heap.size ≤ R
  TR : T ≠ R
  Tg : T < g
  Rg : R < g
section
variable {w0 w w' : World} {b : Bl} {r r' : Bs} {L L' : Int} {g : Nat} {l l' : Bs} {X R T bm : Nat} {obj : Obj} {ty : Int} {st so : ByteArray} {ln cl : Int}
theorem Mid.step (h : Mid w0 b r L g l X R T bm obj ty st so ln cl w) (he : Env w0 b X bm) (hs : Sb w' b r' L' g l') (hc : Ch (Ub b g) w w') : Mid w0 b r' L' g l' X R T bm obj ty st so ln cl w' := by
  have hn : ∀ k, w0.heap.size ≤ k → k < g → ¬ Ub b g k := fun k h1 h2 hu => hu.elim (fun ht => by have := he.tr k ht; omega) (fun hg => by omega)
  have hg : w0.heap.size ≤ g := by have := h.nT; have := h.Tg; omega
  have ho : ∀ k, k < w0.heap.size → ¬ Tr b k → ¬ Ub b g k := fun k h1 h2 hu => hu.elim h2 (fun hg' => by omega)
  have h2 := he.l2
  exact ⟨hs, h.tk.keep hc (hn T h.nT h.Tg), h.rk.keep hc (hn R h.nR h.Rg), h.tb.keep hc (ho 0 (by omega) (fun ht => he.low 0 (by simp) (.inl ht))) (ho 1 (by omega) (fun ht => he.low 1 (by simp) (.inl ht))) (ho bm he.ml (fun ht => he.low bm (by simp) (.inl ht))), h.lx.keep hc (ho X he.xl he.nX), h.ch.trans' hc (fun k hk hu => hu.elim .inl (fun hg' => by omega)), h.nT, h.nR, h.TR, h.Tg, h.Rg⟩
theorem Mid.set0 (h : Mid w0 b r L g l X R T bm obj ty st so ln cl w) (he : Env w0 b X bm) (v : Int) : Mid w0 b r L g l X R T bm obj v st so ln cl (w.setCell ⟨T, 0, none⟩ (.int .i64 v)) := by
  have hc : Ch (fun k => k = T) w (w.setCell ⟨T, 0, none⟩ (.int .i64 v)) := Ch.setCell (T := fun k => k = T) (Ch.refl _ _) (p := ⟨T, 0, none⟩) (fun _ => rfl) _
  have hTg := h.Tg
  have hnT := h.nT
  have h2 := he.l2
  refine ⟨h.sb.keep hc ?_ (by omega), h.tk.set0 v, h.rk.keep hc (fun e => h.TR e.symm), h.tb.keep hc (by omega) (by omega) (by have := he.ml; omega), h.lx.keep hc (by have := he.xl; omega), h.ch.trans' hc (fun k hk e => by omega), h.nT, h.nR, h.TR, h.Tg, h.Rg⟩
  rintro k (hk | hk) e
  · have := he.tr k hk; omega
  · omega
theorem Mid.set2 (h : Mid w0 b r L g l X R T bm obj ty st so ln cl w) (he : Env w0 b X bm) (v : ByteArray) : Mid w0 b r L g l X R T bm obj ty v so ln cl (w.setCell ⟨T, 2, none⟩ (.string v)) := by
  have hc : Ch (fun k => k = T) w (w.setCell ⟨T, 2, none⟩ (.string v)) := Ch.setCell (T := fun k => k = T) (Ch.refl _ _) (p := ⟨T, 2, none⟩) (fun _ => rfl) _
  have hTg := h.Tg
  have hnT := h.nT
  have h2 := he.l2
  refine ⟨h.sb.keep hc ?_ (by omega), h.tk.set2 v, h.rk.keep hc (fun e => h.TR e.symm), h.tb.keep hc (by omega) (by omega) (by have := he.ml; omega), h.lx.keep hc (by have := he.xl; omega), h.ch.trans' hc (fun k hk e => by omega), h.nT, h.nR, h.TR, h.Tg, h.Rg⟩
  rintro k (hk | hk) e
  · have := he.tr k hk; omega
  · omega
theorem Mid.fin (h : Mid w0 b r L g l X R T bm obj ty st so ln cl w) : Fin w0 b r L X R T bm obj ty st so ln cl w := ⟨h.sb.rd, h.tk, h.rk, h.tb, h.lx, h.ch, h.nT, h.nR, h.TR⟩
theorem Mid.drew (h : Mid w0 b r L g l X R T bm obj ty st so ln cl w) (he : Env w0 b X bm) (n : Nat) : Mid w0 b r L g l X R T bm obj ty st so ln cl (w.drewN n) :=
  h.step he (h.sb.moved ((Ch.refl _ _).drewN n)) (((Ch.refl (fun _ => False) _).drewN n).mono fun _ _ h => h.elim)
end

/-- The contracts of the scanner's parts, in the midst of Scan. -/
theorem md_string {w0 w : World} {b : Bl} {r : Bs} {L : Int} {g : Nat} {l : Bs} {X R T bm : Nat} {obj : Obj} {ty : Int} {st so : ByteArray} {ln cl : Int} (HE : Hid (Env w0 b X bm)) (H : Hid (Mid w0 b r L g l X R T bm obj ty st so ln cl w)) :
    Calls Tryd.prog 18 #[ptr g] w fun e w' => e = .returned (.string ⟨l.toArray⟩) ∧ Mid w0 b r L g l X R T bm obj ty st so ln cl w' := by
  refine (Buffer_String g g l w H.out.sb.bf).mono ?_
  rintro e w' ⟨rfl, n, rfl⟩
  exact ⟨rfl, H.out.drew HE.out n⟩
theorem md_peek {w0 w : World} {b : Bl} {r : Bs} {L : Int} {g : Nat} {l : Bs} {X R T bm : Nat} {obj : Obj} {ty : Int} {st so : ByteArray} {ln cl : Int} (HE : Hid (Env w0 b X bm)) (H : Hid (Mid w0 b r L g l X R T bm obj ty st so ln cl w)) :
    Calls Tryd.prog 21 #[ptr b.Z] w fun e w' => e = .returned (.int .i64 (hd r)) ∧ Mid w0 b r L g l X R T bm obj ty st so ln cl w' := by
  refine (sb_peek (Lib.hid H.out.sb)).mono ?_
  rintro e w' ⟨rfl, hs, hc⟩
  exact ⟨rfl, H.out.step HE.out hs hc⟩
theorem md_next {w0 w : World} {b : Bl} {r : Bs} {L : Int} {g : Nat} {l : Bs} {X R T bm : Nat} {obj : Obj} {ty : Int} {st so : ByteArray} {ln cl : Int} (HE : Hid (Env w0 b X bm)) (H : Hid (Mid w0 b r L g l X R T bm obj ty st so ln cl w)) (h13 : NoCr r) :
    Calls Tryd.prog 23 #[ptr b.Z] w fun e w' => e = .returned (.int .i64 (hd r)) ∧ Mid w0 b (tl1 r) (ln1 r L) g l X R T bm obj ty st so ln cl w' := by
  refine (sb_next (Lib.hid H.out.sb) h13).mono ?_
  rintro e w' ⟨rfl, hs, hc⟩
  exact ⟨rfl, H.out.step HE.out hs hc⟩
theorem md_write {w0 w : World} {b : Bl} {r : Bs} {L : Int} {g : Nat} {l : Bs} {X R T bm : Nat} {obj : Obj} {ty : Int} {st so : ByteArray} {ln cl : Int} {c : UInt8} (HE : Hid (Env w0 b X bm)) (H : Hid (Mid w0 b r L g l X R T bm obj ty st so ln cl w)) (hl : l.length < 100000) :
    Calls Tryd.prog 27 #[ptr g, .int .i64 (c.toNat : Int)] w fun e w' => e = .returned (.tuple #[]) ∧ Mid w0 b r L g (l ++ [c]) X R T bm obj ty st so ln cl w' := by
  refine (sb_write (Lib.hid H.out.sb) hl).mono ?_
  rintro e w' ⟨rfl, hs, hc⟩
  exact ⟨rfl, H.out.step HE.out hs hc⟩
theorem md_err {w0 w : World} {b : Bl} {r : Bs} {L : Int} {g : Nat} {l : Bs} {X R T bm : Nat} {obj : Obj} {ty : Int} {st so : ByteArray} {ln cl : Int} {s1 s2 : ByteArray} (HE : Hid (Env w0 b X bm)) (H : Hid (Mid w0 b r L g l X R T bm obj ty st so ln cl w)) :
    Calls Tryd.prog 26 #[ptr b.Z, .string s1, .string s2] w fun e w' => (∃ p, e = .returned (ptr p)) ∧ Mid w0 b r L g l X R T bm obj ty st so ln cl w' := by
  refine (err_calls (Lib.hid H.out.sb.rd)).mono ?_
  rintro e w' ⟨⟨p, rfl⟩, hc⟩
  exact ⟨⟨p, rfl⟩, H.out.step HE.out (H.out.sb.moved hc) (hc.mono fun _ _ h => h.elim)⟩

end Go.Proofs.YtbgjjbffpckimaaDoor
