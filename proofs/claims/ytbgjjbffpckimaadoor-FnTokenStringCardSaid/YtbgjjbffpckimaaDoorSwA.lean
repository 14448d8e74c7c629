/-
  Scan: what a token's types are; a name, a number, the text's end.
-/
import Derived.Test.YtbgjjbffpckimaaDoorMid
import Derived.Test.YtbgjjbffpckimaaDoorNum
namespace Go.Proofs.YtbgjjbffpckimaaDoor
set_option linter.all false
open Go.RowKit

/-- The types of the signs. -/
def sgTab : List (Bs × Int) := [([46, 46, 46], 57373), ([46, 46], 57372), ([61, 61], 57368), ([126, 61], 57369), ([60, 61], 57370), ([62, 61], 57371), ([43], 43), ([45], 45), ([42], 42), ([47], 47), ([37], 37), ([94], 94), ([35], 35), ([60], 60), ([62], 62), ([61], 61), ([40], 40), ([41], 41), ([123], 123), ([125], 125), ([91], 91), ([93], 93), ([59], 59), ([58], 58), ([44], 44), ([46], 46)]
/-- The type and the text by which Scan gives a token. -/
def TyOk (k : Nat) (raw : Bs) (ty : Int) (st : Bs) : Prop :=
  (k = 1 ∧ ty = 57375 ∧ st = raw) ∨ (k = 2 ∧ (raw, ty) ∈ kwTab.take 21) ∨ (k = 3 ∧ (raw, ty) ∈ sgTab) ∨ (k = 4 ∧ ty = 57376 ∧ st = raw) ∨ (k = 5 ∧ ty = 57377 ∧ st = raw)

theorem lookup_none {s : Bs} : ∀ {l : List (Bs × Int)}, (∀ p ∈ l, p.1 ≠ s) → l.lookup s = none
  | [], _ => rfl
  | (a, v) :: l, h => by
    have h1 : ¬ s = a := fun e => h (a, v) (by simp) e.symm
    rw [List.lookup_cons]
    have : (s == a) = false := by simpa using h1
    rw [this]
    exact lookup_none fun p hp => h p (by simp [hp])
theorem kwTab_fst : ∀ p ∈ kwTab, p.1 ∈ kws ∨ p.1 = gotoB := by decide
theorem kws_in : ∀ s ∈ kws, ∃ ty, kwOf s = (ty, true) ∧ (s, ty) ∈ kwTab.take 21 ∧ ty < 57402 := by
  have h : ∀ s ∈ kws, kwOf s = ((kwOf s).1, true) ∧ (s, (kwOf s).1) ∈ kwTab.take 21 ∧ (kwOf s).1 < 57402 := by decide
  intro s hs
  exact ⟨_, h s hs⟩
theorem kws_out {s : Bs} (h : s ∉ kws) (hg : s ≠ gotoB) : kwOf s = (0, false) := by
  unfold kwOf
  rw [lookup_none]
  intro p hp e
  rcases kwTab_fst p hp with h1 | h1
  · exact h (e ▸ h1)
  · exact hg (e ▸ h1)

set_option maxRecDepth 100000 in
set_option maxHeartbeats 4000000 in
theorem sw_word {w0 w : World} {b : Bl} {t : Bs} {L : Int} {g : Nat} {X R T bm : Nat} {obj : Obj} {so : ByteArray} {ln cl : Int} {Q : Exit → Act → World → Prop} (u : Nat → Value) (HE : Hid (Env w0 b X bm)) {c : UInt8} (H : Hid (Mid w0 b t L g [] X R T bm obj 0 ⟨#[]⟩ so ln cl w)) (hc : isLet c = true) (hk : (c :: t).takeWhile isIdc ∈ kws) (h13 : NoCr t)
    (hN : ∀ a' w' ty st, FrE b X R T .nilIface a' → TyOk 2 ((c :: t).takeWhile isIdc) ty st → ty < 57402 → Fin w0 b ((c :: t).dropWhile isIdc) L X R T bm obj ty ⟨st.toArray⟩ so ln cl w' → Q .normal a' w') :
    sw12.wp Tryd.prog Q { tmps := #[ptr b.Z, ptr X, u 2, u 3, ptr R, u 5, .nilIface, ptr T, u 8, .int .i64 (c.toNat : Int), ptr g, ptr g, u 12, u 13, u 14, u 15, u 16, u 17, u 18, u 19, u 20, u 21, u 22, u 23, u 24, u 25, u 26, u 27, u 28, u 29, u 30, u 31, u 32, u 33, u 34, u 35, u 36, u 37, u 38, u 39, u 40, u 41, u 42, u 43, u 44, u 45, u 46, u 47, u 48, u 49, u 50, u 51, u 52, u 53, u 54, u 55, u 56, u 57, u 58, u 59, u 60, u 61, u 62, u 63, u 64, u 65, u 66, u 67, u 68, u 69, u 70, u 71, u 72, u 73, u 74, u 75, u 76, u 77, u 78, u 79, u 80, u 81, u 82, u 83, u 84, u 85, u 86, u 87, u 88, u 89, u 90, u 91, u 92, u 93, u 94, u 95, u 96, u 97, u 98, u 99, u 100, u 101, u 102, u 103, u 104, u 105, u 106, u 107, u 108, u 109, u 110, u 111, u 112, u 113, u 114, u 115, u 116, u 117, u 118, u 119, u 120, u 121, u 122, u 123, u 124, u 125, u 126, u 127, u 128, u 129, u 130, u 131, u 132, u 133, u 134, u 135, u 136, u 137, u 138, u 139, u 140, u 141, u 142, u 143, u 144, u 145, u 146, u 147, u 148, u 149, u 150, u 151, u 152, u 153, u 154, u 155, u 156, u 157, u 158, u 159, u 160, u 161, u 162, u 163, u 164, u 165, u 166, u 167, u 168, u 169, u 170, u 171, u 172, u 173, u 174, u 175, u 176, u 177, u 178, u 179, u 180, u 181, u 182, u 183, u 184, u 185, u 186, u 187, u 188, u 189, u 190, u 191, u 192, u 193, u 194, u 195, u 196, u 197, u 198, u 199, u 200, u 201, u 202, u 203, u 204, u 205, u 206, u 207, u 208, u 209, u 210, u 211, u 212, u 213, u 214, u 215, u 216, u 217, u 218, u 219, u 220, u 221, u 222, u 223, u 224, u 225, u 226, u 227, u 228, u 229, u 230, u 231, u 232, u 233, u 234, u 235, u 236, u 237, u 238, u 239, u 240, u 241, u 242, u 243, u 244, u 245, u 246, u 247, u 248, u 249, u 250, u 251, u 252, u 253, u 254, u 255, u 256, u 257, u 258, u 259, u 260, u 261, u 262, u 263, u 264, u 265, u 266, u 267, u 268, u 269, u 270, u 271, u 272, u 273, u 274, u 275, u 276, u 277, u 278, u 279, u 280, u 281, u 282], defers := [] } w := by
  have HN := Lib.hid hN
  have H13 := Lib.hid h13
  have hid : isIdc c = true := by unfold isIdc; rw [hc]; rfl
  have htk : (c :: t).takeWhile isIdc = c :: t.takeWhile isIdc := by rw [List.takeWhile_cons, if_pos hid]
  have hdr : (c :: t).dropWhile isIdc = t.dropWhile isIdc := by rw [List.dropWhile_cons, if_pos hid]
  have hlen := H.out.sb.rd.len
  obtain ⟨ty, hkw, hin, hty⟩ := kws_in _ hk
  have HIN := Lib.hid hin
  have HTY := Lib.hid hty
  clear hin hty hk
  have HKW := Lib.hid hkw
  have HTK := Lib.hid htk
  have HDR := Lib.hid hdr
  clear hN h13 hid htk hdr hkw
  conv => arg 2; whnf
  go_wp2_with fail
  refine (isLet_calls (r := c :: t) (v := true) hc).mono ?_
  rintro e w1 ⟨rfl, rfl⟩
  clear hc
  have t0 := H.out.tk.c0
  have z0 := H.out.tk.fz 0
  have H1 := Lib.hid (H.out.set0 HE.out 57375)
  clear H
  simp only []
  go_wp2_with fail
  refine (scanIdent_calls (Lib.hid H1.out.sb) H13.out (by simp only [List.length_nil]; omega)).mono ?_
  rintro e w2 ⟨rfl, hs, hc⟩
  rw [List.nil_append, List.singleton_append, ← HTK.out, ← HDR.out] at hs
  have H2 := Lib.hid (H1.out.step HE.out hs hc)
  clear hs hc H1 t0 z0
  simp only []
  go_wp2_with fail
  refine (md_string HE H2).mono ?_
  rintro e w3 ⟨rfl, hm⟩
  have t2 := hm.tk.c2
  have z2 := hm.tk.fz 2
  have hm4 := hm.set2 HE.out ⟨((c :: t).takeWhile isIdc).toArray⟩
  have g0 := hm4.tb.g0
  have t24 := hm4.tk.c2
  have t04 := hm4.tk.c0
  have z04 := hm4.tk.fz 0
  have hlk := hm4.tb.look ((c :: t).takeWhile isIdc) _ hm4.tb.ob
  rw [HKW.out] at hlk
  have H4 := Lib.hid hm4
  clear hm hm4 H2
  simp only []
  go_wp2_with fail
  exact HN.out _ _ ty ((c :: t).takeWhile isIdc) (frE_mk rfl rfl rfl rfl rfl rfl) (.inr (.inl ⟨rfl, HIN.out⟩)) HTY.out (H4.out.set0 HE.out ty).fin

set_option maxRecDepth 100000 in
set_option maxHeartbeats 4000000 in
theorem sw_name {w0 w : World} {b : Bl} {t : Bs} {L : Int} {g : Nat} {X R T bm : Nat} {obj : Obj} {so : ByteArray} {ln cl : Int} {Q : Exit → Act → World → Prop} (u : Nat → Value) (HE : Hid (Env w0 b X bm)) {c : UInt8} (H : Hid (Mid w0 b t L g [] X R T bm obj 0 ⟨#[]⟩ so ln cl w)) (hc : isLet c = true) (hk : (c :: t).takeWhile isIdc ∉ kws) (hg : (c :: t).takeWhile isIdc ≠ gotoB) (h13 : NoCr t)
    (hN : ∀ a' w' ty st, FrE b X R T .nilIface a' → TyOk 1 ((c :: t).takeWhile isIdc) ty st → ty < 57402 → Fin w0 b ((c :: t).dropWhile isIdc) L X R T bm obj ty ⟨st.toArray⟩ so ln cl w' → Q .normal a' w') :
    sw12.wp Tryd.prog Q { tmps := #[ptr b.Z, ptr X, u 2, u 3, ptr R, u 5, .nilIface, ptr T, u 8, .int .i64 (c.toNat : Int), ptr g, ptr g, u 12, u 13, u 14, u 15, u 16, u 17, u 18, u 19, u 20, u 21, u 22, u 23, u 24, u 25, u 26, u 27, u 28, u 29, u 30, u 31, u 32, u 33, u 34, u 35, u 36, u 37, u 38, u 39, u 40, u 41, u 42, u 43, u 44, u 45, u 46, u 47, u 48, u 49, u 50, u 51, u 52, u 53, u 54, u 55, u 56, u 57, u 58, u 59, u 60, u 61, u 62, u 63, u 64, u 65, u 66, u 67, u 68, u 69, u 70, u 71, u 72, u 73, u 74, u 75, u 76, u 77, u 78, u 79, u 80, u 81, u 82, u 83, u 84, u 85, u 86, u 87, u 88, u 89, u 90, u 91, u 92, u 93, u 94, u 95, u 96, u 97, u 98, u 99, u 100, u 101, u 102, u 103, u 104, u 105, u 106, u 107, u 108, u 109, u 110, u 111, u 112, u 113, u 114, u 115, u 116, u 117, u 118, u 119, u 120, u 121, u 122, u 123, u 124, u 125, u 126, u 127, u 128, u 129, u 130, u 131, u 132, u 133, u 134, u 135, u 136, u 137, u 138, u 139, u 140, u 141, u 142, u 143, u 144, u 145, u 146, u 147, u 148, u 149, u 150, u 151, u 152, u 153, u 154, u 155, u 156, u 157, u 158, u 159, u 160, u 161, u 162, u 163, u 164, u 165, u 166, u 167, u 168, u 169, u 170, u 171, u 172, u 173, u 174, u 175, u 176, u 177, u 178, u 179, u 180, u 181, u 182, u 183, u 184, u 185, u 186, u 187, u 188, u 189, u 190, u 191, u 192, u 193, u 194, u 195, u 196, u 197, u 198, u 199, u 200, u 201, u 202, u 203, u 204, u 205, u 206, u 207, u 208, u 209, u 210, u 211, u 212, u 213, u 214, u 215, u 216, u 217, u 218, u 219, u 220, u 221, u 222, u 223, u 224, u 225, u 226, u 227, u 228, u 229, u 230, u 231, u 232, u 233, u 234, u 235, u 236, u 237, u 238, u 239, u 240, u 241, u 242, u 243, u 244, u 245, u 246, u 247, u 248, u 249, u 250, u 251, u 252, u 253, u 254, u 255, u 256, u 257, u 258, u 259, u 260, u 261, u 262, u 263, u 264, u 265, u 266, u 267, u 268, u 269, u 270, u 271, u 272, u 273, u 274, u 275, u 276, u 277, u 278, u 279, u 280, u 281, u 282], defers := [] } w := by
  have HN := Lib.hid hN
  have H13 := Lib.hid h13
  have hid : isIdc c = true := by unfold isIdc; rw [hc]; rfl
  have htk : (c :: t).takeWhile isIdc = c :: t.takeWhile isIdc := by rw [List.takeWhile_cons, if_pos hid]
  have hdr : (c :: t).dropWhile isIdc = t.dropWhile isIdc := by rw [List.dropWhile_cons, if_pos hid]
  have hlen := H.out.sb.rd.len
  have hkw := kws_out hk hg
  clear hk hg
  have HKW := Lib.hid hkw
  have HTK := Lib.hid htk
  have HDR := Lib.hid hdr
  clear hN h13 hid htk hdr hkw
  conv => arg 2; whnf
  go_wp2_with fail
  refine (isLet_calls (r := c :: t) (v := true) hc).mono ?_
  rintro e w1 ⟨rfl, rfl⟩
  clear hc
  have t0 := H.out.tk.c0
  have z0 := H.out.tk.fz 0
  have H1 := Lib.hid (H.out.set0 HE.out 57375)
  clear H
  simp only []
  go_wp2_with fail
  refine (scanIdent_calls (Lib.hid H1.out.sb) H13.out (by simp only [List.length_nil]; omega)).mono ?_
  rintro e w2 ⟨rfl, hs, hc⟩
  rw [List.nil_append, List.singleton_append, ← HTK.out, ← HDR.out] at hs
  have H2 := Lib.hid (H1.out.step HE.out hs hc)
  clear hs hc H1 t0 z0
  simp only []
  go_wp2_with fail
  refine (md_string HE H2).mono ?_
  rintro e w3 ⟨rfl, hm⟩
  have t2 := hm.tk.c2
  have z2 := hm.tk.fz 2
  have hm4 := hm.set2 HE.out ⟨((c :: t).takeWhile isIdc).toArray⟩
  have g0 := hm4.tb.g0
  have t24 := hm4.tk.c2
  have t04 := hm4.tk.c0
  have z04 := hm4.tk.fz 0
  have hlk := hm4.tb.look ((c :: t).takeWhile isIdc) _ hm4.tb.ob
  rw [HKW.out] at hlk
  have H4 := Lib.hid hm4
  clear hm hm4 H2
  simp only []
  go_wp2_with fail
  exact HN.out _ _ 57375 ((c :: t).takeWhile isIdc) (frE_mk rfl rfl rfl rfl rfl rfl) (.inl ⟨rfl, rfl, rfl⟩) (by omega) H4.out.fin

set_option maxRecDepth 100000 in
set_option maxHeartbeats 4000000 in
theorem sw_eof {w0 w : World} {b : Bl} {t : Bs} {L : Int} {g : Nat} {X R T bm : Nat} {obj : Obj} {so : ByteArray} {ln cl : Int} {Q : Exit → Act → World → Prop} (u : Nat → Value) (HE : Hid (Env w0 b X bm)) (H : Hid (Mid w0 b [] L g [] X R T bm obj 0 ⟨#[]⟩ so ln cl w))
    (hN : ∀ a' w', FrE b X R T .nilIface a' → Fin w0 b [] L X R T bm obj (-1) ⟨#[]⟩ so ln cl w' → Q .normal a' w') :
    sw12.wp Tryd.prog Q { tmps := #[ptr b.Z, ptr X, u 2, u 3, ptr R, u 5, .nilIface, ptr T, u 8, .int .i64 (-1), ptr g, ptr g, u 12, u 13, u 14, u 15, u 16, u 17, u 18, u 19, u 20, u 21, u 22, u 23, u 24, u 25, u 26, u 27, u 28, u 29, u 30, u 31, u 32, u 33, u 34, u 35, u 36, u 37, u 38, u 39, u 40, u 41, u 42, u 43, u 44, u 45, u 46, u 47, u 48, u 49, u 50, u 51, u 52, u 53, u 54, u 55, u 56, u 57, u 58, u 59, u 60, u 61, u 62, u 63, u 64, u 65, u 66, u 67, u 68, u 69, u 70, u 71, u 72, u 73, u 74, u 75, u 76, u 77, u 78, u 79, u 80, u 81, u 82, u 83, u 84, u 85, u 86, u 87, u 88, u 89, u 90, u 91, u 92, u 93, u 94, u 95, u 96, u 97, u 98, u 99, u 100, u 101, u 102, u 103, u 104, u 105, u 106, u 107, u 108, u 109, u 110, u 111, u 112, u 113, u 114, u 115, u 116, u 117, u 118, u 119, u 120, u 121, u 122, u 123, u 124, u 125, u 126, u 127, u 128, u 129, u 130, u 131, u 132, u 133, u 134, u 135, u 136, u 137, u 138, u 139, u 140, u 141, u 142, u 143, u 144, u 145, u 146, u 147, u 148, u 149, u 150, u 151, u 152, u 153, u 154, u 155, u 156, u 157, u 158, u 159, u 160, u 161, u 162, u 163, u 164, u 165, u 166, u 167, u 168, u 169, u 170, u 171, u 172, u 173, u 174, u 175, u 176, u 177, u 178, u 179, u 180, u 181, u 182, u 183, u 184, u 185, u 186, u 187, u 188, u 189, u 190, u 191, u 192, u 193, u 194, u 195, u 196, u 197, u 198, u 199, u 200, u 201, u 202, u 203, u 204, u 205, u 206, u 207, u 208, u 209, u 210, u 211, u 212, u 213, u 214, u 215, u 216, u 217, u 218, u 219, u 220, u 221, u 222, u 223, u 224, u 225, u 226, u 227, u 228, u 229, u 230, u 231, u 232, u 233, u 234, u 235, u 236, u 237, u 238, u 239, u 240, u 241, u 242, u 243, u 244, u 245, u 246, u 247, u 248, u 249, u 250, u 251, u 252, u 253, u 254, u 255, u 256, u 257, u 258, u 259, u 260, u 261, u 262, u 263, u 264, u 265, u 266, u 267, u 268, u 269, u 270, u 271, u 272, u 273, u 274, u 275, u 276, u 277, u 278, u 279, u 280, u 281, u 282], defers := [] } w := by
  have HN := Lib.hid hN
  clear hN
  conv => arg 2; whnf
  go_wp2_with fail
  refine (isLet_calls (r := []) (v := false) rfl).mono ?_
  rintro e w1 ⟨rfl, rfl⟩
  simp only []
  go_wp2_with fail
  refine (isDec_calls (r := []) (v := false) rfl).mono ?_
  rintro e w1 ⟨rfl, rfl⟩
  have t0 := H.out.tk.c0
  have z0 := H.out.tk.fz 0
  have H1 := Lib.hid (H.out.set0 HE.out (-1))
  clear H
  simp only []
  go_wp2_with fail
  exact HN.out _ _ (frE_mk rfl rfl rfl rfl rfl rfl) H1.out.fin

set_option maxRecDepth 100000 in
set_option maxHeartbeats 4000000 in
theorem sw_num {w0 w : World} {b : Bl} {t : Bs} {L : Int} {g : Nat} {X R T bm : Nat} {obj : Obj} {so : ByteArray} {ln cl : Int} {Q : Exit → Act → World → Prop} (u : Nat → Value) (HE : Hid (Env w0 b X bm)) {c : UInt8} {raw rest : Bs} (H : Hid (Mid w0 b t L g [] X R T bm obj 0 ⟨#[]⟩ so ln cl w)) (hc : isDec c = true)
    (hcall : ∀ w1, Sb w1 b t L g [] → Calls Tryd.prog 20 #[ptr b.Z, .int .i64 (c.toNat : Int), ptr g] w1 (NumPost w1 b L g raw rest))
    (hN : ∀ a' w', FrE b X R T .nilIface a' → Fin w0 b rest L X R T bm obj 57376 ⟨raw.toArray⟩ so ln cl w' → Q .normal a' w') :
    sw12.wp Tryd.prog Q { tmps := #[ptr b.Z, ptr X, u 2, u 3, ptr R, u 5, .nilIface, ptr T, u 8, .int .i64 (c.toNat : Int), ptr g, ptr g, u 12, u 13, u 14, u 15, u 16, u 17, u 18, u 19, u 20, u 21, u 22, u 23, u 24, u 25, u 26, u 27, u 28, u 29, u 30, u 31, u 32, u 33, u 34, u 35, u 36, u 37, u 38, u 39, u 40, u 41, u 42, u 43, u 44, u 45, u 46, u 47, u 48, u 49, u 50, u 51, u 52, u 53, u 54, u 55, u 56, u 57, u 58, u 59, u 60, u 61, u 62, u 63, u 64, u 65, u 66, u 67, u 68, u 69, u 70, u 71, u 72, u 73, u 74, u 75, u 76, u 77, u 78, u 79, u 80, u 81, u 82, u 83, u 84, u 85, u 86, u 87, u 88, u 89, u 90, u 91, u 92, u 93, u 94, u 95, u 96, u 97, u 98, u 99, u 100, u 101, u 102, u 103, u 104, u 105, u 106, u 107, u 108, u 109, u 110, u 111, u 112, u 113, u 114, u 115, u 116, u 117, u 118, u 119, u 120, u 121, u 122, u 123, u 124, u 125, u 126, u 127, u 128, u 129, u 130, u 131, u 132, u 133, u 134, u 135, u 136, u 137, u 138, u 139, u 140, u 141, u 142, u 143, u 144, u 145, u 146, u 147, u 148, u 149, u 150, u 151, u 152, u 153, u 154, u 155, u 156, u 157, u 158, u 159, u 160, u 161, u 162, u 163, u 164, u 165, u 166, u 167, u 168, u 169, u 170, u 171, u 172, u 173, u 174, u 175, u 176, u 177, u 178, u 179, u 180, u 181, u 182, u 183, u 184, u 185, u 186, u 187, u 188, u 189, u 190, u 191, u 192, u 193, u 194, u 195, u 196, u 197, u 198, u 199, u 200, u 201, u 202, u 203, u 204, u 205, u 206, u 207, u 208, u 209, u 210, u 211, u 212, u 213, u 214, u 215, u 216, u 217, u 218, u 219, u 220, u 221, u 222, u 223, u 224, u 225, u 226, u 227, u 228, u 229, u 230, u 231, u 232, u 233, u 234, u 235, u 236, u 237, u 238, u 239, u 240, u 241, u 242, u 243, u 244, u 245, u 246, u 247, u 248, u 249, u 250, u 251, u 252, u 253, u 254, u 255, u 256, u 257, u 258, u 259, u 260, u 261, u 262, u 263, u 264, u 265, u 266, u 267, u 268, u 269, u 270, u 271, u 272, u 273, u 274, u 275, u 276, u 277, u 278, u 279, u 280, u 281, u 282], defers := [] } w := by
  have HN := Lib.hid hN
  have HCALL := Lib.hid hcall
  have hc2 : 48 ≤ c.toNat ∧ c.toNat ≤ 57 := by simpa [isDec] using hc
  have hl : isLet c = false := by simp [isLet]; omega
  clear hN hcall
  conv => arg 2; whnf
  go_wp2_with fail
  refine (isLet_calls (r := c :: t) (v := false) hl).mono ?_
  rintro e w1 ⟨rfl, rfl⟩
  clear hl
  simp only []
  go_wp2_with fail
  refine (isDec_calls (r := c :: t) (v := true) hc).mono ?_
  rintro e w1 ⟨rfl, rfl⟩
  clear hc
  have t0 := H.out.tk.c0
  have z0 := H.out.tk.fz 0
  have H1 := Lib.hid (H.out.set0 HE.out 57376)
  clear H
  simp only []
  go_wp2_with fail
  refine (HCALL.out _ H1.out.sb).mono ?_
  rintro e w2 ⟨rfl, hs, hc⟩
  have H2 := Lib.hid (H1.out.step HE.out hs hc)
  clear hs hc H1 t0 z0
  simp only []
  go_wp2_with fail
  refine (md_string HE H2).mono ?_
  rintro e w3 ⟨rfl, hm⟩
  have t2 := hm.tk.c2
  have z2 := hm.tk.fz 2
  have H4 := Lib.hid (hm.set2 HE.out ⟨raw.toArray⟩)
  clear hm H2
  simp only []
  go_wp2_with fail
  exact HN.out _ _ (frE_mk rfl rfl rfl rfl rfl rfl) H4.out.fin

end Go.Proofs.YtbgjjbffpckimaaDoor
