/-
  Scan: strings, long brackets, comments, what is no token.
-/
import Derived.Test.YtbgjjbffpckimaaDoorSwB
namespace Go.Proofs.YtbgjjbffpckimaaDoor
set_option linter.all false
open Go.RowKit

set_option maxRecDepth 100000 in
set_option maxHeartbeats 4000000 in
theorem sw_34 {w0 w : World} {b : Bl} {t : Bs} {L : Int} {g : Nat} {X R T bm : Nat} {obj : Obj} {so : ByteArray} {ln cl : Int} {Q : Exit → Act → World → Prop} (u : Nat → Value) (HE : Hid (Env w0 b X bm)) (H : Hid (Mid w0 b t L g [] X R T bm obj 0 ⟨#[]⟩ so ln cl w)) {Y : Rz Bs} (hY : strB 34 t = Y) (hno : ∀ k, Y = .no k → k = 1) (h13 : NoCr t)
    (hN : ∀ a' w' s r', Y = .ok s r' → FrE b X R T .nilIface a' → Fin w0 b r' (L + nl t - nl r') X R T bm obj 57377 ⟨s.toArray⟩ so ln cl w' → Q .normal a' w')
    (hB : ∀ a' w' p k r' L' l', Y = .no k → FrE b X R T (.iface 72 (ptr p)) a' → Fin w0 b r' L' X R T bm obj 57377 l' so ln cl w' → Q .normal a' w') :
    sw12.wp Tryd.prog Q { tmps := #[ptr b.Z, ptr X, u 2, u 3, ptr R, u 5, .nilIface, ptr T, u 8, .int .i64 34, ptr g, ptr g, u 12, u 13, u 14, u 15, u 16, u 17, u 18, u 19, u 20, u 21, u 22, u 23, u 24, u 25, u 26, u 27, u 28, u 29, u 30, u 31, u 32, u 33, u 34, u 35, u 36, u 37, u 38, u 39, u 40, u 41, u 42, u 43, u 44, u 45, u 46, u 47, u 48, u 49, u 50, u 51, u 52, u 53, u 54, u 55, u 56, u 57, u 58, u 59, u 60, u 61, u 62, u 63, u 64, u 65, u 66, u 67, u 68, u 69, u 70, u 71, u 72, u 73, u 74, u 75, u 76, u 77, u 78, u 79, u 80, u 81, u 82, u 83, u 84, u 85, u 86, u 87, u 88, u 89, u 90, u 91, u 92, u 93, u 94, u 95, u 96, u 97, u 98, u 99, u 100, u 101, u 102, u 103, u 104, u 105, u 106, u 107, u 108, u 109, u 110, u 111, u 112, u 113, u 114, u 115, u 116, u 117, u 118, u 119, u 120, u 121, u 122, u 123, u 124, u 125, u 126, u 127, u 128, u 129, u 130, u 131, u 132, u 133, u 134, u 135, u 136, u 137, u 138, u 139, u 140, u 141, u 142, u 143, u 144, u 145, u 146, u 147, u 148, u 149, u 150, u 151, u 152, u 153, u 154, u 155, u 156, u 157, u 158, u 159, u 160, u 161, u 162, u 163, u 164, u 165, u 166, u 167, u 168, u 169, u 170, u 171, u 172, u 173, u 174, u 175, u 176, u 177, u 178, u 179, u 180, u 181, u 182, u 183, u 184, u 185, u 186, u 187, u 188, u 189, u 190, u 191, u 192, u 193, u 194, u 195, u 196, u 197, u 198, u 199, u 200, u 201, u 202, u 203, u 204, u 205, u 206, u 207, u 208, u 209, u 210, u 211, u 212, u 213, u 214, u 215, u 216, u 217, u 218, u 219, u 220, u 221, u 222, u 223, u 224, u 225, u 226, u 227, u 228, u 229, u 230, u 231, u 232, u 233, u 234, u 235, u 236, u 237, u 238, u 239, u 240, u 241, u 242, u 243, u 244, u 245, u 246, u 247, u 248, u 249, u 250, u 251, u 252, u 253, u 254, u 255, u 256, u 257, u 258, u 259, u 260, u 261, u 262, u 263, u 264, u 265, u 266, u 267, u 268, u 269, u 270, u 271, u 272, u 273, u 274, u 275, u 276, u 277, u 278, u 279, u 280, u 281, u 282], defers := [] } w := by
  have HB := Lib.hid hB
  have HY := Lib.hid hY
  have HNO := Lib.hid hno
  have H13 := Lib.hid h13
  have hlen := H.out.sb.rd.len
  clear hB hY hno h13
  have HN := Lib.hid hN
  clear hN
  conv => arg 2; whnf
  go_wp2_with fail
  refine (isLet_calls (r := [34]) (v := false) rfl).mono ?_
  rintro e w1 ⟨rfl, rfl⟩
  simp only []
  go_wp2_with fail
  refine (isDec_calls (r := [34]) (v := false) rfl).mono ?_
  rintro e w1 ⟨rfl, rfl⟩
  have t0 := H.out.tk.c0
  have z0 := H.out.tk.fz 0
  have H1 := Lib.hid (H.out.set0 HE.out 57377)
  clear H
  simp only []
  go_wp2_with fail
  refine (scanString_calls (q := 34) (Lib.hid H1.out.sb) (by decide) HY.out HNO.out H13.out (by simp only [List.length_nil]; omega)).mono ?_
  rintro e w2 hst
  clear t0 z0
  cases Y with
  | ok s r' =>
    obtain ⟨rfl, hs, hc⟩ := hst
    have H2 := Lib.hid (H1.out.step HE.out hs hc)
    clear hs hc H1
    simp only []
    go_wp2_with fail
    refine (md_string HE H2).mono ?_
    rintro e w3 ⟨rfl, hm⟩
    have t2 := hm.tk.c2
    have z2 := hm.tk.fz 2
    have H4 := Lib.hid (hm.set2 HE.out ⟨([] ++ s : Bs).toArray⟩)
    clear hm H2
    simp only []
    go_wp2_with fail
    exact HN.out _ _ s r' rfl (frE_mk rfl rfl rfl rfl rfl rfl) H4.out.fin
  | no k =>
    obtain ⟨p, r', L', l', rfl, hs, hc⟩ := hst
    have H2 := Lib.hid (H1.out.step HE.out hs hc)
    clear hs hc H1
    simp only []
    go_wp2_with fail
    refine (md_string HE H2).mono ?_
    rintro e w3 ⟨rfl, hm⟩
    have t2 := hm.tk.c2
    have z2 := hm.tk.fz 2
    have H4 := Lib.hid (hm.set2 HE.out ⟨l'.toArray⟩)
    clear hm H2
    simp only []
    go_wp2_with fail
    exact HB.out _ _ p k r' L' _ rfl (frE_mk rfl rfl rfl rfl rfl rfl) H4.out.fin

set_option maxRecDepth 100000 in
set_option maxHeartbeats 4000000 in
theorem sw_39 {w0 w : World} {b : Bl} {t : Bs} {L : Int} {g : Nat} {X R T bm : Nat} {obj : Obj} {so : ByteArray} {ln cl : Int} {Q : Exit → Act → World → Prop} (u : Nat → Value) (HE : Hid (Env w0 b X bm)) (H : Hid (Mid w0 b t L g [] X R T bm obj 0 ⟨#[]⟩ so ln cl w)) {Y : Rz Bs} (hY : strB 39 t = Y) (hno : ∀ k, Y = .no k → k = 1) (h13 : NoCr t)
    (hN : ∀ a' w' s r', Y = .ok s r' → FrE b X R T .nilIface a' → Fin w0 b r' (L + nl t - nl r') X R T bm obj 57377 ⟨s.toArray⟩ so ln cl w' → Q .normal a' w')
    (hB : ∀ a' w' p k r' L' l', Y = .no k → FrE b X R T (.iface 72 (ptr p)) a' → Fin w0 b r' L' X R T bm obj 57377 l' so ln cl w' → Q .normal a' w') :
    sw12.wp Tryd.prog Q { tmps := #[ptr b.Z, ptr X, u 2, u 3, ptr R, u 5, .nilIface, ptr T, u 8, .int .i64 39, ptr g, ptr g, u 12, u 13, u 14, u 15, u 16, u 17, u 18, u 19, u 20, u 21, u 22, u 23, u 24, u 25, u 26, u 27, u 28, u 29, u 30, u 31, u 32, u 33, u 34, u 35, u 36, u 37, u 38, u 39, u 40, u 41, u 42, u 43, u 44, u 45, u 46, u 47, u 48, u 49, u 50, u 51, u 52, u 53, u 54, u 55, u 56, u 57, u 58, u 59, u 60, u 61, u 62, u 63, u 64, u 65, u 66, u 67, u 68, u 69, u 70, u 71, u 72, u 73, u 74, u 75, u 76, u 77, u 78, u 79, u 80, u 81, u 82, u 83, u 84, u 85, u 86, u 87, u 88, u 89, u 90, u 91, u 92, u 93, u 94, u 95, u 96, u 97, u 98, u 99, u 100, u 101, u 102, u 103, u 104, u 105, u 106, u 107, u 108, u 109, u 110, u 111, u 112, u 113, u 114, u 115, u 116, u 117, u 118, u 119, u 120, u 121, u 122, u 123, u 124, u 125, u 126, u 127, u 128, u 129, u 130, u 131, u 132, u 133, u 134, u 135, u 136, u 137, u 138, u 139, u 140, u 141, u 142, u 143, u 144, u 145, u 146, u 147, u 148, u 149, u 150, u 151, u 152, u 153, u 154, u 155, u 156, u 157, u 158, u 159, u 160, u 161, u 162, u 163, u 164, u 165, u 166, u 167, u 168, u 169, u 170, u 171, u 172, u 173, u 174, u 175, u 176, u 177, u 178, u 179, u 180, u 181, u 182, u 183, u 184, u 185, u 186, u 187, u 188, u 189, u 190, u 191, u 192, u 193, u 194, u 195, u 196, u 197, u 198, u 199, u 200, u 201, u 202, u 203, u 204, u 205, u 206, u 207, u 208, u 209, u 210, u 211, u 212, u 213, u 214, u 215, u 216, u 217, u 218, u 219, u 220, u 221, u 222, u 223, u 224, u 225, u 226, u 227, u 228, u 229, u 230, u 231, u 232, u 233, u 234, u 235, u 236, u 237, u 238, u 239, u 240, u 241, u 242, u 243, u 244, u 245, u 246, u 247, u 248, u 249, u 250, u 251, u 252, u 253, u 254, u 255, u 256, u 257, u 258, u 259, u 260, u 261, u 262, u 263, u 264, u 265, u 266, u 267, u 268, u 269, u 270, u 271, u 272, u 273, u 274, u 275, u 276, u 277, u 278, u 279, u 280, u 281, u 282], defers := [] } w := by
  have HB := Lib.hid hB
  have HY := Lib.hid hY
  have HNO := Lib.hid hno
  have H13 := Lib.hid h13
  have hlen := H.out.sb.rd.len
  clear hB hY hno h13
  have HN := Lib.hid hN
  clear hN
  conv => arg 2; whnf
  go_wp2_with fail
  refine (isLet_calls (r := [39]) (v := false) rfl).mono ?_
  rintro e w1 ⟨rfl, rfl⟩
  simp only []
  go_wp2_with fail
  refine (isDec_calls (r := [39]) (v := false) rfl).mono ?_
  rintro e w1 ⟨rfl, rfl⟩
  have t0 := H.out.tk.c0
  have z0 := H.out.tk.fz 0
  have H1 := Lib.hid (H.out.set0 HE.out 57377)
  clear H
  simp only []
  go_wp2_with fail
  refine (scanString_calls (q := 39) (Lib.hid H1.out.sb) (by decide) HY.out HNO.out H13.out (by simp only [List.length_nil]; omega)).mono ?_
  rintro e w2 hst
  clear t0 z0
  cases Y with
  | ok s r' =>
    obtain ⟨rfl, hs, hc⟩ := hst
    have H2 := Lib.hid (H1.out.step HE.out hs hc)
    clear hs hc H1
    simp only []
    go_wp2_with fail
    refine (md_string HE H2).mono ?_
    rintro e w3 ⟨rfl, hm⟩
    have t2 := hm.tk.c2
    have z2 := hm.tk.fz 2
    have H4 := Lib.hid (hm.set2 HE.out ⟨([] ++ s : Bs).toArray⟩)
    clear hm H2
    simp only []
    go_wp2_with fail
    exact HN.out _ _ s r' rfl (frE_mk rfl rfl rfl rfl rfl rfl) H4.out.fin
  | no k =>
    obtain ⟨p, r', L', l', rfl, hs, hc⟩ := hst
    have H2 := Lib.hid (H1.out.step HE.out hs hc)
    clear hs hc H1
    simp only []
    go_wp2_with fail
    refine (md_string HE H2).mono ?_
    rintro e w3 ⟨rfl, hm⟩
    have t2 := hm.tk.c2
    have z2 := hm.tk.fz 2
    have H4 := Lib.hid (hm.set2 HE.out ⟨l'.toArray⟩)
    clear hm H2
    simp only []
    go_wp2_with fail
    exact HB.out _ _ p k r' L' _ rfl (frE_mk rfl rfl rfl rfl rfl rfl) H4.out.fin

set_option maxRecDepth 100000 in
set_option maxHeartbeats 4000000 in
theorem sw_91b {w0 w : World} {b : Bl} {t : Bs} {L : Int} {g : Nat} {X R T bm : Nat} {obj : Obj} {so : ByteArray} {ln cl : Int} {Q : Exit → Act → World → Prop} (u : Nat → Value) (HE : Hid (Env w0 b X bm)) {r1 : Bs} {n : Nat} (H : Hid (Mid w0 b t L g [] X R T bm obj 0 ⟨#[]⟩ so ln cl w)) (hr : t.dropWhile (· == 61) = 91 :: r1) (hn : eqs t = n) {Y : Rz Bs} (hY : longB n (cut10 r1) = Y) (hno : ∀ k, Y = .no k → k = 1) (h13 : NoCr t)
    (hN : ∀ a' w' s r', Y = .ok s r' → FrE b X R T .nilIface a' → Fin w0 b r' (L + nl t - nl r') X R T bm obj 57377 ⟨s.toArray⟩ so ln cl w' → Q .normal a' w')
    (hB : ∀ a' w' p k r' L' l', Y = .no k → FrE b X R T (.iface 72 (ptr p)) a' → Fin w0 b r' L' X R T bm obj 57377 l' so ln cl w' → Q .normal a' w') :
    sw12.wp Tryd.prog Q { tmps := #[ptr b.Z, ptr X, u 2, u 3, ptr R, u 5, .nilIface, ptr T, u 8, .int .i64 91, ptr g, ptr g, u 12, u 13, u 14, u 15, u 16, u 17, u 18, u 19, u 20, u 21, u 22, u 23, u 24, u 25, u 26, u 27, u 28, u 29, u 30, u 31, u 32, u 33, u 34, u 35, u 36, u 37, u 38, u 39, u 40, u 41, u 42, u 43, u 44, u 45, u 46, u 47, u 48, u 49, u 50, u 51, u 52, u 53, u 54, u 55, u 56, u 57, u 58, u 59, u 60, u 61, u 62, u 63, u 64, u 65, u 66, u 67, u 68, u 69, u 70, u 71, u 72, u 73, u 74, u 75, u 76, u 77, u 78, u 79, u 80, u 81, u 82, u 83, u 84, u 85, u 86, u 87, u 88, u 89, u 90, u 91, u 92, u 93, u 94, u 95, u 96, u 97, u 98, u 99, u 100, u 101, u 102, u 103, u 104, u 105, u 106, u 107, u 108, u 109, u 110, u 111, u 112, u 113, u 114, u 115, u 116, u 117, u 118, u 119, u 120, u 121, u 122, u 123, u 124, u 125, u 126, u 127, u 128, u 129, u 130, u 131, u 132, u 133, u 134, u 135, u 136, u 137, u 138, u 139, u 140, u 141, u 142, u 143, u 144, u 145, u 146, u 147, u 148, u 149, u 150, u 151, u 152, u 153, u 154, u 155, u 156, u 157, u 158, u 159, u 160, u 161, u 162, u 163, u 164, u 165, u 166, u 167, u 168, u 169, u 170, u 171, u 172, u 173, u 174, u 175, u 176, u 177, u 178, u 179, u 180, u 181, u 182, u 183, u 184, u 185, u 186, u 187, u 188, u 189, u 190, u 191, u 192, u 193, u 194, u 195, u 196, u 197, u 198, u 199, u 200, u 201, u 202, u 203, u 204, u 205, u 206, u 207, u 208, u 209, u 210, u 211, u 212, u 213, u 214, u 215, u 216, u 217, u 218, u 219, u 220, u 221, u 222, u 223, u 224, u 225, u 226, u 227, u 228, u 229, u 230, u 231, u 232, u 233, u 234, u 235, u 236, u 237, u 238, u 239, u 240, u 241, u 242, u 243, u 244, u 245, u 246, u 247, u 248, u 249, u 250, u 251, u 252, u 253, u 254, u 255, u 256, u 257, u 258, u 259, u 260, u 261, u 262, u 263, u 264, u 265, u 266, u 267, u 268, u 269, u 270, u 271, u 272, u 273, u 274, u 275, u 276, u 277, u 278, u 279, u 280, u 281, u 282], defers := [] } w := by
  have HB := Lib.hid hB
  have HR := Lib.hid hr
  have HNN := Lib.hid hn
  have HY := Lib.hid hY
  have HNO := Lib.hid hno
  have H13 := Lib.hid h13
  have hlen := H.out.sb.rd.len
  have hq : hd t = 91 ∨ hd t = 61 := by
    cases t with
    | nil => simp at hr
    | cons c t =>
      by_cases h : c = 61
      · subst h; exact .inr rfl
      · rw [List.dropWhile_cons, if_neg (by simpa using h)] at hr
        injection hr with h1 _
        subst h1
        exact .inl rfl
  clear hB hr hn hY hno h13
  have HN := Lib.hid hN
  clear hN
  conv => arg 2; whnf
  go_wp2_with fail
  refine (isLet_calls (r := [91]) (v := false) rfl).mono ?_
  rintro e w1 ⟨rfl, rfl⟩
  simp only []
  go_wp2_with fail
  refine (isDec_calls (r := [91]) (v := false) rfl).mono ?_
  rintro e w1 ⟨rfl, rfl⟩
  simp only []
  go_wp2_with fail
  refine (md_peek HE H).mono ?_
  rintro e w2 ⟨rfl, hm⟩
  have t0 := hm.tk.c0
  have z0 := hm.tk.fz 0
  have H1 := Lib.hid (hm.set0 HE.out 57377)
  clear H hm
  rcases hq with hq | hq
  · have g1 : (hd t == 91) = true := by simpa using hq
    have HQ := Lib.hid hq
    clear hq
    simp only []
    go_wp2_with fail
    refine (md_next HE H1 H13.out).mono ?_
    rintro e w3 ⟨rfl, hm⟩
    have H3 := Lib.hid hm
    clear hm H1 t0 z0
    simp only []
    go_wp2_with fail
    refine (ml_calls (Lib.hid H3.out.sb) HR.out HNN.out HY.out HNO.out rfl H13.out (by simp only [List.length_nil]; omega)).mono ?_
    rintro e w4 hst
    cases Y with
    | ok s r' =>
      obtain ⟨rfl, hs, hc⟩ := hst
      have H4 := Lib.hid (H3.out.step HE.out hs hc)
      clear hs hc H3
      simp only []
      go_wp2_with fail
      refine (md_string HE H4).mono ?_
      rintro e w5 ⟨rfl, hm⟩
      have t2 := hm.tk.c2
      have z2 := hm.tk.fz 2
      have H5 := Lib.hid (hm.set2 HE.out ⟨([] ++ s : Bs).toArray⟩)
      clear hm H4
      simp only []
      go_wp2_with fail
      exact HN.out _ _ s r' rfl (frE_mk rfl rfl rfl rfl rfl rfl) H5.out.fin
    | no k =>
      obtain ⟨p, r', L', l', rfl, hs, hc⟩ := hst
      have H4 := Lib.hid (H3.out.step HE.out hs hc)
      clear hs hc H3
      simp only []
      go_wp2_with fail
      refine (md_string HE H4).mono ?_
      rintro e w5 ⟨rfl, hm⟩
      have t2 := hm.tk.c2
      have z2 := hm.tk.fz 2
      have H5 := Lib.hid (hm.set2 HE.out ⟨l'.toArray⟩)
      clear hm H4
      simp only []
      go_wp2_with fail
      exact HB.out _ _ p k r' L' _ rfl (frE_mk rfl rfl rfl rfl rfl rfl) H5.out.fin
  · have g1 : (hd t == 91) = false := by simp; omega
    have g2 : (hd t == 61) = true := by simpa using hq
    have HQ := Lib.hid hq
    clear hq
    simp only []
    go_wp2_with fail
    refine (md_next HE H1 H13.out).mono ?_
    rintro e w3 ⟨rfl, hm⟩
    have H3 := Lib.hid hm
    clear hm H1 t0 z0
    simp only []
    go_wp2_with fail
    refine (ml_calls (Lib.hid H3.out.sb) HR.out HNN.out HY.out HNO.out rfl H13.out (by simp only [List.length_nil]; omega)).mono ?_
    rintro e w4 hst
    cases Y with
    | ok s r' =>
      obtain ⟨rfl, hs, hc⟩ := hst
      have H4 := Lib.hid (H3.out.step HE.out hs hc)
      clear hs hc H3
      simp only []
      go_wp2_with fail
      refine (md_string HE H4).mono ?_
      rintro e w5 ⟨rfl, hm⟩
      have t2 := hm.tk.c2
      have z2 := hm.tk.fz 2
      have H5 := Lib.hid (hm.set2 HE.out ⟨([] ++ s : Bs).toArray⟩)
      clear hm H4
      simp only []
      go_wp2_with fail
      exact HN.out _ _ s r' rfl (frE_mk rfl rfl rfl rfl rfl rfl) H5.out.fin
    | no k =>
      obtain ⟨p, r', L', l', rfl, hs, hc⟩ := hst
      have H4 := Lib.hid (H3.out.step HE.out hs hc)
      clear hs hc H3
      simp only []
      go_wp2_with fail
      refine (md_string HE H4).mono ?_
      rintro e w5 ⟨rfl, hm⟩
      have t2 := hm.tk.c2
      have z2 := hm.tk.fz 2
      have H5 := Lib.hid (hm.set2 HE.out ⟨l'.toArray⟩)
      clear hm H4
      simp only []
      go_wp2_with fail
      exact HB.out _ _ p k r' L' _ rfl (frE_mk rfl rfl rfl rfl rfl rfl) H5.out.fin

set_option maxRecDepth 100000 in
set_option maxHeartbeats 4000000 in
theorem sw_com {w0 w : World} {b : Bl} {t : Bs} {L : Int} {g : Nat} {X R T bm : Nat} {obj : Obj} {so : ByteArray} {ln cl : Int} {Q : Exit → Act → World → Prop} (u : Nat → Value) (HE : Hid (Env w0 b X bm)) (H : Hid (Mid w0 b (45 :: t) L g [] X R T bm obj 0 ⟨#[]⟩ so ln cl w)) {Y : Rz Unit} (hY : comP t = Y) (hno : ∀ k, Y = .no k → k = 1) (h13 : NoCr ((45 : UInt8) :: t))
    (hG : ∀ a' w' r' r2 L2, Y = .ok () r' → FrS b X R a' → Fin w0 b r2 L2 X R T bm obj 0 ⟨#[]⟩ so ln cl w' → (r2 = r' ∨ r' = 10 :: r2) → (r2 = [] ∨ L2 + nl r2 = L + nl t) → Q (.goto 0) a' w')
    (hB : ∀ a' w' p k r2 L2, Y = .no k → FrE b X R T (.iface 72 (ptr p)) a' → Fin w0 b r2 L2 X R T bm obj 0 ⟨#[]⟩ so ln cl w' → Q (.goto 1) a' w') :
    sw12.wp Tryd.prog Q { tmps := #[ptr b.Z, ptr X, u 2, u 3, ptr R, u 5, .nilIface, ptr T, u 8, .int .i64 45, ptr g, ptr g, u 12, u 13, u 14, u 15, u 16, u 17, u 18, u 19, u 20, u 21, u 22, u 23, u 24, u 25, u 26, u 27, u 28, u 29, u 30, u 31, u 32, u 33, u 34, u 35, u 36, u 37, u 38, u 39, u 40, u 41, u 42, u 43, u 44, u 45, u 46, u 47, u 48, u 49, u 50, u 51, u 52, u 53, u 54, u 55, u 56, u 57, u 58, u 59, u 60, u 61, u 62, u 63, u 64, u 65, u 66, u 67, u 68, u 69, u 70, u 71, u 72, u 73, u 74, u 75, u 76, u 77, u 78, u 79, u 80, u 81, u 82, u 83, u 84, u 85, u 86, u 87, u 88, u 89, u 90, u 91, u 92, u 93, u 94, u 95, u 96, u 97, u 98, u 99, u 100, u 101, u 102, u 103, u 104, u 105, u 106, u 107, u 108, u 109, u 110, u 111, u 112, u 113, u 114, u 115, u 116, u 117, u 118, u 119, u 120, u 121, u 122, u 123, u 124, u 125, u 126, u 127, u 128, u 129, u 130, u 131, u 132, u 133, u 134, u 135, u 136, u 137, u 138, u 139, u 140, u 141, u 142, u 143, u 144, u 145, u 146, u 147, u 148, u 149, u 150, u 151, u 152, u 153, u 154, u 155, u 156, u 157, u 158, u 159, u 160, u 161, u 162, u 163, u 164, u 165, u 166, u 167, u 168, u 169, u 170, u 171, u 172, u 173, u 174, u 175, u 176, u 177, u 178, u 179, u 180, u 181, u 182, u 183, u 184, u 185, u 186, u 187, u 188, u 189, u 190, u 191, u 192, u 193, u 194, u 195, u 196, u 197, u 198, u 199, u 200, u 201, u 202, u 203, u 204, u 205, u 206, u 207, u 208, u 209, u 210, u 211, u 212, u 213, u 214, u 215, u 216, u 217, u 218, u 219, u 220, u 221, u 222, u 223, u 224, u 225, u 226, u 227, u 228, u 229, u 230, u 231, u 232, u 233, u 234, u 235, u 236, u 237, u 238, u 239, u 240, u 241, u 242, u 243, u 244, u 245, u 246, u 247, u 248, u 249, u 250, u 251, u 252, u 253, u 254, u 255, u 256, u 257, u 258, u 259, u 260, u 261, u 262, u 263, u 264, u 265, u 266, u 267, u 268, u 269, u 270, u 271, u 272, u 273, u 274, u 275, u 276, u 277, u 278, u 279, u 280, u 281, u 282], defers := [] } w := by
  have HG := Lib.hid hG
  have HB := Lib.hid hB
  have HY := Lib.hid hY
  have HNO := Lib.hid hno
  have H13 := Lib.hid h13
  have e45 : ((UInt8.toNat 45 : Nat) : Int) = 45 := rfl
  clear hG hB hY hno h13
  conv => arg 2; whnf
  go_wp2_with fail
  refine (isLet_calls (r := [45]) (v := false) rfl).mono ?_
  rintro e w1 ⟨rfl, rfl⟩
  simp only []
  go_wp2_with fail
  refine (isDec_calls (r := [45]) (v := false) rfl).mono ?_
  rintro e w1 ⟨rfl, rfl⟩
  simp only []
  go_wp2_with fail
  refine (md_peek HE H).mono ?_
  rintro e w2 ⟨rfl, hm⟩
  have H2 := Lib.hid hm
  clear H hm
  simp only [hd_c, e45]
  go_wp2_with fail
  refine (md_next HE H2 H13.out).mono ?_
  rintro e w3 ⟨rfl, hm⟩
  rw [show tl1 ((45 : UInt8) :: t) = t from rfl, ln1_of (c := 45) (t := t) rfl (by decide)] at hm
  have H3 := Lib.hid hm
  clear hm H2
  simp only [hd_c, e45]
  go_wp2_with fail
  refine (com_calls (Lib.hid H3.out.sb.rd) HY.out HNO.out rfl H13.out.tail).mono ?_
  rintro e w4 hst
  cases Y with
  | ok v r' =>
    obtain ⟨r2, L2, rfl, hr, hc, h1, h2⟩ := hst
    have H4 := Lib.hid (H3.out.step HE.out (H3.out.sb.step hc hr) (ub_tr hc))
    clear hr hc H3
    simp only []
    go_wp2_with fail
    go_step3
    simp (config := { zetaDelta := true }) only [Exit.inBlock, Exit.then]
    exact HG.out _ _ r' r2 L2 rfl (frS_mk rfl rfl rfl rfl) H4.out.fin h1 h2
  | no k =>
    obtain ⟨p, r2, L2, rfl, hr, hc⟩ := hst
    have H4 := Lib.hid (H3.out.step HE.out (H3.out.sb.step hc hr) (ub_tr hc))
    have gq : ∀ w, (binOp .neq 46 (.iface 72 (ptr p)) .nilIface).run Tryd.prog w = .ok (.bool true) w := fun w => run_neq_iface_nil (P := Tryd.prog) (w := w) 46 iface46 72 (ptr p)
    clear hr hc H3
    simp only []
    go_wp2_with fail
    go_step3
    simp (config := { zetaDelta := true }) only [Exit.inBlock, Exit.then]
    exact HB.out _ _ p k r2 L2 rfl (frE_mk rfl rfl rfl rfl rfl rfl) H4.out.fin

set_option maxRecDepth 100000 in
set_option maxHeartbeats 4000000 in
theorem sw_bad {w0 w : World} {b : Bl} {t : Bs} {L : Int} {g : Nat} {X R T bm : Nat} {obj : Obj} {so : ByteArray} {ln cl : Int} {Q : Exit → Act → World → Prop} (u : Nat → Value) (HE : Hid (Env w0 b X bm)) {c : UInt8} (H : Hid (Mid w0 b t L g [] X R T bm obj 0 ⟨#[]⟩ so ln cl w)) (hl : isLet c = false) (hdc : isDec c = false) (hc : ∀ n ∈ [45, 34, 39, 91, 61, 126, 60, 62, 46, 58, 43, 42, 47, 37, 94, 35, 40, 41, 123, 125, 93, 59, 44], c.toNat ≠ n)
    (hB : ∀ a' w' p, FrE b X R T (.iface 72 (ptr p)) a' → Fin w0 b t L X R T bm obj 0 ⟨#[]⟩ so ln cl w' → Q (.goto 1) a' w') :
    sw12.wp Tryd.prog Q { tmps := #[ptr b.Z, ptr X, u 2, u 3, ptr R, u 5, .nilIface, ptr T, u 8, .int .i64 (c.toNat : Int), ptr g, ptr g, u 12, u 13, u 14, u 15, u 16, u 17, u 18, u 19, u 20, u 21, u 22, u 23, u 24, u 25, u 26, u 27, u 28, u 29, u 30, u 31, u 32, u 33, u 34, u 35, u 36, u 37, u 38, u 39, u 40, u 41, u 42, u 43, u 44, u 45, u 46, u 47, u 48, u 49, u 50, u 51, u 52, u 53, u 54, u 55, u 56, u 57, u 58, u 59, u 60, u 61, u 62, u 63, u 64, u 65, u 66, u 67, u 68, u 69, u 70, u 71, u 72, u 73, u 74, u 75, u 76, u 77, u 78, u 79, u 80, u 81, u 82, u 83, u 84, u 85, u 86, u 87, u 88, u 89, u 90, u 91, u 92, u 93, u 94, u 95, u 96, u 97, u 98, u 99, u 100, u 101, u 102, u 103, u 104, u 105, u 106, u 107, u 108, u 109, u 110, u 111, u 112, u 113, u 114, u 115, u 116, u 117, u 118, u 119, u 120, u 121, u 122, u 123, u 124, u 125, u 126, u 127, u 128, u 129, u 130, u 131, u 132, u 133, u 134, u 135, u 136, u 137, u 138, u 139, u 140, u 141, u 142, u 143, u 144, u 145, u 146, u 147, u 148, u 149, u 150, u 151, u 152, u 153, u 154, u 155, u 156, u 157, u 158, u 159, u 160, u 161, u 162, u 163, u 164, u 165, u 166, u 167, u 168, u 169, u 170, u 171, u 172, u 173, u 174, u 175, u 176, u 177, u 178, u 179, u 180, u 181, u 182, u 183, u 184, u 185, u 186, u 187, u 188, u 189, u 190, u 191, u 192, u 193, u 194, u 195, u 196, u 197, u 198, u 199, u 200, u 201, u 202, u 203, u 204, u 205, u 206, u 207, u 208, u 209, u 210, u 211, u 212, u 213, u 214, u 215, u 216, u 217, u 218, u 219, u 220, u 221, u 222, u 223, u 224, u 225, u 226, u 227, u 228, u 229, u 230, u 231, u 232, u 233, u 234, u 235, u 236, u 237, u 238, u 239, u 240, u 241, u 242, u 243, u 244, u 245, u 246, u 247, u 248, u 249, u 250, u 251, u 252, u 253, u 254, u 255, u 256, u 257, u 258, u 259, u 260, u 261, u 262, u 263, u 264, u 265, u 266, u 267, u 268, u 269, u 270, u 271, u 272, u 273, u 274, u 275, u 276, u 277, u 278, u 279, u 280, u 281, u 282], defers := [] } w := by
  have HB := Lib.hid hB
  have gm : ((c.toNat : Int) == -1) = false := by first | omega | (simp; done) | (simp; omega)
  have g45 : ((c.toNat : Int) == 45) = false := by have := hc 45 (by simp); simp; omega
  have g34 : ((c.toNat : Int) == 34) = false := by have := hc 34 (by simp); simp; omega
  have g39 : ((c.toNat : Int) == 39) = false := by have := hc 39 (by simp); simp; omega
  have g91 : ((c.toNat : Int) == 91) = false := by have := hc 91 (by simp); simp; omega
  have g61 : ((c.toNat : Int) == 61) = false := by have := hc 61 (by simp); simp; omega
  have g126 : ((c.toNat : Int) == 126) = false := by have := hc 126 (by simp); simp; omega
  have g60 : ((c.toNat : Int) == 60) = false := by have := hc 60 (by simp); simp; omega
  have g62 : ((c.toNat : Int) == 62) = false := by have := hc 62 (by simp); simp; omega
  have g46 : ((c.toNat : Int) == 46) = false := by have := hc 46 (by simp); simp; omega
  have g58 : ((c.toNat : Int) == 58) = false := by have := hc 58 (by simp); simp; omega
  have g43 : ((c.toNat : Int) == 43) = false := by have := hc 43 (by simp); simp; omega
  have g42 : ((c.toNat : Int) == 42) = false := by have := hc 42 (by simp); simp; omega
  have g47 : ((c.toNat : Int) == 47) = false := by have := hc 47 (by simp); simp; omega
  have g37 : ((c.toNat : Int) == 37) = false := by have := hc 37 (by simp); simp; omega
  have g94 : ((c.toNat : Int) == 94) = false := by have := hc 94 (by simp); simp; omega
  have g35 : ((c.toNat : Int) == 35) = false := by have := hc 35 (by simp); simp; omega
  have g40 : ((c.toNat : Int) == 40) = false := by have := hc 40 (by simp); simp; omega
  have g41 : ((c.toNat : Int) == 41) = false := by have := hc 41 (by simp); simp; omega
  have g123 : ((c.toNat : Int) == 123) = false := by have := hc 123 (by simp); simp; omega
  have g125 : ((c.toNat : Int) == 125) = false := by have := hc 125 (by simp); simp; omega
  have g93 : ((c.toNat : Int) == 93) = false := by have := hc 93 (by simp); simp; omega
  have g59 : ((c.toNat : Int) == 59) = false := by have := hc 59 (by simp); simp; omega
  have g44 : ((c.toNat : Int) == 44) = false := by have := hc 44 (by simp); simp; omega
  clear hB hc
  conv => arg 2; whnf
  go_wp2_with fail
  refine (isLet_calls (r := c :: t) (v := false) hl).mono ?_
  rintro e w1 ⟨rfl, rfl⟩
  clear hl
  simp only []
  go_wp2_with fail
  refine (isDec_calls (r := c :: t) (v := false) hdc).mono ?_
  rintro e w1 ⟨rfl, rfl⟩
  clear hdc
  simp only []
  go_wp2_with fail
  refine (md_write HE H (by simp)).mono ?_
  rintro e w2 ⟨rfl, hm⟩
  have H2 := Lib.hid hm
  clear hm H
  simp only []
  go_wp2_with fail
  refine (md_string HE H2).mono ?_
  rintro e w3 ⟨rfl, hm⟩
  have H3 := Lib.hid hm
  clear hm H2
  simp only []
  go_wp2_with fail
  refine (md_err HE H3).mono ?_
  rintro e w4 ⟨⟨p, rfl⟩, hm⟩
  have H4 := Lib.hid hm
  clear hm H3
  simp only []
  go_wp2_with fail
  go_step3
  simp (config := { zetaDelta := true }) only [Exit.inBlock, Exit.then]
  exact HB.out _ _ p (frE_mk rfl rfl rfl rfl rfl rfl) H4.out.fin

end Go.Proofs.YtbgjjbffpckimaaDoor
