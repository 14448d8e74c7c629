/-
  The tokens of a text: the scanner: one token.
-/
import Derived.Test.YtbgjjbffpckimaaGreatDoorQf
import Derived.Deep.CutBlock
namespace Go.Proofs.YtbgjjbffpckimaaGreatDoor
set_option linter.all false
open Go.RowKit

set_option maxRecDepth 100000 in
set_option maxHeartbeats 4000000 in
theorem sw_34 {w0 w : World} {b : Bl} {t : Bs} {L : Int} {g : Nat} {X R T bm : Nat} {obj : Obj} {so : ByteArray} {ln cl : Int} {Q : Exit → Act → World → Prop} (u : Nat → Value) (HE : Hid (Env w0 b X bm)) (H : Hid (Mid w0 b t L g [] X R T bm obj 0 ⟨#[]⟩ so ln cl w)) {Y : Rz Bs} (hY : strB 34 t = Y) (hno : ∀ k, Y = .no k → k = 1) (h13 : NoCr t)
    (hN : ∀ a' w' s r', Y = .ok s r' → FrE b X R T .nilIface a' → Fin w0 b r' (L + nl t - nl r') X R T bm obj 57377 ⟨s.toArray⟩ so ln cl w' → Q .normal a' w')
    (hB : ∀ a' w' p k r' L' l', Y = .no k → FrE b X R T (.iface 89 (ptr p)) a' → Fin w0 b r' L' X R T bm obj 57377 l' so ln cl w' → Q .normal a' w') :
    sw12.wp Tryz.prog Q { tmps := #[ptr b.Z, ptr X, u 2, u 3, ptr R, u 5, .nilIface, ptr T, u 8, .int .i64 34, ptr g, ptr g, u 12, u 13, u 14, u 15, u 16, u 17, u 18, u 19, u 20, u 21, u 22, u 23, u 24, u 25, u 26, u 27, u 28, u 29, u 30, u 31, u 32, u 33, u 34, u 35, u 36, u 37, u 38, u 39, u 40, u 41, u 42, u 43, u 44, u 45, u 46, u 47, u 48, u 49, u 50, u 51, u 52, u 53, u 54, u 55, u 56, u 57, u 58, u 59, u 60, u 61, u 62, u 63, u 64, u 65, u 66, u 67, u 68, u 69, u 70, u 71, u 72, u 73, u 74, u 75, u 76, u 77, u 78, u 79, u 80, u 81, u 82, u 83, u 84, u 85, u 86, u 87, u 88, u 89, u 90, u 91, u 92, u 93, u 94, u 95, u 96, u 97, u 98, u 99, u 100, u 101, u 102, u 103, u 104, u 105, u 106, u 107, u 108, u 109, u 110, u 111, u 112, u 113, u 114, u 115, u 116, u 117, u 118, u 119, u 120, u 121, u 122, u 123, u 124, u 125, u 126, u 127, u 128, u 129, u 130, u 131, u 132, u 133, u 134, u 135, u 136, u 137, u 138, u 139, u 140, u 141, u 142, u 143, u 144, u 145, u 146, u 147, u 148, u 149, u 150, u 151, u 152, u 153, u 154, u 155, u 156, u 157, u 158, u 159, u 160, u 161, u 162, u 163, u 164, u 165, u 166, u 167, u 168, u 169, u 170, u 171, u 172, u 173, u 174, u 175, u 176, u 177, u 178, u 179, u 180, u 181, u 182, u 183, u 184, u 185, u 186, u 187, u 188, u 189, u 190, u 191, u 192, u 193, u 194, u 195, u 196, u 197, u 198, u 199, u 200, u 201, u 202, u 203, u 204, u 205, u 206, u 207, u 208, u 209, u 210, u 211, u 212, u 213, u 214, u 215, u 216, u 217, u 218, u 219, u 220, u 221, u 222, u 223, u 224, u 225, u 226, u 227, u 228, u 229, u 230, u 231, u 232, u 233, u 234, u 235, u 236, u 237, u 238, u 239, u 240, u 241, u 242, u 243, u 244, u 245, u 246, u 247, u 248, u 249, u 250, u 251, u 252, u 253, u 254, u 255, u 256, u 257, u 258, u 259, u 260, u 261, u 262, u 263, u 264, u 265, u 266, u 267, u 268, u 269, u 270, u 271, u 272, u 273, u 274, u 275, u 276, u 277, u 278, u 279, u 280, u 281, u 282], defers := [] } w := by
  have HB := Lib.hid hB
  have HY := Lib.hid hY
  have HNO := Lib.hid hno
  have H13 := Lib.hid h13
  have hlen := H.out.sb.rd.len
  clear hB hY hno h13
  have HN := Lib.hid hN
  clear hN
  conv => arg 2; whnf
  go_wp2_with fail
  refine (isLet_calls (r := [34]) (v := false) rfl).mono ?_
  rintro e w1 ⟨rfl, rfl⟩
  simp only []
  go_wp2_with fail
  refine (isDec_calls (r := [34]) (v := false) rfl).mono ?_
  rintro e w1 ⟨rfl, rfl⟩
  have t0 := H.out.tk.c0
  have z0 := H.out.tk.fz 0
  have H1 := Lib.hid (H.out.set0 HE.out 57377)
  clear H
  simp only []
  go_wp2_with fail
  refine (scanString_calls (q := 34) (Lib.hid H1.out.sb) (by decide) HY.out HNO.out H13.out (by simp only [List.length_nil]; omega)).mono ?_
  rintro e w2 hst
  clear t0 z0
  cases Y with
  | ok s r' =>
    obtain ⟨rfl, hs, hc⟩ := hst
    have H2 := Lib.hid (H1.out.step HE.out hs hc)
    clear hs hc H1
    simp only []
    go_wp2_with fail
    refine (md_string HE H2).mono ?_
    rintro e w3 ⟨rfl, hm⟩
    have t2 := hm.tk.c2
    have z2 := hm.tk.fz 2
    have H4 := Lib.hid (hm.set2 HE.out ⟨([] ++ s : Bs).toArray⟩)
    clear hm H2
    simp only []
    go_wp2_with fail
    exact HN.out _ _ s r' rfl (frE_mk rfl rfl rfl rfl rfl rfl) H4.out.fin
  | no k =>
    obtain ⟨p, r', L', l', rfl, hs, hc⟩ := hst
    have H2 := Lib.hid (H1.out.step HE.out hs hc)
    clear hs hc H1
    simp only []
    go_wp2_with fail
    refine (md_string HE H2).mono ?_
    rintro e w3 ⟨rfl, hm⟩
    have t2 := hm.tk.c2
    have z2 := hm.tk.fz 2
    have H4 := Lib.hid (hm.set2 HE.out ⟨l'.toArray⟩)
    clear hm H2
    simp only []
    go_wp2_with fail
    exact HB.out _ _ p k r' L' _ rfl (frE_mk rfl rfl rfl rfl rfl rfl) H4.out.fin

set_option maxRecDepth 100000 in
set_option maxHeartbeats 4000000 in
theorem sw_39 {w0 w : World} {b : Bl} {t : Bs} {L : Int} {g : Nat} {X R T bm : Nat} {obj : Obj} {so : ByteArray} {ln cl : Int} {Q : Exit → Act → World → Prop} (u : Nat → Value) (HE : Hid (Env w0 b X bm)) (H : Hid (Mid w0 b t L g [] X R T bm obj 0 ⟨#[]⟩ so ln cl w)) {Y : Rz Bs} (hY : strB 39 t = Y) (hno : ∀ k, Y = .no k → k = 1) (h13 : NoCr t)
    (hN : ∀ a' w' s r', Y = .ok s r' → FrE b X R T .nilIface a' → Fin w0 b r' (L + nl t - nl r') X R T bm obj 57377 ⟨s.toArray⟩ so ln cl w' → Q .normal a' w')
    (hB : ∀ a' w' p k r' L' l', Y = .no k → FrE b X R T (.iface 89 (ptr p)) a' → Fin w0 b r' L' X R T bm obj 57377 l' so ln cl w' → Q .normal a' w') :
    sw12.wp Tryz.prog Q { tmps := #[ptr b.Z, ptr X, u 2, u 3, ptr R, u 5, .nilIface, ptr T, u 8, .int .i64 39, ptr g, ptr g, u 12, u 13, u 14, u 15, u 16, u 17, u 18, u 19, u 20, u 21, u 22, u 23, u 24, u 25, u 26, u 27, u 28, u 29, u 30, u 31, u 32, u 33, u 34, u 35, u 36, u 37, u 38, u 39, u 40, u 41, u 42, u 43, u 44, u 45, u 46, u 47, u 48, u 49, u 50, u 51, u 52, u 53, u 54, u 55, u 56, u 57, u 58, u 59, u 60, u 61, u 62, u 63, u 64, u 65, u 66, u 67, u 68, u 69, u 70, u 71, u 72, u 73, u 74, u 75, u 76, u 77, u 78, u 79, u 80, u 81, u 82, u 83, u 84, u 85, u 86, u 87, u 88, u 89, u 90, u 91, u 92, u 93, u 94, u 95, u 96, u 97, u 98, u 99, u 100, u 101, u 102, u 103, u 104, u 105, u 106, u 107, u 108, u 109, u 110, u 111, u 112, u 113, u 114, u 115, u 116, u 117, u 118, u 119, u 120, u 121, u 122, u 123, u 124, u 125, u 126, u 127, u 128, u 129, u 130, u 131, u 132, u 133, u 134, u 135, u 136, u 137, u 138, u 139, u 140, u 141, u 142, u 143, u 144, u 145, u 146, u 147, u 148, u 149, u 150, u 151, u 152, u 153, u 154, u 155, u 156, u 157, u 158, u 159, u 160, u 161, u 162, u 163, u 164, u 165, u 166, u 167, u 168, u 169, u 170, u 171, u 172, u 173, u 174, u 175, u 176, u 177, u 178, u 179, u 180, u 181, u 182, u 183, u 184, u 185, u 186, u 187, u 188, u 189, u 190, u 191, u 192, u 193, u 194, u 195, u 196, u 197, u 198, u 199, u 200, u 201, u 202, u 203, u 204, u 205, u 206, u 207, u 208, u 209, u 210, u 211, u 212, u 213, u 214, u 215, u 216, u 217, u 218, u 219, u 220, u 221, u 222, u 223, u 224, u 225, u 226, u 227, u 228, u 229, u 230, u 231, u 232, u 233, u 234, u 235, u 236, u 237, u 238, u 239, u 240, u 241, u 242, u 243, u 244, u 245, u 246, u 247, u 248, u 249, u 250, u 251, u 252, u 253, u 254, u 255, u 256, u 257, u 258, u 259, u 260, u 261, u 262, u 263, u 264, u 265, u 266, u 267, u 268, u 269, u 270, u 271, u 272, u 273, u 274, u 275, u 276, u 277, u 278, u 279, u 280, u 281, u 282], defers := [] } w := by
  have HB := Lib.hid hB
  have HY := Lib.hid hY
  have HNO := Lib.hid hno
  have H13 := Lib.hid h13
  have hlen := H.out.sb.rd.len
  clear hB hY hno h13
  have HN := Lib.hid hN
  clear hN
  conv => arg 2; whnf
  go_wp2_with fail
  refine (isLet_calls (r := [39]) (v := false) rfl).mono ?_
  rintro e w1 ⟨rfl, rfl⟩
  simp only []
  go_wp2_with fail
  refine (isDec_calls (r := [39]) (v := false) rfl).mono ?_
  rintro e w1 ⟨rfl, rfl⟩
  have t0 := H.out.tk.c0
  have z0 := H.out.tk.fz 0
  have H1 := Lib.hid (H.out.set0 HE.out 57377)
  clear H
  simp only []
  go_wp2_with fail
  refine (scanString_calls (q := 39) (Lib.hid H1.out.sb) (by decide) HY.out HNO.out H13.out (by simp only [List.length_nil]; omega)).mono ?_
  rintro e w2 hst
  clear t0 z0
  cases Y with
  | ok s r' =>
    obtain ⟨rfl, hs, hc⟩ := hst
    have H2 := Lib.hid (H1.out.step HE.out hs hc)
    clear hs hc H1
    simp only []
    go_wp2_with fail
    refine (md_string HE H2).mono ?_
    rintro e w3 ⟨rfl, hm⟩
    have t2 := hm.tk.c2
    have z2 := hm.tk.fz 2
    have H4 := Lib.hid (hm.set2 HE.out ⟨([] ++ s : Bs).toArray⟩)
    clear hm H2
    simp only []
    go_wp2_with fail
    exact HN.out _ _ s r' rfl (frE_mk rfl rfl rfl rfl rfl rfl) H4.out.fin
  | no k =>
    obtain ⟨p, r', L', l', rfl, hs, hc⟩ := hst
    have H2 := Lib.hid (H1.out.step HE.out hs hc)
    clear hs hc H1
    simp only []
    go_wp2_with fail
    refine (md_string HE H2).mono ?_
    rintro e w3 ⟨rfl, hm⟩
    have t2 := hm.tk.c2
    have z2 := hm.tk.fz 2
    have H4 := Lib.hid (hm.set2 HE.out ⟨l'.toArray⟩)
    clear hm H2
    simp only []
    go_wp2_with fail
    exact HB.out _ _ p k r' L' _ rfl (frE_mk rfl rfl rfl rfl rfl rfl) H4.out.fin

set_option maxRecDepth 100000 in
set_option maxHeartbeats 4000000 in
theorem sw_91b {w0 w : World} {b : Bl} {t : Bs} {L : Int} {g : Nat} {X R T bm : Nat} {obj : Obj} {so : ByteArray} {ln cl : Int} {Q : Exit → Act → World → Prop} (u : Nat → Value) (HE : Hid (Env w0 b X bm)) {r1 : Bs} {n : Nat} (H : Hid (Mid w0 b t L g [] X R T bm obj 0 ⟨#[]⟩ so ln cl w)) (hr : t.dropWhile (· == 61) = 91 :: r1) (hn : eqs t = n) {Y : Rz Bs} (hY : longB n (cut10 r1) = Y) (hno : ∀ k, Y = .no k → k = 1) (h13 : NoCr t)
    (hN : ∀ a' w' s r', Y = .ok s r' → FrE b X R T .nilIface a' → Fin w0 b r' (L + nl t - nl r') X R T bm obj 57377 ⟨s.toArray⟩ so ln cl w' → Q .normal a' w')
    (hB : ∀ a' w' p k r' L' l', Y = .no k → FrE b X R T (.iface 89 (ptr p)) a' → Fin w0 b r' L' X R T bm obj 57377 l' so ln cl w' → Q .normal a' w') :
    sw12.wp Tryz.prog Q { tmps := #[ptr b.Z, ptr X, u 2, u 3, ptr R, u 5, .nilIface, ptr T, u 8, .int .i64 91, ptr g, ptr g, u 12, u 13, u 14, u 15, u 16, u 17, u 18, u 19, u 20, u 21, u 22, u 23, u 24, u 25, u 26, u 27, u 28, u 29, u 30, u 31, u 32, u 33, u 34, u 35, u 36, u 37, u 38, u 39, u 40, u 41, u 42, u 43, u 44, u 45, u 46, u 47, u 48, u 49, u 50, u 51, u 52, u 53, u 54, u 55, u 56, u 57, u 58, u 59, u 60, u 61, u 62, u 63, u 64, u 65, u 66, u 67, u 68, u 69, u 70, u 71, u 72, u 73, u 74, u 75, u 76, u 77, u 78, u 79, u 80, u 81, u 82, u 83, u 84, u 85, u 86, u 87, u 88, u 89, u 90, u 91, u 92, u 93, u 94, u 95, u 96, u 97, u 98, u 99, u 100, u 101, u 102, u 103, u 104, u 105, u 106, u 107, u 108, u 109, u 110, u 111, u 112, u 113, u 114, u 115, u 116, u 117, u 118, u 119, u 120, u 121, u 122, u 123, u 124, u 125, u 126, u 127, u 128, u 129, u 130, u 131, u 132, u 133, u 134, u 135, u 136, u 137, u 138, u 139, u 140, u 141, u 142, u 143, u 144, u 145, u 146, u 147, u 148, u 149, u 150, u 151, u 152, u 153, u 154, u 155, u 156, u 157, u 158, u 159, u 160, u 161, u 162, u 163, u 164, u 165, u 166, u 167, u 168, u 169, u 170, u 171, u 172, u 173, u 174, u 175, u 176, u 177, u 178, u 179, u 180, u 181, u 182, u 183, u 184, u 185, u 186, u 187, u 188, u 189, u 190, u 191, u 192, u 193, u 194, u 195, u 196, u 197, u 198, u 199, u 200, u 201, u 202, u 203, u 204, u 205, u 206, u 207, u 208, u 209, u 210, u 211, u 212, u 213, u 214, u 215, u 216, u 217, u 218, u 219, u 220, u 221, u 222, u 223, u 224, u 225, u 226, u 227, u 228, u 229, u 230, u 231, u 232, u 233, u 234, u 235, u 236, u 237, u 238, u 239, u 240, u 241, u 242, u 243, u 244, u 245, u 246, u 247, u 248, u 249, u 250, u 251, u 252, u 253, u 254, u 255, u 256, u 257, u 258, u 259, u 260, u 261, u 262, u 263, u 264, u 265, u 266, u 267, u 268, u 269, u 270, u 271, u 272, u 273, u 274, u 275, u 276, u 277, u 278, u 279, u 280, u 281, u 282], defers := [] } w := by
  have HB := Lib.hid hB
  have HR := Lib.hid hr
  have HNN := Lib.hid hn
  have HY := Lib.hid hY
  have HNO := Lib.hid hno
  have H13 := Lib.hid h13
  have hlen := H.out.sb.rd.len
  have hq : hd t = 91 ∨ hd t = 61 := by
    cases t with
    | nil => simp at hr
    | cons c t =>
      by_cases h : c = 61
      · subst h; exact .inr rfl
      · rw [List.dropWhile_cons, if_neg (by simpa using h)] at hr
        injection hr with h1 _
        subst h1
        exact .inl rfl
  clear hB hr hn hY hno h13
  have HN := Lib.hid hN
  clear hN
  conv => arg 2; whnf
  go_wp2_with fail
  refine (isLet_calls (r := [91]) (v := false) rfl).mono ?_
  rintro e w1 ⟨rfl, rfl⟩
  simp only []
  go_wp2_with fail
  refine (isDec_calls (r := [91]) (v := false) rfl).mono ?_
  rintro e w1 ⟨rfl, rfl⟩
  simp only []
  go_wp2_with fail
  refine (md_peek HE H).mono ?_
  rintro e w2 ⟨rfl, hm⟩
  have t0 := hm.tk.c0
  have z0 := hm.tk.fz 0
  have H1 := Lib.hid (hm.set0 HE.out 57377)
  clear H hm
  rcases hq with hq | hq
  · have g1 : (hd t == 91) = true := by simpa using hq
    have HQ := Lib.hid hq
    clear hq
    simp only []
    go_wp2_with fail
    refine (md_next HE H1 H13.out).mono ?_
    rintro e w3 ⟨rfl, hm⟩
    have H3 := Lib.hid hm
    clear hm H1 t0 z0
    simp only []
    go_wp2_with fail
    refine (ml_calls (Lib.hid H3.out.sb) HR.out HNN.out HY.out HNO.out rfl H13.out (by simp only [List.length_nil]; omega)).mono ?_
    rintro e w4 hst
    cases Y with
    | ok s r' =>
      obtain ⟨rfl, hs, hc⟩ := hst
      have H4 := Lib.hid (H3.out.step HE.out hs hc)
      clear hs hc H3
      simp only []
      go_wp2_with fail
      refine (md_string HE H4).mono ?_
      rintro e w5 ⟨rfl, hm⟩
      have t2 := hm.tk.c2
      have z2 := hm.tk.fz 2
      have H5 := Lib.hid (hm.set2 HE.out ⟨([] ++ s : Bs).toArray⟩)
      clear hm H4
      simp only []
      go_wp2_with fail
      exact HN.out _ _ s r' rfl (frE_mk rfl rfl rfl rfl rfl rfl) H5.out.fin
    | no k =>
      obtain ⟨p, r', L', l', rfl, hs, hc⟩ := hst
      have H4 := Lib.hid (H3.out.step HE.out hs hc)
      clear hs hc H3
      simp only []
      go_wp2_with fail
      refine (md_string HE H4).mono ?_
      rintro e w5 ⟨rfl, hm⟩
      have t2 := hm.tk.c2
      have z2 := hm.tk.fz 2
      have H5 := Lib.hid (hm.set2 HE.out ⟨l'.toArray⟩)
      clear hm H4
      simp only []
      go_wp2_with fail
      exact HB.out _ _ p k r' L' _ rfl (frE_mk rfl rfl rfl rfl rfl rfl) H5.out.fin
  · have g1 : (hd t == 91) = false := by simp; omega
    have g2 : (hd t == 61) = true := by simpa using hq
    have HQ := Lib.hid hq
    clear hq
    simp only []
    go_wp2_with fail
    refine (md_next HE H1 H13.out).mono ?_
    rintro e w3 ⟨rfl, hm⟩
    have H3 := Lib.hid hm
    clear hm H1 t0 z0
    simp only []
    go_wp2_with fail
    refine (ml_calls (Lib.hid H3.out.sb) HR.out HNN.out HY.out HNO.out rfl H13.out (by simp only [List.length_nil]; omega)).mono ?_
    rintro e w4 hst
    cases Y with
    | ok s r' =>
      obtain ⟨rfl, hs, hc⟩ := hst
      have H4 := Lib.hid (H3.out.step HE.out hs hc)
      clear hs hc H3
      simp only []
      go_wp2_with fail
      refine (md_string HE H4).mono ?_
      rintro e w5 ⟨rfl, hm⟩
      have t2 := hm.tk.c2
      have z2 := hm.tk.fz 2
      have H5 := Lib.hid (hm.set2 HE.out ⟨([] ++ s : Bs).toArray⟩)
      clear hm H4
      simp only []
      go_wp2_with fail
      exact HN.out _ _ s r' rfl (frE_mk rfl rfl rfl rfl rfl rfl) H5.out.fin
    | no k =>
      obtain ⟨p, r', L', l', rfl, hs, hc⟩ := hst
      have H4 := Lib.hid (H3.out.step HE.out hs hc)
      clear hs hc H3
      simp only []
      go_wp2_with fail
      refine (md_string HE H4).mono ?_
      rintro e w5 ⟨rfl, hm⟩
      have t2 := hm.tk.c2
      have z2 := hm.tk.fz 2
      have H5 := Lib.hid (hm.set2 HE.out ⟨l'.toArray⟩)
      clear hm H4
      simp only []
      go_wp2_with fail
      exact HB.out _ _ p k r' L' _ rfl (frE_mk rfl rfl rfl rfl rfl rfl) H5.out.fin

set_option maxRecDepth 100000 in
set_option maxHeartbeats 4000000 in
theorem sw_com {w0 w : World} {b : Bl} {t : Bs} {L : Int} {g : Nat} {X R T bm : Nat} {obj : Obj} {so : ByteArray} {ln cl : Int} {Q : Exit → Act → World → Prop} (u : Nat → Value) (HE : Hid (Env w0 b X bm)) (H : Hid (Mid w0 b (45 :: t) L g [] X R T bm obj 0 ⟨#[]⟩ so ln cl w)) {Y : Rz Unit} (hY : comP t = Y) (hno : ∀ k, Y = .no k → k = 1) (h13 : NoCr ((45 : UInt8) :: t))
    (hG : ∀ a' w' r' r2 L2, Y = .ok () r' → FrS b X R a' → Fin w0 b r2 L2 X R T bm obj 0 ⟨#[]⟩ so ln cl w' → (r2 = r' ∨ r' = 10 :: r2) → (r2 = [] ∨ L2 + nl r2 = L + nl t) → Q (.goto 0) a' w')
    (hB : ∀ a' w' p k r2 L2, Y = .no k → FrE b X R T (.iface 89 (ptr p)) a' → Fin w0 b r2 L2 X R T bm obj 0 ⟨#[]⟩ so ln cl w' → Q (.goto 1) a' w') :
    sw12.wp Tryz.prog Q { tmps := #[ptr b.Z, ptr X, u 2, u 3, ptr R, u 5, .nilIface, ptr T, u 8, .int .i64 45, ptr g, ptr g, u 12, u 13, u 14, u 15, u 16, u 17, u 18, u 19, u 20, u 21, u 22, u 23, u 24, u 25, u 26, u 27, u 28, u 29, u 30, u 31, u 32, u 33, u 34, u 35, u 36, u 37, u 38, u 39, u 40, u 41, u 42, u 43, u 44, u 45, u 46, u 47, u 48, u 49, u 50, u 51, u 52, u 53, u 54, u 55, u 56, u 57, u 58, u 59, u 60, u 61, u 62, u 63, u 64, u 65, u 66, u 67, u 68, u 69, u 70, u 71, u 72, u 73, u 74, u 75, u 76, u 77, u 78, u 79, u 80, u 81, u 82, u 83, u 84, u 85, u 86, u 87, u 88, u 89, u 90, u 91, u 92, u 93, u 94, u 95, u 96, u 97, u 98, u 99, u 100, u 101, u 102, u 103, u 104, u 105, u 106, u 107, u 108, u 109, u 110, u 111, u 112, u 113, u 114, u 115, u 116, u 117, u 118, u 119, u 120, u 121, u 122, u 123, u 124, u 125, u 126, u 127, u 128, u 129, u 130, u 131, u 132, u 133, u 134, u 135, u 136, u 137, u 138, u 139, u 140, u 141, u 142, u 143, u 144, u 145, u 146, u 147, u 148, u 149, u 150, u 151, u 152, u 153, u 154, u 155, u 156, u 157, u 158, u 159, u 160, u 161, u 162, u 163, u 164, u 165, u 166, u 167, u 168, u 169, u 170, u 171, u 172, u 173, u 174, u 175, u 176, u 177, u 178, u 179, u 180, u 181, u 182, u 183, u 184, u 185, u 186, u 187, u 188, u 189, u 190, u 191, u 192, u 193, u 194, u 195, u 196, u 197, u 198, u 199, u 200, u 201, u 202, u 203, u 204, u 205, u 206, u 207, u 208, u 209, u 210, u 211, u 212, u 213, u 214, u 215, u 216, u 217, u 218, u 219, u 220, u 221, u 222, u 223, u 224, u 225, u 226, u 227, u 228, u 229, u 230, u 231, u 232, u 233, u 234, u 235, u 236, u 237, u 238, u 239, u 240, u 241, u 242, u 243, u 244, u 245, u 246, u 247, u 248, u 249, u 250, u 251, u 252, u 253, u 254, u 255, u 256, u 257, u 258, u 259, u 260, u 261, u 262, u 263, u 264, u 265, u 266, u 267, u 268, u 269, u 270, u 271, u 272, u 273, u 274, u 275, u 276, u 277, u 278, u 279, u 280, u 281, u 282], defers := [] } w := by
  have HG := Lib.hid hG
  have HB := Lib.hid hB
  have HY := Lib.hid hY
  have HNO := Lib.hid hno
  have H13 := Lib.hid h13
  have e45 : ((UInt8.toNat 45 : Nat) : Int) = 45 := rfl
  clear hG hB hY hno h13
  conv => arg 2; whnf
  go_wp2_with fail
  refine (isLet_calls (r := [45]) (v := false) rfl).mono ?_
  rintro e w1 ⟨rfl, rfl⟩
  simp only []
  go_wp2_with fail
  refine (isDec_calls (r := [45]) (v := false) rfl).mono ?_
  rintro e w1 ⟨rfl, rfl⟩
  simp only []
  go_wp2_with fail
  refine (md_peek HE H).mono ?_
  rintro e w2 ⟨rfl, hm⟩
  have H2 := Lib.hid hm
  clear H hm
  simp only [hd_c, e45]
  go_wp2_with fail
  refine (md_next HE H2 H13.out).mono ?_
  rintro e w3 ⟨rfl, hm⟩
  rw [show tl1 ((45 : UInt8) :: t) = t from rfl, ln1_of (c := 45) (t := t) rfl (by decide)] at hm
  have H3 := Lib.hid hm
  clear hm H2
  simp only [hd_c, e45]
  go_wp2_with fail
  refine (com_calls (Lib.hid H3.out.sb.rd) HY.out HNO.out rfl H13.out.tail).mono ?_
  rintro e w4 hst
  cases Y with
  | ok v r' =>
    obtain ⟨r2, L2, rfl, hr, hc, h1, h2⟩ := hst
    have H4 := Lib.hid (H3.out.step HE.out (H3.out.sb.step hc hr) (ub_tr hc))
    clear hr hc H3
    simp only []
    go_wp2_with fail
    go_step3
    simp (config := { zetaDelta := true }) only [Exit.inBlock, Exit.then]
    exact HG.out _ _ r' r2 L2 rfl (frS_mk rfl rfl rfl rfl) H4.out.fin h1 h2
  | no k =>
    obtain ⟨p, r2, L2, rfl, hr, hc⟩ := hst
    have H4 := Lib.hid (H3.out.step HE.out (H3.out.sb.step hc hr) (ub_tr hc))
    have gq : ∀ w, (binOp .neq 56 (.iface 89 (ptr p)) .nilIface).run Tryz.prog w = .ok (.bool true) w := fun w => run_neq_iface_nil (P := Tryz.prog) (w := w) 56 iface46 89 (ptr p)
    clear hr hc H3
    simp only []
    go_wp2_with fail
    go_step3
    simp (config := { zetaDelta := true }) only [Exit.inBlock, Exit.then]
    exact HB.out _ _ p k r2 L2 rfl (frE_mk rfl rfl rfl rfl rfl rfl) H4.out.fin

set_option maxRecDepth 100000 in
set_option maxHeartbeats 4000000 in
theorem sw_bad {w0 w : World} {b : Bl} {t : Bs} {L : Int} {g : Nat} {X R T bm : Nat} {obj : Obj} {so : ByteArray} {ln cl : Int} {Q : Exit → Act → World → Prop} (u : Nat → Value) (HE : Hid (Env w0 b X bm)) {c : UInt8} (H : Hid (Mid w0 b t L g [] X R T bm obj 0 ⟨#[]⟩ so ln cl w)) (hl : isLet c = false) (hdc : isDec c = false) (hc : ∀ n ∈ [45, 34, 39, 91, 61, 126, 60, 62, 46, 58, 43, 42, 47, 37, 94, 35, 40, 41, 123, 125, 93, 59, 44], c.toNat ≠ n)
    (hB : ∀ a' w' p, FrE b X R T (.iface 89 (ptr p)) a' → Fin w0 b t L X R T bm obj 0 ⟨#[]⟩ so ln cl w' → Q (.goto 1) a' w') :
    sw12.wp Tryz.prog Q { tmps := #[ptr b.Z, ptr X, u 2, u 3, ptr R, u 5, .nilIface, ptr T, u 8, .int .i64 (c.toNat : Int), ptr g, ptr g, u 12, u 13, u 14, u 15, u 16, u 17, u 18, u 19, u 20, u 21, u 22, u 23, u 24, u 25, u 26, u 27, u 28, u 29, u 30, u 31, u 32, u 33, u 34, u 35, u 36, u 37, u 38, u 39, u 40, u 41, u 42, u 43, u 44, u 45, u 46, u 47, u 48, u 49, u 50, u 51, u 52, u 53, u 54, u 55, u 56, u 57, u 58, u 59, u 60, u 61, u 62, u 63, u 64, u 65, u 66, u 67, u 68, u 69, u 70, u 71, u 72, u 73, u 74, u 75, u 76, u 77, u 78, u 79, u 80, u 81, u 82, u 83, u 84, u 85, u 86, u 87, u 88, u 89, u 90, u 91, u 92, u 93, u 94, u 95, u 96, u 97, u 98, u 99, u 100, u 101, u 102, u 103, u 104, u 105, u 106, u 107, u 108, u 109, u 110, u 111, u 112, u 113, u 114, u 115, u 116, u 117, u 118, u 119, u 120, u 121, u 122, u 123, u 124, u 125, u 126, u 127, u 128, u 129, u 130, u 131, u 132, u 133, u 134, u 135, u 136, u 137, u 138, u 139, u 140, u 141, u 142, u 143, u 144, u 145, u 146, u 147, u 148, u 149, u 150, u 151, u 152, u 153, u 154, u 155, u 156, u 157, u 158, u 159, u 160, u 161, u 162, u 163, u 164, u 165, u 166, u 167, u 168, u 169, u 170, u 171, u 172, u 173, u 174, u 175, u 176, u 177, u 178, u 179, u 180, u 181, u 182, u 183, u 184, u 185, u 186, u 187, u 188, u 189, u 190, u 191, u 192, u 193, u 194, u 195, u 196, u 197, u 198, u 199, u 200, u 201, u 202, u 203, u 204, u 205, u 206, u 207, u 208, u 209, u 210, u 211, u 212, u 213, u 214, u 215, u 216, u 217, u 218, u 219, u 220, u 221, u 222, u 223, u 224, u 225, u 226, u 227, u 228, u 229, u 230, u 231, u 232, u 233, u 234, u 235, u 236, u 237, u 238, u 239, u 240, u 241, u 242, u 243, u 244, u 245, u 246, u 247, u 248, u 249, u 250, u 251, u 252, u 253, u 254, u 255, u 256, u 257, u 258, u 259, u 260, u 261, u 262, u 263, u 264, u 265, u 266, u 267, u 268, u 269, u 270, u 271, u 272, u 273, u 274, u 275, u 276, u 277, u 278, u 279, u 280, u 281, u 282], defers := [] } w := by
  have HB := Lib.hid hB
  have gm : ((c.toNat : Int) == -1) = false := by first | omega | (simp; done) | (simp; omega)
  have g45 : ((c.toNat : Int) == 45) = false := by have := hc 45 (by simp); simp; omega
  have g34 : ((c.toNat : Int) == 34) = false := by have := hc 34 (by simp); simp; omega
  have g39 : ((c.toNat : Int) == 39) = false := by have := hc 39 (by simp); simp; omega
  have g91 : ((c.toNat : Int) == 91) = false := by have := hc 91 (by simp); simp; omega
  have g61 : ((c.toNat : Int) == 61) = false := by have := hc 61 (by simp); simp; omega
  have g126 : ((c.toNat : Int) == 126) = false := by have := hc 126 (by simp); simp; omega
  have g60 : ((c.toNat : Int) == 60) = false := by have := hc 60 (by simp); simp; omega
  have g62 : ((c.toNat : Int) == 62) = false := by have := hc 62 (by simp); simp; omega
  have g46 : ((c.toNat : Int) == 46) = false := by have := hc 46 (by simp); simp; omega
  have g58 : ((c.toNat : Int) == 58) = false := by have := hc 58 (by simp); simp; omega
  have g43 : ((c.toNat : Int) == 43) = false := by have := hc 43 (by simp); simp; omega
  have g42 : ((c.toNat : Int) == 42) = false := by have := hc 42 (by simp); simp; omega
  have g47 : ((c.toNat : Int) == 47) = false := by have := hc 47 (by simp); simp; omega
  have g37 : ((c.toNat : Int) == 37) = false := by have := hc 37 (by simp); simp; omega
  have g94 : ((c.toNat : Int) == 94) = false := by have := hc 94 (by simp); simp; omega
  have g35 : ((c.toNat : Int) == 35) = false := by have := hc 35 (by simp); simp; omega
  have g40 : ((c.toNat : Int) == 40) = false := by have := hc 40 (by simp); simp; omega
  have g41 : ((c.toNat : Int) == 41) = false := by have := hc 41 (by simp); simp; omega
  have g123 : ((c.toNat : Int) == 123) = false := by have := hc 123 (by simp); simp; omega
  have g125 : ((c.toNat : Int) == 125) = false := by have := hc 125 (by simp); simp; omega
  have g93 : ((c.toNat : Int) == 93) = false := by have := hc 93 (by simp); simp; omega
  have g59 : ((c.toNat : Int) == 59) = false := by have := hc 59 (by simp); simp; omega
  have g44 : ((c.toNat : Int) == 44) = false := by have := hc 44 (by simp); simp; omega
  clear hB hc
  conv => arg 2; whnf
  go_wp2_with fail
  refine (isLet_calls (r := c :: t) (v := false) hl).mono ?_
  rintro e w1 ⟨rfl, rfl⟩
  clear hl
  simp only []
  go_wp2_with fail
  refine (isDec_calls (r := c :: t) (v := false) hdc).mono ?_
  rintro e w1 ⟨rfl, rfl⟩
  clear hdc
  simp only []
  go_wp2_with fail
  refine (md_write HE H (by simp)).mono ?_
  rintro e w2 ⟨rfl, hm⟩
  have H2 := Lib.hid hm
  clear hm H
  simp only []
  go_wp2_with fail
  refine (md_string HE H2).mono ?_
  rintro e w3 ⟨rfl, hm⟩
  have H3 := Lib.hid hm
  clear hm H2
  simp only []
  go_wp2_with fail
  refine (md_err HE H3).mono ?_
  rintro e w4 ⟨⟨p, rfl⟩, hm⟩
  have H4 := Lib.hid hm
  clear hm H3
  simp only []
  go_wp2_with fail
  go_step3
  simp (config := { zetaDelta := true }) only [Exit.inBlock, Exit.then]
  exact HB.out _ _ p (frE_mk rfl rfl rfl rfl rfl rfl) H4.out.fin

end Go.Proofs.YtbgjjbffpckimaaGreatDoor

namespace Go.Proofs.YtbgjjbffpckimaaGreatDoor
set_option linter.all false
open Go.RowKit

/-- The frame at the switch. -/
def FrW (b : Bl) (X R T g : Nat) (v : Value) (a : Act) : Prop := ∃ u : Nat → Value, a = { tmps := #[ptr b.Z, ptr X, u 2, u 3, ptr R, u 5, .nilIface, ptr T, u 8, v, ptr g, ptr g, u 12, u 13, u 14, u 15, u 16, u 17, u 18, u 19, u 20, u 21, u 22, u 23, u 24, u 25, u 26, u 27, u 28, u 29, u 30, u 31, u 32, u 33, u 34, u 35, u 36, u 37, u 38, u 39, u 40, u 41, u 42, u 43, u 44, u 45, u 46, u 47, u 48, u 49, u 50, u 51, u 52, u 53, u 54, u 55, u 56, u 57, u 58, u 59, u 60, u 61, u 62, u 63, u 64, u 65, u 66, u 67, u 68, u 69, u 70, u 71, u 72, u 73, u 74, u 75, u 76, u 77, u 78, u 79, u 80, u 81, u 82, u 83, u 84, u 85, u 86, u 87, u 88, u 89, u 90, u 91, u 92, u 93, u 94, u 95, u 96, u 97, u 98, u 99, u 100, u 101, u 102, u 103, u 104, u 105, u 106, u 107, u 108, u 109, u 110, u 111, u 112, u 113, u 114, u 115, u 116, u 117, u 118, u 119, u 120, u 121, u 122, u 123, u 124, u 125, u 126, u 127, u 128, u 129, u 130, u 131, u 132, u 133, u 134, u 135, u 136, u 137, u 138, u 139, u 140, u 141, u 142, u 143, u 144, u 145, u 146, u 147, u 148, u 149, u 150, u 151, u 152, u 153, u 154, u 155, u 156, u 157, u 158, u 159, u 160, u 161, u 162, u 163, u 164, u 165, u 166, u 167, u 168, u 169, u 170, u 171, u 172, u 173, u 174, u 175, u 176, u 177, u 178, u 179, u 180, u 181, u 182, u 183, u 184, u 185, u 186, u 187, u 188, u 189, u 190, u 191, u 192, u 193, u 194, u 195, u 196, u 197, u 198, u 199, u 200, u 201, u 202, u 203, u 204, u 205, u 206, u 207, u 208, u 209, u 210, u 211, u 212, u 213, u 214, u 215, u 216, u 217, u 218, u 219, u 220, u 221, u 222, u 223, u 224, u 225, u 226, u 227, u 228, u 229, u 230, u 231, u 232, u 233, u 234, u 235, u 236, u 237, u 238, u 239, u 240, u 241, u 242, u 243, u 244, u 245, u 246, u 247, u 248, u 249, u 250, u 251, u 252, u 253, u 254, u 255, u 256, u 257, u 258, u 259, u 260, u 261, u 262, u 263, u 264, u 265, u 266, u 267, u 268, u 269, u 270, u 271, u 272, u 273, u 274, u 275, u 276, u 277, u 278, u 279, u 280, u 281, u 282], defers := [] }
set_option maxRecDepth 100000 in
theorem frW_mk {b : Bl} {X R T g : Nat} {v : Value} {t : Array Value} (hs : t.size = 283) (h0 : t.getD 0 undef = ptr b.Z) (h1 : t.getD 1 undef = ptr X) (h4 : t.getD 4 undef = ptr R) (h6 : t.getD 6 undef = .nilIface) (h7 : t.getD 7 undef = ptr T) (h9 : t.getD 9 undef = v) (h10 : t.getD 10 undef = ptr g) (h11 : t.getD 11 undef = ptr g) : FrW b X R T g v { tmps := t, defers := [] } := by
  refine ⟨fun i => t.getD i undef, ?_⟩
  have := (arr_ofFn t hs).trans (ofFn283 fun i => t.getD i undef)
  rw [h0, h1, h4, h6, h7, h9, h10, h11] at this
  exact congrArg (fun x => ({ tmps := x, defers := [] } : Act)) this

/-- What follows a block. -/
def aft (n : Nat) : Code → Option Code
  | .seq (.block m c) b => if m = n then some b else aft n b
  | .seq _ b => aft n b
  | _ => none
noncomputable def beg12 : Code := sqb (rest12 0)
noncomputable def lab12 : Code := (aft 0 (rest12 0)).getD .skip

/-- The state at the first label. -/
structure Pre (w0 : World) (b : Bl) (r : Bs) (L : Int) (X R bm : Nat) (obj : Obj) (w : World) : Prop where
  rd : Rd w b r L
  rk : TokAt w R 0 ⟨#[]⟩ ⟨#[]⟩ ⟨#[]⟩ 0 0
  tb : Tab w bm obj
  lx : LxAt w X
  ch : Ch (Us b X) w0 w
  nR : w0.heap.size ≤ R

theorem skip_a (r : Bs) (h : hd (r.dropWhile sp1) ≠ 10) : r.dropWhile isSp = r.dropWhile sp1 := by
  induction r with
  | nil => rfl
  | cons c t ih =>
    rw [List.dropWhile_cons] at h ⊢
    rw [List.dropWhile_cons]
    by_cases h1 : sp1 c = true
    · rw [if_pos h1] at h ⊢
      have : isSp c = true := by
        unfold sp1 at h1
        unfold isSp
        rw [h1]
        rfl
      rw [if_pos this]
      exact ih h
    · rw [if_neg h1] at h ⊢
      rw [if_neg]
      intro h2
      have h10 : c = 10 := by
        unfold isSp at h2
        unfold sp1 at h1
        simp at h1 h2
        rcases h2 with (h2 | h2) | h2
        · exact absurd h2 h1.1
        · exact absurd h2 h1.2
        · exact h2
      exact h (by rw [h10]; rfl)
theorem skip_b {r t : Bs} (hr : r.dropWhile sp1 = 10 :: t) (hcr : NoCr t) : r.dropWhile isSp = t.dropWhile sp2 := by
  have e : ∀ t : Bs, NoCr t → t.dropWhile isSp = t.dropWhile sp2 := by
    intro t
    induction t with
    | nil => intro _; rfl
    | cons c t ih =>
      intro h
      have h13 : c ≠ 13 := h c (by simp)
      have : sp2 c = isSp c := by
        unfold sp2 isSp
        have : (c == 13) = false := by simpa using h13
        rw [this, Bool.or_false]
      rw [List.dropWhile_cons, List.dropWhile_cons, this, ih h.tail]
  induction r with
  | nil => cases hr
  | cons c r ih =>
    rw [List.dropWhile_cons] at hr ⊢
    by_cases h1 : sp1 c = true
    · rw [if_pos h1] at hr
      have : isSp c = true := by
        unfold sp1 at h1
        unfold isSp
        rw [h1]
        rfl
      rw [if_pos this]
      exact ih hr
    · rw [if_neg h1] at hr
      injection hr with hc hr
      subst hc
      subst hr
      rw [if_pos (by decide)]
      exact e _ hcr

set_option maxRecDepth 100000 in
set_option maxHeartbeats 4000000 in
theorem pre_a {w0 w : World} {b : Bl} {r rc : Bs} {L : Int} {X R bm : Nat} {obj : Obj} {Q : Exit → Act → World → Prop} (u : Nat → Value) (HE : Hid (Env w0 b X bm)) (H : Hid (Pre w0 b r L X R bm obj w)) (h13 : NoCr r) (hn : hd rc ≠ 10) (hrc : r.dropWhile sp1 = rc)
    (hQ : ∀ (K : Act → World → Prop) (a' : Act) (w' : World) (T g : Nat) (so : ByteArray) (cl : Int), (∀ a w, lab12.wp Tryz.prog Q a w → K a w) → FrW b X R T g (.int .i64 (hd rc)) a' → Mid w0 b (tl1 rc) (ln1 rc (L + nl r - nl rc)) g [] X R T bm obj 0 ⟨#[]⟩ so (ln1 rc (L + nl r - nl rc)) cl w' → sw12.wp Tryz.prog (Exit.then K Q) a' w') :
    beg12.wp Tryz.prog Q { tmps := #[ptr b.Z, ptr X, u 2, u 3, ptr R, u 5, u 6, u 7, u 8, u 9, u 10, u 11, u 12, u 13, u 14, u 15, u 16, u 17, u 18, u 19, u 20, u 21, u 22, u 23, u 24, u 25, u 26, u 27, u 28, u 29, u 30, u 31, u 32, u 33, u 34, u 35, u 36, u 37, u 38, u 39, u 40, u 41, u 42, u 43, u 44, u 45, u 46, u 47, u 48, u 49, u 50, u 51, u 52, u 53, u 54, u 55, u 56, u 57, u 58, u 59, u 60, u 61, u 62, u 63, u 64, u 65, u 66, u 67, u 68, u 69, u 70, u 71, u 72, u 73, u 74, u 75, u 76, u 77, u 78, u 79, u 80, u 81, u 82, u 83, u 84, u 85, u 86, u 87, u 88, u 89, u 90, u 91, u 92, u 93, u 94, u 95, u 96, u 97, u 98, u 99, u 100, u 101, u 102, u 103, u 104, u 105, u 106, u 107, u 108, u 109, u 110, u 111, u 112, u 113, u 114, u 115, u 116, u 117, u 118, u 119, u 120, u 121, u 122, u 123, u 124, u 125, u 126, u 127, u 128, u 129, u 130, u 131, u 132, u 133, u 134, u 135, u 136, u 137, u 138, u 139, u 140, u 141, u 142, u 143, u 144, u 145, u 146, u 147, u 148, u 149, u 150, u 151, u 152, u 153, u 154, u 155, u 156, u 157, u 158, u 159, u 160, u 161, u 162, u 163, u 164, u 165, u 166, u 167, u 168, u 169, u 170, u 171, u 172, u 173, u 174, u 175, u 176, u 177, u 178, u 179, u 180, u 181, u 182, u 183, u 184, u 185, u 186, u 187, u 188, u 189, u 190, u 191, u 192, u 193, u 194, u 195, u 196, u 197, u 198, u 199, u 200, u 201, u 202, u 203, u 204, u 205, u 206, u 207, u 208, u 209, u 210, u 211, u 212, u 213, u 214, u 215, u 216, u 217, u 218, u 219, u 220, u 221, u 222, u 223, u 224, u 225, u 226, u 227, u 228, u 229, u 230, u 231, u 232, u 233, u 234, u 235, u 236, u 237, u 238, u 239, u 240, u 241, u 242, u 243, u 244, u 245, u 246, u 247, u 248, u 249, u 250, u 251, u 252, u 253, u 254, u 255, u 256, u 257, u 258, u 259, u 260, u 261, u 262, u 263, u 264, u 265, u 266, u 267, u 268, u 269, u 270, u 271, u 272, u 273, u 274, u 275, u 276, u 277, u 278, u 279, u 280, u 281, u 282], defers := [] } w := by
  have HQ := Lib.hid hQ
  have H13 := Lib.hid h13
  have HRC := Lib.hid hrc
  have HNL := Lib.hid hn
  have lR := H.out.rk.lt
  have nR := H.out.nR
  obtain ⟨v9, l9⟩ := H.out.lx.c9
  clear hQ h13 hrc hn
  conv => arg 2; whnf
  go_wp2_with fail
  have C1 : Hid (Ch (fun _ => False) w (w.alloc (.cells #[.int .i64 0, .string ⟨#[]⟩, .string ⟨#[]⟩, .string ⟨#[]⟩, .int .i64 0, .int .i64 0] 52))) := Lib.hid ((Ch.refl _ _).alloc _)
  have HT1 := Lib.hid (TokAt.fresh w)
  generalize hW : (w.alloc (.cells #[.int .i64 0, .string ⟨#[]⟩, .string ⟨#[]⟩, .string ⟨#[]⟩, .int .i64 0, .int .i64 0] 52)) = w1 at C1 HT1 ⊢
  clear hW
  have HR1 := Lib.hid (H.out.rk.keep C1.out id)
  have HB1 := Lib.hid (H.out.tb.keep C1.out id id id)
  have HL1 := Lib.hid (H.out.lx.keep C1.out id)
  have HC1 := Lib.hid (H.out.ch.trans (C1.out.mono fun _ _ h => h.elim))
  have HD1 := Lib.hid (H.out.rd.moved C1.out)
  have hT : w0.heap.size ≤ w.heap.size := H.out.ch.size
  have l9' := C1.out.cell_some l9 id
  generalize hTT : w.heap.size = T at HT1 hT lR ⊢
  clear hTT H C1 l9
  refine (skip1_calls HD1 H13.out).mono ?_
  rintro e w2 ⟨rfl, hc, hs⟩
  have nt2 : ∀ k, w0.heap.size ≤ k → ¬ Tr b k := fun k hk ht => by have := HE.out.tr k ht; omega
  have HT2 := Lib.hid (HT1.out.keep hc (nt2 T hT))
  have HR2 := Lib.hid (HR1.out.keep hc (nt2 R nR))
  have HB2 := Lib.hid (HB1.out.keep hc (fun ht => HE.out.low 0 (by simp) (.inl ht)) (fun ht => HE.out.low 1 (by simp) (.inl ht)) (fun ht => HE.out.low bm (by simp) (.inl ht)))
  have HL2 := Lib.hid (HL1.out.keep hc HE.out.nX)
  have HC2 := Lib.hid (HC1.out.trans (hc.mono fun _ _ h => .inl h))
  have l92 := hc.cell_some l9' HE.out.nX
  rw [HRC.out] at hs
  have HD2 := Lib.hid hs
  have g10 : (hd rc == 10) = false := by have := HNL.out; simpa using this
  have g13 : (hd rc == 13) = false := by
    have := (H13.out.drop (p := sp1)).hd
    rw [HRC.out] at this
    simpa using this
  rw [HRC.out]
  clear hs hc HT1 HR1 HB1 HL1 HC1 HD1 l9' nt2
  simp only []
  by_cases h40 : hd rc = 40
  · have g40 : (hd rc == 40) = true := by simpa using h40
    have H40 := Lib.hid h40
    clear h40
    by_cases h41 : v9 = 41
    · have g41 : (v9 == 41) = true := by simpa using h41
      have H41 := Lib.hid h41
      clear h41
      have hx2 := HL2.out.c2
      obtain ⟨v2, l2⟩ := hx2
      have z2 := HL2.out.fz 2
      have hcx : Ch (fun k => k = X) w2 (w2.setCell ⟨X, 2, none⟩ (.bool false)) := Ch.setCell (T := fun k => k = X) (Ch.refl _ _) (p := ⟨X, 2, none⟩) (fun _ => rfl) _
      have nX := HE.out.nX
      have nTX : ¬ T = X := by have := HE.out.xl; omega
      have nRX : ¬ R = X := by have := HE.out.xl; omega
      have HT5 := Lib.hid (HT2.out.keep hcx nTX)
      have HR5 := Lib.hid (HR2.out.keep hcx nRX)
      have HB5 := Lib.hid (HB2.out.keep hcx (fun e => HE.out.low 0 (by simp) (.inr e)) (fun e => HE.out.low 1 (by simp) (.inr e)) (fun e => HE.out.low bm (by simp) (.inr e)))
      have HL5 := Lib.hid (HL2.out.set2 false)
      have HC5 := Lib.hid (HC2.out.trans (hcx.mono fun _ _ h => .inr h))
      have HD5 := Lib.hid (HD2.out.keep hcx (fun k hk e => nX (e ▸ hk)) (fun e => HE.out.low 2 (by simp) (.inr e)))
      clear hcx
      clear HT2 HR2 HB2 HL2 HC2 HD2
      go_upto_region 11 with fail
      generalize hW5 : (w2.setCell ⟨X, 2, none⟩ (.bool false)) = w5 at HT5 HR5 HB5 HL5 HC5 HD5 ⊢
      clear hW5 l2 z2
      obtain ⟨so, q0⟩ := HD5.out.z0
      obtain ⟨cl, q2⟩ := HD5.out.z2
      have q1 := HD5.out.ln
      have tl5 := HT5.out.lt
      have rl5 := HR5.out.lt
      have zl5 := HD5.out.size b.Z (.inl rfl)
      have t3 := HT5.out.c3
      have t4 := HT5.out.c4
      have t5 := HT5.out.c5
      have f3 := HT5.out.fz 3
      have f4 := HT5.out.fz 4
      have f5 := HT5.out.fz 5
      go_upto_block 0 with fail
      have hc7 : Ch (fun k => k = T) w5 (((w5.setCell ⟨T, 3, none⟩ (.string so)).setCell ⟨T, 4, none⟩ (.int .i64 (ln1 rc (L + nl r - nl rc)))).setCell ⟨T, 5, none⟩ (.int .i64 cl)) :=
        ((Ch.setCell (T := fun k => k = T) (Ch.refl _ _) (p := ⟨T, 3, none⟩) (fun _ => rfl) _).setCell (p := ⟨T, 4, none⟩) (fun _ => rfl) _).setCell (p := ⟨T, 5, none⟩) (fun _ => rfl) _
      have hsz : (((w5.setCell ⟨T, 3, none⟩ (.string so)).setCell ⟨T, 4, none⟩ (.int .i64 (ln1 rc (L + nl r - nl rc)))).setCell ⟨T, 5, none⟩ (.int .i64 cl)).heap.size = w5.heap.size := by simp [World.setCell]
      have HT6 := Lib.hid (HT5.out.pos so (ln1 rc (L + nl r - nl rc)) cl)
      have HR6 := Lib.hid (HR5.out.keep hc7 (by omega))
      have HB6 := Lib.hid (HB5.out.keep hc7 (by have := HE.out.l2; omega) (by have := HE.out.l2; omega) (by have := HE.out.ml; omega))
      have HL6 := Lib.hid (HL5.out.keep hc7 (by have := HE.out.xl; omega))
      have HC6 := Lib.hid (HC5.out.trans' hc7 (fun k hk e => by omega))
      have HD6 := Lib.hid (HD5.out.keep hc7 (fun k hk e => by have := HE.out.tr k hk; omega) (by have := HE.out.l2; omega))
      have HS6 := HD6.out.buf
      clear hc7 HT5 HR5 HB5 HL5 HC5 HD5
      generalize (((w5.setCell ⟨T, 3, none⟩ (.string so)).setCell ⟨T, 4, none⟩ (.int .i64 (ln1 rc (L + nl r - nl rc)))).setCell ⟨T, 5, none⟩ (.int .i64 cl)) = w6 at HT6 HR6 HB6 HL6 HC6 HD6 HS6 hsz ⊢
      have hca : Ch (fun _ => False) w6 (w6.alloc (.cells #[.slice none 0 0, .int .i64 0, .int .i8 0] 79)) := (Ch.refl _ _).alloc _
      rw [hsz] at HS6
      refine HQ.out _ _ _ T w5.heap.size so cl ?_ ?_ ⟨HS6, HT6.out.keep hca id, HR6.out.keep hca id, HB6.out.keep hca id id id, HL6.out.keep hca id, HC6.out.trans (hca.mono fun _ _ h => h.elim), hT, nR, by omega, tl5, rl5⟩
      · assumption
      · exact frW_mk rfl rfl rfl rfl rfl rfl rfl rfl rfl
    · have g41 : (v9 == 41) = false := by simpa using h41
      clear h41
      have hx2 := HL2.out.c2
      obtain ⟨v2, l2⟩ := hx2
      have z2 := HL2.out.fz 2
      have hcx : Ch (fun k => k = X) w2 (w2.setCell ⟨X, 2, none⟩ (.bool false)) := Ch.setCell (T := fun k => k = X) (Ch.refl _ _) (p := ⟨X, 2, none⟩) (fun _ => rfl) _
      have nX := HE.out.nX
      have nTX : ¬ T = X := by have := HE.out.xl; omega
      have nRX : ¬ R = X := by have := HE.out.xl; omega
      have HT5 := Lib.hid (HT2.out.keep hcx nTX)
      have HR5 := Lib.hid (HR2.out.keep hcx nRX)
      have HB5 := Lib.hid (HB2.out.keep hcx (fun e => HE.out.low 0 (by simp) (.inr e)) (fun e => HE.out.low 1 (by simp) (.inr e)) (fun e => HE.out.low bm (by simp) (.inr e)))
      have HL5 := Lib.hid (HL2.out.set2 false)
      have HC5 := Lib.hid (HC2.out.trans (hcx.mono fun _ _ h => .inr h))
      have HD5 := Lib.hid (HD2.out.keep hcx (fun k hk e => nX (e ▸ hk)) (fun e => HE.out.low 2 (by simp) (.inr e)))
      clear hcx
      clear HT2 HR2 HB2 HL2 HC2 HD2
      go_upto_region 11 with fail
      generalize hW5 : (w2.setCell ⟨X, 2, none⟩ (.bool false)) = w5 at HT5 HR5 HB5 HL5 HC5 HD5 ⊢
      clear hW5 l2 z2
      obtain ⟨so, q0⟩ := HD5.out.z0
      obtain ⟨cl, q2⟩ := HD5.out.z2
      have q1 := HD5.out.ln
      have tl5 := HT5.out.lt
      have rl5 := HR5.out.lt
      have zl5 := HD5.out.size b.Z (.inl rfl)
      have t3 := HT5.out.c3
      have t4 := HT5.out.c4
      have t5 := HT5.out.c5
      have f3 := HT5.out.fz 3
      have f4 := HT5.out.fz 4
      have f5 := HT5.out.fz 5
      go_upto_block 0 with fail
      have hc7 : Ch (fun k => k = T) w5 (((w5.setCell ⟨T, 3, none⟩ (.string so)).setCell ⟨T, 4, none⟩ (.int .i64 (ln1 rc (L + nl r - nl rc)))).setCell ⟨T, 5, none⟩ (.int .i64 cl)) :=
        ((Ch.setCell (T := fun k => k = T) (Ch.refl _ _) (p := ⟨T, 3, none⟩) (fun _ => rfl) _).setCell (p := ⟨T, 4, none⟩) (fun _ => rfl) _).setCell (p := ⟨T, 5, none⟩) (fun _ => rfl) _
      have hsz : (((w5.setCell ⟨T, 3, none⟩ (.string so)).setCell ⟨T, 4, none⟩ (.int .i64 (ln1 rc (L + nl r - nl rc)))).setCell ⟨T, 5, none⟩ (.int .i64 cl)).heap.size = w5.heap.size := by simp [World.setCell]
      have HT6 := Lib.hid (HT5.out.pos so (ln1 rc (L + nl r - nl rc)) cl)
      have HR6 := Lib.hid (HR5.out.keep hc7 (by omega))
      have HB6 := Lib.hid (HB5.out.keep hc7 (by have := HE.out.l2; omega) (by have := HE.out.l2; omega) (by have := HE.out.ml; omega))
      have HL6 := Lib.hid (HL5.out.keep hc7 (by have := HE.out.xl; omega))
      have HC6 := Lib.hid (HC5.out.trans' hc7 (fun k hk e => by omega))
      have HD6 := Lib.hid (HD5.out.keep hc7 (fun k hk e => by have := HE.out.tr k hk; omega) (by have := HE.out.l2; omega))
      have HS6 := HD6.out.buf
      clear hc7 HT5 HR5 HB5 HL5 HC5 HD5
      generalize (((w5.setCell ⟨T, 3, none⟩ (.string so)).setCell ⟨T, 4, none⟩ (.int .i64 (ln1 rc (L + nl r - nl rc)))).setCell ⟨T, 5, none⟩ (.int .i64 cl)) = w6 at HT6 HR6 HB6 HL6 HC6 HD6 HS6 hsz ⊢
      have hca : Ch (fun _ => False) w6 (w6.alloc (.cells #[.slice none 0 0, .int .i64 0, .int .i8 0] 79)) := (Ch.refl _ _).alloc _
      rw [hsz] at HS6
      refine HQ.out _ _ _ T w5.heap.size so cl ?_ ?_ ⟨HS6, HT6.out.keep hca id, HR6.out.keep hca id, HB6.out.keep hca id id id, HL6.out.keep hca id, HC6.out.trans (hca.mono fun _ _ h => h.elim), hT, nR, by omega, tl5, rl5⟩
      · assumption
      · exact frW_mk rfl rfl rfl rfl rfl rfl rfl rfl rfl
  · have g40 : (hd rc == 40) = false := by simpa using h40
    clear h40
    have hx2 := HL2.out.c2
    obtain ⟨v2, l2⟩ := hx2
    have z2 := HL2.out.fz 2
    have hcx : Ch (fun k => k = X) w2 (w2.setCell ⟨X, 2, none⟩ (.bool false)) := Ch.setCell (T := fun k => k = X) (Ch.refl _ _) (p := ⟨X, 2, none⟩) (fun _ => rfl) _
    have nX := HE.out.nX
    have nTX : ¬ T = X := by have := HE.out.xl; omega
    have nRX : ¬ R = X := by have := HE.out.xl; omega
    have HT5 := Lib.hid (HT2.out.keep hcx nTX)
    have HR5 := Lib.hid (HR2.out.keep hcx nRX)
    have HB5 := Lib.hid (HB2.out.keep hcx (fun e => HE.out.low 0 (by simp) (.inr e)) (fun e => HE.out.low 1 (by simp) (.inr e)) (fun e => HE.out.low bm (by simp) (.inr e)))
    have HL5 := Lib.hid (HL2.out.set2 false)
    have HC5 := Lib.hid (HC2.out.trans (hcx.mono fun _ _ h => .inr h))
    have HD5 := Lib.hid (HD2.out.keep hcx (fun k hk e => nX (e ▸ hk)) (fun e => HE.out.low 2 (by simp) (.inr e)))
    clear hcx
    clear HT2 HR2 HB2 HL2 HC2 HD2
    go_upto_region 11 with fail
    generalize hW5 : (w2.setCell ⟨X, 2, none⟩ (.bool false)) = w5 at HT5 HR5 HB5 HL5 HC5 HD5 ⊢
    clear hW5 l2 z2
    obtain ⟨so, q0⟩ := HD5.out.z0
    obtain ⟨cl, q2⟩ := HD5.out.z2
    have q1 := HD5.out.ln
    have tl5 := HT5.out.lt
    have rl5 := HR5.out.lt
    have zl5 := HD5.out.size b.Z (.inl rfl)
    have t3 := HT5.out.c3
    have t4 := HT5.out.c4
    have t5 := HT5.out.c5
    have f3 := HT5.out.fz 3
    have f4 := HT5.out.fz 4
    have f5 := HT5.out.fz 5
    go_upto_block 0 with fail
    have hc7 : Ch (fun k => k = T) w5 (((w5.setCell ⟨T, 3, none⟩ (.string so)).setCell ⟨T, 4, none⟩ (.int .i64 (ln1 rc (L + nl r - nl rc)))).setCell ⟨T, 5, none⟩ (.int .i64 cl)) :=
      ((Ch.setCell (T := fun k => k = T) (Ch.refl _ _) (p := ⟨T, 3, none⟩) (fun _ => rfl) _).setCell (p := ⟨T, 4, none⟩) (fun _ => rfl) _).setCell (p := ⟨T, 5, none⟩) (fun _ => rfl) _
    have hsz : (((w5.setCell ⟨T, 3, none⟩ (.string so)).setCell ⟨T, 4, none⟩ (.int .i64 (ln1 rc (L + nl r - nl rc)))).setCell ⟨T, 5, none⟩ (.int .i64 cl)).heap.size = w5.heap.size := by simp [World.setCell]
    have HT6 := Lib.hid (HT5.out.pos so (ln1 rc (L + nl r - nl rc)) cl)
    have HR6 := Lib.hid (HR5.out.keep hc7 (by omega))
    have HB6 := Lib.hid (HB5.out.keep hc7 (by have := HE.out.l2; omega) (by have := HE.out.l2; omega) (by have := HE.out.ml; omega))
    have HL6 := Lib.hid (HL5.out.keep hc7 (by have := HE.out.xl; omega))
    have HC6 := Lib.hid (HC5.out.trans' hc7 (fun k hk e => by omega))
    have HD6 := Lib.hid (HD5.out.keep hc7 (fun k hk e => by have := HE.out.tr k hk; omega) (by have := HE.out.l2; omega))
    have HS6 := HD6.out.buf
    clear hc7 HT5 HR5 HB5 HL5 HC5 HD5
    generalize (((w5.setCell ⟨T, 3, none⟩ (.string so)).setCell ⟨T, 4, none⟩ (.int .i64 (ln1 rc (L + nl r - nl rc)))).setCell ⟨T, 5, none⟩ (.int .i64 cl)) = w6 at HT6 HR6 HB6 HL6 HC6 HD6 HS6 hsz ⊢
    have hca : Ch (fun _ => False) w6 (w6.alloc (.cells #[.slice none 0 0, .int .i64 0, .int .i8 0] 79)) := (Ch.refl _ _).alloc _
    rw [hsz] at HS6
    refine HQ.out _ _ _ T w5.heap.size so cl ?_ ?_ ⟨HS6, HT6.out.keep hca id, HR6.out.keep hca id, HB6.out.keep hca id id id, HL6.out.keep hca id, HC6.out.trans (hca.mono fun _ _ h => h.elim), hT, nR, by omega, tl5, rl5⟩
    · assumption
    · exact frW_mk rfl rfl rfl rfl rfl rfl rfl rfl rfl

set_option maxRecDepth 100000 in
set_option maxHeartbeats 4000000 in
theorem pre_b {w0 w : World} {b : Bl} {r rc : Bs} {L : Int} {X R bm : Nat} {obj : Obj} {Q : Exit → Act → World → Prop} (u : Nat → Value) (HE : Hid (Env w0 b X bm)) (H : Hid (Pre w0 b r L X R bm obj w)) (h13 : NoCr r) {t : Bs} (hn : r.dropWhile sp1 = 10 :: t) (hrc : t.dropWhile sp2 = rc)
    (hQ : ∀ (K : Act → World → Prop) (a' : Act) (w' : World) (T g : Nat) (so : ByteArray) (cl : Int), (∀ a w, lab12.wp Tryz.prog Q a w → K a w) → FrW b X R T g (.int .i64 (hd rc)) a' → Mid w0 b (tl1 rc) (ln1 rc (L + nl r - nl rc)) g [] X R T bm obj 0 ⟨#[]⟩ so (ln1 rc (L + nl r - nl rc)) cl w' → sw12.wp Tryz.prog (Exit.then K Q) a' w') :
    beg12.wp Tryz.prog Q { tmps := #[ptr b.Z, ptr X, u 2, u 3, ptr R, u 5, u 6, u 7, u 8, u 9, u 10, u 11, u 12, u 13, u 14, u 15, u 16, u 17, u 18, u 19, u 20, u 21, u 22, u 23, u 24, u 25, u 26, u 27, u 28, u 29, u 30, u 31, u 32, u 33, u 34, u 35, u 36, u 37, u 38, u 39, u 40, u 41, u 42, u 43, u 44, u 45, u 46, u 47, u 48, u 49, u 50, u 51, u 52, u 53, u 54, u 55, u 56, u 57, u 58, u 59, u 60, u 61, u 62, u 63, u 64, u 65, u 66, u 67, u 68, u 69, u 70, u 71, u 72, u 73, u 74, u 75, u 76, u 77, u 78, u 79, u 80, u 81, u 82, u 83, u 84, u 85, u 86, u 87, u 88, u 89, u 90, u 91, u 92, u 93, u 94, u 95, u 96, u 97, u 98, u 99, u 100, u 101, u 102, u 103, u 104, u 105, u 106, u 107, u 108, u 109, u 110, u 111, u 112, u 113, u 114, u 115, u 116, u 117, u 118, u 119, u 120, u 121, u 122, u 123, u 124, u 125, u 126, u 127, u 128, u 129, u 130, u 131, u 132, u 133, u 134, u 135, u 136, u 137, u 138, u 139, u 140, u 141, u 142, u 143, u 144, u 145, u 146, u 147, u 148, u 149, u 150, u 151, u 152, u 153, u 154, u 155, u 156, u 157, u 158, u 159, u 160, u 161, u 162, u 163, u 164, u 165, u 166, u 167, u 168, u 169, u 170, u 171, u 172, u 173, u 174, u 175, u 176, u 177, u 178, u 179, u 180, u 181, u 182, u 183, u 184, u 185, u 186, u 187, u 188, u 189, u 190, u 191, u 192, u 193, u 194, u 195, u 196, u 197, u 198, u 199, u 200, u 201, u 202, u 203, u 204, u 205, u 206, u 207, u 208, u 209, u 210, u 211, u 212, u 213, u 214, u 215, u 216, u 217, u 218, u 219, u 220, u 221, u 222, u 223, u 224, u 225, u 226, u 227, u 228, u 229, u 230, u 231, u 232, u 233, u 234, u 235, u 236, u 237, u 238, u 239, u 240, u 241, u 242, u 243, u 244, u 245, u 246, u 247, u 248, u 249, u 250, u 251, u 252, u 253, u 254, u 255, u 256, u 257, u 258, u 259, u 260, u 261, u 262, u 263, u 264, u 265, u 266, u 267, u 268, u 269, u 270, u 271, u 272, u 273, u 274, u 275, u 276, u 277, u 278, u 279, u 280, u 281, u 282], defers := [] } w := by
  have HQ := Lib.hid hQ
  have H13 := Lib.hid h13
  have HRC := Lib.hid hrc
  have HNL := Lib.hid hn
  have lR := H.out.rk.lt
  have nR := H.out.nR
  obtain ⟨v9, l9⟩ := H.out.lx.c9
  clear hQ h13 hrc hn
  conv => arg 2; whnf
  go_wp2_with fail
  have C1 : Hid (Ch (fun _ => False) w (w.alloc (.cells #[.int .i64 0, .string ⟨#[]⟩, .string ⟨#[]⟩, .string ⟨#[]⟩, .int .i64 0, .int .i64 0] 52))) := Lib.hid ((Ch.refl _ _).alloc _)
  have HT1 := Lib.hid (TokAt.fresh w)
  generalize hW : (w.alloc (.cells #[.int .i64 0, .string ⟨#[]⟩, .string ⟨#[]⟩, .string ⟨#[]⟩, .int .i64 0, .int .i64 0] 52)) = w1 at C1 HT1 ⊢
  clear hW
  have HR1 := Lib.hid (H.out.rk.keep C1.out id)
  have HB1 := Lib.hid (H.out.tb.keep C1.out id id id)
  have HL1 := Lib.hid (H.out.lx.keep C1.out id)
  have HC1 := Lib.hid (H.out.ch.trans (C1.out.mono fun _ _ h => h.elim))
  have HD1 := Lib.hid (H.out.rd.moved C1.out)
  have hT : w0.heap.size ≤ w.heap.size := H.out.ch.size
  have l9' := C1.out.cell_some l9 id
  generalize hTT : w.heap.size = T at HT1 hT lR ⊢
  clear hTT H C1 l9
  refine (skip1_calls HD1 H13.out).mono ?_
  rintro e w2 ⟨rfl, hc, hs⟩
  have nt2 : ∀ k, w0.heap.size ≤ k → ¬ Tr b k := fun k hk ht => by have := HE.out.tr k ht; omega
  have HT2 := Lib.hid (HT1.out.keep hc (nt2 T hT))
  have HR2 := Lib.hid (HR1.out.keep hc (nt2 R nR))
  have HB2 := Lib.hid (HB1.out.keep hc (fun ht => HE.out.low 0 (by simp) (.inl ht)) (fun ht => HE.out.low 1 (by simp) (.inl ht)) (fun ht => HE.out.low bm (by simp) (.inl ht)))
  have HL2 := Lib.hid (HL1.out.keep hc HE.out.nX)
  have HC2 := Lib.hid (HC1.out.trans (hc.mono fun _ _ h => .inl h))
  have l92 := hc.cell_some l9' HE.out.nX
  rw [HNL.out, show tl1 ((10 : UInt8) :: t) = t from rfl, show ln1 ((10 : UInt8) :: t) (L + nl r - nl ((10 : UInt8) :: t)) = L + nl r - nl ((10 : UInt8) :: t) + 1 from rfl] at hs
  have e10 : ((UInt8.toNat 10 : Nat) : Int) = 10 := rfl
  have hcr : NoCr t := by
    have := H13.out.drop (p := sp1)
    rw [HNL.out] at this
    exact this.tail
  have HD2 := Lib.hid hs
  have HCR := Lib.hid hcr
  rw [HNL.out]
  clear hs hc HT1 HR1 HB1 HL1 HC1 HD1 l9' nt2 hcr
  simp only [hd_c, e10]
  go_wp2_with fail
  refine (skip2_calls HD2 HCR.out).mono ?_
  rintro e w3 ⟨rfl, hc, hs⟩
  have nt3 : ∀ k, w0.heap.size ≤ k → ¬ Tr b k := fun k hk ht => by have := HE.out.tr k ht; omega
  have HT3 := Lib.hid (HT2.out.keep hc (nt3 T hT))
  have HR3 := Lib.hid (HR2.out.keep hc (nt3 R nR))
  have HB3 := Lib.hid (HB2.out.keep hc (fun ht => HE.out.low 0 (by simp) (.inl ht)) (fun ht => HE.out.low 1 (by simp) (.inl ht)) (fun ht => HE.out.low bm (by simp) (.inl ht)))
  have HL3 := Lib.hid (HL2.out.keep hc HE.out.nX)
  have HC3 := Lib.hid (HC2.out.trans (hc.mono fun _ _ h => .inl h))
  have l93 := hc.cell_some l92 HE.out.nX
  have hLL : L + nl r - nl ((10 : UInt8) :: t) + 1 + nl t - nl rc = L + nl r - nl rc := by rw [nl_cons, if_pos rfl]; omega
  rw [HRC.out, hLL] at hs
  have HD3 := Lib.hid hs
  rw [HRC.out]
  clear hs hc HT2 HR2 HB2 HL2 HC2 HD2 l92 nt3 hLL
  simp only []
  by_cases h40 : hd rc = 40
  · have g40 : (hd rc == 40) = true := by simpa using h40
    have H40 := Lib.hid h40
    clear h40
    by_cases h41 : v9 = 41
    · have g41 : (v9 == 41) = true := by simpa using h41
      have H41 := Lib.hid h41
      clear h41
      have hx2 := HL3.out.c2
      obtain ⟨v2, l2⟩ := hx2
      have z2 := HL3.out.fz 2
      have hcx : Ch (fun k => k = X) w3 (w3.setCell ⟨X, 2, none⟩ (.bool true)) := Ch.setCell (T := fun k => k = X) (Ch.refl _ _) (p := ⟨X, 2, none⟩) (fun _ => rfl) _
      have nX := HE.out.nX
      have nTX : ¬ T = X := by have := HE.out.xl; omega
      have nRX : ¬ R = X := by have := HE.out.xl; omega
      have HT5 := Lib.hid (HT3.out.keep hcx nTX)
      have HR5 := Lib.hid (HR3.out.keep hcx nRX)
      have HB5 := Lib.hid (HB3.out.keep hcx (fun e => HE.out.low 0 (by simp) (.inr e)) (fun e => HE.out.low 1 (by simp) (.inr e)) (fun e => HE.out.low bm (by simp) (.inr e)))
      have HL5 := Lib.hid (HL3.out.set2 true)
      have HC5 := Lib.hid (HC3.out.trans (hcx.mono fun _ _ h => .inr h))
      have HD5 := Lib.hid (HD3.out.keep hcx (fun k hk e => nX (e ▸ hk)) (fun e => HE.out.low 2 (by simp) (.inr e)))
      clear hcx
      clear HT3 HR3 HB3 HL3 HC3 HD3
      go_upto_region 11 with fail
      generalize hW5 : (w3.setCell ⟨X, 2, none⟩ (.bool true)) = w5 at HT5 HR5 HB5 HL5 HC5 HD5 ⊢
      clear hW5 l2 z2
      obtain ⟨so, q0⟩ := HD5.out.z0
      obtain ⟨cl, q2⟩ := HD5.out.z2
      have q1 := HD5.out.ln
      have tl5 := HT5.out.lt
      have rl5 := HR5.out.lt
      have zl5 := HD5.out.size b.Z (.inl rfl)
      have t3 := HT5.out.c3
      have t4 := HT5.out.c4
      have t5 := HT5.out.c5
      have f3 := HT5.out.fz 3
      have f4 := HT5.out.fz 4
      have f5 := HT5.out.fz 5
      go_upto_block 0 with fail
      have hc7 : Ch (fun k => k = T) w5 (((w5.setCell ⟨T, 3, none⟩ (.string so)).setCell ⟨T, 4, none⟩ (.int .i64 (ln1 rc (L + nl r - nl rc)))).setCell ⟨T, 5, none⟩ (.int .i64 cl)) :=
        ((Ch.setCell (T := fun k => k = T) (Ch.refl _ _) (p := ⟨T, 3, none⟩) (fun _ => rfl) _).setCell (p := ⟨T, 4, none⟩) (fun _ => rfl) _).setCell (p := ⟨T, 5, none⟩) (fun _ => rfl) _
      have hsz : (((w5.setCell ⟨T, 3, none⟩ (.string so)).setCell ⟨T, 4, none⟩ (.int .i64 (ln1 rc (L + nl r - nl rc)))).setCell ⟨T, 5, none⟩ (.int .i64 cl)).heap.size = w5.heap.size := by simp [World.setCell]
      have HT6 := Lib.hid (HT5.out.pos so (ln1 rc (L + nl r - nl rc)) cl)
      have HR6 := Lib.hid (HR5.out.keep hc7 (by omega))
      have HB6 := Lib.hid (HB5.out.keep hc7 (by have := HE.out.l2; omega) (by have := HE.out.l2; omega) (by have := HE.out.ml; omega))
      have HL6 := Lib.hid (HL5.out.keep hc7 (by have := HE.out.xl; omega))
      have HC6 := Lib.hid (HC5.out.trans' hc7 (fun k hk e => by omega))
      have HD6 := Lib.hid (HD5.out.keep hc7 (fun k hk e => by have := HE.out.tr k hk; omega) (by have := HE.out.l2; omega))
      have HS6 := HD6.out.buf
      clear hc7 HT5 HR5 HB5 HL5 HC5 HD5
      generalize (((w5.setCell ⟨T, 3, none⟩ (.string so)).setCell ⟨T, 4, none⟩ (.int .i64 (ln1 rc (L + nl r - nl rc)))).setCell ⟨T, 5, none⟩ (.int .i64 cl)) = w6 at HT6 HR6 HB6 HL6 HC6 HD6 HS6 hsz ⊢
      have hca : Ch (fun _ => False) w6 (w6.alloc (.cells #[.slice none 0 0, .int .i64 0, .int .i8 0] 79)) := (Ch.refl _ _).alloc _
      rw [hsz] at HS6
      refine HQ.out _ _ _ T w5.heap.size so cl ?_ ?_ ⟨HS6, HT6.out.keep hca id, HR6.out.keep hca id, HB6.out.keep hca id id id, HL6.out.keep hca id, HC6.out.trans (hca.mono fun _ _ h => h.elim), hT, nR, by omega, tl5, rl5⟩
      · assumption
      · exact frW_mk rfl rfl rfl rfl rfl rfl rfl rfl rfl
    · have g41 : (v9 == 41) = false := by simpa using h41
      clear h41
      have hx2 := HL3.out.c2
      obtain ⟨v2, l2⟩ := hx2
      have z2 := HL3.out.fz 2
      have hcx : Ch (fun k => k = X) w3 (w3.setCell ⟨X, 2, none⟩ (.bool false)) := Ch.setCell (T := fun k => k = X) (Ch.refl _ _) (p := ⟨X, 2, none⟩) (fun _ => rfl) _
      have nX := HE.out.nX
      have nTX : ¬ T = X := by have := HE.out.xl; omega
      have nRX : ¬ R = X := by have := HE.out.xl; omega
      have HT5 := Lib.hid (HT3.out.keep hcx nTX)
      have HR5 := Lib.hid (HR3.out.keep hcx nRX)
      have HB5 := Lib.hid (HB3.out.keep hcx (fun e => HE.out.low 0 (by simp) (.inr e)) (fun e => HE.out.low 1 (by simp) (.inr e)) (fun e => HE.out.low bm (by simp) (.inr e)))
      have HL5 := Lib.hid (HL3.out.set2 false)
      have HC5 := Lib.hid (HC3.out.trans (hcx.mono fun _ _ h => .inr h))
      have HD5 := Lib.hid (HD3.out.keep hcx (fun k hk e => nX (e ▸ hk)) (fun e => HE.out.low 2 (by simp) (.inr e)))
      clear hcx
      clear HT3 HR3 HB3 HL3 HC3 HD3
      go_upto_region 11 with fail
      generalize hW5 : (w3.setCell ⟨X, 2, none⟩ (.bool false)) = w5 at HT5 HR5 HB5 HL5 HC5 HD5 ⊢
      clear hW5 l2 z2
      obtain ⟨so, q0⟩ := HD5.out.z0
      obtain ⟨cl, q2⟩ := HD5.out.z2
      have q1 := HD5.out.ln
      have tl5 := HT5.out.lt
      have rl5 := HR5.out.lt
      have zl5 := HD5.out.size b.Z (.inl rfl)
      have t3 := HT5.out.c3
      have t4 := HT5.out.c4
      have t5 := HT5.out.c5
      have f3 := HT5.out.fz 3
      have f4 := HT5.out.fz 4
      have f5 := HT5.out.fz 5
      go_upto_block 0 with fail
      have hc7 : Ch (fun k => k = T) w5 (((w5.setCell ⟨T, 3, none⟩ (.string so)).setCell ⟨T, 4, none⟩ (.int .i64 (ln1 rc (L + nl r - nl rc)))).setCell ⟨T, 5, none⟩ (.int .i64 cl)) :=
        ((Ch.setCell (T := fun k => k = T) (Ch.refl _ _) (p := ⟨T, 3, none⟩) (fun _ => rfl) _).setCell (p := ⟨T, 4, none⟩) (fun _ => rfl) _).setCell (p := ⟨T, 5, none⟩) (fun _ => rfl) _
      have hsz : (((w5.setCell ⟨T, 3, none⟩ (.string so)).setCell ⟨T, 4, none⟩ (.int .i64 (ln1 rc (L + nl r - nl rc)))).setCell ⟨T, 5, none⟩ (.int .i64 cl)).heap.size = w5.heap.size := by simp [World.setCell]
      have HT6 := Lib.hid (HT5.out.pos so (ln1 rc (L + nl r - nl rc)) cl)
      have HR6 := Lib.hid (HR5.out.keep hc7 (by omega))
      have HB6 := Lib.hid (HB5.out.keep hc7 (by have := HE.out.l2; omega) (by have := HE.out.l2; omega) (by have := HE.out.ml; omega))
      have HL6 := Lib.hid (HL5.out.keep hc7 (by have := HE.out.xl; omega))
      have HC6 := Lib.hid (HC5.out.trans' hc7 (fun k hk e => by omega))
      have HD6 := Lib.hid (HD5.out.keep hc7 (fun k hk e => by have := HE.out.tr k hk; omega) (by have := HE.out.l2; omega))
      have HS6 := HD6.out.buf
      clear hc7 HT5 HR5 HB5 HL5 HC5 HD5
      generalize (((w5.setCell ⟨T, 3, none⟩ (.string so)).setCell ⟨T, 4, none⟩ (.int .i64 (ln1 rc (L + nl r - nl rc)))).setCell ⟨T, 5, none⟩ (.int .i64 cl)) = w6 at HT6 HR6 HB6 HL6 HC6 HD6 HS6 hsz ⊢
      have hca : Ch (fun _ => False) w6 (w6.alloc (.cells #[.slice none 0 0, .int .i64 0, .int .i8 0] 79)) := (Ch.refl _ _).alloc _
      rw [hsz] at HS6
      refine HQ.out _ _ _ T w5.heap.size so cl ?_ ?_ ⟨HS6, HT6.out.keep hca id, HR6.out.keep hca id, HB6.out.keep hca id id id, HL6.out.keep hca id, HC6.out.trans (hca.mono fun _ _ h => h.elim), hT, nR, by omega, tl5, rl5⟩
      · assumption
      · exact frW_mk rfl rfl rfl rfl rfl rfl rfl rfl rfl
  · have g40 : (hd rc == 40) = false := by simpa using h40
    clear h40
    have hx2 := HL3.out.c2
    obtain ⟨v2, l2⟩ := hx2
    have z2 := HL3.out.fz 2
    have hcx : Ch (fun k => k = X) w3 (w3.setCell ⟨X, 2, none⟩ (.bool false)) := Ch.setCell (T := fun k => k = X) (Ch.refl _ _) (p := ⟨X, 2, none⟩) (fun _ => rfl) _
    have nX := HE.out.nX
    have nTX : ¬ T = X := by have := HE.out.xl; omega
    have nRX : ¬ R = X := by have := HE.out.xl; omega
    have HT5 := Lib.hid (HT3.out.keep hcx nTX)
    have HR5 := Lib.hid (HR3.out.keep hcx nRX)
    have HB5 := Lib.hid (HB3.out.keep hcx (fun e => HE.out.low 0 (by simp) (.inr e)) (fun e => HE.out.low 1 (by simp) (.inr e)) (fun e => HE.out.low bm (by simp) (.inr e)))
    have HL5 := Lib.hid (HL3.out.set2 false)
    have HC5 := Lib.hid (HC3.out.trans (hcx.mono fun _ _ h => .inr h))
    have HD5 := Lib.hid (HD3.out.keep hcx (fun k hk e => nX (e ▸ hk)) (fun e => HE.out.low 2 (by simp) (.inr e)))
    clear hcx
    clear HT3 HR3 HB3 HL3 HC3 HD3
    go_upto_region 11 with fail
    generalize hW5 : (w3.setCell ⟨X, 2, none⟩ (.bool false)) = w5 at HT5 HR5 HB5 HL5 HC5 HD5 ⊢
    clear hW5 l2 z2
    obtain ⟨so, q0⟩ := HD5.out.z0
    obtain ⟨cl, q2⟩ := HD5.out.z2
    have q1 := HD5.out.ln
    have tl5 := HT5.out.lt
    have rl5 := HR5.out.lt
    have zl5 := HD5.out.size b.Z (.inl rfl)
    have t3 := HT5.out.c3
    have t4 := HT5.out.c4
    have t5 := HT5.out.c5
    have f3 := HT5.out.fz 3
    have f4 := HT5.out.fz 4
    have f5 := HT5.out.fz 5
    go_upto_block 0 with fail
    have hc7 : Ch (fun k => k = T) w5 (((w5.setCell ⟨T, 3, none⟩ (.string so)).setCell ⟨T, 4, none⟩ (.int .i64 (ln1 rc (L + nl r - nl rc)))).setCell ⟨T, 5, none⟩ (.int .i64 cl)) :=
      ((Ch.setCell (T := fun k => k = T) (Ch.refl _ _) (p := ⟨T, 3, none⟩) (fun _ => rfl) _).setCell (p := ⟨T, 4, none⟩) (fun _ => rfl) _).setCell (p := ⟨T, 5, none⟩) (fun _ => rfl) _
    have hsz : (((w5.setCell ⟨T, 3, none⟩ (.string so)).setCell ⟨T, 4, none⟩ (.int .i64 (ln1 rc (L + nl r - nl rc)))).setCell ⟨T, 5, none⟩ (.int .i64 cl)).heap.size = w5.heap.size := by simp [World.setCell]
    have HT6 := Lib.hid (HT5.out.pos so (ln1 rc (L + nl r - nl rc)) cl)
    have HR6 := Lib.hid (HR5.out.keep hc7 (by omega))
    have HB6 := Lib.hid (HB5.out.keep hc7 (by have := HE.out.l2; omega) (by have := HE.out.l2; omega) (by have := HE.out.ml; omega))
    have HL6 := Lib.hid (HL5.out.keep hc7 (by have := HE.out.xl; omega))
    have HC6 := Lib.hid (HC5.out.trans' hc7 (fun k hk e => by omega))
    have HD6 := Lib.hid (HD5.out.keep hc7 (fun k hk e => by have := HE.out.tr k hk; omega) (by have := HE.out.l2; omega))
    have HS6 := HD6.out.buf
    clear hc7 HT5 HR5 HB5 HL5 HC5 HD5
    generalize (((w5.setCell ⟨T, 3, none⟩ (.string so)).setCell ⟨T, 4, none⟩ (.int .i64 (ln1 rc (L + nl r - nl rc)))).setCell ⟨T, 5, none⟩ (.int .i64 cl)) = w6 at HT6 HR6 HB6 HL6 HC6 HD6 HS6 hsz ⊢
    have hca : Ch (fun _ => False) w6 (w6.alloc (.cells #[.slice none 0 0, .int .i64 0, .int .i8 0] 79)) := (Ch.refl _ _).alloc _
    rw [hsz] at HS6
    refine HQ.out _ _ _ T w5.heap.size so cl ?_ ?_ ⟨HS6, HT6.out.keep hca id, HR6.out.keep hca id, HB6.out.keep hca id id id, HL6.out.keep hca id, HC6.out.trans (hca.mono fun _ _ h => h.elim), hT, nR, by omega, tl5, rl5⟩
    · assumption
    · exact frW_mk rfl rfl rfl rfl rfl rfl rfl rfl rfl

end Go.Proofs.YtbgjjbffpckimaaGreatDoor

namespace Go.Proofs.YtbgjjbffpckimaaGreatDoor
set_option linter.all false
open Go.RowKit

theorem span_app (p : UInt8 → Bool) (r : Bs) : r = r.takeWhile p ++ r.dropWhile p := (List.takeWhile_append_dropWhile).symm
theorem take_mem {p : UInt8 → Bool} {r : Bs} : ∀ c ∈ r.takeWhile p, p c = true := by
  induction r with
  | nil => intro c hc; cases hc
  | cons x t ih =>
    intro c hc
    rw [List.takeWhile_cons] at hc
    by_cases h : p x = true
    · rw [if_pos h] at hc
      rcases List.mem_cons.1 hc with rfl | hc
      · exact h
      · exact ih c hc
    · rw [if_neg h] at hc
      cases hc
theorem drop_hd {p : UInt8 → Bool} {r : Bs} : hdIs p (r.dropWhile p) = false := by
  induction r with
  | nil => rfl
  | cons x t ih =>
    rw [List.dropWhile_cons]
    by_cases h : p x = true
    · rw [if_pos h]; exact ih
    · rw [if_neg h]
      show p x = false
      simpa using h
theorem head_hd {r : Bs} {c : UInt8} : (r.head? == some c) = true ↔ ∃ t, r = c :: t := by
  cases r with
  | nil => simp
  | cons x t =>
    simp
theorem head_no {r : Bs} {c : UInt8} (h : (r.head? == some c) = false) : hd r ≠ (c.toNat : Int) := by
  cases r with
  | nil => rw [hd_e]; omega
  | cons x t =>
    rw [hd_c]
    intro e
    have : x = c := UInt8.toNat_inj.1 (by omega)
    subst this
    simp at h
theorem isDec_not_s {c : UInt8} (h : isDec c = true) : c ≠ 45 ∧ c ≠ 43 := by
  constructor <;> (rintro rfl; exact absurd h (by decide))

theorem tail_of (r : Bs) (h : hasE r = true → 1 ≤ (ptP r).length) : ∃ raw, TailOk (ptR2 r) raw (ptR5 r) ∧ ptR2 r = raw ++ ptR5 r := by
  by_cases he : hasE r = true
  · have hp := h he
    have hP : ptP r = (ptR4 r).takeWhile isDec := by unfold ptP; rw [if_pos he]
    have h5 : ptR5 r = (ptR4 r).dropWhile isDec := by unfold ptR5; rw [if_pos he]
    have h4 : ptR4 r = ptP r ++ ptR5 r := by rw [hP, h5]; exact span_app isDec _
    have hdec : ∀ c ∈ ptP r, isDec c = true := by rw [hP]; exact take_mem
    have hne : ptP r ≠ [] := by intro e; rw [e] at hp; simp at hp
    have hrest : hdIs isDec (ptR5 r) = false := by rw [h5]; exact drop_hd
    obtain ⟨m, r3, hm, h2⟩ : ∃ m r3, (m = 101 ∨ m = 69) ∧ ptR2 r = m :: r3 := by
      unfold hasE at he
      rw [Bool.or_eq_true] at he
      rcases he with he | he
      · obtain ⟨t, ht⟩ := head_hd.1 he
        exact ⟨101, t, .inl rfl, ht⟩
      · obtain ⟨t, ht⟩ := head_hd.1 he
        exact ⟨69, t, .inr rfl, ht⟩
    by_cases hs : hasS r = true
    · have e4 : ptR4 r = (ptR2 r).drop 2 := by unfold ptR4; rw [if_pos hs]
      obtain ⟨s, r4, hs', h3⟩ : ∃ s r4, (s = 45 ∨ s = 43) ∧ r3 = s :: r4 := by
        unfold hasS at hs
        rw [h2] at hs
        simp only [List.drop_succ_cons, List.drop_zero] at hs
        rw [Bool.or_eq_true] at hs
        rcases hs with hs | hs
        · obtain ⟨t, ht⟩ := head_hd.1 hs
          exact ⟨45, t, .inl rfl, ht⟩
        · obtain ⟨t, ht⟩ := head_hd.1 hs
          exact ⟨43, t, .inr rfl, ht⟩
      subst h3
      have e4' : r4 = ptP r ++ ptR5 r := by rw [← h4, e4, h2]; rfl
      refine ⟨m :: s :: ptP r, .inr ⟨m, ptP r, hm, hdec, hne, hrest, .inr ⟨s, hs', ?_, rfl⟩⟩, ?_⟩
      · rw [h2, ← e4']
      · rw [h2, List.cons_append, List.cons_append, ← e4']
    · have e4 : ptR4 r = (ptR2 r).drop 1 := by unfold ptR4; rw [if_neg hs]
      have e4' : r3 = ptP r ++ ptR5 r := by rw [← h4, e4, h2]; rfl
      refine ⟨m :: ptP r, .inr ⟨m, ptP r, hm, hdec, hne, hrest, .inl ⟨?_, rfl⟩⟩, ?_⟩
      · rw [h2, ← e4']
      · rw [h2, List.cons_append, ← e4']
  · have h5 : ptR5 r = ptR2 r := by unfold ptR5; rw [if_neg he]
    have he' : hasE r = false := by simpa using he
    unfold hasE at he'
    rw [Bool.or_eq_false_iff] at he'
    refine ⟨[], .inl ⟨head_no he'.1, head_no he'.2, rfl, h5⟩, ?_⟩
    rw [h5]
    rfl
theorem mid_of (r : Bs) (h : decOk r) : ∃ raw, MidOk (ptR1 r) raw (ptR5 r) ∧ ptR1 r = raw ++ ptR5 r := by
  obtain ⟨raw2, ht, he⟩ := tail_of r (fun hh => (h.2.2.1 hh).1)
  by_cases hdt : hasDot r = true
  · obtain ⟨t, h1⟩ := head_hd.1 (show ((ptR1 r).head? == some 46) = true from hdt)
    have hB : ptB r = t.takeWhile isDec := by unfold ptB; rw [if_pos hdt, h1]; rfl
    have h2 : ptR2 r = t.dropWhile isDec := by unfold ptR2; rw [if_pos hdt, h1]; rfl
    refine ⟨46 :: (ptB r ++ raw2), .inr ⟨ptB r, ptR2 r, raw2, ?_, ?_, ?_, rfl, ht⟩, ?_⟩
    · rw [h1, hB, h2, ← span_app]
    · rw [hB]; exact take_mem
    · rw [h2]; exact drop_hd
    · rw [h1, List.cons_append, List.append_assoc, ← he, hB, h2, ← span_app]
  · have h2 : ptR2 r = ptR1 r := by unfold ptR2; rw [if_neg hdt]
    have hdt' : hasDot r = false := by simpa using hdt
    rw [h2] at ht he
    exact ⟨raw2, .inl ⟨head_no hdt', ht⟩, he⟩

theorem numP_46 (t : Bs) : numP (46 :: t) = .no 2 := by
  unfold numP
  rw [if_neg (by intro h; simp at h), if_neg (by intro h; simp at h)]
  unfold decP
  rw [if_neg]
  intro h
  have hA : ptA (46 :: t) = [] := by unfold ptA; rw [List.takeWhile_cons, if_neg (by decide)]
  have hR : ptR1 (46 :: t) = 46 :: t := by unfold ptR1; rw [List.dropWhile_cons, if_neg (by decide)]
  have hd' : hasDot (46 :: t) = true := by unfold hasDot; rw [hR]; rfl
  exact (h.2.1 hd').1 hA

/-- scanNumber at a numeral that is not open. -/
theorem num_call {c : UInt8} {t rest x : Bs} (h : numP (c :: t) = .ok x rest) (hc : isDec c = true) (h13 : NoCr (c :: t)) (hl : t.length < 5000) :
    ∃ raw, c :: t = raw ++ rest ∧ raw ≠ [] ∧ nl raw = 0 ∧ ∀ (w : World) (b : Bl) (L : Int) (g : Nat), Sb w b t L g [] → Calls Tryz.prog 33 #[ptr b.Z, .int .i64 (c.toNat : Int), ptr g] w (NumPost w b L g raw rest) := by
  unfold numP at h
  by_cases hx : (c :: t).take 2 = [48, 120]
  · rw [if_pos hx] at h
    obtain ⟨u, rfl, rfl⟩ : ∃ u, c = 48 ∧ t = 120 :: u := by
      cases t with
      | nil => simp at hx
      | cons y u =>
        simp at hx
        exact ⟨u, hx.1, by rw [hx.2]⟩
    unfold hexP at h
    simp only [List.drop_succ_cons, List.drop_zero] at h
    by_cases hh : 1 ≤ (u.takeWhile isHex).length ∧ (u.takeWhile isHex).length ≤ 12
    · rw [if_pos hh] at h
      simp only [] at h
      by_cases hne : numEnd (u.dropWhile isHex) = true
      · rw [if_pos hne] at h
        injection h with h1 h2
        subst h2
        refine ⟨48 :: 120 :: u.takeWhile isHex, ?_, by simp, ?_, ?_⟩
        · rw [List.cons_append, List.cons_append, ← span_app]
        · rw [nl_cons, nl_cons, if_neg (by decide), if_neg (by decide)]
          have : ∀ a : Bs, (∀ c ∈ a, isHex c = true) → nl a = 0 := by
            intro a
            induction a with
            | nil => intro _; rfl
            | cons y a ih =>
              intro ha
              rw [nl_cons, ih fun x hx => ha x (by simp [hx]), if_neg]
              · rfl
              · rintro rfl
                exact absurd (ha 10 (by simp)) (by decide)
          rw [this _ take_mem]
          rfl
        · intro w b L g hs
          have e := span_app isHex u
          rw [e] at hs
          have := num_hex (Lib.hid hs) take_mem (by intro e0; rw [e0] at hh; simp at hh) drop_hd (by rw [← e]; exact h13.tail) (by rw [← e]; simp at hl ⊢; omega)
          simpa using this
      · rw [if_neg hne] at h
        cases h
    · rw [if_neg hh] at h
      cases h
  · rw [if_neg hx] at h
    by_cases hX : (c :: t).take 2 = [48, 88]
    · rw [if_pos hX] at h
      cases h
    · rw [if_neg hX] at h
      unfold decP at h
      by_cases hok : decOk (c :: t)
      · rw [if_pos hok] at h
        cases hnm : numeral (runv (runv 0 (ptA (c :: t))) (ptB (c :: t))) (expo (c :: t)) with
        | none => rw [hnm] at h; cases h
        | some y =>
          rw [hnm] at h
          simp only [] at h
          by_cases hne : numEnd (ptR5 (c :: t)) = true
          · rw [if_pos hne] at h
            injection h with h1 h2
            subst h2
            obtain ⟨raw1, hm, he⟩ := mid_of _ hok
            have hA : ptA (c :: t) = c :: t.takeWhile isDec := by unfold ptA; rw [List.takeWhile_cons, if_pos hc]
            have hR : ptR1 (c :: t) = t.dropWhile isDec := by unfold ptR1; rw [List.dropWhile_cons, if_pos hc]
            rw [hR] at hm he
            have hsplit : t = t.takeWhile isDec ++ t.dropWhile isDec := span_app isDec t
            have hnl1 : nl raw1 = 0 := by
              rcases hm with ⟨_, ht⟩ | ⟨f, r2, raw2, _, hf, _, rfl, ht⟩
              · rcases ht with ⟨_, _, rfl, _⟩ | ⟨m, p, hmm, hp, _, _, ⟨_, rfl⟩ | ⟨s, hs, _, rfl⟩⟩
                · rfl
                · rw [nl_cons, nl_dec hp, if_neg (by rcases hmm with rfl | rfl <;> decide)]; rfl
                · rw [nl_cons, nl_cons, nl_dec hp, if_neg (by rcases hmm with rfl | rfl <;> decide), if_neg (by rcases hs with rfl | rfl <;> decide)]; rfl
              · rw [nl_cons, nl_app, nl_dec hf, if_neg (by decide)]
                rcases ht with ⟨_, _, rfl, _⟩ | ⟨m, p, hmm, hp, _, _, ⟨_, rfl⟩ | ⟨s, hs, _, rfl⟩⟩
                · rfl
                · rw [nl_cons, nl_dec hp, if_neg (by rcases hmm with rfl | rfl <;> decide)]; rfl
                · rw [nl_cons, nl_cons, nl_dec hp, if_neg (by rcases hmm with rfl | rfl <;> decide), if_neg (by rcases hs with rfl | rfl <;> decide)]; rfl
            refine ⟨c :: (t.takeWhile isDec ++ raw1), ?_, by simp, ?_, ?_⟩
            · rw [List.cons_append, List.append_assoc, ← he, ← hsplit]
            · rw [nl_cons, nl_app, nl_dec take_mem, hnl1, if_neg (by rintro rfl; exact absurd hc (by decide))]; rfl
            · intro w b L g hs
              by_cases h48 : c = 48
              · subst h48
                have ha : t.takeWhile isDec = [] := by
                  have := hok.1
                  rw [hA] at this
                  cases h0 : t.takeWhile isDec with
                  | nil => rfl
                  | cons y u => rw [h0] at this; simp at this
                have hd0 : t.dropWhile isDec = t := by
                  have := hsplit
                  rw [ha, List.nil_append] at this
                  exact this.symm
                rw [hd0] at hm
                have q120 : hd t ≠ 120 := by
                  cases t with
                  | nil => simp [hd]
                  | cons y u =>
                    rw [hd_c]
                    intro e
                    have : y = 120 := UInt8.toNat_inj.1 (by show y.toNat = 120; omega)
                    subst this
                    exact hx rfl
                have q88 : hd t ≠ 88 := by
                  cases t with
                  | nil => simp [hd]
                  | cons y u =>
                    rw [hd_c]
                    intro e
                    have : y = 88 := UInt8.toNat_inj.1 (by show y.toNat = 88; omega)
                    subst this
                    exact hX rfl
                have hdd : hdIs isDec t = false := by rw [← hd0]; exact drop_hd
                have := num_dec0 (Lib.hid hs) hdd q120 q88 hm h13.tail (by simp; omega)
                rw [ha]
                simpa using this
              · rw [hsplit] at hs
                have := num_dec (c := c) (Lib.hid hs) hc h48 take_mem drop_hd hm (by rw [← hsplit]; exact h13.tail) (by rw [← hsplit]; simp; omega)
                simpa using this
          · rw [if_neg hne] at h
            cases h
      · rw [if_neg hok] at h
        cases h

theorem numP_no {r : Bs} {k : Nat} (h : numP r = .no k) : k = 2 := by
  unfold numP at h
  have h1 : ∀ j, (if r.take 2 = [48, 120] then hexP (r.drop 2) else if r.take 2 = [48, 88] then .no 2 else decP r) = .no j → j = 2 := by
    intro j hj
    by_cases hx : r.take 2 = [48, 120]
    · rw [if_pos hx] at hj
      unfold hexP at hj
      split at hj
      · cases hj
      · injection hj with hj; exact hj.symm
    · rw [if_neg hx] at hj
      by_cases hX : r.take 2 = [48, 88]
      · rw [if_pos hX] at hj
        injection hj with hj; exact hj.symm
      · rw [if_neg hX] at hj
        unfold decP at hj
        split at hj
        · split at hj
          · cases hj
          · injection hj with hj; exact hj.symm
        · injection hj with hj; exact hj.symm
  generalize (if r.take 2 = [48, 120] then hexP (r.drop 2) else if r.take 2 = [48, 88] then .no 2 else decP r) = y at h h1
  cases y with
  | ok x r' =>
    simp only [] at h
    split at h
    · cases h
    · injection h with h; exact h.symm
  | no j =>
    simp only [] at h
    injection h with h
    subst h
    exact h1 j rfl

theorem sg_43 (t : Bs) : signP (43 :: t) = .ok [43] t := by
  unfold signP
  rw [if_neg (by intro h; simp at h)]
  rfl

theorem sg_42 (t : Bs) : signP (42 :: t) = .ok [42] t := by
  unfold signP
  rw [if_neg (by intro h; simp at h)]
  rfl

theorem sg_47 (t : Bs) : signP (47 :: t) = .ok [47] t := by
  unfold signP
  rw [if_neg (by intro h; simp at h)]
  rfl

theorem sg_37 (t : Bs) : signP (37 :: t) = .ok [37] t := by
  unfold signP
  rw [if_neg (by intro h; simp at h)]
  rfl

theorem sg_94 (t : Bs) : signP (94 :: t) = .ok [94] t := by
  unfold signP
  rw [if_neg (by intro h; simp at h)]
  rfl

theorem sg_35 (t : Bs) : signP (35 :: t) = .ok [35] t := by
  unfold signP
  rw [if_neg (by intro h; simp at h)]
  rfl

theorem sg_40 (t : Bs) : signP (40 :: t) = .ok [40] t := by
  unfold signP
  rw [if_neg (by intro h; simp at h)]
  rfl

theorem sg_41 (t : Bs) : signP (41 :: t) = .ok [41] t := by
  unfold signP
  rw [if_neg (by intro h; simp at h)]
  rfl

theorem sg_123 (t : Bs) : signP (123 :: t) = .ok [123] t := by
  unfold signP
  rw [if_neg (by intro h; simp at h)]
  rfl

theorem sg_125 (t : Bs) : signP (125 :: t) = .ok [125] t := by
  unfold signP
  rw [if_neg (by intro h; simp at h)]
  rfl

theorem sg_93 (t : Bs) : signP (93 :: t) = .ok [93] t := by
  unfold signP
  rw [if_neg (by intro h; simp at h)]
  rfl

theorem sg_59 (t : Bs) : signP (59 :: t) = .ok [59] t := by
  unfold signP
  rw [if_neg (by intro h; simp at h)]
  rfl

theorem sg_44 (t : Bs) : signP (44 :: t) = .ok [44] t := by
  unfold signP
  rw [if_neg (by intro h; simp at h)]
  rfl

theorem sg_45a (t : Bs) (h : hd t ≠ 45) : signP (45 :: t) = .ok [45] t := by
  unfold signP
  rw [if_neg (by intro h; simp at h)]
  cases t with
  | nil => rfl
  | cons x u =>
    have hx : (45 == x) = false := by
      rw [beq_eq_false_iff_ne]
      rintro rfl
      exact h rfl
    simp [sgns, List.find?, List.isPrefixOf, hx]

theorem sg_61a (t : Bs) (h : hd t ≠ 61) : signP (61 :: t) = .ok [61] t := by
  unfold signP
  rw [if_neg (by intro h; simp at h)]
  cases t with
  | nil => rfl
  | cons x u =>
    have hx : (61 == x) = false := by
      rw [beq_eq_false_iff_ne]
      rintro rfl
      exact h rfl
    simp [sgns, List.find?, List.isPrefixOf, hx]

theorem sg_60a (t : Bs) (h : hd t ≠ 61) : signP (60 :: t) = .ok [60] t := by
  unfold signP
  rw [if_neg (by intro h; simp at h)]
  cases t with
  | nil => rfl
  | cons x u =>
    have hx : (61 == x) = false := by
      rw [beq_eq_false_iff_ne]
      rintro rfl
      exact h rfl
    simp [sgns, List.find?, List.isPrefixOf, hx]

theorem sg_62a (t : Bs) (h : hd t ≠ 61) : signP (62 :: t) = .ok [62] t := by
  unfold signP
  rw [if_neg (by intro h; simp at h)]
  cases t with
  | nil => rfl
  | cons x u =>
    have hx : (61 == x) = false := by
      rw [beq_eq_false_iff_ne]
      rintro rfl
      exact h rfl
    simp [sgns, List.find?, List.isPrefixOf, hx]

theorem sg_61b (t : Bs) : signP (61 :: 61 :: t) = .ok [61, 61] t := by
  unfold signP
  rw [if_neg (by intro h; simp at h)]
  rfl

theorem sg_126b (t : Bs) : signP (126 :: 61 :: t) = .ok [126, 61] t := by
  unfold signP
  rw [if_neg (by intro h; simp at h)]
  rfl

theorem sg_60b (t : Bs) : signP (60 :: 61 :: t) = .ok [60, 61] t := by
  unfold signP
  rw [if_neg (by intro h; simp at h)]
  rfl

theorem sg_62b (t : Bs) : signP (62 :: 61 :: t) = .ok [62, 61] t := by
  unfold signP
  rw [if_neg (by intro h; simp at h)]
  rfl

theorem sg_126a (t : Bs) (h : hd t ≠ 61) : signP (126 :: t) = .no 1 := by
  unfold signP
  rw [if_neg (by intro h; simp at h)]
  cases t with
  | nil => rfl
  | cons x u =>
    have hx : (61 == x) = false := by
      rw [beq_eq_false_iff_ne]
      rintro rfl
      exact h rfl
    simp [sgns, List.find?, List.isPrefixOf, hx]
theorem sg_58 (t : Bs) (h : hd t ≠ 58) : signP (58 :: t) = .ok [58] t := by
  unfold signP
  cases t with
  | nil => rfl
  | cons x u =>
    have hx : x ≠ 58 := by
      rintro rfl
      exact h rfl
    rw [if_neg (by intro h; simp at h; exact hx h)]
    rfl
theorem sg_58b (t : Bs) (h : hd t = 58) : signP (58 :: t) = .no 2 := by
  cases t with
  | nil => simp [hd] at h
  | cons x u =>
    have hx : x = 58 := UInt8.toNat_inj.1 (by rw [hd_c] at h; show x.toNat = 58; omega)
    subst hx
    rfl
theorem sg_91 (t : Bs) (h : hd t ≠ 61) : signP (91 :: t) = .ok [91] t := by
  unfold signP
  cases t with
  | nil => rfl
  | cons x u =>
    have hx : x ≠ 61 := by
      rintro rfl
      exact h rfl
    rw [if_neg (by intro h; simp at h; exact hx h)]
    rfl
theorem sg_91b (t : Bs) (h : hd t = 61) : signP (91 :: t) = .no 2 := by
  cases t with
  | nil => simp [hd] at h
  | cons x u =>
    have hx : x = 61 := UInt8.toNat_inj.1 (by rw [hd_c] at h; show x.toNat = 61; omega)
    subst hx
    rfl
theorem sg_46c (t : Bs) : signP (46 :: 46 :: 46 :: t) = .ok [46, 46, 46] t := by
  unfold signP
  rw [if_neg (by intro h; simp at h)]
  rfl
theorem sg_46b (t : Bs) (h : hd t ≠ 46) : signP (46 :: 46 :: t) = .ok [46, 46] t := by
  unfold signP
  rw [if_neg (by intro h; simp at h)]
  cases t with
  | nil => rfl
  | cons x u =>
    have hx : (46 == x) = false := by
      rw [beq_eq_false_iff_ne]
      rintro rfl
      exact h rfl
    simp [sgns, List.find?, List.isPrefixOf, hx]
theorem sg_46a (t : Bs) (h : hd t ≠ 46) : signP (46 :: t) = .ok [46] t := by
  unfold signP
  rw [if_neg (by intro h; simp at h)]
  cases t with
  | nil => rfl
  | cons x u =>
    have hx : (46 == x) = false := by
      rw [beq_eq_false_iff_ne]
      rintro rfl
      exact h rfl
    simp [sgns, List.find?, List.isPrefixOf, hx]
theorem sgns_fst : ∀ s ∈ sgns, ∃ c t, s = c :: t ∧ c.toNat ∈ [45, 91, 61, 126, 60, 62, 46, 58, 43, 42, 47, 37, 94, 35, 40, 41, 123, 125, 93, 59, 44] := by
  have h : ∀ s ∈ sgns, s.head?.any (fun c => [45, 91, 61, 126, 60, 62, 46, 58, 43, 42, 47, 37, 94, 35, 40, 41, 123, 125, 93, 59, 44].contains c.toNat) = true := by decide
  intro s hs
  have := h s hs
  cases s with
  | nil => simp at this
  | cons c t => exact ⟨c, t, rfl, by simpa using this⟩
theorem sg_bad {c : UInt8} {t s r' : Bs} (hc : ∀ n ∈ [45, 91, 61, 126, 60, 62, 46, 58, 43, 42, 47, 37, 94, 35, 40, 41, 123, 125, 93, 59, 44], c.toNat ≠ n) : signP (c :: t) ≠ .ok s r' := by
  unfold signP
  intro h
  split at h
  · cases h
  · split at h
    · rename_i s' hf
      have hm := List.mem_of_find?_eq_some hf
      have hp := List.find?_some hf
      obtain ⟨x, u, rfl, hx⟩ := sgns_fst _ hm
      simp only [List.isPrefixOf, Bool.and_eq_true, beq_iff_eq] at hp
      exact hc x.toNat hx (by rw [hp.1])
    · split at h <;> cases h

end Go.Proofs.YtbgjjbffpckimaaGreatDoor

namespace Go.Proofs.YtbgjjbffpckimaaGreatDoor
set_option linter.all false
open Go.RowKit

/-- The first token of a text, with the text from it on and what is left; what is told of the text. -/
inductive First : Bs → Option (Tok × Bs × Bs) → Nat → Prop
  | nil : First [] none 0
  | ws {c : UInt8} {t : Bs} {o : Option (Tok × Bs × Bs)} {k : Nat} (hc : isSp c = true) (h : First t o k) : First (c :: t) o k
  | com {r r' : Bs} {o : Option (Tok × Bs × Bs)} {k : Nat} (hc : comP r = .ok () r') (h : First r' o k) : First (45 :: 45 :: r) o k
  | comNo {r : Bs} {k : Nat} (hc : comP r = .no k) : First (45 :: 45 :: r) none k
  | tok {c : UInt8} {r r' : Bs} {t : Tok} (h0 : isSp c = false) (h1 : ¬ (c = 45 ∧ r.head? = some 45)) (hn : nextP (c :: r) = .ok t r') : First (c :: r) (some (t, c :: r, r')) 0
  | no {c : UInt8} {r : Bs} {k : Nat} (h0 : isSp c = false) (h1 : ¬ (c = 45 ∧ r.head? = some 45)) (hn : nextP (c :: r) = .no k) : First (c :: r) none k

theorem longB_no {n : Nat} : ∀ {t : Bs} {k : Nat}, longB n t = .no k → k = 1 ∨ k = 2
  | [], k, h => by injection h with h; exact .inl h.symm
  | c :: t, k, h => by
    rw [longB] at h
    split at h
    · cases h
    · split at h
      · injection h with h; exact .inr h.symm
      · cases hx : longB n t with
        | ok a r => rw [hx] at h; cases h
        | no j =>
          rw [hx] at h
          injection h with h
          subst h
          exact longB_no hx
theorem comP_no {r : Bs} {k : Nat} (h : comP r = .no k) : k = 1 ∨ k = 2 := by
  unfold comP at h
  split at h
  · rename_i n _
    cases hx : longB n (cut10 (r.drop (n + 2))) with
    | ok a r => rw [hx] at h; cases h
    | no j =>
      rw [hx] at h
      injection h with h
      subst h
      exact longB_no hx
  · split at h
    · injection h with h; exact .inr h.symm
    · cases h
theorem strB_no {q : UInt8} (n : Nat) : ∀ {t : Bs} {k : Nat}, t.length ≤ n → strB q t = .no k → k = 1 ∨ k = 2 := by
  induction n with
  | zero =>
    intro t k hl h
    have : t = [] := List.length_eq_zero_iff.1 (by omega)
    subst this
    rw [strB_nil] at h
    injection h with h
    exact .inl h.symm
  | succ n ih =>
    intro t k hl h
    have hm : ∀ (f : Bs → Bs) (u : Bs), u.length ≤ n → (strB q u).map f = .no k → k = 1 ∨ k = 2 := by
      intro f u hu hx
      cases hy : strB q u with
      | ok a r => rw [hy] at hx; cases hx
      | no j =>
        rw [hy] at hx
        injection hx with hx
        subst hx
        exact ih hu hy
    rw [strB.eq_def] at h
    cases t with
    | nil => injection h with h; exact .inl h.symm
    | cons c t =>
      simp only [List.length_cons] at hl
      simp only [] at h
      split at h
      · injection h with h; exact .inl h.symm
      · split at h
        · cases h
        · split at h
          · cases t with
            | nil => injection h with h; exact .inl h.symm
            | cons d u =>
              simp only [List.length_cons] at hl
              simp only [] at h
              split at h
              · rename_i hd
                split at h
                · exact hm _ _ (by have := dig3_le d u hd; omega) h
                · injection h with h; exact .inr h.symm
              · split at h
                · exact hm _ _ (by omega) h
                · injection h with h; exact .inr h.symm
          · exact hm _ _ (by omega) h
theorem signP_no {r : Bs} {k : Nat} (h : signP r = .no k) : k = 1 ∨ k = 2 := by
  unfold signP at h
  split at h
  · injection h with h; exact .inr h.symm
  · split at h
    · cases h
    · split at h
      · injection h with h; exact .inr h.symm
      · injection h with h; exact .inl h.symm
theorem map_no' {α β : Type} {f : α → β} {x : Rz α} {k : Nat} (h : x.map f = .no k) : x = .no k := by
  cases x with
  | ok a r => cases h
  | no j => injection h with h; rw [h]
theorem map_ok {α β : Type} {f : α → β} {x : Rz α} {y : β} {r : Bs} (h : x.map f = .ok y r) : ∃ a, x = .ok a r ∧ f a = y := by
  cases x with
  | ok a r' =>
    injection h with h1 h2
    subst h2
    exact ⟨a, rfl, h1⟩
  | no j => cases h
theorem nextP_cons (c : UInt8) (t : Bs) : nextP (c :: t) = if isLet c then nameP (c :: t)
    else if isDec c || (c == 46 && t.head?.any isDec) then
      match numP (c :: t) with
      | .ok x r' => .ok ⟨4, x, (c :: t).take ((c :: t).length - r'.length)⟩ r'
      | .no k => .no k
    else if c = 34 ∨ c = 39 then (strB c t).map fun x => ⟨5, x, x⟩
    else match brk 91 (c :: t) with
      | some k => (longB k (cut10 ((c :: t).drop (k + 2)))).map fun x => ⟨5, x, x⟩
      | none => (signP (c :: t)).map fun x => ⟨3, x, x⟩ := rfl
theorem nextP_no {r : Bs} {k : Nat} (h : nextP r = .no k) : k = 1 ∨ k = 2 := by
  cases r with
  | nil => injection h with h; exact .inr h.symm
  | cons c t =>
    rw [nextP_cons] at h
    split at h
    · unfold nameP at h
      split at h
      · injection h with h; exact .inr h.symm
      · cases h
    · split at h
      · split at h
        · cases h
        · rename_i hk
          injection h with h
          subst h
          exact .inr (numP_no hk)
      · split at h
        · exact strB_no t.length (Nat.le_refl _) (map_no' h)
        · split at h
          · exact longB_no (map_no' h)
          · exact signP_no (map_no' h)
theorem First.code {r : Bs} {k : Nat} : ∀ {o : Option (Tok × Bs × Bs)}, First r o k → k = 0 ∨ k = 1 ∨ k = 2 := by
  intro o h
  induction h with
  | nil => exact .inl rfl
  | ws _ _ ih => exact ih
  | com _ _ ih => exact ih
  | comNo hc => exact .inr (comP_no hc)
  | tok => exact .inl rfl
  | no _ _ hn => exact .inr (nextP_no hn)

theorem Lx.first {r : Bs} {ts : List (Tok × Bs)} {k : Nat} (h : Lx r ts k) :
    (First r none k ∧ ts = []) ∨ (∃ t at' r' ts', First r (some (t, at', r')) 0 ∧ ts = (t, at') :: ts' ∧ Lx r' ts' k) := by
  induction h with
  | nil => exact .inl ⟨.nil, rfl⟩
  | ws hc _ ih =>
    rcases ih with ⟨h1, h2⟩ | ⟨t, a, r', ts', h1, h2, h3⟩
    · exact .inl ⟨.ws hc h1, h2⟩
    · exact .inr ⟨t, a, r', ts', .ws hc h1, h2, h3⟩
  | com hc _ ih =>
    rcases ih with ⟨h1, h2⟩ | ⟨t, a, r', ts', h1, h2, h3⟩
    · exact .inl ⟨.com hc h1, h2⟩
    · exact .inr ⟨t, a, r', ts', .com hc h1, h2, h3⟩
  | comNo hc => exact .inl ⟨.comNo hc, rfl⟩
  | tok h0 h1 hn h _ => exact .inr ⟨_, _, _, _, .tok h0 h1 hn, rfl, h⟩
  | no h0 h1 hn => exact .inl ⟨.no h0 h1 hn, rfl⟩

/-- Blanks ahead change nothing. -/
theorem First.skip {r : Bs} {o : Option (Tok × Bs × Bs)} {k : Nat} (h : First r o k) : First (r.dropWhile isSp) o k := by
  induction h with
  | nil => exact .nil
  | ws hc _ ih => rw [List.dropWhile_cons, if_pos hc]; exact ih
  | com hc h _ => rw [List.dropWhile_cons, if_neg (by decide)]; exact .com hc h
  | comNo hc => rw [List.dropWhile_cons, if_neg (by decide)]; exact .comNo hc
  | tok h0 h1 hn => rw [List.dropWhile_cons, if_neg (by rw [h0]; simp)]; exact .tok h0 h1 hn
  | no h0 h1 hn => rw [List.dropWhile_cons, if_neg (by rw [h0]; simp)]; exact .no h0 h1 hn
theorem First.tail10 {t : Bs} {o : Option (Tok × Bs × Bs)} {k : Nat} (h : First (10 :: t) o k) : First t o k := by
  generalize hr : (10 : UInt8) :: t = r at h
  cases h with
  | nil => cases hr
  | ws hc h => injection hr with h1 h2; subst h2; exact h
  | com hc h => injection hr with h1 h2; exact absurd h1 (by decide)
  | comNo hc => injection hr with h1 h2; exact absurd h1 (by decide)
  | tok h0 => injection hr with h1 h2; subst h1; exact absurd h0 (by decide)
  | no h0 => injection hr with h1 h2; subst h1; exact absurd h0 (by decide)

theorem longB_suf {n : Nat} : ∀ {t s r : Bs}, longB n t = .ok s r → ∃ p, t = p ++ r
  | [], s, r, h => by cases h
  | c :: t, s, r, h => by
    rw [longB] at h
    split at h
    · injection h with h1 h2
      subst h2
      exact ⟨c :: t.take (n + 1), by rw [List.cons_append, List.take_append_drop]⟩
    · split at h
      · cases h
      · obtain ⟨a, ha, _⟩ := map_ok h
        obtain ⟨p, hp⟩ := longB_suf ha
        exact ⟨c :: p, by rw [List.cons_append, ← hp]⟩
theorem cut10_suf (t : Bs) : ∃ p, t = p ++ cut10 t := by
  cases t with
  | nil => exact ⟨[], rfl⟩
  | cons c t =>
    rw [cut10_c]
    split
    · exact ⟨[c], rfl⟩
    · exact ⟨[], rfl⟩
theorem comP_suf {r r' : Bs} (h : comP r = .ok () r') : ∃ p, r = p ++ r' := by
  unfold comP at h
  split at h
  · rename_i n _
    obtain ⟨a, ha, _⟩ := map_ok h
    obtain ⟨p, hp⟩ := longB_suf ha
    obtain ⟨q, hq⟩ := cut10_suf (r.drop (n + 2))
    exact ⟨r.take (n + 2) ++ (q ++ p), by rw [List.append_assoc, List.append_assoc, ← hp, ← hq, List.take_append_drop]⟩
  · split at h
    · cases h
    · injection h with h1 h2
      exact ⟨r.takeWhile (· != 10), by rw [← h2]; exact span_app _ r⟩

/-- What Scan gives of a text. -/
def ScanPost (o : Option (Tok × Bs × Bs)) (k : Nat) (C : Int) (w0 : World) (b : Bl) (X bm : Nat) (obj : Obj) (e : Ending) (w' : World) : Prop :=
  (o = none ∧ k = 0 ∧ ∃ L' st ln, ScanOut w0 b [] L' X bm obj (-1) st ln .nilIface e w') ∨
  (∃ t a r' L' ty st, o = some (t, a, r') ∧ TyOk t.kind t.raw ty st ∧ ScanOut w0 b r' L' X bm obj ty ⟨st.toArray⟩ (C - nl a) .nilIface e w' ∧ (r' = [] ∨ L' + nl r' = C) ∧ ty ≠ -1 ∧ NoCr r') ∨
  (k ≠ 0 ∧ ∃ r' L' ty st ln p, ScanOut w0 b r' L' X bm obj ty st ln (.iface 89 (ptr p)) e w')

/-- At Scan's end all is told. -/
def Told (P : Ending → World → Prop) (w0 : World) (b : Bl) (X R bm : Nat) (obj : Obj) (a : Act) (w : World) : Prop :=
  ∃ T er r' L' ty st so ln cl, FrE b X R T er a ∧ Fin w0 b r' L' X R T bm obj ty st so ln cl w ∧ ty < 57402 ∧ (∀ e w2, ScanOut w0 b r' L' X bm obj ty st ln er e w2 → P e w2)
/-- Scan begins anew behind a comment. -/
def Again (w0 : World) (b : Bl) (X R bm : Nat) (obj : Obj) (o : Option (Tok × Bs × Bs)) (k : Nat) (C : Int) (n : Nat) (a : Act) (w : World) : Prop :=
  ∃ r L, FrS b X R a ∧ Pre w0 b r L X R bm obj w ∧ First r o k ∧ NoCr r ∧ (r = [] ∨ L + nl r = C) ∧ r.length = n

theorem fin12_told {P : Ending → World → Prop} {J : Nat → Act → World → Prop} {w0 w : World} {b : Bl} {X R bm : Nat} {obj : Obj} {a : Act} (HE : Hid (Env w0 b X bm)) (h : Told P w0 b X R bm obj a w) : fin12.wp Tryz.prog (Exit.jumps J (bodyPost Tryz.prog Tryz.f17 P)) a w := by
  obtain ⟨T, er, r', L', ty, st, so, ln, cl, ⟨u, rfl⟩, hf, hty, hp⟩ := h
  exact scan_fin u HE (Lib.hid hf) hty hp
theorem rest12_eq : rest12 1 = Code.skip.seq fin12 := by kernel_rfl
theorem rest12_told {P : Ending → World → Prop} {J : Nat → Act → World → Prop} {w0 w : World} {b : Bl} {X R bm : Nat} {obj : Obj} {a : Act} (HE : Hid (Env w0 b X bm)) (h : Told P w0 b X R bm obj a w) : (rest12 1).wp Tryz.prog (Exit.jumps J (bodyPost Tryz.prog Tryz.f17 P)) a w := by
  rw [rest12_eq]
  exact wp_seq (wp_skip (fin12_told HE h))
theorem lab12_eq : lab12 = (Code.label 1).seq fin12 := by kernel_rfl
theorem lab12_wp {P : Ending → World → Prop} {J : Nat → Act → World → Prop} {w0 w : World} {b : Bl} {X R bm : Nat} {obj : Obj} {a : Act} (HE : Hid (Env w0 b X bm)) (h : Told P w0 b X R bm obj a w) : lab12.wp Tryz.prog (Exit.jumps J (bodyPost Tryz.prog Tryz.f17 P)) a w := by
  rw [lab12_eq]
  exact wp_seq (wp_label (fin12_told HE h))

theorem nl_nil : nl [] = 0 := rfl
theorem isSp_no {c : UInt8} (h : isSp c = false) : c ≠ 10 := by rintro rfl; exact absurd h (by decide)
theorem nl_let {c : UInt8} {t : Bs} (hc : isLet c = true) : nl (c :: t) = nl ((c :: t).dropWhile isIdc) := by
  have e := span_app isIdc (c :: t)
  have : nl ((c :: t).takeWhile isIdc) = 0 := by
    have : ∀ a : Bs, (∀ c ∈ a, isIdc c = true) → nl a = 0 := by
      intro a
      induction a with
      | nil => intro _; rfl
      | cons y a ih =>
        intro ha
        rw [nl_cons, ih fun x hx => ha x (by simp [hx]), if_neg]
        · rfl
        · rintro rfl
          exact absurd (ha 10 (by simp)) (by decide)
    exact this _ take_mem
  have h2 := congrArg nl e
  rw [nl_app, this] at h2
  omega

/-- A token's text is what it takes. -/
theorem raw_take {raw rest r : Bs} (h : r = raw ++ rest) : r.take (r.length - rest.length) = raw := by
  subst h
  rw [List.length_append, Nat.add_sub_cancel]
  simp
theorem hd_of {t : Bs} {n : Nat} (hn : n < 256) (h : hd t = (n : Int)) : ∃ u, t = UInt8.ofNat n :: u := by
  cases t with
  | nil => rw [hd_e] at h; omega
  | cons x u =>
    rw [hd_c] at h
    have hx : x = UInt8.ofNat n := UInt8.toNat_inj.1 (by rw [UInt8.toNat_ofNat_of_lt' hn]; omega)
    exact ⟨u, by rw [hx]⟩

section
variable {w0 w : World} {b : Bl} {r : Bs} {L : Int} {g : Nat} {X R T bm : Nat} {obj : Obj} {so : ByteArray} {cl C : Int} {Q : Exit → Act → World → Prop} {o : Option (Tok × Bs × Bs)} {k n : Nat}
/-- A token is told. -/
theorem told_tok {a' : Act} {w' : World} {t : Tok} {at' r' : Bs} {ty L' : Int} {st : Bs} (hf : FrE b X R T .nilIface a') (ht : TyOk t.kind t.raw ty st) (hty : ty < 57402) (hm : ty ≠ -1) (hfin : Fin w0 b r' L' X R T bm obj ty ⟨st.toArray⟩ so (C - nl at') cl w') (hr : L' + nl r' = C) (h13 : NoCr r') :
    Told (ScanPost (some (t, at', r')) 0 C w0 b X bm obj) w0 b X R bm obj a' w' :=
  ⟨T, .nilIface, r', L', ty, _, so, _, cl, hf, hfin, hty, fun e w2 h => .inr (.inl ⟨t, at', r', L', ty, st, rfl, ht, h, .inr hr, hm, h13⟩)⟩
theorem told_err {a' : Act} {w' : World} {r' : Bs} {ty L' ln : Int} {st : ByteArray} {p : Nat} (hk : k ≠ 0) (hf : FrE b X R T (.iface 89 (ptr p)) a') (hty : ty < 57402) (hfin : Fin w0 b r' L' X R T bm obj ty st so ln cl w') :
    Told (ScanPost o k C w0 b X bm obj) w0 b X R bm obj a' w' :=
  ⟨T, _, r', L', ty, st, so, ln, cl, hf, hfin, hty, fun e w2 h => .inr (.inr ⟨hk, r', L', ty, st, ln, p, h⟩)⟩
end

/-- A sign at the switch. -/
theorem sw_sign {w0 w : World} {b : Bl} {c : UInt8} {t : Bs} {L : Int} {g : Nat} {X R T bm : Nat} {obj : Obj} {so : ByteArray} {cl C : Int} {Q : Exit → Act → World → Prop} {n : Nat} {a : Act} (HE : Hid (Env w0 b X bm))
    (hF : FrW b X R T g (.int .i64 (hd (c :: t))) a) (HM : Hid (Mid w0 b t L g [] X R T bm obj 0 ⟨#[]⟩ so (C - nl (c :: t)) cl w)) (hL : L + nl (c :: t) = C) (h13 : NoCr (c :: t))
    (h0 : isSp c = false) (h1 : ¬ (c = 45 ∧ t.head? = some 45)) (hl : isLet c = false) (hdc : isDec c = false) (hq : c ≠ 34 ∧ c ≠ 39) (hdd : ¬ (c = 46 ∧ hdIs isDec t = true)) (hb : brk 91 (c :: t) = none) {X0 : Rz Bs} (hs : signP (c :: t) = X0) (hno : ∀ j, X0 = .no j → j = 1)
    (cN : ∀ o k a' w', (match X0 with | .ok s r' => o = some (⟨3, s, s⟩, c :: t, r') ∧ k = 0 | .no j => o = none ∧ k = j) → Told (ScanPost o k C w0 b X bm obj) w0 b X R bm obj a' w' → Q .normal a' w')
    (cE : ∀ o k a' w', (match X0 with | .ok s r' => o = some (⟨3, s, s⟩, c :: t, r') ∧ k = 0 | .no j => o = none ∧ k = j) → Told (ScanPost o k C w0 b X bm obj) w0 b X R bm obj a' w' → Q (.goto 1) a' w') :
    sw12.wp Tryz.prog Q a w := by
  obtain ⟨u, rfl⟩ := hF
  have c10 := isSp_no h0
  have hnl : nl (c :: t) = nl t := by rw [nl_cons, if_neg c10]; omega
  have hLt : L + nl t = C := by omega
  by_cases q43 : c = 43
  · subst q43
    rw [sg_43] at hs
    subst hs
    exact sw_43 u HE HM fun a' w' hf hfin => cN _ _ a' w' ⟨rfl, rfl⟩ (told_tok (st := [43]) hf (.inr (.inr (.inl ⟨rfl, by decide⟩))) (by decide) (by decide) hfin hLt h13.tail)
  by_cases q42 : c = 42
  · subst q42
    rw [sg_42] at hs
    subst hs
    exact sw_42 u HE HM fun a' w' hf hfin => cN _ _ a' w' ⟨rfl, rfl⟩ (told_tok (st := [42]) hf (.inr (.inr (.inl ⟨rfl, by decide⟩))) (by decide) (by decide) hfin hLt h13.tail)
  by_cases q47 : c = 47
  · subst q47
    rw [sg_47] at hs
    subst hs
    exact sw_47 u HE HM fun a' w' hf hfin => cN _ _ a' w' ⟨rfl, rfl⟩ (told_tok (st := [47]) hf (.inr (.inr (.inl ⟨rfl, by decide⟩))) (by decide) (by decide) hfin hLt h13.tail)
  by_cases q37 : c = 37
  · subst q37
    rw [sg_37] at hs
    subst hs
    exact sw_37 u HE HM fun a' w' hf hfin => cN _ _ a' w' ⟨rfl, rfl⟩ (told_tok (st := [37]) hf (.inr (.inr (.inl ⟨rfl, by decide⟩))) (by decide) (by decide) hfin hLt h13.tail)
  by_cases q94 : c = 94
  · subst q94
    rw [sg_94] at hs
    subst hs
    exact sw_94 u HE HM fun a' w' hf hfin => cN _ _ a' w' ⟨rfl, rfl⟩ (told_tok (st := [94]) hf (.inr (.inr (.inl ⟨rfl, by decide⟩))) (by decide) (by decide) hfin hLt h13.tail)
  by_cases q35 : c = 35
  · subst q35
    rw [sg_35] at hs
    subst hs
    exact sw_35 u HE HM fun a' w' hf hfin => cN _ _ a' w' ⟨rfl, rfl⟩ (told_tok (st := [35]) hf (.inr (.inr (.inl ⟨rfl, by decide⟩))) (by decide) (by decide) hfin hLt h13.tail)
  by_cases q40 : c = 40
  · subst q40
    rw [sg_40] at hs
    subst hs
    exact sw_40 u HE HM fun a' w' hf hfin => cN _ _ a' w' ⟨rfl, rfl⟩ (told_tok (st := [40]) hf (.inr (.inr (.inl ⟨rfl, by decide⟩))) (by decide) (by decide) hfin hLt h13.tail)
  by_cases q41 : c = 41
  · subst q41
    rw [sg_41] at hs
    subst hs
    exact sw_41 u HE HM fun a' w' hf hfin => cN _ _ a' w' ⟨rfl, rfl⟩ (told_tok (st := [41]) hf (.inr (.inr (.inl ⟨rfl, by decide⟩))) (by decide) (by decide) hfin hLt h13.tail)
  by_cases q123 : c = 123
  · subst q123
    rw [sg_123] at hs
    subst hs
    exact sw_123 u HE HM fun a' w' hf hfin => cN _ _ a' w' ⟨rfl, rfl⟩ (told_tok (st := [123]) hf (.inr (.inr (.inl ⟨rfl, by decide⟩))) (by decide) (by decide) hfin hLt h13.tail)
  by_cases q125 : c = 125
  · subst q125
    rw [sg_125] at hs
    subst hs
    exact sw_125 u HE HM fun a' w' hf hfin => cN _ _ a' w' ⟨rfl, rfl⟩ (told_tok (st := [125]) hf (.inr (.inr (.inl ⟨rfl, by decide⟩))) (by decide) (by decide) hfin hLt h13.tail)
  by_cases q93 : c = 93
  · subst q93
    rw [sg_93] at hs
    subst hs
    exact sw_93 u HE HM fun a' w' hf hfin => cN _ _ a' w' ⟨rfl, rfl⟩ (told_tok (st := [93]) hf (.inr (.inr (.inl ⟨rfl, by decide⟩))) (by decide) (by decide) hfin hLt h13.tail)
  by_cases q59 : c = 59
  · subst q59
    rw [sg_59] at hs
    subst hs
    exact sw_59 u HE HM fun a' w' hf hfin => cN _ _ a' w' ⟨rfl, rfl⟩ (told_tok (st := [59]) hf (.inr (.inr (.inl ⟨rfl, by decide⟩))) (by decide) (by decide) hfin hLt h13.tail)
  by_cases q44 : c = 44
  · subst q44
    rw [sg_44] at hs
    subst hs
    exact sw_44 u HE HM fun a' w' hf hfin => cN _ _ a' w' ⟨rfl, rfl⟩ (told_tok (st := [44]) hf (.inr (.inr (.inl ⟨rfl, by decide⟩))) (by decide) (by decide) hfin hLt h13.tail)
  by_cases q61 : c = 61
  · subst q61
    by_cases hd1 : hd t = 61
    · obtain ⟨t', rfl⟩ := hd_of (n := 61) (by decide) hd1
      rw [show (61 : UInt8) :: UInt8.ofNat 61 :: t' = 61 :: 61 :: t' from rfl, sg_61b] at hs
      subst hs
      exact sw_61b u HE HM h13.tail fun a' w' hf hfin => cN _ _ a' w' ⟨rfl, rfl⟩ (told_tok (st := [61, 61]) hf (.inr (.inr (.inl ⟨rfl, by decide⟩))) (by decide) (by decide) hfin (by rw [show nl (UInt8.ofNat 61 :: t') = nl t' by rw [nl_cons, if_neg (by decide)]; omega] at hLt; exact hLt) h13.tail.tail)
    · rw [sg_61a t hd1] at hs
      subst hs
      exact sw_61a u HE HM hd1 fun a' w' hf hfin => cN _ _ a' w' ⟨rfl, rfl⟩ (told_tok (st := [61]) hf (.inr (.inr (.inl ⟨rfl, by decide⟩))) (by decide) (by decide) hfin hLt h13.tail)
  by_cases q60 : c = 60
  · subst q60
    by_cases hd1 : hd t = 61
    · obtain ⟨t', rfl⟩ := hd_of (n := 61) (by decide) hd1
      rw [show (60 : UInt8) :: UInt8.ofNat 61 :: t' = 60 :: 61 :: t' from rfl, sg_60b] at hs
      subst hs
      exact sw_60b u HE HM h13.tail fun a' w' hf hfin => cN _ _ a' w' ⟨rfl, rfl⟩ (told_tok (st := [60, 61]) hf (.inr (.inr (.inl ⟨rfl, by decide⟩))) (by decide) (by decide) hfin (by rw [show nl (UInt8.ofNat 61 :: t') = nl t' by rw [nl_cons, if_neg (by decide)]; omega] at hLt; exact hLt) h13.tail.tail)
    · rw [sg_60a t hd1] at hs
      subst hs
      exact sw_60a u HE HM hd1 fun a' w' hf hfin => cN _ _ a' w' ⟨rfl, rfl⟩ (told_tok (st := [60]) hf (.inr (.inr (.inl ⟨rfl, by decide⟩))) (by decide) (by decide) hfin hLt h13.tail)
  by_cases q62 : c = 62
  · subst q62
    by_cases hd1 : hd t = 61
    · obtain ⟨t', rfl⟩ := hd_of (n := 61) (by decide) hd1
      rw [show (62 : UInt8) :: UInt8.ofNat 61 :: t' = 62 :: 61 :: t' from rfl, sg_62b] at hs
      subst hs
      exact sw_62b u HE HM h13.tail fun a' w' hf hfin => cN _ _ a' w' ⟨rfl, rfl⟩ (told_tok (st := [62, 61]) hf (.inr (.inr (.inl ⟨rfl, by decide⟩))) (by decide) (by decide) hfin (by rw [show nl (UInt8.ofNat 61 :: t') = nl t' by rw [nl_cons, if_neg (by decide)]; omega] at hLt; exact hLt) h13.tail.tail)
    · rw [sg_62a t hd1] at hs
      subst hs
      exact sw_62a u HE HM hd1 fun a' w' hf hfin => cN _ _ a' w' ⟨rfl, rfl⟩ (told_tok (st := [62]) hf (.inr (.inr (.inl ⟨rfl, by decide⟩))) (by decide) (by decide) hfin hLt h13.tail)
  by_cases q45 : c = 45
  · subst q45
    have hd1 : hd t ≠ 45 := by
      intro e
      obtain ⟨t', rfl⟩ := hd_of (n := 45) (by decide) e
      exact h1 ⟨rfl, rfl⟩
    rw [sg_45a t hd1] at hs
    subst hs
    exact sw_45a u HE HM hd1 fun a' w' hf hfin => cN _ _ a' w' ⟨rfl, rfl⟩ (told_tok (st := [45]) hf (.inr (.inr (.inl ⟨rfl, by decide⟩))) (by decide) (by decide) hfin hLt h13.tail)
  by_cases q126 : c = 126
  · subst q126
    by_cases hd1 : hd t = 61
    · obtain ⟨t', rfl⟩ := hd_of (n := 61) (by decide) hd1
      rw [show (126 : UInt8) :: UInt8.ofNat 61 :: t' = 126 :: 61 :: t' from rfl, sg_126b] at hs
      subst hs
      exact sw_126b u HE HM h13.tail fun a' w' hf hfin => cN _ _ a' w' ⟨rfl, rfl⟩ (told_tok (st := [126, 61]) hf (.inr (.inr (.inl ⟨rfl, by decide⟩))) (by decide) (by decide) hfin (by rw [show nl (UInt8.ofNat 61 :: t') = nl t' by rw [nl_cons, if_neg (by decide)]; omega] at hLt; exact hLt) h13.tail.tail)
    · rw [sg_126a t hd1] at hs
      subst hs
      exact sw_126e u HE HM hd1 fun a' w' p hf hfin => cN _ _ a' w' ⟨rfl, rfl⟩ (told_err (by decide) hf (by decide) hfin)
  by_cases q58 : c = 58
  · subst q58
    by_cases hd1 : hd t = 58
    · rw [sg_58b t hd1] at hs
      have := hno 2 hs.symm
      omega
    · rw [sg_58 t hd1] at hs
      subst hs
      exact sw_58a u HE HM hd1 fun a' w' hf hfin => cN _ _ a' w' ⟨rfl, rfl⟩ (told_tok (st := [58]) hf (.inr (.inr (.inl ⟨rfl, by decide⟩))) (by decide) (by decide) hfin hLt h13.tail)
  by_cases q91 : c = 91
  · subst q91
    have hd2 : hd t ≠ 91 := by
      intro e
      obtain ⟨t', rfl⟩ := hd_of (n := 91) (by decide) e
      rw [brk_cons, if_pos ⟨rfl, rfl⟩] at hb
      cases hb
    by_cases hd1 : hd t = 61
    · rw [sg_91b t hd1] at hs
      have := hno 2 hs.symm
      omega
    · rw [sg_91 t hd1] at hs
      subst hs
      exact sw_91a u HE HM hd2 hd1 fun a' w' hf hfin => cN _ _ a' w' ⟨rfl, rfl⟩ (told_tok (st := [91]) hf (.inr (.inr (.inl ⟨rfl, by decide⟩))) (by decide) (by decide) hfin hLt h13.tail)
  by_cases q46 : c = 46
  · subst q46
    by_cases hd1 : hd t = 46
    · obtain ⟨t', rfl⟩ := hd_of (n := 46) (by decide) hd1
      have hn2 : nl (UInt8.ofNat 46 :: t') = nl t' := by rw [nl_cons, if_neg (by decide)]; omega
      rw [hn2] at hLt
      by_cases hd2 : hd t' = 46
      · obtain ⟨t2, rfl⟩ := hd_of (n := 46) (by decide) hd2
        have hn3 : nl (UInt8.ofNat 46 :: t2) = nl t2 := by rw [nl_cons, if_neg (by decide)]; omega
        rw [hn3] at hLt
        rw [show (46 : UInt8) :: UInt8.ofNat 46 :: UInt8.ofNat 46 :: t2 = 46 :: 46 :: 46 :: t2 from rfl, sg_46c] at hs
        subst hs
        exact sw_46c u HE HM h13.tail fun a' w' hf hfin => cN _ _ a' w' ⟨rfl, rfl⟩ (told_tok (st := [46, 46, 46]) hf (.inr (.inr (.inl ⟨rfl, by decide⟩))) (by decide) (by decide) hfin hLt h13.tail.tail.tail)
      · rw [show (46 : UInt8) :: UInt8.ofNat 46 :: t' = 46 :: 46 :: t' from rfl, sg_46b t' hd2] at hs
        subst hs
        exact sw_46b u HE HM h13.tail hd2 fun a' w' hf hfin => cN _ _ a' w' ⟨rfl, rfl⟩ (told_tok (st := [46, 46]) hf (.inr (.inr (.inl ⟨rfl, by decide⟩))) (by decide) (by decide) hfin hLt h13.tail.tail)
    · rw [sg_46a t hd1] at hs
      subst hs
      exact sw_46a u HE HM hd1 (by simpa using fun h => hdd ⟨rfl, h⟩) fun a' w' hf hfin => cN _ _ a' w' ⟨rfl, rfl⟩ (told_tok (st := []) hf (.inr (.inr (.inl ⟨rfl, by decide⟩))) (by decide) (by decide) hfin hLt h13.tail)
  have q34 := hq.1
  have q39 := hq.2
  have nq : ∀ n : Nat, n < 256 → c ≠ UInt8.ofNat n → c.toNat ≠ n := by
    intro n hn h e
    exact h (UInt8.toNat_inj.1 (by rw [UInt8.toNat_ofNat_of_lt' hn]; exact e))
  have hbad : ∀ n ∈ [45, 34, 39, 91, 61, 126, 60, 62, 46, 58, 43, 42, 47, 37, 94, 35, 40, 41, 123, 125, 93, 59, 44], c.toNat ≠ n := by
    intro n hn
    simp only [List.mem_cons, List.not_mem_nil, or_false] at hn
    rcases hn with rfl | rfl | rfl | rfl | rfl | rfl | rfl | rfl | rfl | rfl | rfl | rfl | rfl | rfl | rfl | rfl | rfl | rfl | rfl | rfl | rfl | rfl | rfl
    · exact nq 45 (by decide) q45
    · exact nq 34 (by decide) q34
    · exact nq 39 (by decide) q39
    · exact nq 91 (by decide) q91
    · exact nq 61 (by decide) q61
    · exact nq 126 (by decide) q126
    · exact nq 60 (by decide) q60
    · exact nq 62 (by decide) q62
    · exact nq 46 (by decide) q46
    · exact nq 58 (by decide) q58
    · exact nq 43 (by decide) q43
    · exact nq 42 (by decide) q42
    · exact nq 47 (by decide) q47
    · exact nq 37 (by decide) q37
    · exact nq 94 (by decide) q94
    · exact nq 35 (by decide) q35
    · exact nq 40 (by decide) q40
    · exact nq 41 (by decide) q41
    · exact nq 123 (by decide) q123
    · exact nq 125 (by decide) q125
    · exact nq 93 (by decide) q93
    · exact nq 59 (by decide) q59
    · exact nq 44 (by decide) q44
  cases X0 with
  | ok s r' =>
    refine absurd hs (sg_bad fun n hn => hbad n ?_)
    simp only [List.mem_cons, List.not_mem_nil, or_false] at hn ⊢
    omega
  | no j =>
    have hj : j ≠ 0 := by have := hno j rfl; omega
    exact sw_bad u HE HM hl hdc hbad fun a' w' p hf hfin => cE _ _ a' w' ⟨rfl, rfl⟩ (told_err hj hf (by decide) hfin)

end Go.Proofs.YtbgjjbffpckimaaGreatDoor

namespace Go.Proofs.YtbgjjbffpckimaaGreatDoor
set_option linter.all false
open Go.RowKit

theorem First.cons_inv {c : UInt8} {t : Bs} {o : Option (Tok × Bs × Bs)} {k : Nat} (h : First (c :: t) o k) (h0 : isSp c = false) :
    (∃ u r', c = 45 ∧ t = 45 :: u ∧ comP u = .ok () r' ∧ First r' o k) ∨ (∃ u, c = 45 ∧ t = 45 :: u ∧ comP u = .no k ∧ o = none) ∨
    (¬ (c = 45 ∧ t.head? = some 45) ∧ ∃ tk r', nextP (c :: t) = .ok tk r' ∧ o = some (tk, c :: t, r') ∧ k = 0) ∨ (¬ (c = 45 ∧ t.head? = some 45) ∧ nextP (c :: t) = .no k ∧ o = none) := by
  generalize hr : c :: t = r at h
  cases h with
  | nil => cases hr
  | ws hc h => injection hr with h1 h2; subst h1; rw [h0] at hc; cases hc
  | com hc h => injection hr with h1 h2; subst h1; exact .inl ⟨_, _, rfl, h2, hc, h⟩
  | comNo hc => injection hr with h1 h2; subst h1; exact .inr (.inl ⟨_, rfl, h2, hc, rfl⟩)
  | tok h0 h1 hn => injection hr with e1 e2; subst e1; subst e2; exact .inr (.inr (.inl ⟨h1, _, _, hn, rfl, rfl⟩))
  | no h0 h1 hn => injection hr with e1 e2; subst e1; subst e2; exact .inr (.inr (.inr ⟨h1, hn, rfl⟩))

theorem NoCr.suf {p r : Bs} (h : NoCr (p ++ r)) : NoCr r := h.app
theorem comP_len {r r' : Bs} (h : comP r = .ok () r') : r'.length ≤ r.length := by
  obtain ⟨p, hp⟩ := comP_suf h
  rw [hp, List.length_append]
  omega
theorem strB_suf {q : UInt8} (n : Nat) : ∀ {t s r : Bs}, t.length ≤ n → strB q t = .ok s r → ∃ p, t = p ++ r := by
  induction n with
  | zero =>
    intro t s r hl h
    have : t = [] := List.length_eq_zero_iff.1 (by omega)
    subst this
    rw [strB_nil] at h
    cases h
  | succ n ih =>
    intro t s r hl h
    rw [strB.eq_def] at h
    cases t with
    | nil => cases h
    | cons c t =>
      simp only [List.length_cons] at hl
      simp only [] at h
      split at h
      · cases h
      · split at h
        · injection h with h1 h2
          exact ⟨[c], by rw [h2]; rfl⟩
        · split at h
          · cases t with
            | nil => cases h
            | cons d u =>
              simp only [List.length_cons] at hl
              simp only [] at h
              split at h
              · rename_i hd
                split at h
                · obtain ⟨a, ha, _⟩ := map_ok h
                  have hl3 := dig3_le d u hd
                  obtain ⟨p, hp⟩ := ih (by omega) ha
                  obtain ⟨ds, hds, _⟩ := dig3_suffix 3 0 (d :: u)
                  exact ⟨c :: (ds ++ p), by rw [List.cons_append, List.append_assoc, ← hp, ← hds]⟩
                · cases h
              · split at h
                · obtain ⟨a, ha, _⟩ := map_ok h
                  obtain ⟨p, hp⟩ := ih (by omega) ha
                  exact ⟨c :: d :: p, by rw [List.cons_append, List.cons_append, ← hp]⟩
                · cases h
          · obtain ⟨a, ha, _⟩ := map_ok h
            obtain ⟨p, hp⟩ := ih (by omega) ha
            exact ⟨c :: p, by rw [List.cons_append, ← hp]⟩

/-- The switch at any text that begins with no blank. -/
theorem sw_first {w0 w : World} {b : Bl} {c : UInt8} {t : Bs} {L : Int} {g : Nat} {X R T bm : Nat} {obj : Obj} {so : ByteArray} {cl C : Int} {Q : Exit → Act → World → Prop} {o : Option (Tok × Bs × Bs)} {k : Nat} {a : Act} (HE : Hid (Env w0 b X bm))
    (hF : FrW b X R T g (.int .i64 (hd (c :: t))) a) (HM : Hid (Mid w0 b t L g [] X R T bm obj 0 ⟨#[]⟩ so (C - nl (c :: t)) cl w)) (hL : L + nl (c :: t) = C) (h13 : NoCr (c :: t))
    (h0 : isSp c = false) (hf : First (c :: t) o k) (hk : k ≠ 2)
    (cN : ∀ a' w', Told (ScanPost o k C w0 b X bm obj) w0 b X R bm obj a' w' → Q .normal a' w')
    (cE : ∀ a' w', Told (ScanPost o k C w0 b X bm obj) w0 b X R bm obj a' w' → Q (.goto 1) a' w')
    (cR : ∀ a' w' n, n < (c :: t).length → Again w0 b X R bm obj o k C n a' w' → Q (.goto 0) a' w') :
    sw12.wp Tryz.prog Q a w := by
  have c10 := isSp_no h0
  have hnl : nl (c :: t) = nl t := by rw [nl_cons, if_neg c10]; omega
  have hLt : L + nl t = C := by omega
  have hlen := HM.out.sb.rd.len
  rcases hf.cons_inv h0 with ⟨u, r', rfl, rfl, hc, hf'⟩ | ⟨u, rfl, rfl, hc, rfl⟩ | ⟨h1, tk, r', hn, rfl, rfl⟩ | ⟨h1, hn, rfl⟩
  · obtain ⟨uu, rfl⟩ := hF
    have hnu : nl ((45 : UInt8) :: u) = nl u := by rw [nl_cons, if_neg (by decide)]; omega
    refine sw_com uu HE HM hc (by intro j hj; cases hj) h13.tail ?_ ?_
    · intro a' w' r1 r2 L2 he hfr hfin hr2 hL2
      injection he with _ he
      subst he
      have hcr : NoCr r' := by
        obtain ⟨p, hp⟩ := comP_suf hc
        have := h13.tail.tail
        rw [hp] at this
        exact this.suf
      have hlr := comP_len hc
      refine cR a' w' r2.length ?_ ⟨r2, L2, hfr, ⟨hfin.rd, hfin.rk, hfin.tb, hfin.lx, hfin.ch, hfin.nR⟩, ?_, ?_, ?_, rfl⟩
      · have : r2.length ≤ r'.length := by
          rcases hr2 with rfl | rfl
          · omega
          · simp
        simp only [List.length_cons]
        omega
      · rcases hr2 with rfl | rfl
        · exact hf'
        · exact hf'.tail10
      · rcases hr2 with rfl | rfl
        · exact hcr
        · exact hcr.tail
      · rcases hL2 with h | h
        · exact .inl h
        · exact .inr (by omega)
    · intro a' w' p j r2 L2 he
      cases he
  · obtain ⟨uu, rfl⟩ := hF
    have hk1 : k = 1 := by
      rcases comP_no hc with h | h
      · exact h
      · exact absurd h hk
    subst hk1
    refine sw_com uu HE HM hc (by intro j hj; injection hj with hj; exact hj.symm) h13.tail ?_ ?_
    · intro a' w' r1 r2 L2 he
      cases he
    · intro a' w' p j r2 L2 he hfr hfin
      exact cE a' w' (told_err (by decide) hfr (by decide) hfin)
  · rw [nextP_cons] at hn
    by_cases hl : isLet c = true
    · rw [if_pos hl] at hn
      unfold nameP at hn
      obtain ⟨uu, rfl⟩ := hF
      by_cases hg : (c :: t).takeWhile isIdc = gotoB
      · rw [if_pos hg] at hn
        cases hn
      · rw [if_neg hg] at hn
        injection hn with hn1 hn2
        subst hn2
        have hnn := nl_let (t := t) hl
        have h13d : NoCr ((c :: t).dropWhile isIdc) := h13.drop
        by_cases hkw : (c :: t).takeWhile isIdc ∈ kws
        · refine sw_word uu HE HM hl hkw h13.tail fun a' w' ty st hfr hty hty2 hfin => cN a' w' (told_tok hfr ?_ hty2 ?_ hfin (by omega) h13d)
          · rw [← hn1, if_pos hkw]
            exact hty
          · rcases hty with h | ⟨_, h⟩ | h | h | h
            · omega
            · intro e
              rw [e] at h
              revert h
              have : ∀ s : Bs, (s, (-1 : Int)) ∉ kwTab.take 21 := by
                intro s hs
                have h2 : ∀ p ∈ kwTab.take 21, p.2 ≠ -1 := by decide
                exact h2 _ hs rfl
              exact this _
            · omega
            · omega
            · omega
        · refine sw_name uu HE HM hl hkw hg h13.tail fun a' w' ty st hfr hty hty2 hfin => cN a' w' (told_tok hfr ?_ hty2 ?_ hfin (by omega) h13d)
          · rw [← hn1, if_neg hkw]
            exact hty
          · rcases hty with h | h | h | h | h <;> omega
    have hl' : isLet c = false := by simpa using hl
    rw [if_neg hl] at hn
    by_cases hdd : (isDec c || (c == 46 && t.head?.any isDec)) = true
    · rw [if_pos hdd] at hn
      by_cases hdc : isDec c = true
      · cases hnm : numP (c :: t) with
        | no j => rw [hnm] at hn; cases hn
        | ok x rest =>
          rw [hnm] at hn
          simp only [] at hn
          injection hn with hn1 hn2
          subst hn2
          obtain ⟨raw, hraw, hne, hnr, hcall⟩ := num_call hnm hdc h13 (by omega)
          obtain ⟨uu, rfl⟩ := hF
          have hnn : nl (c :: t) = nl rest := by rw [hraw, nl_app, hnr]; omega
          refine sw_num uu HE HM hdc (fun w1 hs => hcall w1 b L g hs) fun a' w' hfr hfin => cN a' w' (told_tok hfr ?_ (by decide) (by decide) hfin (by omega) ?_)
          · rw [← hn1]
            simp only []
            rw [raw_take hraw]
            exact .inr (.inr (.inr (.inl ⟨rfl, rfl, rfl⟩)))
          · have := h13
            rw [hraw] at this
            exact this.suf
      · have hdc' : isDec c = false := by simpa using hdc
        rw [hdc', Bool.false_or, Bool.and_eq_true, beq_iff_eq] at hdd
        rw [hdd.1, numP_46] at hn
        cases hn
    have hdd2 : ¬ (c = 46 ∧ hdIs isDec t = true) := by
      rintro ⟨rfl, h⟩
      apply hdd
      have : t.head?.any isDec = true := by
        cases t with
        | nil => cases h
        | cons y u => exact h
      rw [this]
      rfl
    have hdc' : isDec c = false := by
      cases h : isDec c with
      | false => rfl
      | true => rw [h] at hdd; exact absurd rfl hdd
    rw [if_neg hdd] at hn
    by_cases hq : c = 34 ∨ c = 39
    · rw [if_pos hq] at hn
      obtain ⟨s, hs, hs2⟩ := map_ok hn
      obtain ⟨p, hp⟩ := strB_suf t.length (Nat.le_refl _) hs
      have hcr : NoCr r' := by have := h13.tail; rw [hp] at this; exact this.suf
      subst hs2
      obtain ⟨uu, rfl⟩ := hF
      rcases hq with rfl | rfl
      · refine sw_34 uu HE HM hs (by intro j hj; cases hj) h13.tail ?_ (by intro a' w' p j r2 L2 l2 he; cases he)
        intro a' w' s2 r2 he hfr hfin
        injection he with he1 he2
        subst he1
        subst he2
        exact cN a' w' (told_tok hfr (.inr (.inr (.inr (.inr ⟨rfl, rfl, rfl⟩)))) (by decide) (by decide) hfin (by omega) hcr)
      · refine sw_39 uu HE HM hs (by intro j hj; cases hj) h13.tail ?_ (by intro a' w' p j r2 L2 l2 he; cases he)
        intro a' w' s2 r2 he hfr hfin
        injection he with he1 he2
        subst he1
        subst he2
        exact cN a' w' (told_tok hfr (.inr (.inr (.inr (.inr ⟨rfl, rfl, rfl⟩)))) (by decide) (by decide) hfin (by omega) hcr)
    rw [if_neg hq] at hn
    by_cases hb : ∃ n, brk 91 (c :: t) = some n
    · obtain ⟨n, hb⟩ := hb
      rw [hb] at hn
      simp only [] at hn
      rw [brk_cons] at hb
      by_cases hcc : c = 91 ∧ (t.dropWhile (· == 61)).head? = some 91
      · rw [if_pos hcc] at hb
        injection hb with hb
        obtain ⟨rfl, hh⟩ := hcc
        obtain ⟨r1, hr1⟩ : ∃ r1, t.dropWhile (· == 61) = 91 :: r1 := by
          cases h : t.dropWhile (· == 61) with
          | nil => rw [h] at hh; cases hh
          | cons x u =>
            rw [h] at hh
            injection hh with hx
            exact ⟨u, by rw [hx]⟩
        have hdrop : ((91 : UInt8) :: t).drop (n + 2) = r1 := by
          rw [← hb, show eqs t + 2 = (eqs t + 1) + 1 by omega, List.drop_succ_cons, ← List.drop_drop, drop_eqs, hr1]
          rfl
        rw [hdrop] at hn
        obtain ⟨s, hs, hs2⟩ := map_ok hn
        obtain ⟨p, hp⟩ := longB_suf hs
        have hcr : NoCr r' := by
          obtain ⟨q, hq'⟩ := cut10_suf r1
          have h2 : NoCr ((91 : UInt8) :: r1) := by rw [← hr1]; exact h13.tail.drop
          have := h2.tail
          rw [hq', hp] at this
          exact this.suf.suf
        subst hs2
        obtain ⟨uu, rfl⟩ := hF
        refine sw_91b uu HE HM hr1 hb hs (by intro j hj; cases hj) h13.tail ?_ (by intro a' w' p j r2 L2 l2 he; cases he)
        intro a' w' s2 r2 he hfr hfin
        injection he with he1 he2
        subst he1
        subst he2
        exact cN a' w' (told_tok hfr (.inr (.inr (.inr (.inr ⟨rfl, rfl, rfl⟩)))) (by decide) (by decide) hfin (by omega) hcr)
      · rw [if_neg hcc] at hb
        cases hb
    · have hb' : brk 91 (c :: t) = none := by
        cases h : brk 91 (c :: t) with
        | none => rfl
        | some n => exact absurd ⟨n, h⟩ hb
      rw [hb'] at hn
      simp only [] at hn
      obtain ⟨s, hs, hs2⟩ := map_ok hn
      subst hs2
      refine sw_sign (n := 0) HE hF HM hL h13 h0 h1 hl' hdc' ⟨fun e => hq (.inl e), fun e => hq (.inr e)⟩ hdd2 hb' hs (by intro j hj; cases hj) ?_ ?_
      · rintro o k a' w' ⟨rfl, rfl⟩ h
        exact cN a' w' h
      · rintro o k a' w' ⟨rfl, rfl⟩ h
        exact cE a' w' h
  · have hk1 : k = 1 := by
      rcases nextP_no hn with h | h
      · exact h
      · exact absurd h hk
    subst hk1
    rw [nextP_cons] at hn
    by_cases hl : isLet c = true
    · rw [if_pos hl] at hn
      unfold nameP at hn
      split at hn
      · injection hn with hn; omega
      · cases hn
    have hl' : isLet c = false := by simpa using hl
    rw [if_neg hl] at hn
    by_cases hdd : (isDec c || (c == 46 && t.head?.any isDec)) = true
    · rw [if_pos hdd] at hn
      cases hnm : numP (c :: t) with
      | no j =>
        rw [hnm] at hn
        injection hn with hn
        have := numP_no hnm
        omega
      | ok x rest =>
        rw [hnm] at hn
        cases hn
    have hdd2 : ¬ (c = 46 ∧ hdIs isDec t = true) := by
      rintro ⟨rfl, h⟩
      apply hdd
      have : t.head?.any isDec = true := by
        cases t with
        | nil => cases h
        | cons y u => exact h
      rw [this]
      rfl
    have hdc' : isDec c = false := by
      cases h : isDec c with
      | false => rfl
      | true => rw [h] at hdd; exact absurd rfl hdd
    rw [if_neg hdd] at hn
    by_cases hq : c = 34 ∨ c = 39
    · rw [if_pos hq] at hn
      have hs := map_no' hn
      obtain ⟨uu, rfl⟩ := hF
      rcases hq with rfl | rfl
      · refine sw_34 uu HE HM hs (by intro j hj; injection hj with hj; exact hj.symm) h13.tail (by intro a' w' s2 r2 he; cases he) ?_
        intro a' w' p j r2 L2 l2 he hfr hfin
        exact cN a' w' (told_err (by decide) hfr (by decide) hfin)
      · refine sw_39 uu HE HM hs (by intro j hj; injection hj with hj; exact hj.symm) h13.tail (by intro a' w' s2 r2 he; cases he) ?_
        intro a' w' p j r2 L2 l2 he hfr hfin
        exact cN a' w' (told_err (by decide) hfr (by decide) hfin)
    rw [if_neg hq] at hn
    by_cases hb : ∃ n, brk 91 (c :: t) = some n
    · obtain ⟨n, hb⟩ := hb
      rw [hb] at hn
      simp only [] at hn
      rw [brk_cons] at hb
      by_cases hcc : c = 91 ∧ (t.dropWhile (· == 61)).head? = some 91
      · rw [if_pos hcc] at hb
        injection hb with hb
        obtain ⟨rfl, hh⟩ := hcc
        obtain ⟨r1, hr1⟩ : ∃ r1, t.dropWhile (· == 61) = 91 :: r1 := by
          cases h : t.dropWhile (· == 61) with
          | nil => rw [h] at hh; cases hh
          | cons x u =>
            rw [h] at hh
            injection hh with hx
            exact ⟨u, by rw [hx]⟩
        have hdrop : ((91 : UInt8) :: t).drop (n + 2) = r1 := by
          rw [← hb, show eqs t + 2 = (eqs t + 1) + 1 by omega, List.drop_succ_cons, ← List.drop_drop, drop_eqs, hr1]
          rfl
        rw [hdrop] at hn
        have hs := map_no' hn
        obtain ⟨uu, rfl⟩ := hF
        refine sw_91b uu HE HM hr1 hb hs (by intro j hj; injection hj with hj; exact hj.symm) h13.tail (by intro a' w' s2 r2 he; cases he) ?_
        intro a' w' p j r2 L2 l2 he hfr hfin
        exact cN a' w' (told_err (by decide) hfr (by decide) hfin)
      · rw [if_neg hcc] at hb
        cases hb
    · have hb' : brk 91 (c :: t) = none := by
        cases h : brk 91 (c :: t) with
        | none => rfl
        | some n => exact absurd ⟨n, h⟩ hb
      rw [hb'] at hn
      simp only [] at hn
      have hs := map_no' hn
      refine sw_sign (n := 0) HE hF HM hL h13 h0 h1 hl' hdc' ⟨fun e => hq (.inl e), fun e => hq (.inr e)⟩ hdd2 hb' hs (by intro j hj; injection hj with hj; exact hj.symm) ?_ ?_
      · rintro o k a' w' ⟨rfl, rfl⟩ h
        exact cN a' w' h
      · rintro o k a' w' ⟨rfl, rfl⟩ h
        exact cE a' w' h

theorem First.nil_inv {o : Option (Tok × Bs × Bs)} {k : Nat} (h : First [] o k) : o = none ∧ k = 0 := by
  cases h
  exact ⟨rfl, rfl⟩
theorem dropSp_hd {r : Bs} : hdIs isSp (r.dropWhile isSp) = false := drop_hd
theorem nl_sp_le (r : Bs) (p : UInt8 → Bool) : (r.dropWhile p) ≠ [] → r ≠ [] := by
  rintro h rfl
  exact h rfl

/-- The switch at any text. -/
theorem sw_any {w0 w : World} {b : Bl} {r rc : Bs} {L : Int} {g : Nat} {X R T bm : Nat} {obj : Obj} {so : ByteArray} {cl C : Int} {Q : Exit → Act → World → Prop} {o : Option (Tok × Bs × Bs)} {k : Nat} {a : Act} (HE : Hid (Env w0 b X bm))
    (hrc : r.dropWhile isSp = rc) (hF : FrW b X R T g (.int .i64 (hd rc)) a) (hM : Mid w0 b (tl1 rc) (ln1 rc (L + nl r - nl rc)) g [] X R T bm obj 0 ⟨#[]⟩ so (ln1 rc (L + nl r - nl rc)) cl w) (hL : r = [] ∨ L + nl r = C) (h13 : NoCr r)
    (hf : First r o k) (hk : k ≠ 2)
    (cN : ∀ a' w', Told (ScanPost o k C w0 b X bm obj) w0 b X R bm obj a' w' → Q .normal a' w')
    (cE : ∀ a' w', Told (ScanPost o k C w0 b X bm obj) w0 b X R bm obj a' w' → Q (.goto 1) a' w')
    (cR : ∀ a' w' n, n < r.length → Again w0 b X R bm obj o k C n a' w' → Q (.goto 0) a' w') :
    sw12.wp Tryz.prog Q a w := by
  have hf' := hf.skip
  rw [hrc] at hf'
  have hcr : NoCr rc := by rw [← hrc]; exact h13.drop
  have hlen : rc.length ≤ r.length := by rw [← hrc]; exact (List.dropWhile_sublist _).length_le
  have hsp : hdIs isSp rc = false := by rw [← hrc]; exact drop_hd
  cases rc with
  | nil =>
    obtain ⟨rfl, rfl⟩ := hf'.nil_inv
    obtain ⟨u, rfl⟩ := hF
    exact sw_eof (t := []) u HE (Lib.hid hM) fun a' w' hfr hfin => cN a' w' ⟨T, _, _, _, _, _, _, _, _, hfr, hfin, by decide, fun e w2 h => .inl ⟨rfl, rfl, _, _, _, h⟩⟩
  | cons c t =>
    have h0 : isSp c = false := hsp
    have c10 := isSp_no h0
    have hL' : L + nl r = C := by
      rcases hL with h | h
      · subst h; cases hrc
      · exact h
    rw [show tl1 (c :: t) = t from rfl, ln1_of (c := c) (t := t) rfl c10, hL'] at hM
    exact sw_first HE hF (Lib.hid hM) (by omega) hcr h0 hf' hk cN cE fun a' w' n hn => cR a' w' n (by omega)

theorem scan_pass {w0 w : World} {b : Bl} {r : Bs} {L : Int} {X R bm : Nat} {obj : Obj} {C : Int} {Q : Exit → Act → World → Prop} {o : Option (Tok × Bs × Bs)} {k : Nat} {a : Act} (HE : Hid (Env w0 b X bm)) (hF : FrS b X R a) (hP : Pre w0 b r L X R bm obj w) (hL : r = [] ∨ L + nl r = C) (h13 : NoCr r) (hf : First r o k) (hk : k ≠ 2)
    (cN : ∀ a' w', Told (ScanPost o k C w0 b X bm obj) w0 b X R bm obj a' w' → lab12.wp Tryz.prog Q a' w')
    (cE : ∀ a' w', Told (ScanPost o k C w0 b X bm obj) w0 b X R bm obj a' w' → Q (.goto 1) a' w')
    (cR : ∀ a' w' n, n < r.length → Again w0 b X R bm obj o k C n a' w' → Q (.goto 0) a' w') :
    beg12.wp Tryz.prog Q a w := by
  obtain ⟨u, rfl⟩ := hF
  by_cases h10 : hd (r.dropWhile sp1) = 10
  · obtain ⟨t, ht⟩ := hd_of (n := 10) (by decide) h10
    have hcr : NoCr t := by have := h13.drop (p := sp1); rw [ht] at this; exact this.tail
    refine pre_b u HE (Lib.hid hP) h13 ht rfl ?_
    intro K a' w' T g so cl hK hF hM
    exact sw_any HE (skip_b ht hcr) hF hM hL h13 hf hk (fun a2 w2 h => hK _ _ (cN a2 w2 h)) (fun a2 w2 h => cE a2 w2 h) (fun a2 w2 n hn h => cR a2 w2 n hn h)
  · refine pre_a u HE (Lib.hid hP) h13 h10 rfl ?_
    intro K a' w' T g so cl hK hF hM
    exact sw_any HE (skip_a r h10) hF hM hL h13 hf hk (fun a2 w2 h => hK _ _ (cN a2 w2 h)) (fun a2 w2 h => cE a2 w2 h) (fun a2 w2 n hn h => cR a2 w2 n hn h)

/-- What holds at the two labels. -/
def ScanI (o : Option (Tok × Bs × Bs)) (k : Nat) (C : Int) (w0 : World) (b : Bl) (X R bm : Nat) (obj : Obj) (l n : Nat) (a : Act) (w : World) : Prop :=
  (l = 0 ∧ ∃ m, n = m + 1 ∧ Again w0 b X R bm obj o k C m a w) ∨ (l = 1 ∧ n = 0 ∧ Told (ScanPost o k C w0 b X bm obj) w0 b X R bm obj a w)

theorem c12_find0 : findLabel c12 0 = some (rest12 0) := by kernel_rfl
theorem c12_find1 : findLabel c12 1 = some (rest12 1) := by kernel_rfl
/-- The first label and what follows. -/
theorem c12_eq : c12 = (Code.label 0).seq beg12 := by kernel_rfl
theorem rest12_0 : rest12 0 = Code.skip.seq beg12 := by kernel_rfl

set_option maxRecDepth 100000 in
set_option maxHeartbeats 4000000 in
theorem scan_calls {w : World} {b : Bl} {r : Bs} {L C : Int} {X bm : Nat} {obj : Obj} {o : Option (Tok × Bs × Bs)} {k : Nat} (HE : Hid (Env w b X bm)) (hr : Rd w b r L) (ht : Tab w bm obj) (hx : LxAt w X) (hL : r = [] ∨ L + nl r = C) (h13 : NoCr r) (hf : First r o k) (hk : k ≠ 2) :
    Calls Tryz.prog 17 #[ptr b.Z, ptr X] w (ScanPost o k C w b X bm obj) := by
  have HR := Lib.hid hr
  have HT := Lib.hid ht
  have HX := Lib.hid hx
  have HL := Lib.hid hL
  have H13 := Lib.hid h13
  have HF := Lib.hid hf
  have HRK := Lib.hid (TokAt.fresh w)
  clear hr ht hx hL h13 hf
  go_enter Tryz.func17, Tryz.ntmps17
  go_wp2_with fail
  have hca : Ch (fun _ => False) w (w.alloc (.cells #[.int .i64 0, .string ⟨#[]⟩, .string ⟨#[]⟩, .string ⟨#[]⟩, .int .i64 0, .int .i64 0] 52)) := (Ch.refl _ _).alloc _
  have hag : Again w b X w.heap.size bm obj o k C r.length { tmps := #[ptr b.Z, ptr X, undef, undef, ptr w.heap.size, .nilIface, undef, undef, undef, undef, undef, undef, undef, undef, undef, undef, undef, undef, undef, undef, undef, undef, undef, undef, undef, undef, undef, undef, undef, undef, undef, undef, undef, undef, undef, undef, undef, undef, undef, undef, undef, undef, undef, undef, undef, undef, undef, undef, undef, undef, undef, undef, undef, undef, undef, undef, undef, undef, undef, undef, undef, undef, undef, undef, undef, undef, undef, undef, undef, undef, undef, undef, undef, undef, undef, undef, undef, undef, undef, undef, undef, undef, undef, undef, undef, undef, undef, undef, undef, undef, undef, undef, undef, undef, undef, undef, undef, undef, undef, undef, undef, undef, undef, undef, undef, undef, undef, undef, undef, undef, undef, undef, undef, undef, undef, undef, undef, undef, undef, undef, undef, undef, undef, undef, undef, undef, undef, undef, undef, undef, undef, undef, undef, undef, undef, undef, undef, undef, undef, undef, undef, undef, undef, undef, undef, undef, undef, undef, undef, undef, undef, undef, undef, undef, undef, undef, undef, undef, undef, undef, undef, undef, undef, undef, undef, undef, undef, undef, undef, undef, undef, undef, undef, undef, undef, undef, undef, undef, undef, undef, undef, undef, undef, undef, undef, undef, undef, undef, undef, undef, undef, undef, undef, undef, undef, undef, undef, undef, undef, undef, undef, undef, undef, undef, undef, undef, undef, undef, undef, undef, undef, undef, undef, undef, undef, undef, undef, undef, undef, undef, undef, undef, undef, undef, undef, undef, undef, undef, undef, undef, undef, undef, undef, undef, undef, undef, undef, undef, undef, undef, undef, undef, undef, undef, undef, undef, undef, undef, undef, undef, undef, undef, undef, undef, undef, undef, undef, undef, undef, undef, undef, undef, undef, undef, undef, undef, undef, undef, undef, undef, undef, undef, undef, undef, undef, undef, undef, undef, undef, undef, undef, undef, undef], defers := [] } (w.alloc (.cells #[.int .i64 0, .string ⟨#[]⟩, .string ⟨#[]⟩, .string ⟨#[]⟩, .int .i64 0, .int .i64 0] 52)) :=
    ⟨r, L, frS_mk rfl rfl rfl rfl, ⟨HR.out.moved hca, HRK.out, HT.out.keep hca id id id, HX.out.keep hca id, hca.mono fun _ _ h => h.elim, Nat.le_refl _⟩, HF.out, H13.out, HL.out, rfl⟩
  refine wp_scope_labels rest12 (ScanI o k C w b X w.heap.size bm obj) ?_ ?_ ?_
  · rintro l n a w' (⟨rfl, _⟩ | ⟨rfl, _⟩)
    · exact c12_find0
    · exact c12_find1
  · show c12.wp _ _ _ _
    rw [c12_eq]
    refine wp_seq (wp_label ?_)
    obtain ⟨r2, L2, hF2, hP2, hf2, h132, hL2, _⟩ := hag
    refine scan_pass HE hF2 hP2 hL2 h132 hf2 hk ?_ ?_ ?_
    · intro a' w' h
      exact lab12_wp HE h
    · intro a' w' h
      exact ⟨0, .inr ⟨rfl, rfl, h⟩⟩
    · intro a' w' n hn h
      exact ⟨n + 1, .inl ⟨rfl, n, rfl, h⟩⟩
  · rintro l n a w' (⟨rfl, m, rfl, r2, L2, hF2, hP2, hf2, h132, hL2, rfl⟩ | ⟨rfl, rfl, ht2⟩)
    · show (rest12 0).wp _ _ _ _
      rw [rest12_0]
      refine wp_seq (wp_skip ?_)
      refine scan_pass HE hF2 hP2 hL2 h132 hf2 hk ?_ ?_ ?_
      · intro a' w' h
        exact lab12_wp HE h
      · intro a' w' h
        exact ⟨0, by omega, .inr ⟨rfl, rfl, h⟩⟩
      · intro a' w' n hn h
        exact ⟨n + 1, by omega, .inl ⟨rfl, n, rfl, h⟩⟩
    · exact rest12_told HE ht2

end Go.Proofs.YtbgjjbffpckimaaGreatDoor
