/-
  The tokens of a text: the scanner: signs.
-/
import Derived.Test.YtbgjjbffpckimaaGreatDoorQe
namespace Go.Proofs.YtbgjjbffpckimaaGreatDoor
set_option linter.all false
open Go.RowKit

set_option maxRecDepth 100000 in
set_option maxHeartbeats 4000000 in
theorem sw_43 {w0 w : World} {b : Bl} {t : Bs} {L : Int} {g : Nat} {X R T bm : Nat} {obj : Obj} {so : ByteArray} {ln cl : Int} {Q : Exit → Act → World → Prop} (u : Nat → Value) (HE : Hid (Env w0 b X bm)) (H1 : Hid (Mid w0 b t L g [] X R T bm obj 0 ⟨#[]⟩ so ln cl w))
    (hN : ∀ a' w', FrE b X R T .nilIface a' → Fin w0 b t L X R T bm obj 43 ⟨#[43]⟩ so ln cl w' → Q .normal a' w') :
    sw12.wp Tryz.prog Q { tmps := #[ptr b.Z, ptr X, u 2, u 3, ptr R, u 5, .nilIface, ptr T, u 8, .int .i64 43, ptr g, ptr g, u 12, u 13, u 14, u 15, u 16, u 17, u 18, u 19, u 20, u 21, u 22, u 23, u 24, u 25, u 26, u 27, u 28, u 29, u 30, u 31, u 32, u 33, u 34, u 35, u 36, u 37, u 38, u 39, u 40, u 41, u 42, u 43, u 44, u 45, u 46, u 47, u 48, u 49, u 50, u 51, u 52, u 53, u 54, u 55, u 56, u 57, u 58, u 59, u 60, u 61, u 62, u 63, u 64, u 65, u 66, u 67, u 68, u 69, u 70, u 71, u 72, u 73, u 74, u 75, u 76, u 77, u 78, u 79, u 80, u 81, u 82, u 83, u 84, u 85, u 86, u 87, u 88, u 89, u 90, u 91, u 92, u 93, u 94, u 95, u 96, u 97, u 98, u 99, u 100, u 101, u 102, u 103, u 104, u 105, u 106, u 107, u 108, u 109, u 110, u 111, u 112, u 113, u 114, u 115, u 116, u 117, u 118, u 119, u 120, u 121, u 122, u 123, u 124, u 125, u 126, u 127, u 128, u 129, u 130, u 131, u 132, u 133, u 134, u 135, u 136, u 137, u 138, u 139, u 140, u 141, u 142, u 143, u 144, u 145, u 146, u 147, u 148, u 149, u 150, u 151, u 152, u 153, u 154, u 155, u 156, u 157, u 158, u 159, u 160, u 161, u 162, u 163, u 164, u 165, u 166, u 167, u 168, u 169, u 170, u 171, u 172, u 173, u 174, u 175, u 176, u 177, u 178, u 179, u 180, u 181, u 182, u 183, u 184, u 185, u 186, u 187, u 188, u 189, u 190, u 191, u 192, u 193, u 194, u 195, u 196, u 197, u 198, u 199, u 200, u 201, u 202, u 203, u 204, u 205, u 206, u 207, u 208, u 209, u 210, u 211, u 212, u 213, u 214, u 215, u 216, u 217, u 218, u 219, u 220, u 221, u 222, u 223, u 224, u 225, u 226, u 227, u 228, u 229, u 230, u 231, u 232, u 233, u 234, u 235, u 236, u 237, u 238, u 239, u 240, u 241, u 242, u 243, u 244, u 245, u 246, u 247, u 248, u 249, u 250, u 251, u 252, u 253, u 254, u 255, u 256, u 257, u 258, u 259, u 260, u 261, u 262, u 263, u 264, u 265, u 266, u 267, u 268, u 269, u 270, u 271, u 272, u 273, u 274, u 275, u 276, u 277, u 278, u 279, u 280, u 281, u 282], defers := [] } w := by
  have HN := Lib.hid hN
  clear hN
  conv => arg 2; whnf
  go_wp2_with fail
  refine (isLet_calls (r := [43]) (v := false) rfl).mono ?_
  rintro e w1 ⟨rfl, rfl⟩
  simp only []
  go_wp2_with fail
  refine (isDec_calls (r := [43]) (v := false) rfl).mono ?_
  rintro e w1 ⟨rfl, rfl⟩
  have t0 := H1.out.tk.c0
  have z0 := H1.out.tk.fz 0
  have t2 := H1.out.tk.c2
  have z2 := H1.out.tk.fz 2
  have hma := H1.out.set0 HE.out 43
  have HF := Lib.hid (hma.set2 HE.out ⟨#[43]⟩)
  have t2' := hma.tk.c2
  have z2' := hma.tk.fz 2
  simp only []
  go_wp2_with fail
  exact HN.out _ _ (frE_mk rfl rfl rfl rfl rfl rfl) HF.out.fin

set_option maxRecDepth 100000 in
set_option maxHeartbeats 4000000 in
theorem sw_42 {w0 w : World} {b : Bl} {t : Bs} {L : Int} {g : Nat} {X R T bm : Nat} {obj : Obj} {so : ByteArray} {ln cl : Int} {Q : Exit → Act → World → Prop} (u : Nat → Value) (HE : Hid (Env w0 b X bm)) (H1 : Hid (Mid w0 b t L g [] X R T bm obj 0 ⟨#[]⟩ so ln cl w))
    (hN : ∀ a' w', FrE b X R T .nilIface a' → Fin w0 b t L X R T bm obj 42 ⟨#[42]⟩ so ln cl w' → Q .normal a' w') :
    sw12.wp Tryz.prog Q { tmps := #[ptr b.Z, ptr X, u 2, u 3, ptr R, u 5, .nilIface, ptr T, u 8, .int .i64 42, ptr g, ptr g, u 12, u 13, u 14, u 15, u 16, u 17, u 18, u 19, u 20, u 21, u 22, u 23, u 24, u 25, u 26, u 27, u 28, u 29, u 30, u 31, u 32, u 33, u 34, u 35, u 36, u 37, u 38, u 39, u 40, u 41, u 42, u 43, u 44, u 45, u 46, u 47, u 48, u 49, u 50, u 51, u 52, u 53, u 54, u 55, u 56, u 57, u 58, u 59, u 60, u 61, u 62, u 63, u 64, u 65, u 66, u 67, u 68, u 69, u 70, u 71, u 72, u 73, u 74, u 75, u 76, u 77, u 78, u 79, u 80, u 81, u 82, u 83, u 84, u 85, u 86, u 87, u 88, u 89, u 90, u 91, u 92, u 93, u 94, u 95, u 96, u 97, u 98, u 99, u 100, u 101, u 102, u 103, u 104, u 105, u 106, u 107, u 108, u 109, u 110, u 111, u 112, u 113, u 114, u 115, u 116, u 117, u 118, u 119, u 120, u 121, u 122, u 123, u 124, u 125, u 126, u 127, u 128, u 129, u 130, u 131, u 132, u 133, u 134, u 135, u 136, u 137, u 138, u 139, u 140, u 141, u 142, u 143, u 144, u 145, u 146, u 147, u 148, u 149, u 150, u 151, u 152, u 153, u 154, u 155, u 156, u 157, u 158, u 159, u 160, u 161, u 162, u 163, u 164, u 165, u 166, u 167, u 168, u 169, u 170, u 171, u 172, u 173, u 174, u 175, u 176, u 177, u 178, u 179, u 180, u 181, u 182, u 183, u 184, u 185, u 186, u 187, u 188, u 189, u 190, u 191, u 192, u 193, u 194, u 195, u 196, u 197, u 198, u 199, u 200, u 201, u 202, u 203, u 204, u 205, u 206, u 207, u 208, u 209, u 210, u 211, u 212, u 213, u 214, u 215, u 216, u 217, u 218, u 219, u 220, u 221, u 222, u 223, u 224, u 225, u 226, u 227, u 228, u 229, u 230, u 231, u 232, u 233, u 234, u 235, u 236, u 237, u 238, u 239, u 240, u 241, u 242, u 243, u 244, u 245, u 246, u 247, u 248, u 249, u 250, u 251, u 252, u 253, u 254, u 255, u 256, u 257, u 258, u 259, u 260, u 261, u 262, u 263, u 264, u 265, u 266, u 267, u 268, u 269, u 270, u 271, u 272, u 273, u 274, u 275, u 276, u 277, u 278, u 279, u 280, u 281, u 282], defers := [] } w := by
  have HN := Lib.hid hN
  clear hN
  conv => arg 2; whnf
  go_wp2_with fail
  refine (isLet_calls (r := [42]) (v := false) rfl).mono ?_
  rintro e w1 ⟨rfl, rfl⟩
  simp only []
  go_wp2_with fail
  refine (isDec_calls (r := [42]) (v := false) rfl).mono ?_
  rintro e w1 ⟨rfl, rfl⟩
  have t0 := H1.out.tk.c0
  have z0 := H1.out.tk.fz 0
  have t2 := H1.out.tk.c2
  have z2 := H1.out.tk.fz 2
  have hma := H1.out.set0 HE.out 42
  have HF := Lib.hid (hma.set2 HE.out ⟨#[42]⟩)
  have t2' := hma.tk.c2
  have z2' := hma.tk.fz 2
  simp only []
  go_wp2_with fail
  exact HN.out _ _ (frE_mk rfl rfl rfl rfl rfl rfl) HF.out.fin

set_option maxRecDepth 100000 in
set_option maxHeartbeats 4000000 in
theorem sw_47 {w0 w : World} {b : Bl} {t : Bs} {L : Int} {g : Nat} {X R T bm : Nat} {obj : Obj} {so : ByteArray} {ln cl : Int} {Q : Exit → Act → World → Prop} (u : Nat → Value) (HE : Hid (Env w0 b X bm)) (H1 : Hid (Mid w0 b t L g [] X R T bm obj 0 ⟨#[]⟩ so ln cl w))
    (hN : ∀ a' w', FrE b X R T .nilIface a' → Fin w0 b t L X R T bm obj 47 ⟨#[47]⟩ so ln cl w' → Q .normal a' w') :
    sw12.wp Tryz.prog Q { tmps := #[ptr b.Z, ptr X, u 2, u 3, ptr R, u 5, .nilIface, ptr T, u 8, .int .i64 47, ptr g, ptr g, u 12, u 13, u 14, u 15, u 16, u 17, u 18, u 19, u 20, u 21, u 22, u 23, u 24, u 25, u 26, u 27, u 28, u 29, u 30, u 31, u 32, u 33, u 34, u 35, u 36, u 37, u 38, u 39, u 40, u 41, u 42, u 43, u 44, u 45, u 46, u 47, u 48, u 49, u 50, u 51, u 52, u 53, u 54, u 55, u 56, u 57, u 58, u 59, u 60, u 61, u 62, u 63, u 64, u 65, u 66, u 67, u 68, u 69, u 70, u 71, u 72, u 73, u 74, u 75, u 76, u 77, u 78, u 79, u 80, u 81, u 82, u 83, u 84, u 85, u 86, u 87, u 88, u 89, u 90, u 91, u 92, u 93, u 94, u 95, u 96, u 97, u 98, u 99, u 100, u 101, u 102, u 103, u 104, u 105, u 106, u 107, u 108, u 109, u 110, u 111, u 112, u 113, u 114, u 115, u 116, u 117, u 118, u 119, u 120, u 121, u 122, u 123, u 124, u 125, u 126, u 127, u 128, u 129, u 130, u 131, u 132, u 133, u 134, u 135, u 136, u 137, u 138, u 139, u 140, u 141, u 142, u 143, u 144, u 145, u 146, u 147, u 148, u 149, u 150, u 151, u 152, u 153, u 154, u 155, u 156, u 157, u 158, u 159, u 160, u 161, u 162, u 163, u 164, u 165, u 166, u 167, u 168, u 169, u 170, u 171, u 172, u 173, u 174, u 175, u 176, u 177, u 178, u 179, u 180, u 181, u 182, u 183, u 184, u 185, u 186, u 187, u 188, u 189, u 190, u 191, u 192, u 193, u 194, u 195, u 196, u 197, u 198, u 199, u 200, u 201, u 202, u 203, u 204, u 205, u 206, u 207, u 208, u 209, u 210, u 211, u 212, u 213, u 214, u 215, u 216, u 217, u 218, u 219, u 220, u 221, u 222, u 223, u 224, u 225, u 226, u 227, u 228, u 229, u 230, u 231, u 232, u 233, u 234, u 235, u 236, u 237, u 238, u 239, u 240, u 241, u 242, u 243, u 244, u 245, u 246, u 247, u 248, u 249, u 250, u 251, u 252, u 253, u 254, u 255, u 256, u 257, u 258, u 259, u 260, u 261, u 262, u 263, u 264, u 265, u 266, u 267, u 268, u 269, u 270, u 271, u 272, u 273, u 274, u 275, u 276, u 277, u 278, u 279, u 280, u 281, u 282], defers := [] } w := by
  have HN := Lib.hid hN
  clear hN
  conv => arg 2; whnf
  go_wp2_with fail
  refine (isLet_calls (r := [47]) (v := false) rfl).mono ?_
  rintro e w1 ⟨rfl, rfl⟩
  simp only []
  go_wp2_with fail
  refine (isDec_calls (r := [47]) (v := false) rfl).mono ?_
  rintro e w1 ⟨rfl, rfl⟩
  have t0 := H1.out.tk.c0
  have z0 := H1.out.tk.fz 0
  have t2 := H1.out.tk.c2
  have z2 := H1.out.tk.fz 2
  have hma := H1.out.set0 HE.out 47
  have HF := Lib.hid (hma.set2 HE.out ⟨#[47]⟩)
  have t2' := hma.tk.c2
  have z2' := hma.tk.fz 2
  simp only []
  go_wp2_with fail
  exact HN.out _ _ (frE_mk rfl rfl rfl rfl rfl rfl) HF.out.fin

set_option maxRecDepth 100000 in
set_option maxHeartbeats 4000000 in
theorem sw_37 {w0 w : World} {b : Bl} {t : Bs} {L : Int} {g : Nat} {X R T bm : Nat} {obj : Obj} {so : ByteArray} {ln cl : Int} {Q : Exit → Act → World → Prop} (u : Nat → Value) (HE : Hid (Env w0 b X bm)) (H1 : Hid (Mid w0 b t L g [] X R T bm obj 0 ⟨#[]⟩ so ln cl w))
    (hN : ∀ a' w', FrE b X R T .nilIface a' → Fin w0 b t L X R T bm obj 37 ⟨#[37]⟩ so ln cl w' → Q .normal a' w') :
    sw12.wp Tryz.prog Q { tmps := #[ptr b.Z, ptr X, u 2, u 3, ptr R, u 5, .nilIface, ptr T, u 8, .int .i64 37, ptr g, ptr g, u 12, u 13, u 14, u 15, u 16, u 17, u 18, u 19, u 20, u 21, u 22, u 23, u 24, u 25, u 26, u 27, u 28, u 29, u 30, u 31, u 32, u 33, u 34, u 35, u 36, u 37, u 38, u 39, u 40, u 41, u 42, u 43, u 44, u 45, u 46, u 47, u 48, u 49, u 50, u 51, u 52, u 53, u 54, u 55, u 56, u 57, u 58, u 59, u 60, u 61, u 62, u 63, u 64, u 65, u 66, u 67, u 68, u 69, u 70, u 71, u 72, u 73, u 74, u 75, u 76, u 77, u 78, u 79, u 80, u 81, u 82, u 83, u 84, u 85, u 86, u 87, u 88, u 89, u 90, u 91, u 92, u 93, u 94, u 95, u 96, u 97, u 98, u 99, u 100, u 101, u 102, u 103, u 104, u 105, u 106, u 107, u 108, u 109, u 110, u 111, u 112, u 113, u 114, u 115, u 116, u 117, u 118, u 119, u 120, u 121, u 122, u 123, u 124, u 125, u 126, u 127, u 128, u 129, u 130, u 131, u 132, u 133, u 134, u 135, u 136, u 137, u 138, u 139, u 140, u 141, u 142, u 143, u 144, u 145, u 146, u 147, u 148, u 149, u 150, u 151, u 152, u 153, u 154, u 155, u 156, u 157, u 158, u 159, u 160, u 161, u 162, u 163, u 164, u 165, u 166, u 167, u 168, u 169, u 170, u 171, u 172, u 173, u 174, u 175, u 176, u 177, u 178, u 179, u 180, u 181, u 182, u 183, u 184, u 185, u 186, u 187, u 188, u 189, u 190, u 191, u 192, u 193, u 194, u 195, u 196, u 197, u 198, u 199, u 200, u 201, u 202, u 203, u 204, u 205, u 206, u 207, u 208, u 209, u 210, u 211, u 212, u 213, u 214, u 215, u 216, u 217, u 218, u 219, u 220, u 221, u 222, u 223, u 224, u 225, u 226, u 227, u 228, u 229, u 230, u 231, u 232, u 233, u 234, u 235, u 236, u 237, u 238, u 239, u 240, u 241, u 242, u 243, u 244, u 245, u 246, u 247, u 248, u 249, u 250, u 251, u 252, u 253, u 254, u 255, u 256, u 257, u 258, u 259, u 260, u 261, u 262, u 263, u 264, u 265, u 266, u 267, u 268, u 269, u 270, u 271, u 272, u 273, u 274, u 275, u 276, u 277, u 278, u 279, u 280, u 281, u 282], defers := [] } w := by
  have HN := Lib.hid hN
  clear hN
  conv => arg 2; whnf
  go_wp2_with fail
  refine (isLet_calls (r := [37]) (v := false) rfl).mono ?_
  rintro e w1 ⟨rfl, rfl⟩
  simp only []
  go_wp2_with fail
  refine (isDec_calls (r := [37]) (v := false) rfl).mono ?_
  rintro e w1 ⟨rfl, rfl⟩
  have t0 := H1.out.tk.c0
  have z0 := H1.out.tk.fz 0
  have t2 := H1.out.tk.c2
  have z2 := H1.out.tk.fz 2
  have hma := H1.out.set0 HE.out 37
  have HF := Lib.hid (hma.set2 HE.out ⟨#[37]⟩)
  have t2' := hma.tk.c2
  have z2' := hma.tk.fz 2
  simp only []
  go_wp2_with fail
  exact HN.out _ _ (frE_mk rfl rfl rfl rfl rfl rfl) HF.out.fin

set_option maxRecDepth 100000 in
set_option maxHeartbeats 4000000 in
theorem sw_94 {w0 w : World} {b : Bl} {t : Bs} {L : Int} {g : Nat} {X R T bm : Nat} {obj : Obj} {so : ByteArray} {ln cl : Int} {Q : Exit → Act → World → Prop} (u : Nat → Value) (HE : Hid (Env w0 b X bm)) (H1 : Hid (Mid w0 b t L g [] X R T bm obj 0 ⟨#[]⟩ so ln cl w))
    (hN : ∀ a' w', FrE b X R T .nilIface a' → Fin w0 b t L X R T bm obj 94 ⟨#[94]⟩ so ln cl w' → Q .normal a' w') :
    sw12.wp Tryz.prog Q { tmps := #[ptr b.Z, ptr X, u 2, u 3, ptr R, u 5, .nilIface, ptr T, u 8, .int .i64 94, ptr g, ptr g, u 12, u 13, u 14, u 15, u 16, u 17, u 18, u 19, u 20, u 21, u 22, u 23, u 24, u 25, u 26, u 27, u 28, u 29, u 30, u 31, u 32, u 33, u 34, u 35, u 36, u 37, u 38, u 39, u 40, u 41, u 42, u 43, u 44, u 45, u 46, u 47, u 48, u 49, u 50, u 51, u 52, u 53, u 54, u 55, u 56, u 57, u 58, u 59, u 60, u 61, u 62, u 63, u 64, u 65, u 66, u 67, u 68, u 69, u 70, u 71, u 72, u 73, u 74, u 75, u 76, u 77, u 78, u 79, u 80, u 81, u 82, u 83, u 84, u 85, u 86, u 87, u 88, u 89, u 90, u 91, u 92, u 93, u 94, u 95, u 96, u 97, u 98, u 99, u 100, u 101, u 102, u 103, u 104, u 105, u 106, u 107, u 108, u 109, u 110, u 111, u 112, u 113, u 114, u 115, u 116, u 117, u 118, u 119, u 120, u 121, u 122, u 123, u 124, u 125, u 126, u 127, u 128, u 129, u 130, u 131, u 132, u 133, u 134, u 135, u 136, u 137, u 138, u 139, u 140, u 141, u 142, u 143, u 144, u 145, u 146, u 147, u 148, u 149, u 150, u 151, u 152, u 153, u 154, u 155, u 156, u 157, u 158, u 159, u 160, u 161, u 162, u 163, u 164, u 165, u 166, u 167, u 168, u 169, u 170, u 171, u 172, u 173, u 174, u 175, u 176, u 177, u 178, u 179, u 180, u 181, u 182, u 183, u 184, u 185, u 186, u 187, u 188, u 189, u 190, u 191, u 192, u 193, u 194, u 195, u 196, u 197, u 198, u 199, u 200, u 201, u 202, u 203, u 204, u 205, u 206, u 207, u 208, u 209, u 210, u 211, u 212, u 213, u 214, u 215, u 216, u 217, u 218, u 219, u 220, u 221, u 222, u 223, u 224, u 225, u 226, u 227, u 228, u 229, u 230, u 231, u 232, u 233, u 234, u 235, u 236, u 237, u 238, u 239, u 240, u 241, u 242, u 243, u 244, u 245, u 246, u 247, u 248, u 249, u 250, u 251, u 252, u 253, u 254, u 255, u 256, u 257, u 258, u 259, u 260, u 261, u 262, u 263, u 264, u 265, u 266, u 267, u 268, u 269, u 270, u 271, u 272, u 273, u 274, u 275, u 276, u 277, u 278, u 279, u 280, u 281, u 282], defers := [] } w := by
  have HN := Lib.hid hN
  clear hN
  conv => arg 2; whnf
  go_wp2_with fail
  refine (isLet_calls (r := [94]) (v := false) rfl).mono ?_
  rintro e w1 ⟨rfl, rfl⟩
  simp only []
  go_wp2_with fail
  refine (isDec_calls (r := [94]) (v := false) rfl).mono ?_
  rintro e w1 ⟨rfl, rfl⟩
  have t0 := H1.out.tk.c0
  have z0 := H1.out.tk.fz 0
  have t2 := H1.out.tk.c2
  have z2 := H1.out.tk.fz 2
  have hma := H1.out.set0 HE.out 94
  have HF := Lib.hid (hma.set2 HE.out ⟨#[94]⟩)
  have t2' := hma.tk.c2
  have z2' := hma.tk.fz 2
  simp only []
  go_wp2_with fail
  exact HN.out _ _ (frE_mk rfl rfl rfl rfl rfl rfl) HF.out.fin

set_option maxRecDepth 100000 in
set_option maxHeartbeats 4000000 in
theorem sw_35 {w0 w : World} {b : Bl} {t : Bs} {L : Int} {g : Nat} {X R T bm : Nat} {obj : Obj} {so : ByteArray} {ln cl : Int} {Q : Exit → Act → World → Prop} (u : Nat → Value) (HE : Hid (Env w0 b X bm)) (H1 : Hid (Mid w0 b t L g [] X R T bm obj 0 ⟨#[]⟩ so ln cl w))
    (hN : ∀ a' w', FrE b X R T .nilIface a' → Fin w0 b t L X R T bm obj 35 ⟨#[35]⟩ so ln cl w' → Q .normal a' w') :
    sw12.wp Tryz.prog Q { tmps := #[ptr b.Z, ptr X, u 2, u 3, ptr R, u 5, .nilIface, ptr T, u 8, .int .i64 35, ptr g, ptr g, u 12, u 13, u 14, u 15, u 16, u 17, u 18, u 19, u 20, u 21, u 22, u 23, u 24, u 25, u 26, u 27, u 28, u 29, u 30, u 31, u 32, u 33, u 34, u 35, u 36, u 37, u 38, u 39, u 40, u 41, u 42, u 43, u 44, u 45, u 46, u 47, u 48, u 49, u 50, u 51, u 52, u 53, u 54, u 55, u 56, u 57, u 58, u 59, u 60, u 61, u 62, u 63, u 64, u 65, u 66, u 67, u 68, u 69, u 70, u 71, u 72, u 73, u 74, u 75, u 76, u 77, u 78, u 79, u 80, u 81, u 82, u 83, u 84, u 85, u 86, u 87, u 88, u 89, u 90, u 91, u 92, u 93, u 94, u 95, u 96, u 97, u 98, u 99, u 100, u 101, u 102, u 103, u 104, u 105, u 106, u 107, u 108, u 109, u 110, u 111, u 112, u 113, u 114, u 115, u 116, u 117, u 118, u 119, u 120, u 121, u 122, u 123, u 124, u 125, u 126, u 127, u 128, u 129, u 130, u 131, u 132, u 133, u 134, u 135, u 136, u 137, u 138, u 139, u 140, u 141, u 142, u 143, u 144, u 145, u 146, u 147, u 148, u 149, u 150, u 151, u 152, u 153, u 154, u 155, u 156, u 157, u 158, u 159, u 160, u 161, u 162, u 163, u 164, u 165, u 166, u 167, u 168, u 169, u 170, u 171, u 172, u 173, u 174, u 175, u 176, u 177, u 178, u 179, u 180, u 181, u 182, u 183, u 184, u 185, u 186, u 187, u 188, u 189, u 190, u 191, u 192, u 193, u 194, u 195, u 196, u 197, u 198, u 199, u 200, u 201, u 202, u 203, u 204, u 205, u 206, u 207, u 208, u 209, u 210, u 211, u 212, u 213, u 214, u 215, u 216, u 217, u 218, u 219, u 220, u 221, u 222, u 223, u 224, u 225, u 226, u 227, u 228, u 229, u 230, u 231, u 232, u 233, u 234, u 235, u 236, u 237, u 238, u 239, u 240, u 241, u 242, u 243, u 244, u 245, u 246, u 247, u 248, u 249, u 250, u 251, u 252, u 253, u 254, u 255, u 256, u 257, u 258, u 259, u 260, u 261, u 262, u 263, u 264, u 265, u 266, u 267, u 268, u 269, u 270, u 271, u 272, u 273, u 274, u 275, u 276, u 277, u 278, u 279, u 280, u 281, u 282], defers := [] } w := by
  have HN := Lib.hid hN
  clear hN
  conv => arg 2; whnf
  go_wp2_with fail
  refine (isLet_calls (r := [35]) (v := false) rfl).mono ?_
  rintro e w1 ⟨rfl, rfl⟩
  simp only []
  go_wp2_with fail
  refine (isDec_calls (r := [35]) (v := false) rfl).mono ?_
  rintro e w1 ⟨rfl, rfl⟩
  have t0 := H1.out.tk.c0
  have z0 := H1.out.tk.fz 0
  have t2 := H1.out.tk.c2
  have z2 := H1.out.tk.fz 2
  have hma := H1.out.set0 HE.out 35
  have HF := Lib.hid (hma.set2 HE.out ⟨#[35]⟩)
  have t2' := hma.tk.c2
  have z2' := hma.tk.fz 2
  simp only []
  go_wp2_with fail
  exact HN.out _ _ (frE_mk rfl rfl rfl rfl rfl rfl) HF.out.fin

set_option maxRecDepth 100000 in
set_option maxHeartbeats 4000000 in
theorem sw_40 {w0 w : World} {b : Bl} {t : Bs} {L : Int} {g : Nat} {X R T bm : Nat} {obj : Obj} {so : ByteArray} {ln cl : Int} {Q : Exit → Act → World → Prop} (u : Nat → Value) (HE : Hid (Env w0 b X bm)) (H1 : Hid (Mid w0 b t L g [] X R T bm obj 0 ⟨#[]⟩ so ln cl w))
    (hN : ∀ a' w', FrE b X R T .nilIface a' → Fin w0 b t L X R T bm obj 40 ⟨#[40]⟩ so ln cl w' → Q .normal a' w') :
    sw12.wp Tryz.prog Q { tmps := #[ptr b.Z, ptr X, u 2, u 3, ptr R, u 5, .nilIface, ptr T, u 8, .int .i64 40, ptr g, ptr g, u 12, u 13, u 14, u 15, u 16, u 17, u 18, u 19, u 20, u 21, u 22, u 23, u 24, u 25, u 26, u 27, u 28, u 29, u 30, u 31, u 32, u 33, u 34, u 35, u 36, u 37, u 38, u 39, u 40, u 41, u 42, u 43, u 44, u 45, u 46, u 47, u 48, u 49, u 50, u 51, u 52, u 53, u 54, u 55, u 56, u 57, u 58, u 59, u 60, u 61, u 62, u 63, u 64, u 65, u 66, u 67, u 68, u 69, u 70, u 71, u 72, u 73, u 74, u 75, u 76, u 77, u 78, u 79, u 80, u 81, u 82, u 83, u 84, u 85, u 86, u 87, u 88, u 89, u 90, u 91, u 92, u 93, u 94, u 95, u 96, u 97, u 98, u 99, u 100, u 101, u 102, u 103, u 104, u 105, u 106, u 107, u 108, u 109, u 110, u 111, u 112, u 113, u 114, u 115, u 116, u 117, u 118, u 119, u 120, u 121, u 122, u 123, u 124, u 125, u 126, u 127, u 128, u 129, u 130, u 131, u 132, u 133, u 134, u 135, u 136, u 137, u 138, u 139, u 140, u 141, u 142, u 143, u 144, u 145, u 146, u 147, u 148, u 149, u 150, u 151, u 152, u 153, u 154, u 155, u 156, u 157, u 158, u 159, u 160, u 161, u 162, u 163, u 164, u 165, u 166, u 167, u 168, u 169, u 170, u 171, u 172, u 173, u 174, u 175, u 176, u 177, u 178, u 179, u 180, u 181, u 182, u 183, u 184, u 185, u 186, u 187, u 188, u 189, u 190, u 191, u 192, u 193, u 194, u 195, u 196, u 197, u 198, u 199, u 200, u 201, u 202, u 203, u 204, u 205, u 206, u 207, u 208, u 209, u 210, u 211, u 212, u 213, u 214, u 215, u 216, u 217, u 218, u 219, u 220, u 221, u 222, u 223, u 224, u 225, u 226, u 227, u 228, u 229, u 230, u 231, u 232, u 233, u 234, u 235, u 236, u 237, u 238, u 239, u 240, u 241, u 242, u 243, u 244, u 245, u 246, u 247, u 248, u 249, u 250, u 251, u 252, u 253, u 254, u 255, u 256, u 257, u 258, u 259, u 260, u 261, u 262, u 263, u 264, u 265, u 266, u 267, u 268, u 269, u 270, u 271, u 272, u 273, u 274, u 275, u 276, u 277, u 278, u 279, u 280, u 281, u 282], defers := [] } w := by
  have HN := Lib.hid hN
  clear hN
  conv => arg 2; whnf
  go_wp2_with fail
  refine (isLet_calls (r := [40]) (v := false) rfl).mono ?_
  rintro e w1 ⟨rfl, rfl⟩
  simp only []
  go_wp2_with fail
  refine (isDec_calls (r := [40]) (v := false) rfl).mono ?_
  rintro e w1 ⟨rfl, rfl⟩
  have t0 := H1.out.tk.c0
  have z0 := H1.out.tk.fz 0
  have t2 := H1.out.tk.c2
  have z2 := H1.out.tk.fz 2
  have hma := H1.out.set0 HE.out 40
  have HF := Lib.hid (hma.set2 HE.out ⟨#[40]⟩)
  have t2' := hma.tk.c2
  have z2' := hma.tk.fz 2
  simp only []
  go_wp2_with fail
  exact HN.out _ _ (frE_mk rfl rfl rfl rfl rfl rfl) HF.out.fin

set_option maxRecDepth 100000 in
set_option maxHeartbeats 4000000 in
theorem sw_41 {w0 w : World} {b : Bl} {t : Bs} {L : Int} {g : Nat} {X R T bm : Nat} {obj : Obj} {so : ByteArray} {ln cl : Int} {Q : Exit → Act → World → Prop} (u : Nat → Value) (HE : Hid (Env w0 b X bm)) (H1 : Hid (Mid w0 b t L g [] X R T bm obj 0 ⟨#[]⟩ so ln cl w))
    (hN : ∀ a' w', FrE b X R T .nilIface a' → Fin w0 b t L X R T bm obj 41 ⟨#[41]⟩ so ln cl w' → Q .normal a' w') :
    sw12.wp Tryz.prog Q { tmps := #[ptr b.Z, ptr X, u 2, u 3, ptr R, u 5, .nilIface, ptr T, u 8, .int .i64 41, ptr g, ptr g, u 12, u 13, u 14, u 15, u 16, u 17, u 18, u 19, u 20, u 21, u 22, u 23, u 24, u 25, u 26, u 27, u 28, u 29, u 30, u 31, u 32, u 33, u 34, u 35, u 36, u 37, u 38, u 39, u 40, u 41, u 42, u 43, u 44, u 45, u 46, u 47, u 48, u 49, u 50, u 51, u 52, u 53, u 54, u 55, u 56, u 57, u 58, u 59, u 60, u 61, u 62, u 63, u 64, u 65, u 66, u 67, u 68, u 69, u 70, u 71, u 72, u 73, u 74, u 75, u 76, u 77, u 78, u 79, u 80, u 81, u 82, u 83, u 84, u 85, u 86, u 87, u 88, u 89, u 90, u 91, u 92, u 93, u 94, u 95, u 96, u 97, u 98, u 99, u 100, u 101, u 102, u 103, u 104, u 105, u 106, u 107, u 108, u 109, u 110, u 111, u 112, u 113, u 114, u 115, u 116, u 117, u 118, u 119, u 120, u 121, u 122, u 123, u 124, u 125, u 126, u 127, u 128, u 129, u 130, u 131, u 132, u 133, u 134, u 135, u 136, u 137, u 138, u 139, u 140, u 141, u 142, u 143, u 144, u 145, u 146, u 147, u 148, u 149, u 150, u 151, u 152, u 153, u 154, u 155, u 156, u 157, u 158, u 159, u 160, u 161, u 162, u 163, u 164, u 165, u 166, u 167, u 168, u 169, u 170, u 171, u 172, u 173, u 174, u 175, u 176, u 177, u 178, u 179, u 180, u 181, u 182, u 183, u 184, u 185, u 186, u 187, u 188, u 189, u 190, u 191, u 192, u 193, u 194, u 195, u 196, u 197, u 198, u 199, u 200, u 201, u 202, u 203, u 204, u 205, u 206, u 207, u 208, u 209, u 210, u 211, u 212, u 213, u 214, u 215, u 216, u 217, u 218, u 219, u 220, u 221, u 222, u 223, u 224, u 225, u 226, u 227, u 228, u 229, u 230, u 231, u 232, u 233, u 234, u 235, u 236, u 237, u 238, u 239, u 240, u 241, u 242, u 243, u 244, u 245, u 246, u 247, u 248, u 249, u 250, u 251, u 252, u 253, u 254, u 255, u 256, u 257, u 258, u 259, u 260, u 261, u 262, u 263, u 264, u 265, u 266, u 267, u 268, u 269, u 270, u 271, u 272, u 273, u 274, u 275, u 276, u 277, u 278, u 279, u 280, u 281, u 282], defers := [] } w := by
  have HN := Lib.hid hN
  clear hN
  conv => arg 2; whnf
  go_wp2_with fail
  refine (isLet_calls (r := [41]) (v := false) rfl).mono ?_
  rintro e w1 ⟨rfl, rfl⟩
  simp only []
  go_wp2_with fail
  refine (isDec_calls (r := [41]) (v := false) rfl).mono ?_
  rintro e w1 ⟨rfl, rfl⟩
  have t0 := H1.out.tk.c0
  have z0 := H1.out.tk.fz 0
  have t2 := H1.out.tk.c2
  have z2 := H1.out.tk.fz 2
  have hma := H1.out.set0 HE.out 41
  have HF := Lib.hid (hma.set2 HE.out ⟨#[41]⟩)
  have t2' := hma.tk.c2
  have z2' := hma.tk.fz 2
  simp only []
  go_wp2_with fail
  exact HN.out _ _ (frE_mk rfl rfl rfl rfl rfl rfl) HF.out.fin

set_option maxRecDepth 100000 in
set_option maxHeartbeats 4000000 in
theorem sw_123 {w0 w : World} {b : Bl} {t : Bs} {L : Int} {g : Nat} {X R T bm : Nat} {obj : Obj} {so : ByteArray} {ln cl : Int} {Q : Exit → Act → World → Prop} (u : Nat → Value) (HE : Hid (Env w0 b X bm)) (H1 : Hid (Mid w0 b t L g [] X R T bm obj 0 ⟨#[]⟩ so ln cl w))
    (hN : ∀ a' w', FrE b X R T .nilIface a' → Fin w0 b t L X R T bm obj 123 ⟨#[123]⟩ so ln cl w' → Q .normal a' w') :
    sw12.wp Tryz.prog Q { tmps := #[ptr b.Z, ptr X, u 2, u 3, ptr R, u 5, .nilIface, ptr T, u 8, .int .i64 123, ptr g, ptr g, u 12, u 13, u 14, u 15, u 16, u 17, u 18, u 19, u 20, u 21, u 22, u 23, u 24, u 25, u 26, u 27, u 28, u 29, u 30, u 31, u 32, u 33, u 34, u 35, u 36, u 37, u 38, u 39, u 40, u 41, u 42, u 43, u 44, u 45, u 46, u 47, u 48, u 49, u 50, u 51, u 52, u 53, u 54, u 55, u 56, u 57, u 58, u 59, u 60, u 61, u 62, u 63, u 64, u 65, u 66, u 67, u 68, u 69, u 70, u 71, u 72, u 73, u 74, u 75, u 76, u 77, u 78, u 79, u 80, u 81, u 82, u 83, u 84, u 85, u 86, u 87, u 88, u 89, u 90, u 91, u 92, u 93, u 94, u 95, u 96, u 97, u 98, u 99, u 100, u 101, u 102, u 103, u 104, u 105, u 106, u 107, u 108, u 109, u 110, u 111, u 112, u 113, u 114, u 115, u 116, u 117, u 118, u 119, u 120, u 121, u 122, u 123, u 124, u 125, u 126, u 127, u 128, u 129, u 130, u 131, u 132, u 133, u 134, u 135, u 136, u 137, u 138, u 139, u 140, u 141, u 142, u 143, u 144, u 145, u 146, u 147, u 148, u 149, u 150, u 151, u 152, u 153, u 154, u 155, u 156, u 157, u 158, u 159, u 160, u 161, u 162, u 163, u 164, u 165, u 166, u 167, u 168, u 169, u 170, u 171, u 172, u 173, u 174, u 175, u 176, u 177, u 178, u 179, u 180, u 181, u 182, u 183, u 184, u 185, u 186, u 187, u 188, u 189, u 190, u 191, u 192, u 193, u 194, u 195, u 196, u 197, u 198, u 199, u 200, u 201, u 202, u 203, u 204, u 205, u 206, u 207, u 208, u 209, u 210, u 211, u 212, u 213, u 214, u 215, u 216, u 217, u 218, u 219, u 220, u 221, u 222, u 223, u 224, u 225, u 226, u 227, u 228, u 229, u 230, u 231, u 232, u 233, u 234, u 235, u 236, u 237, u 238, u 239, u 240, u 241, u 242, u 243, u 244, u 245, u 246, u 247, u 248, u 249, u 250, u 251, u 252, u 253, u 254, u 255, u 256, u 257, u 258, u 259, u 260, u 261, u 262, u 263, u 264, u 265, u 266, u 267, u 268, u 269, u 270, u 271, u 272, u 273, u 274, u 275, u 276, u 277, u 278, u 279, u 280, u 281, u 282], defers := [] } w := by
  have HN := Lib.hid hN
  clear hN
  conv => arg 2; whnf
  go_wp2_with fail
  refine (isLet_calls (r := [123]) (v := false) rfl).mono ?_
  rintro e w1 ⟨rfl, rfl⟩
  simp only []
  go_wp2_with fail
  refine (isDec_calls (r := [123]) (v := false) rfl).mono ?_
  rintro e w1 ⟨rfl, rfl⟩
  have t0 := H1.out.tk.c0
  have z0 := H1.out.tk.fz 0
  have t2 := H1.out.tk.c2
  have z2 := H1.out.tk.fz 2
  have hma := H1.out.set0 HE.out 123
  have HF := Lib.hid (hma.set2 HE.out ⟨#[123]⟩)
  have t2' := hma.tk.c2
  have z2' := hma.tk.fz 2
  simp only []
  go_wp2_with fail
  exact HN.out _ _ (frE_mk rfl rfl rfl rfl rfl rfl) HF.out.fin

set_option maxRecDepth 100000 in
set_option maxHeartbeats 4000000 in
theorem sw_125 {w0 w : World} {b : Bl} {t : Bs} {L : Int} {g : Nat} {X R T bm : Nat} {obj : Obj} {so : ByteArray} {ln cl : Int} {Q : Exit → Act → World → Prop} (u : Nat → Value) (HE : Hid (Env w0 b X bm)) (H1 : Hid (Mid w0 b t L g [] X R T bm obj 0 ⟨#[]⟩ so ln cl w))
    (hN : ∀ a' w', FrE b X R T .nilIface a' → Fin w0 b t L X R T bm obj 125 ⟨#[125]⟩ so ln cl w' → Q .normal a' w') :
    sw12.wp Tryz.prog Q { tmps := #[ptr b.Z, ptr X, u 2, u 3, ptr R, u 5, .nilIface, ptr T, u 8, .int .i64 125, ptr g, ptr g, u 12, u 13, u 14, u 15, u 16, u 17, u 18, u 19, u 20, u 21, u 22, u 23, u 24, u 25, u 26, u 27, u 28, u 29, u 30, u 31, u 32, u 33, u 34, u 35, u 36, u 37, u 38, u 39, u 40, u 41, u 42, u 43, u 44, u 45, u 46, u 47, u 48, u 49, u 50, u 51, u 52, u 53, u 54, u 55, u 56, u 57, u 58, u 59, u 60, u 61, u 62, u 63, u 64, u 65, u 66, u 67, u 68, u 69, u 70, u 71, u 72, u 73, u 74, u 75, u 76, u 77, u 78, u 79, u 80, u 81, u 82, u 83, u 84, u 85, u 86, u 87, u 88, u 89, u 90, u 91, u 92, u 93, u 94, u 95, u 96, u 97, u 98, u 99, u 100, u 101, u 102, u 103, u 104, u 105, u 106, u 107, u 108, u 109, u 110, u 111, u 112, u 113, u 114, u 115, u 116, u 117, u 118, u 119, u 120, u 121, u 122, u 123, u 124, u 125, u 126, u 127, u 128, u 129, u 130, u 131, u 132, u 133, u 134, u 135, u 136, u 137, u 138, u 139, u 140, u 141, u 142, u 143, u 144, u 145, u 146, u 147, u 148, u 149, u 150, u 151, u 152, u 153, u 154, u 155, u 156, u 157, u 158, u 159, u 160, u 161, u 162, u 163, u 164, u 165, u 166, u 167, u 168, u 169, u 170, u 171, u 172, u 173, u 174, u 175, u 176, u 177, u 178, u 179, u 180, u 181, u 182, u 183, u 184, u 185, u 186, u 187, u 188, u 189, u 190, u 191, u 192, u 193, u 194, u 195, u 196, u 197, u 198, u 199, u 200, u 201, u 202, u 203, u 204, u 205, u 206, u 207, u 208, u 209, u 210, u 211, u 212, u 213, u 214, u 215, u 216, u 217, u 218, u 219, u 220, u 221, u 222, u 223, u 224, u 225, u 226, u 227, u 228, u 229, u 230, u 231, u 232, u 233, u 234, u 235, u 236, u 237, u 238, u 239, u 240, u 241, u 242, u 243, u 244, u 245, u 246, u 247, u 248, u 249, u 250, u 251, u 252, u 253, u 254, u 255, u 256, u 257, u 258, u 259, u 260, u 261, u 262, u 263, u 264, u 265, u 266, u 267, u 268, u 269, u 270, u 271, u 272, u 273, u 274, u 275, u 276, u 277, u 278, u 279, u 280, u 281, u 282], defers := [] } w := by
  have HN := Lib.hid hN
  clear hN
  conv => arg 2; whnf
  go_wp2_with fail
  refine (isLet_calls (r := [125]) (v := false) rfl).mono ?_
  rintro e w1 ⟨rfl, rfl⟩
  simp only []
  go_wp2_with fail
  refine (isDec_calls (r := [125]) (v := false) rfl).mono ?_
  rintro e w1 ⟨rfl, rfl⟩
  have t0 := H1.out.tk.c0
  have z0 := H1.out.tk.fz 0
  have t2 := H1.out.tk.c2
  have z2 := H1.out.tk.fz 2
  have hma := H1.out.set0 HE.out 125
  have HF := Lib.hid (hma.set2 HE.out ⟨#[125]⟩)
  have t2' := hma.tk.c2
  have z2' := hma.tk.fz 2
  simp only []
  go_wp2_with fail
  exact HN.out _ _ (frE_mk rfl rfl rfl rfl rfl rfl) HF.out.fin

set_option maxRecDepth 100000 in
set_option maxHeartbeats 4000000 in
theorem sw_93 {w0 w : World} {b : Bl} {t : Bs} {L : Int} {g : Nat} {X R T bm : Nat} {obj : Obj} {so : ByteArray} {ln cl : Int} {Q : Exit → Act → World → Prop} (u : Nat → Value) (HE : Hid (Env w0 b X bm)) (H1 : Hid (Mid w0 b t L g [] X R T bm obj 0 ⟨#[]⟩ so ln cl w))
    (hN : ∀ a' w', FrE b X R T .nilIface a' → Fin w0 b t L X R T bm obj 93 ⟨#[93]⟩ so ln cl w' → Q .normal a' w') :
    sw12.wp Tryz.prog Q { tmps := #[ptr b.Z, ptr X, u 2, u 3, ptr R, u 5, .nilIface, ptr T, u 8, .int .i64 93, ptr g, ptr g, u 12, u 13, u 14, u 15, u 16, u 17, u 18, u 19, u 20, u 21, u 22, u 23, u 24, u 25, u 26, u 27, u 28, u 29, u 30, u 31, u 32, u 33, u 34, u 35, u 36, u 37, u 38, u 39, u 40, u 41, u 42, u 43, u 44, u 45, u 46, u 47, u 48, u 49, u 50, u 51, u 52, u 53, u 54, u 55, u 56, u 57, u 58, u 59, u 60, u 61, u 62, u 63, u 64, u 65, u 66, u 67, u 68, u 69, u 70, u 71, u 72, u 73, u 74, u 75, u 76, u 77, u 78, u 79, u 80, u 81, u 82, u 83, u 84, u 85, u 86, u 87, u 88, u 89, u 90, u 91, u 92, u 93, u 94, u 95, u 96, u 97, u 98, u 99, u 100, u 101, u 102, u 103, u 104, u 105, u 106, u 107, u 108, u 109, u 110, u 111, u 112, u 113, u 114, u 115, u 116, u 117, u 118, u 119, u 120, u 121, u 122, u 123, u 124, u 125, u 126, u 127, u 128, u 129, u 130, u 131, u 132, u 133, u 134, u 135, u 136, u 137, u 138, u 139, u 140, u 141, u 142, u 143, u 144, u 145, u 146, u 147, u 148, u 149, u 150, u 151, u 152, u 153, u 154, u 155, u 156, u 157, u 158, u 159, u 160, u 161, u 162, u 163, u 164, u 165, u 166, u 167, u 168, u 169, u 170, u 171, u 172, u 173, u 174, u 175, u 176, u 177, u 178, u 179, u 180, u 181, u 182, u 183, u 184, u 185, u 186, u 187, u 188, u 189, u 190, u 191, u 192, u 193, u 194, u 195, u 196, u 197, u 198, u 199, u 200, u 201, u 202, u 203, u 204, u 205, u 206, u 207, u 208, u 209, u 210, u 211, u 212, u 213, u 214, u 215, u 216, u 217, u 218, u 219, u 220, u 221, u 222, u 223, u 224, u 225, u 226, u 227, u 228, u 229, u 230, u 231, u 232, u 233, u 234, u 235, u 236, u 237, u 238, u 239, u 240, u 241, u 242, u 243, u 244, u 245, u 246, u 247, u 248, u 249, u 250, u 251, u 252, u 253, u 254, u 255, u 256, u 257, u 258, u 259, u 260, u 261, u 262, u 263, u 264, u 265, u 266, u 267, u 268, u 269, u 270, u 271, u 272, u 273, u 274, u 275, u 276, u 277, u 278, u 279, u 280, u 281, u 282], defers := [] } w := by
  have HN := Lib.hid hN
  clear hN
  conv => arg 2; whnf
  go_wp2_with fail
  refine (isLet_calls (r := [93]) (v := false) rfl).mono ?_
  rintro e w1 ⟨rfl, rfl⟩
  simp only []
  go_wp2_with fail
  refine (isDec_calls (r := [93]) (v := false) rfl).mono ?_
  rintro e w1 ⟨rfl, rfl⟩
  have t0 := H1.out.tk.c0
  have z0 := H1.out.tk.fz 0
  have t2 := H1.out.tk.c2
  have z2 := H1.out.tk.fz 2
  have hma := H1.out.set0 HE.out 93
  have HF := Lib.hid (hma.set2 HE.out ⟨#[93]⟩)
  have t2' := hma.tk.c2
  have z2' := hma.tk.fz 2
  simp only []
  go_wp2_with fail
  exact HN.out _ _ (frE_mk rfl rfl rfl rfl rfl rfl) HF.out.fin

set_option maxRecDepth 100000 in
set_option maxHeartbeats 4000000 in
theorem sw_59 {w0 w : World} {b : Bl} {t : Bs} {L : Int} {g : Nat} {X R T bm : Nat} {obj : Obj} {so : ByteArray} {ln cl : Int} {Q : Exit → Act → World → Prop} (u : Nat → Value) (HE : Hid (Env w0 b X bm)) (H1 : Hid (Mid w0 b t L g [] X R T bm obj 0 ⟨#[]⟩ so ln cl w))
    (hN : ∀ a' w', FrE b X R T .nilIface a' → Fin w0 b t L X R T bm obj 59 ⟨#[59]⟩ so ln cl w' → Q .normal a' w') :
    sw12.wp Tryz.prog Q { tmps := #[ptr b.Z, ptr X, u 2, u 3, ptr R, u 5, .nilIface, ptr T, u 8, .int .i64 59, ptr g, ptr g, u 12, u 13, u 14, u 15, u 16, u 17, u 18, u 19, u 20, u 21, u 22, u 23, u 24, u 25, u 26, u 27, u 28, u 29, u 30, u 31, u 32, u 33, u 34, u 35, u 36, u 37, u 38, u 39, u 40, u 41, u 42, u 43, u 44, u 45, u 46, u 47, u 48, u 49, u 50, u 51, u 52, u 53, u 54, u 55, u 56, u 57, u 58, u 59, u 60, u 61, u 62, u 63, u 64, u 65, u 66, u 67, u 68, u 69, u 70, u 71, u 72, u 73, u 74, u 75, u 76, u 77, u 78, u 79, u 80, u 81, u 82, u 83, u 84, u 85, u 86, u 87, u 88, u 89, u 90, u 91, u 92, u 93, u 94, u 95, u 96, u 97, u 98, u 99, u 100, u 101, u 102, u 103, u 104, u 105, u 106, u 107, u 108, u 109, u 110, u 111, u 112, u 113, u 114, u 115, u 116, u 117, u 118, u 119, u 120, u 121, u 122, u 123, u 124, u 125, u 126, u 127, u 128, u 129, u 130, u 131, u 132, u 133, u 134, u 135, u 136, u 137, u 138, u 139, u 140, u 141, u 142, u 143, u 144, u 145, u 146, u 147, u 148, u 149, u 150, u 151, u 152, u 153, u 154, u 155, u 156, u 157, u 158, u 159, u 160, u 161, u 162, u 163, u 164, u 165, u 166, u 167, u 168, u 169, u 170, u 171, u 172, u 173, u 174, u 175, u 176, u 177, u 178, u 179, u 180, u 181, u 182, u 183, u 184, u 185, u 186, u 187, u 188, u 189, u 190, u 191, u 192, u 193, u 194, u 195, u 196, u 197, u 198, u 199, u 200, u 201, u 202, u 203, u 204, u 205, u 206, u 207, u 208, u 209, u 210, u 211, u 212, u 213, u 214, u 215, u 216, u 217, u 218, u 219, u 220, u 221, u 222, u 223, u 224, u 225, u 226, u 227, u 228, u 229, u 230, u 231, u 232, u 233, u 234, u 235, u 236, u 237, u 238, u 239, u 240, u 241, u 242, u 243, u 244, u 245, u 246, u 247, u 248, u 249, u 250, u 251, u 252, u 253, u 254, u 255, u 256, u 257, u 258, u 259, u 260, u 261, u 262, u 263, u 264, u 265, u 266, u 267, u 268, u 269, u 270, u 271, u 272, u 273, u 274, u 275, u 276, u 277, u 278, u 279, u 280, u 281, u 282], defers := [] } w := by
  have HN := Lib.hid hN
  clear hN
  conv => arg 2; whnf
  go_wp2_with fail
  refine (isLet_calls (r := [59]) (v := false) rfl).mono ?_
  rintro e w1 ⟨rfl, rfl⟩
  simp only []
  go_wp2_with fail
  refine (isDec_calls (r := [59]) (v := false) rfl).mono ?_
  rintro e w1 ⟨rfl, rfl⟩
  have t0 := H1.out.tk.c0
  have z0 := H1.out.tk.fz 0
  have t2 := H1.out.tk.c2
  have z2 := H1.out.tk.fz 2
  have hma := H1.out.set0 HE.out 59
  have HF := Lib.hid (hma.set2 HE.out ⟨#[59]⟩)
  have t2' := hma.tk.c2
  have z2' := hma.tk.fz 2
  simp only []
  go_wp2_with fail
  exact HN.out _ _ (frE_mk rfl rfl rfl rfl rfl rfl) HF.out.fin

set_option maxRecDepth 100000 in
set_option maxHeartbeats 4000000 in
theorem sw_44 {w0 w : World} {b : Bl} {t : Bs} {L : Int} {g : Nat} {X R T bm : Nat} {obj : Obj} {so : ByteArray} {ln cl : Int} {Q : Exit → Act → World → Prop} (u : Nat → Value) (HE : Hid (Env w0 b X bm)) (H1 : Hid (Mid w0 b t L g [] X R T bm obj 0 ⟨#[]⟩ so ln cl w))
    (hN : ∀ a' w', FrE b X R T .nilIface a' → Fin w0 b t L X R T bm obj 44 ⟨#[44]⟩ so ln cl w' → Q .normal a' w') :
    sw12.wp Tryz.prog Q { tmps := #[ptr b.Z, ptr X, u 2, u 3, ptr R, u 5, .nilIface, ptr T, u 8, .int .i64 44, ptr g, ptr g, u 12, u 13, u 14, u 15, u 16, u 17, u 18, u 19, u 20, u 21, u 22, u 23, u 24, u 25, u 26, u 27, u 28, u 29, u 30, u 31, u 32, u 33, u 34, u 35, u 36, u 37, u 38, u 39, u 40, u 41, u 42, u 43, u 44, u 45, u 46, u 47, u 48, u 49, u 50, u 51, u 52, u 53, u 54, u 55, u 56, u 57, u 58, u 59, u 60, u 61, u 62, u 63, u 64, u 65, u 66, u 67, u 68, u 69, u 70, u 71, u 72, u 73, u 74, u 75, u 76, u 77, u 78, u 79, u 80, u 81, u 82, u 83, u 84, u 85, u 86, u 87, u 88, u 89, u 90, u 91, u 92, u 93, u 94, u 95, u 96, u 97, u 98, u 99, u 100, u 101, u 102, u 103, u 104, u 105, u 106, u 107, u 108, u 109, u 110, u 111, u 112, u 113, u 114, u 115, u 116, u 117, u 118, u 119, u 120, u 121, u 122, u 123, u 124, u 125, u 126, u 127, u 128, u 129, u 130, u 131, u 132, u 133, u 134, u 135, u 136, u 137, u 138, u 139, u 140, u 141, u 142, u 143, u 144, u 145, u 146, u 147, u 148, u 149, u 150, u 151, u 152, u 153, u 154, u 155, u 156, u 157, u 158, u 159, u 160, u 161, u 162, u 163, u 164, u 165, u 166, u 167, u 168, u 169, u 170, u 171, u 172, u 173, u 174, u 175, u 176, u 177, u 178, u 179, u 180, u 181, u 182, u 183, u 184, u 185, u 186, u 187, u 188, u 189, u 190, u 191, u 192, u 193, u 194, u 195, u 196, u 197, u 198, u 199, u 200, u 201, u 202, u 203, u 204, u 205, u 206, u 207, u 208, u 209, u 210, u 211, u 212, u 213, u 214, u 215, u 216, u 217, u 218, u 219, u 220, u 221, u 222, u 223, u 224, u 225, u 226, u 227, u 228, u 229, u 230, u 231, u 232, u 233, u 234, u 235, u 236, u 237, u 238, u 239, u 240, u 241, u 242, u 243, u 244, u 245, u 246, u 247, u 248, u 249, u 250, u 251, u 252, u 253, u 254, u 255, u 256, u 257, u 258, u 259, u 260, u 261, u 262, u 263, u 264, u 265, u 266, u 267, u 268, u 269, u 270, u 271, u 272, u 273, u 274, u 275, u 276, u 277, u 278, u 279, u 280, u 281, u 282], defers := [] } w := by
  have HN := Lib.hid hN
  clear hN
  conv => arg 2; whnf
  go_wp2_with fail
  refine (isLet_calls (r := [44]) (v := false) rfl).mono ?_
  rintro e w1 ⟨rfl, rfl⟩
  simp only []
  go_wp2_with fail
  refine (isDec_calls (r := [44]) (v := false) rfl).mono ?_
  rintro e w1 ⟨rfl, rfl⟩
  have t0 := H1.out.tk.c0
  have z0 := H1.out.tk.fz 0
  have t2 := H1.out.tk.c2
  have z2 := H1.out.tk.fz 2
  have hma := H1.out.set0 HE.out 44
  have HF := Lib.hid (hma.set2 HE.out ⟨#[44]⟩)
  have t2' := hma.tk.c2
  have z2' := hma.tk.fz 2
  simp only []
  go_wp2_with fail
  exact HN.out _ _ (frE_mk rfl rfl rfl rfl rfl rfl) HF.out.fin

set_option maxRecDepth 100000 in
set_option maxHeartbeats 4000000 in
theorem sw_45a {w0 w : World} {b : Bl} {t : Bs} {L : Int} {g : Nat} {X R T bm : Nat} {obj : Obj} {so : ByteArray} {ln cl : Int} {Q : Exit → Act → World → Prop} (u : Nat → Value) (HE : Hid (Env w0 b X bm)) (H : Hid (Mid w0 b t L g [] X R T bm obj 0 ⟨#[]⟩ so ln cl w)) (hd1 : hd t ≠ 45)
    (hN : ∀ a' w', FrE b X R T .nilIface a' → Fin w0 b t L X R T bm obj 45 ⟨#[45]⟩ so ln cl w' → Q .normal a' w') :
    sw12.wp Tryz.prog Q { tmps := #[ptr b.Z, ptr X, u 2, u 3, ptr R, u 5, .nilIface, ptr T, u 8, .int .i64 45, ptr g, ptr g, u 12, u 13, u 14, u 15, u 16, u 17, u 18, u 19, u 20, u 21, u 22, u 23, u 24, u 25, u 26, u 27, u 28, u 29, u 30, u 31, u 32, u 33, u 34, u 35, u 36, u 37, u 38, u 39, u 40, u 41, u 42, u 43, u 44, u 45, u 46, u 47, u 48, u 49, u 50, u 51, u 52, u 53, u 54, u 55, u 56, u 57, u 58, u 59, u 60, u 61, u 62, u 63, u 64, u 65, u 66, u 67, u 68, u 69, u 70, u 71, u 72, u 73, u 74, u 75, u 76, u 77, u 78, u 79, u 80, u 81, u 82, u 83, u 84, u 85, u 86, u 87, u 88, u 89, u 90, u 91, u 92, u 93, u 94, u 95, u 96, u 97, u 98, u 99, u 100, u 101, u 102, u 103, u 104, u 105, u 106, u 107, u 108, u 109, u 110, u 111, u 112, u 113, u 114, u 115, u 116, u 117, u 118, u 119, u 120, u 121, u 122, u 123, u 124, u 125, u 126, u 127, u 128, u 129, u 130, u 131, u 132, u 133, u 134, u 135, u 136, u 137, u 138, u 139, u 140, u 141, u 142, u 143, u 144, u 145, u 146, u 147, u 148, u 149, u 150, u 151, u 152, u 153, u 154, u 155, u 156, u 157, u 158, u 159, u 160, u 161, u 162, u 163, u 164, u 165, u 166, u 167, u 168, u 169, u 170, u 171, u 172, u 173, u 174, u 175, u 176, u 177, u 178, u 179, u 180, u 181, u 182, u 183, u 184, u 185, u 186, u 187, u 188, u 189, u 190, u 191, u 192, u 193, u 194, u 195, u 196, u 197, u 198, u 199, u 200, u 201, u 202, u 203, u 204, u 205, u 206, u 207, u 208, u 209, u 210, u 211, u 212, u 213, u 214, u 215, u 216, u 217, u 218, u 219, u 220, u 221, u 222, u 223, u 224, u 225, u 226, u 227, u 228, u 229, u 230, u 231, u 232, u 233, u 234, u 235, u 236, u 237, u 238, u 239, u 240, u 241, u 242, u 243, u 244, u 245, u 246, u 247, u 248, u 249, u 250, u 251, u 252, u 253, u 254, u 255, u 256, u 257, u 258, u 259, u 260, u 261, u 262, u 263, u 264, u 265, u 266, u 267, u 268, u 269, u 270, u 271, u 272, u 273, u 274, u 275, u 276, u 277, u 278, u 279, u 280, u 281, u 282], defers := [] } w := by
  have g1 : (hd t == 45) = false := by simpa using hd1
  clear hd1
  have HN := Lib.hid hN
  clear hN
  conv => arg 2; whnf
  go_wp2_with fail
  refine (isLet_calls (r := [45]) (v := false) rfl).mono ?_
  rintro e w1 ⟨rfl, rfl⟩
  simp only []
  go_wp2_with fail
  refine (isDec_calls (r := [45]) (v := false) rfl).mono ?_
  rintro e w1 ⟨rfl, rfl⟩
  simp only []
  go_wp2_with fail
  refine (md_peek HE H).mono ?_
  rintro e w2 ⟨rfl, hm⟩
  have H1 := Lib.hid hm
  clear hm H
  have t0 := H1.out.tk.c0
  have z0 := H1.out.tk.fz 0
  have t2 := H1.out.tk.c2
  have z2 := H1.out.tk.fz 2
  have hma := H1.out.set0 HE.out 45
  have HF := Lib.hid (hma.set2 HE.out ⟨#[45]⟩)
  have t2' := hma.tk.c2
  have z2' := hma.tk.fz 2
  simp only []
  go_wp2_with fail
  exact HN.out _ _ (frE_mk rfl rfl rfl rfl rfl rfl) HF.out.fin

set_option maxRecDepth 100000 in
set_option maxHeartbeats 4000000 in
theorem sw_61a {w0 w : World} {b : Bl} {t : Bs} {L : Int} {g : Nat} {X R T bm : Nat} {obj : Obj} {so : ByteArray} {ln cl : Int} {Q : Exit → Act → World → Prop} (u : Nat → Value) (HE : Hid (Env w0 b X bm)) (H : Hid (Mid w0 b t L g [] X R T bm obj 0 ⟨#[]⟩ so ln cl w)) (hd1 : hd t ≠ 61)
    (hN : ∀ a' w', FrE b X R T .nilIface a' → Fin w0 b t L X R T bm obj 61 ⟨#[61]⟩ so ln cl w' → Q .normal a' w') :
    sw12.wp Tryz.prog Q { tmps := #[ptr b.Z, ptr X, u 2, u 3, ptr R, u 5, .nilIface, ptr T, u 8, .int .i64 61, ptr g, ptr g, u 12, u 13, u 14, u 15, u 16, u 17, u 18, u 19, u 20, u 21, u 22, u 23, u 24, u 25, u 26, u 27, u 28, u 29, u 30, u 31, u 32, u 33, u 34, u 35, u 36, u 37, u 38, u 39, u 40, u 41, u 42, u 43, u 44, u 45, u 46, u 47, u 48, u 49, u 50, u 51, u 52, u 53, u 54, u 55, u 56, u 57, u 58, u 59, u 60, u 61, u 62, u 63, u 64, u 65, u 66, u 67, u 68, u 69, u 70, u 71, u 72, u 73, u 74, u 75, u 76, u 77, u 78, u 79, u 80, u 81, u 82, u 83, u 84, u 85, u 86, u 87, u 88, u 89, u 90, u 91, u 92, u 93, u 94, u 95, u 96, u 97, u 98, u 99, u 100, u 101, u 102, u 103, u 104, u 105, u 106, u 107, u 108, u 109, u 110, u 111, u 112, u 113, u 114, u 115, u 116, u 117, u 118, u 119, u 120, u 121, u 122, u 123, u 124, u 125, u 126, u 127, u 128, u 129, u 130, u 131, u 132, u 133, u 134, u 135, u 136, u 137, u 138, u 139, u 140, u 141, u 142, u 143, u 144, u 145, u 146, u 147, u 148, u 149, u 150, u 151, u 152, u 153, u 154, u 155, u 156, u 157, u 158, u 159, u 160, u 161, u 162, u 163, u 164, u 165, u 166, u 167, u 168, u 169, u 170, u 171, u 172, u 173, u 174, u 175, u 176, u 177, u 178, u 179, u 180, u 181, u 182, u 183, u 184, u 185, u 186, u 187, u 188, u 189, u 190, u 191, u 192, u 193, u 194, u 195, u 196, u 197, u 198, u 199, u 200, u 201, u 202, u 203, u 204, u 205, u 206, u 207, u 208, u 209, u 210, u 211, u 212, u 213, u 214, u 215, u 216, u 217, u 218, u 219, u 220, u 221, u 222, u 223, u 224, u 225, u 226, u 227, u 228, u 229, u 230, u 231, u 232, u 233, u 234, u 235, u 236, u 237, u 238, u 239, u 240, u 241, u 242, u 243, u 244, u 245, u 246, u 247, u 248, u 249, u 250, u 251, u 252, u 253, u 254, u 255, u 256, u 257, u 258, u 259, u 260, u 261, u 262, u 263, u 264, u 265, u 266, u 267, u 268, u 269, u 270, u 271, u 272, u 273, u 274, u 275, u 276, u 277, u 278, u 279, u 280, u 281, u 282], defers := [] } w := by
  have g1 : (hd t == 61) = false := by simpa using hd1
  clear hd1
  have HN := Lib.hid hN
  clear hN
  conv => arg 2; whnf
  go_wp2_with fail
  refine (isLet_calls (r := [61]) (v := false) rfl).mono ?_
  rintro e w1 ⟨rfl, rfl⟩
  simp only []
  go_wp2_with fail
  refine (isDec_calls (r := [61]) (v := false) rfl).mono ?_
  rintro e w1 ⟨rfl, rfl⟩
  simp only []
  go_wp2_with fail
  refine (md_peek HE H).mono ?_
  rintro e w2 ⟨rfl, hm⟩
  have H1 := Lib.hid hm
  clear hm H
  have t0 := H1.out.tk.c0
  have z0 := H1.out.tk.fz 0
  have t2 := H1.out.tk.c2
  have z2 := H1.out.tk.fz 2
  have hma := H1.out.set0 HE.out 61
  have HF := Lib.hid (hma.set2 HE.out ⟨#[61]⟩)
  have t2' := hma.tk.c2
  have z2' := hma.tk.fz 2
  simp only []
  go_wp2_with fail
  exact HN.out _ _ (frE_mk rfl rfl rfl rfl rfl rfl) HF.out.fin

set_option maxRecDepth 100000 in
set_option maxHeartbeats 4000000 in
theorem sw_60a {w0 w : World} {b : Bl} {t : Bs} {L : Int} {g : Nat} {X R T bm : Nat} {obj : Obj} {so : ByteArray} {ln cl : Int} {Q : Exit → Act → World → Prop} (u : Nat → Value) (HE : Hid (Env w0 b X bm)) (H : Hid (Mid w0 b t L g [] X R T bm obj 0 ⟨#[]⟩ so ln cl w)) (hd1 : hd t ≠ 61)
    (hN : ∀ a' w', FrE b X R T .nilIface a' → Fin w0 b t L X R T bm obj 60 ⟨#[60]⟩ so ln cl w' → Q .normal a' w') :
    sw12.wp Tryz.prog Q { tmps := #[ptr b.Z, ptr X, u 2, u 3, ptr R, u 5, .nilIface, ptr T, u 8, .int .i64 60, ptr g, ptr g, u 12, u 13, u 14, u 15, u 16, u 17, u 18, u 19, u 20, u 21, u 22, u 23, u 24, u 25, u 26, u 27, u 28, u 29, u 30, u 31, u 32, u 33, u 34, u 35, u 36, u 37, u 38, u 39, u 40, u 41, u 42, u 43, u 44, u 45, u 46, u 47, u 48, u 49, u 50, u 51, u 52, u 53, u 54, u 55, u 56, u 57, u 58, u 59, u 60, u 61, u 62, u 63, u 64, u 65, u 66, u 67, u 68, u 69, u 70, u 71, u 72, u 73, u 74, u 75, u 76, u 77, u 78, u 79, u 80, u 81, u 82, u 83, u 84, u 85, u 86, u 87, u 88, u 89, u 90, u 91, u 92, u 93, u 94, u 95, u 96, u 97, u 98, u 99, u 100, u 101, u 102, u 103, u 104, u 105, u 106, u 107, u 108, u 109, u 110, u 111, u 112, u 113, u 114, u 115, u 116, u 117, u 118, u 119, u 120, u 121, u 122, u 123, u 124, u 125, u 126, u 127, u 128, u 129, u 130, u 131, u 132, u 133, u 134, u 135, u 136, u 137, u 138, u 139, u 140, u 141, u 142, u 143, u 144, u 145, u 146, u 147, u 148, u 149, u 150, u 151, u 152, u 153, u 154, u 155, u 156, u 157, u 158, u 159, u 160, u 161, u 162, u 163, u 164, u 165, u 166, u 167, u 168, u 169, u 170, u 171, u 172, u 173, u 174, u 175, u 176, u 177, u 178, u 179, u 180, u 181, u 182, u 183, u 184, u 185, u 186, u 187, u 188, u 189, u 190, u 191, u 192, u 193, u 194, u 195, u 196, u 197, u 198, u 199, u 200, u 201, u 202, u 203, u 204, u 205, u 206, u 207, u 208, u 209, u 210, u 211, u 212, u 213, u 214, u 215, u 216, u 217, u 218, u 219, u 220, u 221, u 222, u 223, u 224, u 225, u 226, u 227, u 228, u 229, u 230, u 231, u 232, u 233, u 234, u 235, u 236, u 237, u 238, u 239, u 240, u 241, u 242, u 243, u 244, u 245, u 246, u 247, u 248, u 249, u 250, u 251, u 252, u 253, u 254, u 255, u 256, u 257, u 258, u 259, u 260, u 261, u 262, u 263, u 264, u 265, u 266, u 267, u 268, u 269, u 270, u 271, u 272, u 273, u 274, u 275, u 276, u 277, u 278, u 279, u 280, u 281, u 282], defers := [] } w := by
  have g1 : (hd t == 61) = false := by simpa using hd1
  clear hd1
  have HN := Lib.hid hN
  clear hN
  conv => arg 2; whnf
  go_wp2_with fail
  refine (isLet_calls (r := [60]) (v := false) rfl).mono ?_
  rintro e w1 ⟨rfl, rfl⟩
  simp only []
  go_wp2_with fail
  refine (isDec_calls (r := [60]) (v := false) rfl).mono ?_
  rintro e w1 ⟨rfl, rfl⟩
  simp only []
  go_wp2_with fail
  refine (md_peek HE H).mono ?_
  rintro e w2 ⟨rfl, hm⟩
  have H1 := Lib.hid hm
  clear hm H
  have t0 := H1.out.tk.c0
  have z0 := H1.out.tk.fz 0
  have t2 := H1.out.tk.c2
  have z2 := H1.out.tk.fz 2
  have hma := H1.out.set0 HE.out 60
  have HF := Lib.hid (hma.set2 HE.out ⟨#[60]⟩)
  have t2' := hma.tk.c2
  have z2' := hma.tk.fz 2
  simp only []
  go_wp2_with fail
  exact HN.out _ _ (frE_mk rfl rfl rfl rfl rfl rfl) HF.out.fin

set_option maxRecDepth 100000 in
set_option maxHeartbeats 4000000 in
theorem sw_62a {w0 w : World} {b : Bl} {t : Bs} {L : Int} {g : Nat} {X R T bm : Nat} {obj : Obj} {so : ByteArray} {ln cl : Int} {Q : Exit → Act → World → Prop} (u : Nat → Value) (HE : Hid (Env w0 b X bm)) (H : Hid (Mid w0 b t L g [] X R T bm obj 0 ⟨#[]⟩ so ln cl w)) (hd1 : hd t ≠ 61)
    (hN : ∀ a' w', FrE b X R T .nilIface a' → Fin w0 b t L X R T bm obj 62 ⟨#[62]⟩ so ln cl w' → Q .normal a' w') :
    sw12.wp Tryz.prog Q { tmps := #[ptr b.Z, ptr X, u 2, u 3, ptr R, u 5, .nilIface, ptr T, u 8, .int .i64 62, ptr g, ptr g, u 12, u 13, u 14, u 15, u 16, u 17, u 18, u 19, u 20, u 21, u 22, u 23, u 24, u 25, u 26, u 27, u 28, u 29, u 30, u 31, u 32, u 33, u 34, u 35, u 36, u 37, u 38, u 39, u 40, u 41, u 42, u 43, u 44, u 45, u 46, u 47, u 48, u 49, u 50, u 51, u 52, u 53, u 54, u 55, u 56, u 57, u 58, u 59, u 60, u 61, u 62, u 63, u 64, u 65, u 66, u 67, u 68, u 69, u 70, u 71, u 72, u 73, u 74, u 75, u 76, u 77, u 78, u 79, u 80, u 81, u 82, u 83, u 84, u 85, u 86, u 87, u 88, u 89, u 90, u 91, u 92, u 93, u 94, u 95, u 96, u 97, u 98, u 99, u 100, u 101, u 102, u 103, u 104, u 105, u 106, u 107, u 108, u 109, u 110, u 111, u 112, u 113, u 114, u 115, u 116, u 117, u 118, u 119, u 120, u 121, u 122, u 123, u 124, u 125, u 126, u 127, u 128, u 129, u 130, u 131, u 132, u 133, u 134, u 135, u 136, u 137, u 138, u 139, u 140, u 141, u 142, u 143, u 144, u 145, u 146, u 147, u 148, u 149, u 150, u 151, u 152, u 153, u 154, u 155, u 156, u 157, u 158, u 159, u 160, u 161, u 162, u 163, u 164, u 165, u 166, u 167, u 168, u 169, u 170, u 171, u 172, u 173, u 174, u 175, u 176, u 177, u 178, u 179, u 180, u 181, u 182, u 183, u 184, u 185, u 186, u 187, u 188, u 189, u 190, u 191, u 192, u 193, u 194, u 195, u 196, u 197, u 198, u 199, u 200, u 201, u 202, u 203, u 204, u 205, u 206, u 207, u 208, u 209, u 210, u 211, u 212, u 213, u 214, u 215, u 216, u 217, u 218, u 219, u 220, u 221, u 222, u 223, u 224, u 225, u 226, u 227, u 228, u 229, u 230, u 231, u 232, u 233, u 234, u 235, u 236, u 237, u 238, u 239, u 240, u 241, u 242, u 243, u 244, u 245, u 246, u 247, u 248, u 249, u 250, u 251, u 252, u 253, u 254, u 255, u 256, u 257, u 258, u 259, u 260, u 261, u 262, u 263, u 264, u 265, u 266, u 267, u 268, u 269, u 270, u 271, u 272, u 273, u 274, u 275, u 276, u 277, u 278, u 279, u 280, u 281, u 282], defers := [] } w := by
  have g1 : (hd t == 61) = false := by simpa using hd1
  clear hd1
  have HN := Lib.hid hN
  clear hN
  conv => arg 2; whnf
  go_wp2_with fail
  refine (isLet_calls (r := [62]) (v := false) rfl).mono ?_
  rintro e w1 ⟨rfl, rfl⟩
  simp only []
  go_wp2_with fail
  refine (isDec_calls (r := [62]) (v := false) rfl).mono ?_
  rintro e w1 ⟨rfl, rfl⟩
  simp only []
  go_wp2_with fail
  refine (md_peek HE H).mono ?_
  rintro e w2 ⟨rfl, hm⟩
  have H1 := Lib.hid hm
  clear hm H
  have t0 := H1.out.tk.c0
  have z0 := H1.out.tk.fz 0
  have t2 := H1.out.tk.c2
  have z2 := H1.out.tk.fz 2
  have hma := H1.out.set0 HE.out 62
  have HF := Lib.hid (hma.set2 HE.out ⟨#[62]⟩)
  have t2' := hma.tk.c2
  have z2' := hma.tk.fz 2
  simp only []
  go_wp2_with fail
  exact HN.out _ _ (frE_mk rfl rfl rfl rfl rfl rfl) HF.out.fin

set_option maxRecDepth 100000 in
set_option maxHeartbeats 4000000 in
theorem sw_58a {w0 w : World} {b : Bl} {t : Bs} {L : Int} {g : Nat} {X R T bm : Nat} {obj : Obj} {so : ByteArray} {ln cl : Int} {Q : Exit → Act → World → Prop} (u : Nat → Value) (HE : Hid (Env w0 b X bm)) (H : Hid (Mid w0 b t L g [] X R T bm obj 0 ⟨#[]⟩ so ln cl w)) (hd1 : hd t ≠ 58)
    (hN : ∀ a' w', FrE b X R T .nilIface a' → Fin w0 b t L X R T bm obj 58 ⟨#[58]⟩ so ln cl w' → Q .normal a' w') :
    sw12.wp Tryz.prog Q { tmps := #[ptr b.Z, ptr X, u 2, u 3, ptr R, u 5, .nilIface, ptr T, u 8, .int .i64 58, ptr g, ptr g, u 12, u 13, u 14, u 15, u 16, u 17, u 18, u 19, u 20, u 21, u 22, u 23, u 24, u 25, u 26, u 27, u 28, u 29, u 30, u 31, u 32, u 33, u 34, u 35, u 36, u 37, u 38, u 39, u 40, u 41, u 42, u 43, u 44, u 45, u 46, u 47, u 48, u 49, u 50, u 51, u 52, u 53, u 54, u 55, u 56, u 57, u 58, u 59, u 60, u 61, u 62, u 63, u 64, u 65, u 66, u 67, u 68, u 69, u 70, u 71, u 72, u 73, u 74, u 75, u 76, u 77, u 78, u 79, u 80, u 81, u 82, u 83, u 84, u 85, u 86, u 87, u 88, u 89, u 90, u 91, u 92, u 93, u 94, u 95, u 96, u 97, u 98, u 99, u 100, u 101, u 102, u 103, u 104, u 105, u 106, u 107, u 108, u 109, u 110, u 111, u 112, u 113, u 114, u 115, u 116, u 117, u 118, u 119, u 120, u 121, u 122, u 123, u 124, u 125, u 126, u 127, u 128, u 129, u 130, u 131, u 132, u 133, u 134, u 135, u 136, u 137, u 138, u 139, u 140, u 141, u 142, u 143, u 144, u 145, u 146, u 147, u 148, u 149, u 150, u 151, u 152, u 153, u 154, u 155, u 156, u 157, u 158, u 159, u 160, u 161, u 162, u 163, u 164, u 165, u 166, u 167, u 168, u 169, u 170, u 171, u 172, u 173, u 174, u 175, u 176, u 177, u 178, u 179, u 180, u 181, u 182, u 183, u 184, u 185, u 186, u 187, u 188, u 189, u 190, u 191, u 192, u 193, u 194, u 195, u 196, u 197, u 198, u 199, u 200, u 201, u 202, u 203, u 204, u 205, u 206, u 207, u 208, u 209, u 210, u 211, u 212, u 213, u 214, u 215, u 216, u 217, u 218, u 219, u 220, u 221, u 222, u 223, u 224, u 225, u 226, u 227, u 228, u 229, u 230, u 231, u 232, u 233, u 234, u 235, u 236, u 237, u 238, u 239, u 240, u 241, u 242, u 243, u 244, u 245, u 246, u 247, u 248, u 249, u 250, u 251, u 252, u 253, u 254, u 255, u 256, u 257, u 258, u 259, u 260, u 261, u 262, u 263, u 264, u 265, u 266, u 267, u 268, u 269, u 270, u 271, u 272, u 273, u 274, u 275, u 276, u 277, u 278, u 279, u 280, u 281, u 282], defers := [] } w := by
  have g1 : (hd t == 58) = false := by simpa using hd1
  clear hd1
  have HN := Lib.hid hN
  clear hN
  conv => arg 2; whnf
  go_wp2_with fail
  refine (isLet_calls (r := [58]) (v := false) rfl).mono ?_
  rintro e w1 ⟨rfl, rfl⟩
  simp only []
  go_wp2_with fail
  refine (isDec_calls (r := [58]) (v := false) rfl).mono ?_
  rintro e w1 ⟨rfl, rfl⟩
  simp only []
  go_wp2_with fail
  refine (md_peek HE H).mono ?_
  rintro e w2 ⟨rfl, hm⟩
  have H1 := Lib.hid hm
  clear hm H
  have t0 := H1.out.tk.c0
  have z0 := H1.out.tk.fz 0
  have t2 := H1.out.tk.c2
  have z2 := H1.out.tk.fz 2
  have hma := H1.out.set0 HE.out 58
  have HF := Lib.hid (hma.set2 HE.out ⟨#[58]⟩)
  have t2' := hma.tk.c2
  have z2' := hma.tk.fz 2
  simp only []
  go_wp2_with fail
  exact HN.out _ _ (frE_mk rfl rfl rfl rfl rfl rfl) HF.out.fin

set_option maxRecDepth 100000 in
set_option maxHeartbeats 4000000 in
theorem sw_61b {w0 w : World} {b : Bl} {t : Bs} {L : Int} {g : Nat} {X R T bm : Nat} {obj : Obj} {so : ByteArray} {ln cl : Int} {Q : Exit → Act → World → Prop} (u : Nat → Value) (HE : Hid (Env w0 b X bm)) (H : Hid (Mid w0 b (61 :: t) L g [] X R T bm obj 0 ⟨#[]⟩ so ln cl w)) (h13 : NoCr ((61 : UInt8) :: t))
    (hN : ∀ a' w', FrE b X R T .nilIface a' → Fin w0 b t L X R T bm obj 57368 ⟨#[61, 61]⟩ so ln cl w' → Q .normal a' w') :
    sw12.wp Tryz.prog Q { tmps := #[ptr b.Z, ptr X, u 2, u 3, ptr R, u 5, .nilIface, ptr T, u 8, .int .i64 61, ptr g, ptr g, u 12, u 13, u 14, u 15, u 16, u 17, u 18, u 19, u 20, u 21, u 22, u 23, u 24, u 25, u 26, u 27, u 28, u 29, u 30, u 31, u 32, u 33, u 34, u 35, u 36, u 37, u 38, u 39, u 40, u 41, u 42, u 43, u 44, u 45, u 46, u 47, u 48, u 49, u 50, u 51, u 52, u 53, u 54, u 55, u 56, u 57, u 58, u 59, u 60, u 61, u 62, u 63, u 64, u 65, u 66, u 67, u 68, u 69, u 70, u 71, u 72, u 73, u 74, u 75, u 76, u 77, u 78, u 79, u 80, u 81, u 82, u 83, u 84, u 85, u 86, u 87, u 88, u 89, u 90, u 91, u 92, u 93, u 94, u 95, u 96, u 97, u 98, u 99, u 100, u 101, u 102, u 103, u 104, u 105, u 106, u 107, u 108, u 109, u 110, u 111, u 112, u 113, u 114, u 115, u 116, u 117, u 118, u 119, u 120, u 121, u 122, u 123, u 124, u 125, u 126, u 127, u 128, u 129, u 130, u 131, u 132, u 133, u 134, u 135, u 136, u 137, u 138, u 139, u 140, u 141, u 142, u 143, u 144, u 145, u 146, u 147, u 148, u 149, u 150, u 151, u 152, u 153, u 154, u 155, u 156, u 157, u 158, u 159, u 160, u 161, u 162, u 163, u 164, u 165, u 166, u 167, u 168, u 169, u 170, u 171, u 172, u 173, u 174, u 175, u 176, u 177, u 178, u 179, u 180, u 181, u 182, u 183, u 184, u 185, u 186, u 187, u 188, u 189, u 190, u 191, u 192, u 193, u 194, u 195, u 196, u 197, u 198, u 199, u 200, u 201, u 202, u 203, u 204, u 205, u 206, u 207, u 208, u 209, u 210, u 211, u 212, u 213, u 214, u 215, u 216, u 217, u 218, u 219, u 220, u 221, u 222, u 223, u 224, u 225, u 226, u 227, u 228, u 229, u 230, u 231, u 232, u 233, u 234, u 235, u 236, u 237, u 238, u 239, u 240, u 241, u 242, u 243, u 244, u 245, u 246, u 247, u 248, u 249, u 250, u 251, u 252, u 253, u 254, u 255, u 256, u 257, u 258, u 259, u 260, u 261, u 262, u 263, u 264, u 265, u 266, u 267, u 268, u 269, u 270, u 271, u 272, u 273, u 274, u 275, u 276, u 277, u 278, u 279, u 280, u 281, u 282], defers := [] } w := by
  have H13 := Lib.hid h13
  have ed : ((UInt8.toNat 61 : Nat) : Int) = 61 := rfl
  clear h13
  have HN := Lib.hid hN
  clear hN
  conv => arg 2; whnf
  go_wp2_with fail
  refine (isLet_calls (r := [61]) (v := false) rfl).mono ?_
  rintro e w1 ⟨rfl, rfl⟩
  simp only []
  go_wp2_with fail
  refine (isDec_calls (r := [61]) (v := false) rfl).mono ?_
  rintro e w1 ⟨rfl, rfl⟩
  simp only []
  go_wp2_with fail
  refine (md_peek HE H).mono ?_
  rintro e w2 ⟨rfl, hm⟩
  have H1 := Lib.hid hm
  clear hm H
  have t0 := H1.out.tk.c0
  have z0 := H1.out.tk.fz 0
  have t2 := H1.out.tk.c2
  have z2 := H1.out.tk.fz 2
  have hma := H1.out.set0 HE.out 57368
  have HF := Lib.hid (hma.set2 HE.out ⟨#[61, 61]⟩)
  have t2' := hma.tk.c2
  have z2' := hma.tk.fz 2
  clear hma H1
  simp only [hd_c, ed]
  go_wp2_with fail
  refine (md_next HE HF H13.out).mono ?_
  rintro e w3 ⟨rfl, hm⟩
  rw [show tl1 ((61 : UInt8) :: t) = t from rfl, ln1_of (c := 61) (t := t) rfl (by decide)] at hm
  have HG := Lib.hid hm
  clear hm HF
  simp only []
  go_wp2_with fail
  exact HN.out _ _ (frE_mk rfl rfl rfl rfl rfl rfl) HG.out.fin

set_option maxRecDepth 100000 in
set_option maxHeartbeats 4000000 in
theorem sw_126b {w0 w : World} {b : Bl} {t : Bs} {L : Int} {g : Nat} {X R T bm : Nat} {obj : Obj} {so : ByteArray} {ln cl : Int} {Q : Exit → Act → World → Prop} (u : Nat → Value) (HE : Hid (Env w0 b X bm)) (H : Hid (Mid w0 b (61 :: t) L g [] X R T bm obj 0 ⟨#[]⟩ so ln cl w)) (h13 : NoCr ((61 : UInt8) :: t))
    (hN : ∀ a' w', FrE b X R T .nilIface a' → Fin w0 b t L X R T bm obj 57369 ⟨#[126, 61]⟩ so ln cl w' → Q .normal a' w') :
    sw12.wp Tryz.prog Q { tmps := #[ptr b.Z, ptr X, u 2, u 3, ptr R, u 5, .nilIface, ptr T, u 8, .int .i64 126, ptr g, ptr g, u 12, u 13, u 14, u 15, u 16, u 17, u 18, u 19, u 20, u 21, u 22, u 23, u 24, u 25, u 26, u 27, u 28, u 29, u 30, u 31, u 32, u 33, u 34, u 35, u 36, u 37, u 38, u 39, u 40, u 41, u 42, u 43, u 44, u 45, u 46, u 47, u 48, u 49, u 50, u 51, u 52, u 53, u 54, u 55, u 56, u 57, u 58, u 59, u 60, u 61, u 62, u 63, u 64, u 65, u 66, u 67, u 68, u 69, u 70, u 71, u 72, u 73, u 74, u 75, u 76, u 77, u 78, u 79, u 80, u 81, u 82, u 83, u 84, u 85, u 86, u 87, u 88, u 89, u 90, u 91, u 92, u 93, u 94, u 95, u 96, u 97, u 98, u 99, u 100, u 101, u 102, u 103, u 104, u 105, u 106, u 107, u 108, u 109, u 110, u 111, u 112, u 113, u 114, u 115, u 116, u 117, u 118, u 119, u 120, u 121, u 122, u 123, u 124, u 125, u 126, u 127, u 128, u 129, u 130, u 131, u 132, u 133, u 134, u 135, u 136, u 137, u 138, u 139, u 140, u 141, u 142, u 143, u 144, u 145, u 146, u 147, u 148, u 149, u 150, u 151, u 152, u 153, u 154, u 155, u 156, u 157, u 158, u 159, u 160, u 161, u 162, u 163, u 164, u 165, u 166, u 167, u 168, u 169, u 170, u 171, u 172, u 173, u 174, u 175, u 176, u 177, u 178, u 179, u 180, u 181, u 182, u 183, u 184, u 185, u 186, u 187, u 188, u 189, u 190, u 191, u 192, u 193, u 194, u 195, u 196, u 197, u 198, u 199, u 200, u 201, u 202, u 203, u 204, u 205, u 206, u 207, u 208, u 209, u 210, u 211, u 212, u 213, u 214, u 215, u 216, u 217, u 218, u 219, u 220, u 221, u 222, u 223, u 224, u 225, u 226, u 227, u 228, u 229, u 230, u 231, u 232, u 233, u 234, u 235, u 236, u 237, u 238, u 239, u 240, u 241, u 242, u 243, u 244, u 245, u 246, u 247, u 248, u 249, u 250, u 251, u 252, u 253, u 254, u 255, u 256, u 257, u 258, u 259, u 260, u 261, u 262, u 263, u 264, u 265, u 266, u 267, u 268, u 269, u 270, u 271, u 272, u 273, u 274, u 275, u 276, u 277, u 278, u 279, u 280, u 281, u 282], defers := [] } w := by
  have H13 := Lib.hid h13
  have ed : ((UInt8.toNat 61 : Nat) : Int) = 61 := rfl
  clear h13
  have HN := Lib.hid hN
  clear hN
  conv => arg 2; whnf
  go_wp2_with fail
  refine (isLet_calls (r := [126]) (v := false) rfl).mono ?_
  rintro e w1 ⟨rfl, rfl⟩
  simp only []
  go_wp2_with fail
  refine (isDec_calls (r := [126]) (v := false) rfl).mono ?_
  rintro e w1 ⟨rfl, rfl⟩
  simp only []
  go_wp2_with fail
  refine (md_peek HE H).mono ?_
  rintro e w2 ⟨rfl, hm⟩
  have H1 := Lib.hid hm
  clear hm H
  have t0 := H1.out.tk.c0
  have z0 := H1.out.tk.fz 0
  have t2 := H1.out.tk.c2
  have z2 := H1.out.tk.fz 2
  have hma := H1.out.set0 HE.out 57369
  have HF := Lib.hid (hma.set2 HE.out ⟨#[126, 61]⟩)
  have t2' := hma.tk.c2
  have z2' := hma.tk.fz 2
  clear hma H1
  simp only [hd_c, ed]
  go_wp2_with fail
  refine (md_next HE HF H13.out).mono ?_
  rintro e w3 ⟨rfl, hm⟩
  rw [show tl1 ((61 : UInt8) :: t) = t from rfl, ln1_of (c := 61) (t := t) rfl (by decide)] at hm
  have HG := Lib.hid hm
  clear hm HF
  simp only []
  go_wp2_with fail
  exact HN.out _ _ (frE_mk rfl rfl rfl rfl rfl rfl) HG.out.fin

set_option maxRecDepth 100000 in
set_option maxHeartbeats 4000000 in
theorem sw_60b {w0 w : World} {b : Bl} {t : Bs} {L : Int} {g : Nat} {X R T bm : Nat} {obj : Obj} {so : ByteArray} {ln cl : Int} {Q : Exit → Act → World → Prop} (u : Nat → Value) (HE : Hid (Env w0 b X bm)) (H : Hid (Mid w0 b (61 :: t) L g [] X R T bm obj 0 ⟨#[]⟩ so ln cl w)) (h13 : NoCr ((61 : UInt8) :: t))
    (hN : ∀ a' w', FrE b X R T .nilIface a' → Fin w0 b t L X R T bm obj 57370 ⟨#[60, 61]⟩ so ln cl w' → Q .normal a' w') :
    sw12.wp Tryz.prog Q { tmps := #[ptr b.Z, ptr X, u 2, u 3, ptr R, u 5, .nilIface, ptr T, u 8, .int .i64 60, ptr g, ptr g, u 12, u 13, u 14, u 15, u 16, u 17, u 18, u 19, u 20, u 21, u 22, u 23, u 24, u 25, u 26, u 27, u 28, u 29, u 30, u 31, u 32, u 33, u 34, u 35, u 36, u 37, u 38, u 39, u 40, u 41, u 42, u 43, u 44, u 45, u 46, u 47, u 48, u 49, u 50, u 51, u 52, u 53, u 54, u 55, u 56, u 57, u 58, u 59, u 60, u 61, u 62, u 63, u 64, u 65, u 66, u 67, u 68, u 69, u 70, u 71, u 72, u 73, u 74, u 75, u 76, u 77, u 78, u 79, u 80, u 81, u 82, u 83, u 84, u 85, u 86, u 87, u 88, u 89, u 90, u 91, u 92, u 93, u 94, u 95, u 96, u 97, u 98, u 99, u 100, u 101, u 102, u 103, u 104, u 105, u 106, u 107, u 108, u 109, u 110, u 111, u 112, u 113, u 114, u 115, u 116, u 117, u 118, u 119, u 120, u 121, u 122, u 123, u 124, u 125, u 126, u 127, u 128, u 129, u 130, u 131, u 132, u 133, u 134, u 135, u 136, u 137, u 138, u 139, u 140, u 141, u 142, u 143, u 144, u 145, u 146, u 147, u 148, u 149, u 150, u 151, u 152, u 153, u 154, u 155, u 156, u 157, u 158, u 159, u 160, u 161, u 162, u 163, u 164, u 165, u 166, u 167, u 168, u 169, u 170, u 171, u 172, u 173, u 174, u 175, u 176, u 177, u 178, u 179, u 180, u 181, u 182, u 183, u 184, u 185, u 186, u 187, u 188, u 189, u 190, u 191, u 192, u 193, u 194, u 195, u 196, u 197, u 198, u 199, u 200, u 201, u 202, u 203, u 204, u 205, u 206, u 207, u 208, u 209, u 210, u 211, u 212, u 213, u 214, u 215, u 216, u 217, u 218, u 219, u 220, u 221, u 222, u 223, u 224, u 225, u 226, u 227, u 228, u 229, u 230, u 231, u 232, u 233, u 234, u 235, u 236, u 237, u 238, u 239, u 240, u 241, u 242, u 243, u 244, u 245, u 246, u 247, u 248, u 249, u 250, u 251, u 252, u 253, u 254, u 255, u 256, u 257, u 258, u 259, u 260, u 261, u 262, u 263, u 264, u 265, u 266, u 267, u 268, u 269, u 270, u 271, u 272, u 273, u 274, u 275, u 276, u 277, u 278, u 279, u 280, u 281, u 282], defers := [] } w := by
  have H13 := Lib.hid h13
  have ed : ((UInt8.toNat 61 : Nat) : Int) = 61 := rfl
  clear h13
  have HN := Lib.hid hN
  clear hN
  conv => arg 2; whnf
  go_wp2_with fail
  refine (isLet_calls (r := [60]) (v := false) rfl).mono ?_
  rintro e w1 ⟨rfl, rfl⟩
  simp only []
  go_wp2_with fail
  refine (isDec_calls (r := [60]) (v := false) rfl).mono ?_
  rintro e w1 ⟨rfl, rfl⟩
  simp only []
  go_wp2_with fail
  refine (md_peek HE H).mono ?_
  rintro e w2 ⟨rfl, hm⟩
  have H1 := Lib.hid hm
  clear hm H
  have t0 := H1.out.tk.c0
  have z0 := H1.out.tk.fz 0
  have t2 := H1.out.tk.c2
  have z2 := H1.out.tk.fz 2
  have hma := H1.out.set0 HE.out 57370
  have HF := Lib.hid (hma.set2 HE.out ⟨#[60, 61]⟩)
  have t2' := hma.tk.c2
  have z2' := hma.tk.fz 2
  clear hma H1
  simp only [hd_c, ed]
  go_wp2_with fail
  refine (md_next HE HF H13.out).mono ?_
  rintro e w3 ⟨rfl, hm⟩
  rw [show tl1 ((61 : UInt8) :: t) = t from rfl, ln1_of (c := 61) (t := t) rfl (by decide)] at hm
  have HG := Lib.hid hm
  clear hm HF
  simp only []
  go_wp2_with fail
  exact HN.out _ _ (frE_mk rfl rfl rfl rfl rfl rfl) HG.out.fin

set_option maxRecDepth 100000 in
set_option maxHeartbeats 4000000 in
theorem sw_62b {w0 w : World} {b : Bl} {t : Bs} {L : Int} {g : Nat} {X R T bm : Nat} {obj : Obj} {so : ByteArray} {ln cl : Int} {Q : Exit → Act → World → Prop} (u : Nat → Value) (HE : Hid (Env w0 b X bm)) (H : Hid (Mid w0 b (61 :: t) L g [] X R T bm obj 0 ⟨#[]⟩ so ln cl w)) (h13 : NoCr ((61 : UInt8) :: t))
    (hN : ∀ a' w', FrE b X R T .nilIface a' → Fin w0 b t L X R T bm obj 57371 ⟨#[62, 61]⟩ so ln cl w' → Q .normal a' w') :
    sw12.wp Tryz.prog Q { tmps := #[ptr b.Z, ptr X, u 2, u 3, ptr R, u 5, .nilIface, ptr T, u 8, .int .i64 62, ptr g, ptr g, u 12, u 13, u 14, u 15, u 16, u 17, u 18, u 19, u 20, u 21, u 22, u 23, u 24, u 25, u 26, u 27, u 28, u 29, u 30, u 31, u 32, u 33, u 34, u 35, u 36, u 37, u 38, u 39, u 40, u 41, u 42, u 43, u 44, u 45, u 46, u 47, u 48, u 49, u 50, u 51, u 52, u 53, u 54, u 55, u 56, u 57, u 58, u 59, u 60, u 61, u 62, u 63, u 64, u 65, u 66, u 67, u 68, u 69, u 70, u 71, u 72, u 73, u 74, u 75, u 76, u 77, u 78, u 79, u 80, u 81, u 82, u 83, u 84, u 85, u 86, u 87, u 88, u 89, u 90, u 91, u 92, u 93, u 94, u 95, u 96, u 97, u 98, u 99, u 100, u 101, u 102, u 103, u 104, u 105, u 106, u 107, u 108, u 109, u 110, u 111, u 112, u 113, u 114, u 115, u 116, u 117, u 118, u 119, u 120, u 121, u 122, u 123, u 124, u 125, u 126, u 127, u 128, u 129, u 130, u 131, u 132, u 133, u 134, u 135, u 136, u 137, u 138, u 139, u 140, u 141, u 142, u 143, u 144, u 145, u 146, u 147, u 148, u 149, u 150, u 151, u 152, u 153, u 154, u 155, u 156, u 157, u 158, u 159, u 160, u 161, u 162, u 163, u 164, u 165, u 166, u 167, u 168, u 169, u 170, u 171, u 172, u 173, u 174, u 175, u 176, u 177, u 178, u 179, u 180, u 181, u 182, u 183, u 184, u 185, u 186, u 187, u 188, u 189, u 190, u 191, u 192, u 193, u 194, u 195, u 196, u 197, u 198, u 199, u 200, u 201, u 202, u 203, u 204, u 205, u 206, u 207, u 208, u 209, u 210, u 211, u 212, u 213, u 214, u 215, u 216, u 217, u 218, u 219, u 220, u 221, u 222, u 223, u 224, u 225, u 226, u 227, u 228, u 229, u 230, u 231, u 232, u 233, u 234, u 235, u 236, u 237, u 238, u 239, u 240, u 241, u 242, u 243, u 244, u 245, u 246, u 247, u 248, u 249, u 250, u 251, u 252, u 253, u 254, u 255, u 256, u 257, u 258, u 259, u 260, u 261, u 262, u 263, u 264, u 265, u 266, u 267, u 268, u 269, u 270, u 271, u 272, u 273, u 274, u 275, u 276, u 277, u 278, u 279, u 280, u 281, u 282], defers := [] } w := by
  have H13 := Lib.hid h13
  have ed : ((UInt8.toNat 61 : Nat) : Int) = 61 := rfl
  clear h13
  have HN := Lib.hid hN
  clear hN
  conv => arg 2; whnf
  go_wp2_with fail
  refine (isLet_calls (r := [62]) (v := false) rfl).mono ?_
  rintro e w1 ⟨rfl, rfl⟩
  simp only []
  go_wp2_with fail
  refine (isDec_calls (r := [62]) (v := false) rfl).mono ?_
  rintro e w1 ⟨rfl, rfl⟩
  simp only []
  go_wp2_with fail
  refine (md_peek HE H).mono ?_
  rintro e w2 ⟨rfl, hm⟩
  have H1 := Lib.hid hm
  clear hm H
  have t0 := H1.out.tk.c0
  have z0 := H1.out.tk.fz 0
  have t2 := H1.out.tk.c2
  have z2 := H1.out.tk.fz 2
  have hma := H1.out.set0 HE.out 57371
  have HF := Lib.hid (hma.set2 HE.out ⟨#[62, 61]⟩)
  have t2' := hma.tk.c2
  have z2' := hma.tk.fz 2
  clear hma H1
  simp only [hd_c, ed]
  go_wp2_with fail
  refine (md_next HE HF H13.out).mono ?_
  rintro e w3 ⟨rfl, hm⟩
  rw [show tl1 ((61 : UInt8) :: t) = t from rfl, ln1_of (c := 61) (t := t) rfl (by decide)] at hm
  have HG := Lib.hid hm
  clear hm HF
  simp only []
  go_wp2_with fail
  exact HN.out _ _ (frE_mk rfl rfl rfl rfl rfl rfl) HG.out.fin

set_option maxRecDepth 100000 in
set_option maxHeartbeats 4000000 in
theorem sw_126e {w0 w : World} {b : Bl} {t : Bs} {L : Int} {g : Nat} {X R T bm : Nat} {obj : Obj} {so : ByteArray} {ln cl : Int} {Q : Exit → Act → World → Prop} (u : Nat → Value) (HE : Hid (Env w0 b X bm)) (H : Hid (Mid w0 b t L g [] X R T bm obj 0 ⟨#[]⟩ so ln cl w)) (hd1 : hd t ≠ 61)
    (hN : ∀ a' w' p, FrE b X R T (.iface 89 (ptr p)) a' → Fin w0 b t L X R T bm obj 0 ⟨#[]⟩ so ln cl w' → Q .normal a' w') :
    sw12.wp Tryz.prog Q { tmps := #[ptr b.Z, ptr X, u 2, u 3, ptr R, u 5, .nilIface, ptr T, u 8, .int .i64 126, ptr g, ptr g, u 12, u 13, u 14, u 15, u 16, u 17, u 18, u 19, u 20, u 21, u 22, u 23, u 24, u 25, u 26, u 27, u 28, u 29, u 30, u 31, u 32, u 33, u 34, u 35, u 36, u 37, u 38, u 39, u 40, u 41, u 42, u 43, u 44, u 45, u 46, u 47, u 48, u 49, u 50, u 51, u 52, u 53, u 54, u 55, u 56, u 57, u 58, u 59, u 60, u 61, u 62, u 63, u 64, u 65, u 66, u 67, u 68, u 69, u 70, u 71, u 72, u 73, u 74, u 75, u 76, u 77, u 78, u 79, u 80, u 81, u 82, u 83, u 84, u 85, u 86, u 87, u 88, u 89, u 90, u 91, u 92, u 93, u 94, u 95, u 96, u 97, u 98, u 99, u 100, u 101, u 102, u 103, u 104, u 105, u 106, u 107, u 108, u 109, u 110, u 111, u 112, u 113, u 114, u 115, u 116, u 117, u 118, u 119, u 120, u 121, u 122, u 123, u 124, u 125, u 126, u 127, u 128, u 129, u 130, u 131, u 132, u 133, u 134, u 135, u 136, u 137, u 138, u 139, u 140, u 141, u 142, u 143, u 144, u 145, u 146, u 147, u 148, u 149, u 150, u 151, u 152, u 153, u 154, u 155, u 156, u 157, u 158, u 159, u 160, u 161, u 162, u 163, u 164, u 165, u 166, u 167, u 168, u 169, u 170, u 171, u 172, u 173, u 174, u 175, u 176, u 177, u 178, u 179, u 180, u 181, u 182, u 183, u 184, u 185, u 186, u 187, u 188, u 189, u 190, u 191, u 192, u 193, u 194, u 195, u 196, u 197, u 198, u 199, u 200, u 201, u 202, u 203, u 204, u 205, u 206, u 207, u 208, u 209, u 210, u 211, u 212, u 213, u 214, u 215, u 216, u 217, u 218, u 219, u 220, u 221, u 222, u 223, u 224, u 225, u 226, u 227, u 228, u 229, u 230, u 231, u 232, u 233, u 234, u 235, u 236, u 237, u 238, u 239, u 240, u 241, u 242, u 243, u 244, u 245, u 246, u 247, u 248, u 249, u 250, u 251, u 252, u 253, u 254, u 255, u 256, u 257, u 258, u 259, u 260, u 261, u 262, u 263, u 264, u 265, u 266, u 267, u 268, u 269, u 270, u 271, u 272, u 273, u 274, u 275, u 276, u 277, u 278, u 279, u 280, u 281, u 282], defers := [] } w := by
  have g1 : (hd t == 61) = false := by simpa using hd1
  clear hd1
  have HN := Lib.hid hN
  clear hN
  conv => arg 2; whnf
  go_wp2_with fail
  refine (isLet_calls (r := [126]) (v := false) rfl).mono ?_
  rintro e w1 ⟨rfl, rfl⟩
  simp only []
  go_wp2_with fail
  refine (isDec_calls (r := [126]) (v := false) rfl).mono ?_
  rintro e w1 ⟨rfl, rfl⟩
  simp only []
  go_wp2_with fail
  refine (md_peek HE H).mono ?_
  rintro e w2 ⟨rfl, hm⟩
  have H1 := Lib.hid hm
  clear hm H
  simp only []
  go_wp2_with fail
  refine (md_err HE H1).mono ?_
  rintro e w3 ⟨⟨p, rfl⟩, hm⟩
  have H2 := Lib.hid hm
  clear hm H1
  simp only []
  go_wp2_with fail
  exact HN.out _ _ p (frE_mk rfl rfl rfl rfl rfl rfl) H2.out.fin

set_option maxRecDepth 100000 in
set_option maxHeartbeats 4000000 in
theorem sw_46a {w0 w : World} {b : Bl} {t : Bs} {L : Int} {g : Nat} {X R T bm : Nat} {obj : Obj} {so : ByteArray} {ln cl : Int} {Q : Exit → Act → World → Prop} (u : Nat → Value) (HE : Hid (Env w0 b X bm)) (H : Hid (Mid w0 b t L g [] X R T bm obj 0 ⟨#[]⟩ so ln cl w)) (hd1 : hd t ≠ 46) (hd2 : hdIs isDec t = false)
    (hN : ∀ a' w', FrE b X R T .nilIface a' → Fin w0 b t L X R T bm obj 46 ⟨#[]⟩ so ln cl w' → Q .normal a' w') :
    sw12.wp Tryz.prog Q { tmps := #[ptr b.Z, ptr X, u 2, u 3, ptr R, u 5, .nilIface, ptr T, u 8, .int .i64 46, ptr g, ptr g, u 12, u 13, u 14, u 15, u 16, u 17, u 18, u 19, u 20, u 21, u 22, u 23, u 24, u 25, u 26, u 27, u 28, u 29, u 30, u 31, u 32, u 33, u 34, u 35, u 36, u 37, u 38, u 39, u 40, u 41, u 42, u 43, u 44, u 45, u 46, u 47, u 48, u 49, u 50, u 51, u 52, u 53, u 54, u 55, u 56, u 57, u 58, u 59, u 60, u 61, u 62, u 63, u 64, u 65, u 66, u 67, u 68, u 69, u 70, u 71, u 72, u 73, u 74, u 75, u 76, u 77, u 78, u 79, u 80, u 81, u 82, u 83, u 84, u 85, u 86, u 87, u 88, u 89, u 90, u 91, u 92, u 93, u 94, u 95, u 96, u 97, u 98, u 99, u 100, u 101, u 102, u 103, u 104, u 105, u 106, u 107, u 108, u 109, u 110, u 111, u 112, u 113, u 114, u 115, u 116, u 117, u 118, u 119, u 120, u 121, u 122, u 123, u 124, u 125, u 126, u 127, u 128, u 129, u 130, u 131, u 132, u 133, u 134, u 135, u 136, u 137, u 138, u 139, u 140, u 141, u 142, u 143, u 144, u 145, u 146, u 147, u 148, u 149, u 150, u 151, u 152, u 153, u 154, u 155, u 156, u 157, u 158, u 159, u 160, u 161, u 162, u 163, u 164, u 165, u 166, u 167, u 168, u 169, u 170, u 171, u 172, u 173, u 174, u 175, u 176, u 177, u 178, u 179, u 180, u 181, u 182, u 183, u 184, u 185, u 186, u 187, u 188, u 189, u 190, u 191, u 192, u 193, u 194, u 195, u 196, u 197, u 198, u 199, u 200, u 201, u 202, u 203, u 204, u 205, u 206, u 207, u 208, u 209, u 210, u 211, u 212, u 213, u 214, u 215, u 216, u 217, u 218, u 219, u 220, u 221, u 222, u 223, u 224, u 225, u 226, u 227, u 228, u 229, u 230, u 231, u 232, u 233, u 234, u 235, u 236, u 237, u 238, u 239, u 240, u 241, u 242, u 243, u 244, u 245, u 246, u 247, u 248, u 249, u 250, u 251, u 252, u 253, u 254, u 255, u 256, u 257, u 258, u 259, u 260, u 261, u 262, u 263, u 264, u 265, u 266, u 267, u 268, u 269, u 270, u 271, u 272, u 273, u 274, u 275, u 276, u 277, u 278, u 279, u 280, u 281, u 282], defers := [] } w := by
  have g1 : (hd t == 46) = false := by simpa using hd1
  have HD := Lib.hid hd2
  clear hd1 hd2
  have HN := Lib.hid hN
  clear hN
  conv => arg 2; whnf
  go_wp2_with fail
  refine (isLet_calls (r := [46]) (v := false) rfl).mono ?_
  rintro e w1 ⟨rfl, rfl⟩
  simp only []
  go_wp2_with fail
  refine (isDec_calls (r := [46]) (v := false) rfl).mono ?_
  rintro e w1 ⟨rfl, rfl⟩
  simp only []
  go_wp2_with fail
  refine (md_peek HE H).mono ?_
  rintro e w2 ⟨rfl, hm⟩
  have H1 := Lib.hid hm
  clear hm H
  simp only []
  go_wp2_with fail
  refine (isDec_calls HD.out).mono ?_
  rintro e w3 ⟨rfl, rfl⟩
  have t0 := H1.out.tk.c0
  have z0 := H1.out.tk.fz 0
  have H2 := Lib.hid (H1.out.set0 HE.out 46)
  clear H1
  simp only []
  go_wp2_with fail
  refine (md_string HE H2).mono ?_
  rintro e w4 ⟨rfl, hm⟩
  have t2 := hm.tk.c2
  have z2 := hm.tk.fz 2
  have H4 := Lib.hid (hm.set2 HE.out ⟨([] : Bs).toArray⟩)
  clear hm H2
  simp only []
  go_wp2_with fail
  exact HN.out _ _ (frE_mk rfl rfl rfl rfl rfl rfl) H4.out.fin

set_option maxRecDepth 100000 in
set_option maxHeartbeats 4000000 in
theorem sw_46b {w0 w : World} {b : Bl} {t : Bs} {L : Int} {g : Nat} {X R T bm : Nat} {obj : Obj} {so : ByteArray} {ln cl : Int} {Q : Exit → Act → World → Prop} (u : Nat → Value) (HE : Hid (Env w0 b X bm)) (H : Hid (Mid w0 b (46 :: t) L g [] X R T bm obj 0 ⟨#[]⟩ so ln cl w)) (h13 : NoCr ((46 : UInt8) :: t)) (hd1 : hd t ≠ 46)
    (hN : ∀ a' w', FrE b X R T .nilIface a' → Fin w0 b t L X R T bm obj 57372 ⟨#[46, 46]⟩ so ln cl w' → Q .normal a' w') :
    sw12.wp Tryz.prog Q { tmps := #[ptr b.Z, ptr X, u 2, u 3, ptr R, u 5, .nilIface, ptr T, u 8, .int .i64 46, ptr g, ptr g, u 12, u 13, u 14, u 15, u 16, u 17, u 18, u 19, u 20, u 21, u 22, u 23, u 24, u 25, u 26, u 27, u 28, u 29, u 30, u 31, u 32, u 33, u 34, u 35, u 36, u 37, u 38, u 39, u 40, u 41, u 42, u 43, u 44, u 45, u 46, u 47, u 48, u 49, u 50, u 51, u 52, u 53, u 54, u 55, u 56, u 57, u 58, u 59, u 60, u 61, u 62, u 63, u 64, u 65, u 66, u 67, u 68, u 69, u 70, u 71, u 72, u 73, u 74, u 75, u 76, u 77, u 78, u 79, u 80, u 81, u 82, u 83, u 84, u 85, u 86, u 87, u 88, u 89, u 90, u 91, u 92, u 93, u 94, u 95, u 96, u 97, u 98, u 99, u 100, u 101, u 102, u 103, u 104, u 105, u 106, u 107, u 108, u 109, u 110, u 111, u 112, u 113, u 114, u 115, u 116, u 117, u 118, u 119, u 120, u 121, u 122, u 123, u 124, u 125, u 126, u 127, u 128, u 129, u 130, u 131, u 132, u 133, u 134, u 135, u 136, u 137, u 138, u 139, u 140, u 141, u 142, u 143, u 144, u 145, u 146, u 147, u 148, u 149, u 150, u 151, u 152, u 153, u 154, u 155, u 156, u 157, u 158, u 159, u 160, u 161, u 162, u 163, u 164, u 165, u 166, u 167, u 168, u 169, u 170, u 171, u 172, u 173, u 174, u 175, u 176, u 177, u 178, u 179, u 180, u 181, u 182, u 183, u 184, u 185, u 186, u 187, u 188, u 189, u 190, u 191, u 192, u 193, u 194, u 195, u 196, u 197, u 198, u 199, u 200, u 201, u 202, u 203, u 204, u 205, u 206, u 207, u 208, u 209, u 210, u 211, u 212, u 213, u 214, u 215, u 216, u 217, u 218, u 219, u 220, u 221, u 222, u 223, u 224, u 225, u 226, u 227, u 228, u 229, u 230, u 231, u 232, u 233, u 234, u 235, u 236, u 237, u 238, u 239, u 240, u 241, u 242, u 243, u 244, u 245, u 246, u 247, u 248, u 249, u 250, u 251, u 252, u 253, u 254, u 255, u 256, u 257, u 258, u 259, u 260, u 261, u 262, u 263, u 264, u 265, u 266, u 267, u 268, u 269, u 270, u 271, u 272, u 273, u 274, u 275, u 276, u 277, u 278, u 279, u 280, u 281, u 282], defers := [] } w := by
  have H13 := Lib.hid h13
  have e46 : ((UInt8.toNat 46 : Nat) : Int) = 46 := rfl
  clear h13
  have g1 : (hd t == 46) = false := by simpa using hd1
  clear hd1
  have HN := Lib.hid hN
  clear hN
  conv => arg 2; whnf
  go_wp2_with fail
  refine (isLet_calls (r := [46]) (v := false) rfl).mono ?_
  rintro e w1 ⟨rfl, rfl⟩
  simp only []
  go_wp2_with fail
  refine (isDec_calls (r := [46]) (v := false) rfl).mono ?_
  rintro e w1 ⟨rfl, rfl⟩
  simp only []
  go_wp2_with fail
  refine (md_peek HE H).mono ?_
  rintro e w2 ⟨rfl, hm⟩
  have H1 := Lib.hid hm
  clear hm H
  simp only [hd_c, e46]
  go_wp2_with fail
  refine (isDec_calls (r := [46]) (v := false) rfl).mono ?_
  rintro e w3 ⟨rfl, rfl⟩
  simp only []
  go_wp2_with fail
  refine (md_write (c := 46) HE H1 (by simp)).mono ?_
  rintro e w4 ⟨rfl, hm⟩
  have H4 := Lib.hid hm
  clear hm H1
  simp only []
  go_wp2_with fail
  refine (md_next HE H4 H13.out).mono ?_
  rintro e w5 ⟨rfl, hm⟩
  rw [show tl1 ((46 : UInt8) :: t) = t from rfl, ln1_of (c := 46) (t := t) rfl (by decide)] at hm
  have H5 := Lib.hid hm
  clear hm H4
  simp only [hd_c, e46]
  go_wp2_with fail
  refine (md_write (c := 46) HE H5 (by simp)).mono ?_
  rintro e w6 ⟨rfl, hm⟩
  have H6 := Lib.hid hm
  clear hm H5
  simp only []
  go_wp2_with fail
  refine (md_peek HE H6).mono ?_
  rintro e w7 ⟨rfl, hm⟩
  have H7 := Lib.hid hm
  clear hm H6
  simp only [hd_c, e46]
  have H9 := H7
  clear H7
  have t0 := H9.out.tk.c0
  have z0 := H9.out.tk.fz 0
  have HA := Lib.hid (H9.out.set0 HE.out 57372)
  clear H9
  skip
  go_wp2_with fail
  refine (md_string HE HA).mono ?_
  rintro e w10 ⟨rfl, hm⟩
  have t2 := hm.tk.c2
  have z2 := hm.tk.fz 2
  have HB := Lib.hid (hm.set2 HE.out ⟨([46, 46] : Bs).toArray⟩)
  clear hm HA
  simp only []
  go_wp2_with fail
  exact HN.out _ _ (frE_mk rfl rfl rfl rfl rfl rfl) HB.out.fin

set_option maxRecDepth 100000 in
set_option maxHeartbeats 4000000 in
theorem sw_46c {w0 w : World} {b : Bl} {t : Bs} {L : Int} {g : Nat} {X R T bm : Nat} {obj : Obj} {so : ByteArray} {ln cl : Int} {Q : Exit → Act → World → Prop} (u : Nat → Value) (HE : Hid (Env w0 b X bm)) (H : Hid (Mid w0 b (46 :: 46 :: t) L g [] X R T bm obj 0 ⟨#[]⟩ so ln cl w)) (h13 : NoCr ((46 : UInt8) :: 46 :: t))
    (hN : ∀ a' w', FrE b X R T .nilIface a' → Fin w0 b t L X R T bm obj 57373 ⟨#[46, 46, 46]⟩ so ln cl w' → Q .normal a' w') :
    sw12.wp Tryz.prog Q { tmps := #[ptr b.Z, ptr X, u 2, u 3, ptr R, u 5, .nilIface, ptr T, u 8, .int .i64 46, ptr g, ptr g, u 12, u 13, u 14, u 15, u 16, u 17, u 18, u 19, u 20, u 21, u 22, u 23, u 24, u 25, u 26, u 27, u 28, u 29, u 30, u 31, u 32, u 33, u 34, u 35, u 36, u 37, u 38, u 39, u 40, u 41, u 42, u 43, u 44, u 45, u 46, u 47, u 48, u 49, u 50, u 51, u 52, u 53, u 54, u 55, u 56, u 57, u 58, u 59, u 60, u 61, u 62, u 63, u 64, u 65, u 66, u 67, u 68, u 69, u 70, u 71, u 72, u 73, u 74, u 75, u 76, u 77, u 78, u 79, u 80, u 81, u 82, u 83, u 84, u 85, u 86, u 87, u 88, u 89, u 90, u 91, u 92, u 93, u 94, u 95, u 96, u 97, u 98, u 99, u 100, u 101, u 102, u 103, u 104, u 105, u 106, u 107, u 108, u 109, u 110, u 111, u 112, u 113, u 114, u 115, u 116, u 117, u 118, u 119, u 120, u 121, u 122, u 123, u 124, u 125, u 126, u 127, u 128, u 129, u 130, u 131, u 132, u 133, u 134, u 135, u 136, u 137, u 138, u 139, u 140, u 141, u 142, u 143, u 144, u 145, u 146, u 147, u 148, u 149, u 150, u 151, u 152, u 153, u 154, u 155, u 156, u 157, u 158, u 159, u 160, u 161, u 162, u 163, u 164, u 165, u 166, u 167, u 168, u 169, u 170, u 171, u 172, u 173, u 174, u 175, u 176, u 177, u 178, u 179, u 180, u 181, u 182, u 183, u 184, u 185, u 186, u 187, u 188, u 189, u 190, u 191, u 192, u 193, u 194, u 195, u 196, u 197, u 198, u 199, u 200, u 201, u 202, u 203, u 204, u 205, u 206, u 207, u 208, u 209, u 210, u 211, u 212, u 213, u 214, u 215, u 216, u 217, u 218, u 219, u 220, u 221, u 222, u 223, u 224, u 225, u 226, u 227, u 228, u 229, u 230, u 231, u 232, u 233, u 234, u 235, u 236, u 237, u 238, u 239, u 240, u 241, u 242, u 243, u 244, u 245, u 246, u 247, u 248, u 249, u 250, u 251, u 252, u 253, u 254, u 255, u 256, u 257, u 258, u 259, u 260, u 261, u 262, u 263, u 264, u 265, u 266, u 267, u 268, u 269, u 270, u 271, u 272, u 273, u 274, u 275, u 276, u 277, u 278, u 279, u 280, u 281, u 282], defers := [] } w := by
  have H13 := Lib.hid h13
  have e46 : ((UInt8.toNat 46 : Nat) : Int) = 46 := rfl
  clear h13
  have HN := Lib.hid hN
  clear hN
  conv => arg 2; whnf
  go_wp2_with fail
  refine (isLet_calls (r := [46]) (v := false) rfl).mono ?_
  rintro e w1 ⟨rfl, rfl⟩
  simp only []
  go_wp2_with fail
  refine (isDec_calls (r := [46]) (v := false) rfl).mono ?_
  rintro e w1 ⟨rfl, rfl⟩
  simp only []
  go_wp2_with fail
  refine (md_peek HE H).mono ?_
  rintro e w2 ⟨rfl, hm⟩
  have H1 := Lib.hid hm
  clear hm H
  simp only [hd_c, e46]
  go_wp2_with fail
  refine (isDec_calls (r := [46]) (v := false) rfl).mono ?_
  rintro e w3 ⟨rfl, rfl⟩
  simp only []
  go_wp2_with fail
  refine (md_write (c := 46) HE H1 (by simp)).mono ?_
  rintro e w4 ⟨rfl, hm⟩
  have H4 := Lib.hid hm
  clear hm H1
  simp only []
  go_wp2_with fail
  refine (md_next HE H4 H13.out).mono ?_
  rintro e w5 ⟨rfl, hm⟩
  rw [show tl1 ((46 : UInt8) :: 46 :: t) = 46 :: t from rfl, ln1_of (c := 46) (t := 46 :: t) rfl (by decide)] at hm
  have H5 := Lib.hid hm
  clear hm H4
  simp only [hd_c, e46]
  go_wp2_with fail
  refine (md_write (c := 46) HE H5 (by simp)).mono ?_
  rintro e w6 ⟨rfl, hm⟩
  have H6 := Lib.hid hm
  clear hm H5
  simp only []
  go_wp2_with fail
  refine (md_peek HE H6).mono ?_
  rintro e w7 ⟨rfl, hm⟩
  have H7 := Lib.hid hm
  clear hm H6
  simp only [hd_c, e46]
  go_wp2_with fail
  refine (md_next HE H7 H13.out.tail).mono ?_
  rintro e w8 ⟨rfl, hm⟩
  rw [show tl1 ((46 : UInt8) :: t) = t from rfl, ln1_of (c := 46) (t := t) rfl (by decide)] at hm
  have H8 := Lib.hid hm
  clear hm H7
  simp only [hd_c, e46]
  go_wp2_with fail
  refine (md_write (c := 46) HE H8 (by simp)).mono ?_
  rintro e w9 ⟨rfl, hm⟩
  have H9 := Lib.hid hm
  clear hm H8
  have t0 := H9.out.tk.c0
  have z0 := H9.out.tk.fz 0
  have HA := Lib.hid (H9.out.set0 HE.out 57373)
  clear H9
  simp only []
  go_wp2_with fail
  refine (md_string HE HA).mono ?_
  rintro e w10 ⟨rfl, hm⟩
  have t2 := hm.tk.c2
  have z2 := hm.tk.fz 2
  have HB := Lib.hid (hm.set2 HE.out ⟨([46, 46, 46] : Bs).toArray⟩)
  clear hm HA
  simp only []
  go_wp2_with fail
  exact HN.out _ _ (frE_mk rfl rfl rfl rfl rfl rfl) HB.out.fin

set_option maxRecDepth 100000 in
set_option maxHeartbeats 4000000 in
theorem sw_91a {w0 w : World} {b : Bl} {t : Bs} {L : Int} {g : Nat} {X R T bm : Nat} {obj : Obj} {so : ByteArray} {ln cl : Int} {Q : Exit → Act → World → Prop} (u : Nat → Value) (HE : Hid (Env w0 b X bm)) (H : Hid (Mid w0 b t L g [] X R T bm obj 0 ⟨#[]⟩ so ln cl w)) (hd1 : hd t ≠ 91) (hd2 : hd t ≠ 61)
    (hN : ∀ a' w', FrE b X R T .nilIface a' → Fin w0 b t L X R T bm obj 91 ⟨#[91]⟩ so ln cl w' → Q .normal a' w') :
    sw12.wp Tryz.prog Q { tmps := #[ptr b.Z, ptr X, u 2, u 3, ptr R, u 5, .nilIface, ptr T, u 8, .int .i64 91, ptr g, ptr g, u 12, u 13, u 14, u 15, u 16, u 17, u 18, u 19, u 20, u 21, u 22, u 23, u 24, u 25, u 26, u 27, u 28, u 29, u 30, u 31, u 32, u 33, u 34, u 35, u 36, u 37, u 38, u 39, u 40, u 41, u 42, u 43, u 44, u 45, u 46, u 47, u 48, u 49, u 50, u 51, u 52, u 53, u 54, u 55, u 56, u 57, u 58, u 59, u 60, u 61, u 62, u 63, u 64, u 65, u 66, u 67, u 68, u 69, u 70, u 71, u 72, u 73, u 74, u 75, u 76, u 77, u 78, u 79, u 80, u 81, u 82, u 83, u 84, u 85, u 86, u 87, u 88, u 89, u 90, u 91, u 92, u 93, u 94, u 95, u 96, u 97, u 98, u 99, u 100, u 101, u 102, u 103, u 104, u 105, u 106, u 107, u 108, u 109, u 110, u 111, u 112, u 113, u 114, u 115, u 116, u 117, u 118, u 119, u 120, u 121, u 122, u 123, u 124, u 125, u 126, u 127, u 128, u 129, u 130, u 131, u 132, u 133, u 134, u 135, u 136, u 137, u 138, u 139, u 140, u 141, u 142, u 143, u 144, u 145, u 146, u 147, u 148, u 149, u 150, u 151, u 152, u 153, u 154, u 155, u 156, u 157, u 158, u 159, u 160, u 161, u 162, u 163, u 164, u 165, u 166, u 167, u 168, u 169, u 170, u 171, u 172, u 173, u 174, u 175, u 176, u 177, u 178, u 179, u 180, u 181, u 182, u 183, u 184, u 185, u 186, u 187, u 188, u 189, u 190, u 191, u 192, u 193, u 194, u 195, u 196, u 197, u 198, u 199, u 200, u 201, u 202, u 203, u 204, u 205, u 206, u 207, u 208, u 209, u 210, u 211, u 212, u 213, u 214, u 215, u 216, u 217, u 218, u 219, u 220, u 221, u 222, u 223, u 224, u 225, u 226, u 227, u 228, u 229, u 230, u 231, u 232, u 233, u 234, u 235, u 236, u 237, u 238, u 239, u 240, u 241, u 242, u 243, u 244, u 245, u 246, u 247, u 248, u 249, u 250, u 251, u 252, u 253, u 254, u 255, u 256, u 257, u 258, u 259, u 260, u 261, u 262, u 263, u 264, u 265, u 266, u 267, u 268, u 269, u 270, u 271, u 272, u 273, u 274, u 275, u 276, u 277, u 278, u 279, u 280, u 281, u 282], defers := [] } w := by
  have g1 : (hd t == 91) = false := by simpa using hd1
  have g2 : (hd t == 61) = false := by simpa using hd2
  clear hd1 hd2
  have HN := Lib.hid hN
  clear hN
  conv => arg 2; whnf
  go_wp2_with fail
  refine (isLet_calls (r := [91]) (v := false) rfl).mono ?_
  rintro e w1 ⟨rfl, rfl⟩
  simp only []
  go_wp2_with fail
  refine (isDec_calls (r := [91]) (v := false) rfl).mono ?_
  rintro e w1 ⟨rfl, rfl⟩
  simp only []
  go_wp2_with fail
  refine (md_peek HE H).mono ?_
  rintro e w2 ⟨rfl, hm⟩
  have H1 := Lib.hid hm
  clear hm H
  have t0 := H1.out.tk.c0
  have z0 := H1.out.tk.fz 0
  have t2 := H1.out.tk.c2
  have z2 := H1.out.tk.fz 2
  have hma := H1.out.set0 HE.out 91
  have HF := Lib.hid (hma.set2 HE.out ⟨#[91]⟩)
  have t2' := hma.tk.c2
  have z2' := hma.tk.fz 2
  simp only []
  go_wp2_with fail
  exact HN.out _ _ (frE_mk rfl rfl rfl rfl rfl rfl) HF.out.fin

end Go.Proofs.YtbgjjbffpckimaaGreatDoor
