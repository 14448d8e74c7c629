/-
  spec.match, item by item. Lines laid by a program of this session (mkmm.py).
-/
import Derived.Test.YtkbdngcbifonkaaFmtTmb
namespace Go.Proofs.YtkbdngcbifonkaaFmt
set_option linter.all false
open Go.RowKit

noncomputable def reg34 (id : Nat) : Code := (rgc id (Tryf.f34.body.getD .skip)).getD .skip

set_option maxRecDepth 100000 in
set_option maxHeartbeats 4000000 in
theorem close_reg {w : World} {M I ic D0 D2 D5 : Nat} {s : ByteArray} {L : Int} {p A B c X : Nat} {cost : Int} {t : Option (Nat × Nat × Nat)} {Q : Exit → Act → World → Prop} {u4 u5 u6 u7 u8 u9 u11 u12 u13 u14 u15 u16 u17 u18 u19 u20 u21 u22 u23 u24 u25 u26 u27 u28 u29 u30 u31 u32 u33 u34 u35 u36 u37 u38 u39 u40 u41 u42 u43 u44 u45 u46 u47 u48 u49 u50 u51 u52 u53 u54 u55 u56 u57 u58 u59 u60 u61 u62 u63 u64 u65 u66 u67 u68 u69 u70 u71 u72 u73 u74 u75 u76 u77 u78 u79 u80 u81 u82 u83 u84 u85 u86 u87 u88 u89 u90 u91 u92 u93 u94 u95 u96 u97 u98 u99 u100 u101 u102 u103 u104 u105 u106 u107 u108 u109 u110 u111 u112 u113 u114 u115 u116 u117 u118 u119 u120 u121 u122 u123 u124 u125 u126 u127 u128 u129 u130 u131 u132 u133 u134 u135 u136 u137 u138 u139 u140 u141 u142 u143 u144 u145 u146 u147 u148 u149 u150 u151 u152 u153 u154 u155 u156 u157 u158 u159 u160 u161 u162 u163 u164 u165 u166 u167 u168 u169 u170 u171 u172 u173 u174 u175 u176 u177 u178 u179 u180 u181 u182 u183 u184 u185 u186 u187 u188 u189 u190 u191 u192 u193 u194 u195 u196 u197 u198 u199 u200 u201 u202 : Value} (HM : Hid (MatAt w M I ic D0 D2 D5 s L)) (x3 : w.cell? ⟨X, 3, none⟩ = some (.int .i64 1)) (b0 : w.cell? ⟨B, 0, none⟩ = some (.int .i64 (A : Int))) (b1 : w.cell? ⟨B, 1, none⟩ = some (.int .i64 (-1))) (hB : ¬ B = M) (hc : 1 ≤ c) (hp : p ≤ 1000) (hA : A ≤ p)
    (HR : Hid (∀ w1 B' c', MatAt w1 M I ic D0 D2 D5 s L → Ch (· = M) w w1 → w1.cell? ⟨B', 0, none⟩ = some (.int .i64 (A : Int)) → w1.cell? ⟨B', 1, none⟩ = some (.int .i64 ((p - A : Nat) : Int)) → ¬ B' = M → 1 ≤ c' → Calls Tryf.prog 34 #[ptr M, .int .i64 4, .int .i64 (p : Int), .slice (some ⟨B', 0, none⟩) 1 c'] w1 (MPost w1 M I ic D0 D2 D5 s L cost t)))
    (hQ : ∀ (w' : World) (v v2 : Value) (y60 y61 y62 y63 y64 y65 y66 y67 y68 y69 y70 y71 y72 y73 y74 y75 y76 y77 y78 y79 y80 y81 y82 y83 y84 y85 y86 y87 : Value), MPost w M I ic D0 D2 D5 s L cost t (.returned (.tuple #[v, v2])) w' → Q .normal { tmps := #[ptr M, .int .i64 3, .int .i64 (p : Int), .slice (some ⟨B, 0, none⟩) 1 c, u4, u5, u6, u7, v, v2, ptr X, u11, u12, u13, u14, u15, u16, u17, u18, u19, u20, u21, u22, u23, u24, u25, u26, u27, u28, u29, u30, u31, u32, u33, u34, u35, u36, u37, u38, u39, u40, u41, u42, u43, u44, u45, u46, u47, u48, u49, u50, u51, u52, u53, u54, u55, u56, u57, u58, u59, y60, y61, y62, y63, y64, y65, y66, y67, y68, y69, y70, y71, y72, y73, y74, y75, y76, y77, y78, y79, y80, y81, y82, y83, y84, y85, y86, y87, u88, u89, u90, u91, u92, u93, u94, u95, u96, u97, u98, u99, u100, u101, u102, u103, u104, u105, u106, u107, u108, u109, u110, u111, u112, u113, u114, u115, u116, u117, u118, u119, u120, u121, u122, u123, u124, u125, u126, u127, u128, u129, u130, u131, u132, u133, u134, u135, u136, u137, u138, u139, u140, u141, u142, u143, u144, u145, u146, u147, u148, u149, u150, u151, u152, u153, u154, u155, u156, u157, u158, u159, u160, u161, u162, u163, u164, u165, u166, u167, u168, u169, u170, u171, u172, u173, u174, u175, u176, u177, u178, u179, u180, u181, u182, u183, u184, u185, u186, u187, u188, u189, u190, u191, u192, u193, u194, u195, u196, u197, u198, u199, u200, u201, u202], defers := [] } w') :
    (reg34 11).wp Tryf.prog Q { tmps := #[ptr M, .int .i64 3, .int .i64 (p : Int), .slice (some ⟨B, 0, none⟩) 1 c, u4, u5, u6, u7, u8, u9, ptr X, u11, u12, u13, u14, u15, u16, u17, u18, u19, u20, u21, u22, u23, u24, u25, u26, u27, u28, u29, u30, u31, u32, u33, u34, u35, u36, u37, u38, u39, u40, u41, u42, u43, u44, u45, u46, u47, u48, u49, u50, u51, u52, u53, u54, u55, u56, u57, u58, u59, u60, u61, u62, u63, u64, u65, u66, u67, u68, u69, u70, u71, u72, u73, u74, u75, u76, u77, u78, u79, u80, u81, u82, u83, u84, u85, u86, u87, u88, u89, u90, u91, u92, u93, u94, u95, u96, u97, u98, u99, u100, u101, u102, u103, u104, u105, u106, u107, u108, u109, u110, u111, u112, u113, u114, u115, u116, u117, u118, u119, u120, u121, u122, u123, u124, u125, u126, u127, u128, u129, u130, u131, u132, u133, u134, u135, u136, u137, u138, u139, u140, u141, u142, u143, u144, u145, u146, u147, u148, u149, u150, u151, u152, u153, u154, u155, u156, u157, u158, u159, u160, u161, u162, u163, u164, u165, u166, u167, u168, u169, u170, u171, u172, u173, u174, u175, u176, u177, u178, u179, u180, u181, u182, u183, u184, u185, u186, u187, u188, u189, u190, u191, u192, u193, u194, u195, u196, u197, u198, u199, u200, u201, u202], defers := [] } w := by
  have hw : IntKind.i64.wrap ((p : Int) - (A : Int)) = ((p - A : Nat) : Int) := by rw [IntKind.wrap_i64]; omega
  have c1 : (1 : Int) ≤ c := by omega
  have hz : IntKind.i64.wrap 0 = 0 := rfl
  have hml := HM.out.lt
  have HQ := Lib.hid hQ
  clear hQ
  conv => arg 2; whnf
  refine wp_region_noPanic ?_
  go_region_law (go_simp; first
    | (go_at_call 46; refine (with_one (w := w.drew) (show w.drew.cell? _ = _ from b0) (show w.drew.cell? _ = _ from b1) hc).mono ?_; rintro e w2 ⟨hch, B', c', rfl, hb0, hb1, hBl, hc'⟩
       have hch2 : Ch (· = M) w w2 := (((Ch.refl (fun _ => False) w).drew).trans hch).mono fun _ _ h => h.elim
       have HM2 := Lib.hid (HM.out.moved (((Ch.refl (fun _ => False) w).drew).trans hch))
       have HC2 := Lib.hid hch2
       have hBM : ¬ B' = M := by simp at hBl; omega
       clear hch hch2)
    | (go_at_call 34; refine (HR.out _ B' c' HM2.out HC2.out hb0 hb1 hBM hc').mono ?_; rintro e w3 ⟨L', t', v, h1, h2, h3, h4, rfl, h5, h6, h7⟩
       obtain ⟨v1, v2, rfl⟩ : ∃ v1 v2, v = .tuple #[v1, v2] := by
         cases t' with
         | none => exact ⟨_, _, h5⟩
         | some r => obtain ⟨e, A, S⟩ := r; obtain ⟨B', c', hv, _⟩ := h5; exact ⟨_, _, hv⟩
       have HX : Hid (MPost w M I ic D0 D2 D5 s L cost t (.returned (.tuple #[v1, v2])) w3) := Lib.hid ⟨L', t', _, h1, HC2.out.trans h2, h3, h4, rfl, h5, h6, h7⟩
       clear h1 h2 h5))
  all_goals
    refine NoPanic.normal ?_
    go_simp
    exact HQ.out _ _ _ _ _ _ _ _ _ _ _ _ _ _ _ _ _ _ _ _ _ _ _ _ _ _ _ _ _ _ _ HX.out

end Go.Proofs.YtkbdngcbifonkaaFmt
