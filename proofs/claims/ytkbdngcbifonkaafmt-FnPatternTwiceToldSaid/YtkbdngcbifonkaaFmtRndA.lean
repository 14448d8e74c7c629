/-
  ONE ROUND OF parsePattern's LOOP, a lemma a kind of part. Lines laid by a program of this session (mkround.py).
-/
import Derived.Test.YtkbdngcbifonkaaFmtRnd
namespace Go.Proofs.YtkbdngcbifonkaaFmt
set_option linter.all false
open Go.RowKit

set_option maxRecDepth 100000 in
set_option maxHeartbeats 8000000 in
theorem round_chr {tl : Bool} {w0 wr : World} {S A cap j P k c : Nat} {l : List UInt8} {head : Bool} {ps : List Pm.Pat} {B : Option Addr} {us : List Value} {Q : Exit → Act → World → Prop} {u2 u3 u4 u6 u7 u8 u9 u10 u11 u12 u13 u14 u15 u16 u17 u18 u19 u20 u21 u22 u23 u24 u25 u26 u27 u28 u29 u30 u31 u32 u33 u34 u35 u36 u37 u38 u39 u40 u41 u42 u43 u44 u45 u46 u47 u48 u49 u50 u51 u52 u53 u54 u55 u56 u57 u58 u59 u60 u61 u62 u63 u64 u65 u66 u67 u68 u69 u70 u71 u72 u73 u74 u75 u76 u77 u78 u79 u80 u81 u82 u83 u84 u85 u86 u87 u88 u89 u90 u91 u92 u93 u94 u95 u96 u97 u98 u99 u100 u101 u102 u103 u104 u105 u106 u107 u108 u109 u110 u111 u112 u113 u114 u115 u116 u117 u118 u119 u120 u121 u122 u123 u124 u125 u126 u127 u128 u129 u130 u131 u132 u133 u134 u135 u136 u137 u138 u139 u140 u141 u142 u143 u144 u145 u146 u147 u148 u149 u150 u151 u152 u153 u154 u155 u156 u157 u158 u159 u160 u161 u162 u163 u164 u165 u166 u167 u168 u169 u170 u171 u172 u173 u174 u175 u176 u177 u178 u179 u180 u181 u182 u183 u184 u185 u186 u187 u188 u189 u190 u191 u192 u193 u194 u195 u196 u197 u198 u199 u200 u201 u202 u203 u204 u205 u206 u207 u208 u209 u210 u211 u212 u213 u214 u215 u216 u217 u218 u219 u220 u221 u222 u223 u224 u225 u226 u227 u228 u229 u230 u231 u232 u233 u234 u235 u236 u237 u238 u239 u240 u241 u242 u243 u244 u245 u246 u247 u248 u249 u250 u251 u252 u253 u254 u255 u256 u257 u258 u259 u260 u261 u262 u263 u264 u265 u266 u267 u268 u269 u270 u271 u272 u273 u274 u275 u276 u277 u278 u279 u280 u281 u282 u283 u284 u285 u286 u287 u288 u289 u290 u291 u292 u293 u294 u295 u296 u297 u298 u299 u300 u301 u302 u303 u304 u305 u306 u307 : Value} (HPAT : Hid (PatAt w0 S A cap j P l head k ps wr B c us)) (hl1 : l.length ≤ 1000) (hk : k ≤ l.length + 1) (hseen : seen l k = k) (h37 : ¬ at_ l k = 37) (h46 : ¬ at_ l k = 46) (h91 : ¬ at_ l k = 91) (h93 : ¬ at_ l k = 93) (h41 : ¬ at_ l k = 41) (h40 : ¬ at_ l k = 40) (h42 : ¬ at_ l k = 42) (h43 : ¬ at_ l k = 43) (h45 : ¬ at_ l k = 45) (h63 : ¬ at_ l k = 63) (h36 : ¬ at_ l k = 36) (hm1 : ¬ at_ l k = -1)
    (hQ : ∀ a' w', RoundPost w0 S A cap P l head (k + 1) (ps ++ [.part (.one (.atom (.chr (at_ l k))))]) tl u2 u3 u10 u11 u12 u13 u14 u15 u16 u17 u18 u19 u20 u307 a' w' → Q .normal a' w') :
    body36.wp Tryf.prog Q { tmps := #[ptr S, .bool tl, u2, u3, u4, ptr P, u6, u7, u8, u9, u10, u11, u12, u13, u14, u15, u16, u17, u18, u19, u20, u21, u22, u23, u24, u25, u26, u27, u28, u29, u30, u31, u32, u33, u34, u35, u36, u37, u38, u39, u40, u41, u42, u43, u44, u45, u46, u47, u48, u49, u50, u51, u52, u53, u54, u55, u56, u57, u58, u59, u60, u61, u62, u63, u64, u65, u66, u67, u68, u69, u70, u71, u72, u73, u74, u75, u76, u77, u78, u79, u80, u81, u82, u83, u84, u85, u86, u87, u88, u89, u90, u91, u92, u93, u94, u95, u96, u97, u98, u99, u100, u101, u102, u103, u104, u105, u106, u107, u108, u109, u110, u111, u112, u113, u114, u115, u116, u117, u118, u119, u120, u121, u122, u123, u124, u125, u126, u127, u128, u129, u130, u131, u132, u133, u134, u135, u136, u137, u138, u139, u140, u141, u142, u143, u144, u145, u146, u147, u148, u149, u150, u151, u152, u153, u154, u155, u156, u157, u158, u159, u160, u161, u162, u163, u164, u165, u166, u167, u168, u169, u170, u171, u172, u173, u174, u175, u176, u177, u178, u179, u180, u181, u182, u183, u184, u185, u186, u187, u188, u189, u190, u191, u192, u193, u194, u195, u196, u197, u198, u199, u200, u201, u202, u203, u204, u205, u206, u207, u208, u209, u210, u211, u212, u213, u214, u215, u216, u217, u218, u219, u220, u221, u222, u223, u224, u225, u226, u227, u228, u229, u230, u231, u232, u233, u234, u235, u236, u237, u238, u239, u240, u241, u242, u243, u244, u245, u246, u247, u248, u249, u250, u251, u252, u253, u254, u255, u256, u257, u258, u259, u260, u261, u262, u263, u264, u265, u266, u267, u268, u269, u270, u271, u272, u273, u274, u275, u276, u277, u278, u279, u280, u281, u282, u283, u284, u285, u286, u287, u288, u289, u290, u291, u292, u293, u294, u295, u296, u297, u298, u299, u300, u301, u302, u303, u304, u305, u306, u307], defers := [] } wr := by
  obtain ⟨i0, hi0, hz0, hz1, hz2⟩ := info_parts Tryf.info137
  have I0 := Lib.hid hi0
  have Z0 := Lib.hid hz0
  have Z1 := Lib.hid hz1
  have Z2 := Lib.hid hz2
  clear hi0 hz0 hz1 hz2
  have hlen0 := HPAT.out.len
  have hll := HPAT.out.scan.len
  have HQ := Lib.hid hQ
  clear hQ
  conv => arg 2; whnf
  conv => arg 4; dsimp only
  have hkl := at_lt hm1
  have t37 := beq_no h37
  have t46 := beq_no h46
  have t91 := beq_no h91
  have t93 := beq_no h93
  have t41 := beq_no h41
  have t40 := beq_no h40
  have t42 := beq_no h42
  have t43 := beq_no h43
  have t45 := beq_no h45
  have t63 := beq_no h63
  have t36 := beq_no h36
  have tm1 := beq_no hm1
  clear h37 h46 h91 h93 h41 h40 h42 h43 h45 h63 h36 hm1
  go_wp2_with fail
  refine (scan_peek HPAT.out.scan (by omega)).mono ?_
  rintro e w2 ⟨rfl, hs, hc2, hz⟩
  rw [hseen] at hs
  have hp2 := HPAT.out.moved hs hc2 HPAT.out.len
  have q2 := hp2.c2
  have z2 := hp2.lt
  have f2 := hp2.fz 2
  have HPAT2 := Lib.hid hp2
  clear hp2 hs hz HPAT hc2
  go_wp2_with fail
  refine (scan_next HPAT2.out.scan (by omega)).mono ?_
  rintro e w3 ⟨rfl, hs, hc2, hz⟩
  rw [show after l k = k + 1 from by simp only [after]; omega] at hs
  have hp2 := HPAT2.out.moved hs hc2 (by omega)
  clear q2 z2 f2
  have q2 := hp2.c2
  have z2 := hp2.lt
  have f2 := hp2.fz 2
  have HPAT3 := Lib.hid hp2
  clear hp2 hs hz HPAT2 hc2
  go_wp2_with (at_builtin; refine wpList_append_lies _ rfl (.tmp 30) (.tmp 38) 103 rfl w0.heap.size 137 i0 _ 1 16 Tryf.underlying103 I0.out Z0.out Z1.out Z2.out rfl (by omega) _ _ us rfl (((HPAT3.out.own.alloc _).alloc _).alloc _) ⟨w3.heap.size + 2, 0, none⟩ 1 1 [.iface 127 (ptr (w3.heap.size + 1))] rfl rfl (World.news_of_block (hnb3 w3 _ _ _)) (one_cell _ _) (by omega) (by unfold maxLen; omega) (by omega) (by have := HPAT3.out.base; have := HPAT3.out.lt; simp; omega) (w3.heap.size + 3) (by simp) ?_; intro g' c' w9 hown9 hgrow9 hat9 hlt9
               obtain ⟨hpush, d9, f9⟩ := ((HPAT3.out.alloc (.cells #[.int .i64 (at_ l k)] 146)).alloc (.cells #[.iface 144 (ptr w3.heap.size)] 132)).pushed (by omega) (new_one_at (by simp) (HPAT3.out.fresh.mono (Nat.le_refl _)) HPAT3.out.base (by simp) new_chr) ((Ch.refl _ _).alloc _) hgrow9 (hat9.imp id (fun e => by simp; omega)) hown9
               have HPUSH := Lib.hid hpush
               clear hown9 hgrow9 hat9 hlt9 hpush)
  refine HQ.out _ _ ⟨⟨_, _, _, _, HPUSH.out⟩, ?_⟩
  (repeat apply Exists.intro)
  rfl

set_option maxRecDepth 100000 in
set_option maxHeartbeats 8000000 in
theorem round_end {tl : Bool} {w0 wr : World} {S A cap j P k c : Nat} {l : List UInt8} {head : Bool} {ps : List Pm.Pat} {B : Option Addr} {us : List Value} {Q : Exit → Act → World → Prop} {u2 u3 u4 u6 u7 u8 u9 u10 u11 u12 u13 u14 u15 u16 u17 u18 u19 u20 u21 u22 u23 u24 u25 u26 u27 u28 u29 u30 u31 u32 u33 u34 u35 u36 u37 u38 u39 u40 u41 u42 u43 u44 u45 u46 u47 u48 u49 u50 u51 u52 u53 u54 u55 u56 u57 u58 u59 u60 u61 u62 u63 u64 u65 u66 u67 u68 u69 u70 u71 u72 u73 u74 u75 u76 u77 u78 u79 u80 u81 u82 u83 u84 u85 u86 u87 u88 u89 u90 u91 u92 u93 u94 u95 u96 u97 u98 u99 u100 u101 u102 u103 u104 u105 u106 u107 u108 u109 u110 u111 u112 u113 u114 u115 u116 u117 u118 u119 u120 u121 u122 u123 u124 u125 u126 u127 u128 u129 u130 u131 u132 u133 u134 u135 u136 u137 u138 u139 u140 u141 u142 u143 u144 u145 u146 u147 u148 u149 u150 u151 u152 u153 u154 u155 u156 u157 u158 u159 u160 u161 u162 u163 u164 u165 u166 u167 u168 u169 u170 u171 u172 u173 u174 u175 u176 u177 u178 u179 u180 u181 u182 u183 u184 u185 u186 u187 u188 u189 u190 u191 u192 u193 u194 u195 u196 u197 u198 u199 u200 u201 u202 u203 u204 u205 u206 u207 u208 u209 u210 u211 u212 u213 u214 u215 u216 u217 u218 u219 u220 u221 u222 u223 u224 u225 u226 u227 u228 u229 u230 u231 u232 u233 u234 u235 u236 u237 u238 u239 u240 u241 u242 u243 u244 u245 u246 u247 u248 u249 u250 u251 u252 u253 u254 u255 u256 u257 u258 u259 u260 u261 u262 u263 u264 u265 u266 u267 u268 u269 u270 u271 u272 u273 u274 u275 u276 u277 u278 u279 u280 u281 u282 u283 u284 u285 u286 u287 u288 u289 u290 u291 u292 u293 u294 u295 u296 u297 u298 u299 u300 u301 u302 u303 u304 u305 u306 u307 : Value} (HPAT : Hid (PatAt w0 S A cap j P l head k ps wr B c us)) (hl1 : l.length ≤ 1000) (hk : k ≤ l.length + 1) (hseen : seen l k = k) (hm1 : at_ l k = -1)
    (hQ : ∀ a' w', RoundPost w0 S A cap P l head (after l k) ps tl u2 u3 u10 u11 u12 u13 u14 u15 u16 u17 u18 u19 u20 u307 a' w' → Q (.goto 0) a' w') :
    body36.wp Tryf.prog Q { tmps := #[ptr S, .bool tl, u2, u3, u4, ptr P, u6, u7, u8, u9, u10, u11, u12, u13, u14, u15, u16, u17, u18, u19, u20, u21, u22, u23, u24, u25, u26, u27, u28, u29, u30, u31, u32, u33, u34, u35, u36, u37, u38, u39, u40, u41, u42, u43, u44, u45, u46, u47, u48, u49, u50, u51, u52, u53, u54, u55, u56, u57, u58, u59, u60, u61, u62, u63, u64, u65, u66, u67, u68, u69, u70, u71, u72, u73, u74, u75, u76, u77, u78, u79, u80, u81, u82, u83, u84, u85, u86, u87, u88, u89, u90, u91, u92, u93, u94, u95, u96, u97, u98, u99, u100, u101, u102, u103, u104, u105, u106, u107, u108, u109, u110, u111, u112, u113, u114, u115, u116, u117, u118, u119, u120, u121, u122, u123, u124, u125, u126, u127, u128, u129, u130, u131, u132, u133, u134, u135, u136, u137, u138, u139, u140, u141, u142, u143, u144, u145, u146, u147, u148, u149, u150, u151, u152, u153, u154, u155, u156, u157, u158, u159, u160, u161, u162, u163, u164, u165, u166, u167, u168, u169, u170, u171, u172, u173, u174, u175, u176, u177, u178, u179, u180, u181, u182, u183, u184, u185, u186, u187, u188, u189, u190, u191, u192, u193, u194, u195, u196, u197, u198, u199, u200, u201, u202, u203, u204, u205, u206, u207, u208, u209, u210, u211, u212, u213, u214, u215, u216, u217, u218, u219, u220, u221, u222, u223, u224, u225, u226, u227, u228, u229, u230, u231, u232, u233, u234, u235, u236, u237, u238, u239, u240, u241, u242, u243, u244, u245, u246, u247, u248, u249, u250, u251, u252, u253, u254, u255, u256, u257, u258, u259, u260, u261, u262, u263, u264, u265, u266, u267, u268, u269, u270, u271, u272, u273, u274, u275, u276, u277, u278, u279, u280, u281, u282, u283, u284, u285, u286, u287, u288, u289, u290, u291, u292, u293, u294, u295, u296, u297, u298, u299, u300, u301, u302, u303, u304, u305, u306, u307], defers := [] } wr := by
  obtain ⟨i0, hi0, hz0, hz1, hz2⟩ := info_parts Tryf.info137
  have I0 := Lib.hid hi0
  have Z0 := Lib.hid hz0
  have Z1 := Lib.hid hz1
  have Z2 := Lib.hid hz2
  clear hi0 hz0 hz1 hz2
  have hlen0 := HPAT.out.len
  have hll := HPAT.out.scan.len
  have HQ := Lib.hid hQ
  clear hQ
  conv => arg 2; whnf
  conv => arg 4; dsimp only
  have t37 : (at_ l k == 37) = false := by simp [hm1]
  have t46 : (at_ l k == 46) = false := by simp [hm1]
  have t91 : (at_ l k == 91) = false := by simp [hm1]
  have t93 : (at_ l k == 93) = false := by simp [hm1]
  have t41 : (at_ l k == 41) = false := by simp [hm1]
  have t40 : (at_ l k == 40) = false := by simp [hm1]
  have t42 : (at_ l k == 42) = false := by simp [hm1]
  have t43 : (at_ l k == 43) = false := by simp [hm1]
  have t45 : (at_ l k == 45) = false := by simp [hm1]
  have t63 : (at_ l k == 63) = false := by simp [hm1]
  have t36 : (at_ l k == 36) = false := by simp [hm1]
  have tm1 : (at_ l k == -1) = true := by simp [hm1]
  clear hm1
  go_wp2_with fail
  refine (scan_peek HPAT.out.scan (by omega)).mono ?_
  rintro e w2 ⟨rfl, hs, hc2, hz⟩
  rw [hseen] at hs
  have hp2 := HPAT.out.moved hs hc2 HPAT.out.len
  have q2 := hp2.c2
  have z2 := hp2.lt
  have f2 := hp2.fz 2
  have HPAT2 := Lib.hid hp2
  clear hp2 hs hz HPAT hc2
  go_wp2_with fail
  refine (scan_next HPAT2.out.scan (by omega)).mono ?_
  rintro e w3 ⟨rfl, hs, hc2, hz⟩
  have hp2 := HPAT2.out.moved hs hc2 (by simp only [after]; omega)
  clear q2 z2 f2
  have HPUSH := Lib.hid hp2
  clear hp2 hs hz HPAT2 hc2
  go_wp2_with fail
  go_step3
  refine HQ.out _ _ ⟨⟨_, _, _, _, HPUSH.out⟩, ?_⟩
  (repeat apply Exists.intro)
  rfl

set_option maxRecDepth 100000 in
set_option maxHeartbeats 8000000 in
theorem round_pct {tl : Bool} {w0 wr : World} {S A cap j P k c : Nat} {l : List UInt8} {head : Bool} {ps : List Pm.Pat} {B : Option Addr} {us : List Value} {Q : Exit → Act → World → Prop} {u2 u3 u4 u6 u7 u8 u9 u10 u11 u12 u13 u14 u15 u16 u17 u18 u19 u20 u21 u22 u23 u24 u25 u26 u27 u28 u29 u30 u31 u32 u33 u34 u35 u36 u37 u38 u39 u40 u41 u42 u43 u44 u45 u46 u47 u48 u49 u50 u51 u52 u53 u54 u55 u56 u57 u58 u59 u60 u61 u62 u63 u64 u65 u66 u67 u68 u69 u70 u71 u72 u73 u74 u75 u76 u77 u78 u79 u80 u81 u82 u83 u84 u85 u86 u87 u88 u89 u90 u91 u92 u93 u94 u95 u96 u97 u98 u99 u100 u101 u102 u103 u104 u105 u106 u107 u108 u109 u110 u111 u112 u113 u114 u115 u116 u117 u118 u119 u120 u121 u122 u123 u124 u125 u126 u127 u128 u129 u130 u131 u132 u133 u134 u135 u136 u137 u138 u139 u140 u141 u142 u143 u144 u145 u146 u147 u148 u149 u150 u151 u152 u153 u154 u155 u156 u157 u158 u159 u160 u161 u162 u163 u164 u165 u166 u167 u168 u169 u170 u171 u172 u173 u174 u175 u176 u177 u178 u179 u180 u181 u182 u183 u184 u185 u186 u187 u188 u189 u190 u191 u192 u193 u194 u195 u196 u197 u198 u199 u200 u201 u202 u203 u204 u205 u206 u207 u208 u209 u210 u211 u212 u213 u214 u215 u216 u217 u218 u219 u220 u221 u222 u223 u224 u225 u226 u227 u228 u229 u230 u231 u232 u233 u234 u235 u236 u237 u238 u239 u240 u241 u242 u243 u244 u245 u246 u247 u248 u249 u250 u251 u252 u253 u254 u255 u256 u257 u258 u259 u260 u261 u262 u263 u264 u265 u266 u267 u268 u269 u270 u271 u272 u273 u274 u275 u276 u277 u278 u279 u280 u281 u282 u283 u284 u285 u286 u287 u288 u289 u290 u291 u292 u293 u294 u295 u296 u297 u298 u299 u300 u301 u302 u303 u304 u305 u306 u307 : Value} (HPAT : Hid (PatAt w0 S A cap j P l head k ps wr B c us)) (hl1 : l.length ≤ 1000) (hk : k ≤ l.length + 1) (hseen : seen l k = k) (h37 : at_ l k = 37) (h98 : ¬ at_ l (k + 1) = 98) (hno : ¬ (48 ≤ at_ l (k + 1) ∧ at_ l (k + 1) ≤ 57 ∨ at_ l (k + 1) = -1))
    (hQ : ∀ a' w', RoundPost w0 S A cap P l head (k + 2) (ps ++ [.part (.one (.atom (.single (at_ l (k + 1)))))]) tl u2 u3 u10 u11 u12 u13 u14 u15 u16 u17 u18 u19 u20 u307 a' w' → Q .normal a' w') :
    body36.wp Tryf.prog Q { tmps := #[ptr S, .bool tl, u2, u3, u4, ptr P, u6, u7, u8, u9, u10, u11, u12, u13, u14, u15, u16, u17, u18, u19, u20, u21, u22, u23, u24, u25, u26, u27, u28, u29, u30, u31, u32, u33, u34, u35, u36, u37, u38, u39, u40, u41, u42, u43, u44, u45, u46, u47, u48, u49, u50, u51, u52, u53, u54, u55, u56, u57, u58, u59, u60, u61, u62, u63, u64, u65, u66, u67, u68, u69, u70, u71, u72, u73, u74, u75, u76, u77, u78, u79, u80, u81, u82, u83, u84, u85, u86, u87, u88, u89, u90, u91, u92, u93, u94, u95, u96, u97, u98, u99, u100, u101, u102, u103, u104, u105, u106, u107, u108, u109, u110, u111, u112, u113, u114, u115, u116, u117, u118, u119, u120, u121, u122, u123, u124, u125, u126, u127, u128, u129, u130, u131, u132, u133, u134, u135, u136, u137, u138, u139, u140, u141, u142, u143, u144, u145, u146, u147, u148, u149, u150, u151, u152, u153, u154, u155, u156, u157, u158, u159, u160, u161, u162, u163, u164, u165, u166, u167, u168, u169, u170, u171, u172, u173, u174, u175, u176, u177, u178, u179, u180, u181, u182, u183, u184, u185, u186, u187, u188, u189, u190, u191, u192, u193, u194, u195, u196, u197, u198, u199, u200, u201, u202, u203, u204, u205, u206, u207, u208, u209, u210, u211, u212, u213, u214, u215, u216, u217, u218, u219, u220, u221, u222, u223, u224, u225, u226, u227, u228, u229, u230, u231, u232, u233, u234, u235, u236, u237, u238, u239, u240, u241, u242, u243, u244, u245, u246, u247, u248, u249, u250, u251, u252, u253, u254, u255, u256, u257, u258, u259, u260, u261, u262, u263, u264, u265, u266, u267, u268, u269, u270, u271, u272, u273, u274, u275, u276, u277, u278, u279, u280, u281, u282, u283, u284, u285, u286, u287, u288, u289, u290, u291, u292, u293, u294, u295, u296, u297, u298, u299, u300, u301, u302, u303, u304, u305, u306, u307], defers := [] } wr := by
  obtain ⟨i0, hi0, hz0, hz1, hz2⟩ := info_parts Tryf.info137
  have I0 := Lib.hid hi0
  have Z0 := Lib.hid hz0
  have Z1 := Lib.hid hz1
  have Z2 := Lib.hid hz2
  clear hi0 hz0 hz1 hz2
  have hlen0 := HPAT.out.len
  have hll := HPAT.out.scan.len
  have HQ := Lib.hid hQ
  clear hQ
  conv => arg 2; whnf
  conv => arg 4; dsimp only
  have hkl := at_lt (l := l) (k := k) (by rw [h37]; decide)
  have t37 : (at_ l k == 37) = true := by simp [h37]
  have h1 : ¬ at_ l (k + 1) = -1 := fun e => hno (.inr e)
  have hk1 := at_lt h1
  have hg : ∀ c : Int, 48 ≤ c → c ≤ 57 → ¬ at_ l (k + 1) = c := fun c a b e => hno (.inl (by omega))
  have s48 := beq_no (hg 48 (by decide) (by decide))
  have s49 := beq_no (hg 49 (by decide) (by decide))
  have s50 := beq_no (hg 50 (by decide) (by decide))
  have s51 := beq_no (hg 51 (by decide) (by decide))
  have s52 := beq_no (hg 52 (by decide) (by decide))
  have s53 := beq_no (hg 53 (by decide) (by decide))
  have s54 := beq_no (hg 54 (by decide) (by decide))
  have s55 := beq_no (hg 55 (by decide) (by decide))
  have s56 := beq_no (hg 56 (by decide) (by decide))
  have s57 := beq_no (hg 57 (by decide) (by decide))
  have s98 := beq_no h98
  clear hg hno h1 h98
  have H37 := Lib.hid h37
  clear h37
  go_wp2_with fail
  refine (scan_peek HPAT.out.scan (by omega)).mono ?_
  rintro e w2 ⟨rfl, hs, hc2, hz⟩
  rw [hseen] at hs
  have hp2 := HPAT.out.moved hs hc2 HPAT.out.len
  have q2 := hp2.c2
  have z2 := hp2.lt
  have f2 := hp2.fz 2
  have HPAT2 := Lib.hid hp2
  clear hp2 hs hz HPAT hc2
  go_wp2_with fail
  refine (scan_save HPAT2.out.scan).mono ?_
  rintro e w3 ⟨rfl, hs, hc2, hz⟩
  have hp2 := HPAT2.out.moved hs hc2 (by omega)
  clear q2 z2 f2
  have q2 := hp2.c2
  have z2 := hp2.lt
  have f2 := hp2.fz 2
  have HPAT3 := Lib.hid hp2
  clear hp2 hs hz HPAT2 hc2
  go_wp2_with fail
  refine (scan_next HPAT3.out.scan (by omega)).mono ?_
  rintro e w4 ⟨rfl, hs, hc2, hz⟩
  rw [show after l k = k + 1 from by simp only [after]; omega] at hs
  have hp2 := HPAT3.out.moved hs hc2 (by omega)
  clear q2 z2 f2
  have q2 := hp2.c2
  have z2 := hp2.lt
  have f2 := hp2.fz 2
  have HPAT4 := Lib.hid hp2
  clear hp2 hs hz HPAT3 hc2
  go_wp2_with fail
  refine (scan_peek HPAT4.out.scan (by omega)).mono ?_
  rintro e w5 ⟨rfl, hs, hc2, hz⟩
  rw [show seen l (k + 1) = (k + 1) from by unfold seen; rw [if_neg (by omega)]] at hs
  have hp2 := HPAT4.out.moved hs hc2 (by omega)
  clear q2 z2 f2
  have q2 := hp2.c2
  have z2 := hp2.lt
  have f2 := hp2.fz 2
  have HPAT5 := Lib.hid hp2
  clear hp2 hs hz HPAT4 hc2
  go_wp2_with fail
  refine (scan_restore HPAT5.out.scan).mono ?_
  rintro e w6 ⟨rfl, hs, hc2, hz⟩
  have hp2 := HPAT5.out.moved hs hc2 (by omega)
  clear q2 z2 f2
  have q2 := hp2.c2
  have z2 := hp2.lt
  have f2 := hp2.fz 2
  have HPAT6 := Lib.hid hp2
  clear hp2 hs hz HPAT5 hc2
  go_wp2_with fail
  refine region_pct HPAT6 hl1 (by omega) hk1 H37 ?_
  intro w9 B9 c9 us9 z52 z53 z54 z55 z56 z57 z58 z59 z60 z61 z62 z63 z64 z65 hpush
  have HPUSH := Lib.hid hpush
  clear hpush
  simp only [Exit.then]
  go_wp2_with fail
  refine HQ.out _ _ ⟨⟨_, _, _, _, HPUSH.out⟩, ?_⟩
  (repeat apply Exists.intro)
  rfl

set_option maxRecDepth 100000 in
set_option maxHeartbeats 8000000 in
theorem round_brace {tl : Bool} {w0 wr : World} {S A cap j P k c : Nat} {l : List UInt8} {head : Bool} {ps : List Pm.Pat} {B : Option Addr} {us : List Value} {Q : Exit → Act → World → Prop} {u2 u3 u4 u6 u7 u8 u9 u10 u11 u12 u13 u14 u15 u16 u17 u18 u19 u20 u21 u22 u23 u24 u25 u26 u27 u28 u29 u30 u31 u32 u33 u34 u35 u36 u37 u38 u39 u40 u41 u42 u43 u44 u45 u46 u47 u48 u49 u50 u51 u52 u53 u54 u55 u56 u57 u58 u59 u60 u61 u62 u63 u64 u65 u66 u67 u68 u69 u70 u71 u72 u73 u74 u75 u76 u77 u78 u79 u80 u81 u82 u83 u84 u85 u86 u87 u88 u89 u90 u91 u92 u93 u94 u95 u96 u97 u98 u99 u100 u101 u102 u103 u104 u105 u106 u107 u108 u109 u110 u111 u112 u113 u114 u115 u116 u117 u118 u119 u120 u121 u122 u123 u124 u125 u126 u127 u128 u129 u130 u131 u132 u133 u134 u135 u136 u137 u138 u139 u140 u141 u142 u143 u144 u145 u146 u147 u148 u149 u150 u151 u152 u153 u154 u155 u156 u157 u158 u159 u160 u161 u162 u163 u164 u165 u166 u167 u168 u169 u170 u171 u172 u173 u174 u175 u176 u177 u178 u179 u180 u181 u182 u183 u184 u185 u186 u187 u188 u189 u190 u191 u192 u193 u194 u195 u196 u197 u198 u199 u200 u201 u202 u203 u204 u205 u206 u207 u208 u209 u210 u211 u212 u213 u214 u215 u216 u217 u218 u219 u220 u221 u222 u223 u224 u225 u226 u227 u228 u229 u230 u231 u232 u233 u234 u235 u236 u237 u238 u239 u240 u241 u242 u243 u244 u245 u246 u247 u248 u249 u250 u251 u252 u253 u254 u255 u256 u257 u258 u259 u260 u261 u262 u263 u264 u265 u266 u267 u268 u269 u270 u271 u272 u273 u274 u275 u276 u277 u278 u279 u280 u281 u282 u283 u284 u285 u286 u287 u288 u289 u290 u291 u292 u293 u294 u295 u296 u297 u298 u299 u300 u301 u302 u303 u304 u305 u306 u307 : Value} (HPAT : Hid (PatAt w0 S A cap j P l head k ps wr B c us)) (hl1 : l.length ≤ 1000) (hk : k ≤ l.length + 1) (hseen : seen l k = k) (h37 : at_ l k = 37) (h98 : at_ l (k + 1) = 98) (hk3 : k + 3 < l.length)
    (hQ : ∀ a' w', RoundPost w0 S A cap P l head (k + 4) (ps ++ [.part (.brace (at_ l (k + 2)) (at_ l (k + 3)))]) tl u2 u3 u10 u11 u12 u13 u14 u15 u16 u17 u18 u19 u20 u307 a' w' → Q .normal a' w') :
    body36.wp Tryf.prog Q { tmps := #[ptr S, .bool tl, u2, u3, u4, ptr P, u6, u7, u8, u9, u10, u11, u12, u13, u14, u15, u16, u17, u18, u19, u20, u21, u22, u23, u24, u25, u26, u27, u28, u29, u30, u31, u32, u33, u34, u35, u36, u37, u38, u39, u40, u41, u42, u43, u44, u45, u46, u47, u48, u49, u50, u51, u52, u53, u54, u55, u56, u57, u58, u59, u60, u61, u62, u63, u64, u65, u66, u67, u68, u69, u70, u71, u72, u73, u74, u75, u76, u77, u78, u79, u80, u81, u82, u83, u84, u85, u86, u87, u88, u89, u90, u91, u92, u93, u94, u95, u96, u97, u98, u99, u100, u101, u102, u103, u104, u105, u106, u107, u108, u109, u110, u111, u112, u113, u114, u115, u116, u117, u118, u119, u120, u121, u122, u123, u124, u125, u126, u127, u128, u129, u130, u131, u132, u133, u134, u135, u136, u137, u138, u139, u140, u141, u142, u143, u144, u145, u146, u147, u148, u149, u150, u151, u152, u153, u154, u155, u156, u157, u158, u159, u160, u161, u162, u163, u164, u165, u166, u167, u168, u169, u170, u171, u172, u173, u174, u175, u176, u177, u178, u179, u180, u181, u182, u183, u184, u185, u186, u187, u188, u189, u190, u191, u192, u193, u194, u195, u196, u197, u198, u199, u200, u201, u202, u203, u204, u205, u206, u207, u208, u209, u210, u211, u212, u213, u214, u215, u216, u217, u218, u219, u220, u221, u222, u223, u224, u225, u226, u227, u228, u229, u230, u231, u232, u233, u234, u235, u236, u237, u238, u239, u240, u241, u242, u243, u244, u245, u246, u247, u248, u249, u250, u251, u252, u253, u254, u255, u256, u257, u258, u259, u260, u261, u262, u263, u264, u265, u266, u267, u268, u269, u270, u271, u272, u273, u274, u275, u276, u277, u278, u279, u280, u281, u282, u283, u284, u285, u286, u287, u288, u289, u290, u291, u292, u293, u294, u295, u296, u297, u298, u299, u300, u301, u302, u303, u304, u305, u306, u307], defers := [] } wr := by
  obtain ⟨i0, hi0, hz0, hz1, hz2⟩ := info_parts Tryf.info137
  have I0 := Lib.hid hi0
  have Z0 := Lib.hid hz0
  have Z1 := Lib.hid hz1
  have Z2 := Lib.hid hz2
  clear hi0 hz0 hz1 hz2
  have hlen0 := HPAT.out.len
  have hll := HPAT.out.scan.len
  have HQ := Lib.hid hQ
  clear hQ
  conv => arg 2; whnf
  conv => arg 4; dsimp only
  have hkl := at_lt (l := l) (k := k) (by rw [h37]; decide)
  have t37 : (at_ l k == 37) = true := by simp [h37]
  have hk1 : k + 1 < l.length := by omega
  have s48 : (at_ l (k + 1) == 48) = false := by simp [h98]
  have s49 : (at_ l (k + 1) == 49) = false := by simp [h98]
  have s50 : (at_ l (k + 1) == 50) = false := by simp [h98]
  have s51 : (at_ l (k + 1) == 51) = false := by simp [h98]
  have s52 : (at_ l (k + 1) == 52) = false := by simp [h98]
  have s53 : (at_ l (k + 1) == 53) = false := by simp [h98]
  have s54 : (at_ l (k + 1) == 54) = false := by simp [h98]
  have s55 : (at_ l (k + 1) == 55) = false := by simp [h98]
  have s56 : (at_ l (k + 1) == 56) = false := by simp [h98]
  have s57 : (at_ l (k + 1) == 57) = false := by simp [h98]
  have s98 : (at_ l (k + 1) == 98) = true := by simp [h98]
  clear h37 h98
  go_wp2_with fail
  refine (scan_peek HPAT.out.scan (by omega)).mono ?_
  rintro e w2 ⟨rfl, hs, hc2, hz⟩
  rw [hseen] at hs
  have hp2 := HPAT.out.moved hs hc2 HPAT.out.len
  have q2 := hp2.c2
  have z2 := hp2.lt
  have f2 := hp2.fz 2
  have HPAT2 := Lib.hid hp2
  clear hp2 hs hz HPAT hc2
  go_wp2_with fail
  refine (scan_save HPAT2.out.scan).mono ?_
  rintro e w3 ⟨rfl, hs, hc2, hz⟩
  have hp2 := HPAT2.out.moved hs hc2 (by omega)
  clear q2 z2 f2
  have q2 := hp2.c2
  have z2 := hp2.lt
  have f2 := hp2.fz 2
  have HPAT3 := Lib.hid hp2
  clear hp2 hs hz HPAT2 hc2
  go_wp2_with fail
  refine (scan_next HPAT3.out.scan (by omega)).mono ?_
  rintro e w4 ⟨rfl, hs, hc2, hz⟩
  rw [show after l k = k + 1 from by simp only [after]; omega] at hs
  have hp2 := HPAT3.out.moved hs hc2 (by omega)
  clear q2 z2 f2
  have q2 := hp2.c2
  have z2 := hp2.lt
  have f2 := hp2.fz 2
  have HPAT4 := Lib.hid hp2
  clear hp2 hs hz HPAT3 hc2
  go_wp2_with fail
  refine (scan_peek HPAT4.out.scan (by omega)).mono ?_
  rintro e w5 ⟨rfl, hs, hc2, hz⟩
  rw [show seen l (k + 1) = (k + 1) from by unfold seen; rw [if_neg (by omega)]] at hs
  have hp2 := HPAT4.out.moved hs hc2 (by omega)
  clear q2 z2 f2
  have q2 := hp2.c2
  have z2 := hp2.lt
  have f2 := hp2.fz 2
  have HPAT5 := Lib.hid hp2
  clear hp2 hs hz HPAT4 hc2
  go_wp2_with fail
  refine (scan_next HPAT5.out.scan (by omega)).mono ?_
  rintro e w6 ⟨rfl, hs, hc2, hz⟩
  rw [show after l (k + 1) = (k + 1) + 1 from by simp only [after]; omega] at hs
  have hp2 := HPAT5.out.moved hs hc2 (by omega)
  clear q2 z2 f2
  have q2 := hp2.c2
  have z2 := hp2.lt
  have f2 := hp2.fz 2
  have HPAT6 := Lib.hid hp2
  clear hp2 hs hz HPAT5 hc2
  go_wp2_with fail
  refine region_brace HPAT6 hl1 (by omega) (by omega) ?_
  intro w9 B9 c9 us9 z101 z102 z103 z104 z105 z106 z107 z108 z109 z110 z111 z112 z113 z114 z115 z116 hpush
  have HPUSH := Lib.hid hpush
  clear hpush
  simp only [Exit.then]
  go_wp2_with fail
  refine HQ.out _ _ ⟨⟨_, _, _, _, HPUSH.out⟩, ?_⟩
  (repeat apply Exists.intro)
  rfl

set_option maxRecDepth 100000 in
set_option maxHeartbeats 8000000 in
theorem round_set {tl : Bool} {w0 wr : World} {S A cap j P k c : Nat} {l : List UInt8} {head : Bool} {ps : List Pm.Pat} {B : Option Addr} {us : List Value} {Q : Exit → Act → World → Prop} {u2 u3 u4 u6 u7 u8 u9 u10 u11 u12 u13 u14 u15 u16 u17 u18 u19 u20 u21 u22 u23 u24 u25 u26 u27 u28 u29 u30 u31 u32 u33 u34 u35 u36 u37 u38 u39 u40 u41 u42 u43 u44 u45 u46 u47 u48 u49 u50 u51 u52 u53 u54 u55 u56 u57 u58 u59 u60 u61 u62 u63 u64 u65 u66 u67 u68 u69 u70 u71 u72 u73 u74 u75 u76 u77 u78 u79 u80 u81 u82 u83 u84 u85 u86 u87 u88 u89 u90 u91 u92 u93 u94 u95 u96 u97 u98 u99 u100 u101 u102 u103 u104 u105 u106 u107 u108 u109 u110 u111 u112 u113 u114 u115 u116 u117 u118 u119 u120 u121 u122 u123 u124 u125 u126 u127 u128 u129 u130 u131 u132 u133 u134 u135 u136 u137 u138 u139 u140 u141 u142 u143 u144 u145 u146 u147 u148 u149 u150 u151 u152 u153 u154 u155 u156 u157 u158 u159 u160 u161 u162 u163 u164 u165 u166 u167 u168 u169 u170 u171 u172 u173 u174 u175 u176 u177 u178 u179 u180 u181 u182 u183 u184 u185 u186 u187 u188 u189 u190 u191 u192 u193 u194 u195 u196 u197 u198 u199 u200 u201 u202 u203 u204 u205 u206 u207 u208 u209 u210 u211 u212 u213 u214 u215 u216 u217 u218 u219 u220 u221 u222 u223 u224 u225 u226 u227 u228 u229 u230 u231 u232 u233 u234 u235 u236 u237 u238 u239 u240 u241 u242 u243 u244 u245 u246 u247 u248 u249 u250 u251 u252 u253 u254 u255 u256 u257 u258 u259 u260 u261 u262 u263 u264 u265 u266 u267 u268 u269 u270 u271 u272 u273 u274 u275 u276 u277 u278 u279 u280 u281 u282 u283 u284 u285 u286 u287 u288 u289 u290 u291 u292 u293 u294 u295 u296 u297 u298 u299 u300 u301 u302 u303 u304 u305 u306 u307 : Value} (HPAT : Hid (PatAt w0 S A cap j P l head k ps wr B c us)) (hl1 : l.length ≤ 1000) (hk : k ≤ l.length + 1) (hseen : seen l k = k) {neg : Bool} {es : List Pm.Elem} {k' : Nat} (h91 : at_ l k = 91) (hset : setAt l (k + 1) = some (neg, es, k')) (hset' : k + 1 < k' ∧ k' ≤ l.length)
    (hQ : ∀ a' w', RoundPost w0 S A cap P l head k' (ps ++ [.part (.one (.set neg es))]) tl u2 u3 u10 u11 u12 u13 u14 u15 u16 u17 u18 u19 u20 u307 a' w' → Q .normal a' w') :
    body36.wp Tryf.prog Q { tmps := #[ptr S, .bool tl, u2, u3, u4, ptr P, u6, u7, u8, u9, u10, u11, u12, u13, u14, u15, u16, u17, u18, u19, u20, u21, u22, u23, u24, u25, u26, u27, u28, u29, u30, u31, u32, u33, u34, u35, u36, u37, u38, u39, u40, u41, u42, u43, u44, u45, u46, u47, u48, u49, u50, u51, u52, u53, u54, u55, u56, u57, u58, u59, u60, u61, u62, u63, u64, u65, u66, u67, u68, u69, u70, u71, u72, u73, u74, u75, u76, u77, u78, u79, u80, u81, u82, u83, u84, u85, u86, u87, u88, u89, u90, u91, u92, u93, u94, u95, u96, u97, u98, u99, u100, u101, u102, u103, u104, u105, u106, u107, u108, u109, u110, u111, u112, u113, u114, u115, u116, u117, u118, u119, u120, u121, u122, u123, u124, u125, u126, u127, u128, u129, u130, u131, u132, u133, u134, u135, u136, u137, u138, u139, u140, u141, u142, u143, u144, u145, u146, u147, u148, u149, u150, u151, u152, u153, u154, u155, u156, u157, u158, u159, u160, u161, u162, u163, u164, u165, u166, u167, u168, u169, u170, u171, u172, u173, u174, u175, u176, u177, u178, u179, u180, u181, u182, u183, u184, u185, u186, u187, u188, u189, u190, u191, u192, u193, u194, u195, u196, u197, u198, u199, u200, u201, u202, u203, u204, u205, u206, u207, u208, u209, u210, u211, u212, u213, u214, u215, u216, u217, u218, u219, u220, u221, u222, u223, u224, u225, u226, u227, u228, u229, u230, u231, u232, u233, u234, u235, u236, u237, u238, u239, u240, u241, u242, u243, u244, u245, u246, u247, u248, u249, u250, u251, u252, u253, u254, u255, u256, u257, u258, u259, u260, u261, u262, u263, u264, u265, u266, u267, u268, u269, u270, u271, u272, u273, u274, u275, u276, u277, u278, u279, u280, u281, u282, u283, u284, u285, u286, u287, u288, u289, u290, u291, u292, u293, u294, u295, u296, u297, u298, u299, u300, u301, u302, u303, u304, u305, u306, u307], defers := [] } wr := by
  obtain ⟨i0, hi0, hz0, hz1, hz2⟩ := info_parts Tryf.info137
  have I0 := Lib.hid hi0
  have Z0 := Lib.hid hz0
  have Z1 := Lib.hid hz1
  have Z2 := Lib.hid hz2
  clear hi0 hz0 hz1 hz2
  have hlen0 := HPAT.out.len
  have hll := HPAT.out.scan.len
  have HQ := Lib.hid hQ
  clear hQ
  conv => arg 2; whnf
  conv => arg 4; dsimp only
  have hkl := at_lt (l := l) (k := k) (by rw [h91]; decide)
  have t37 : (at_ l k == 37) = false := by simp [h91]
  have t46 : (at_ l k == 46) = false := by simp [h91]
  have t91 : (at_ l k == 91) = true := by simp [h91]
  have H91 := Lib.hid h91
  have HSET := Lib.hid hset
  clear h91 hset
  go_wp2_with fail
  refine (scan_peek HPAT.out.scan (by omega)).mono ?_
  rintro e w2 ⟨rfl, hs, hc2, hz⟩
  rw [hseen] at hs
  have hp2 := HPAT.out.moved hs hc2 HPAT.out.len
  have q2 := hp2.c2
  have z2 := hp2.lt
  have f2 := hp2.fz 2
  have HPAT2 := Lib.hid hp2
  clear hp2 hs hz HPAT hc2
  go_wp2_with fail
  refine region_set HPAT2 hl1 (by omega) (by omega) H91 HSET ?_
  intro w9 B9 c9 us9 z121 z122 z123 z124 z125 z126 z127 z128 z129 z130 z131 z132 z133 z134 hpush
  have HPUSH := Lib.hid hpush
  clear hpush
  simp only [Exit.then]
  go_wp2_with fail
  refine HQ.out _ _ ⟨⟨_, _, _, _, HPUSH.out⟩, ?_⟩
  (repeat apply Exists.intro)
  rfl

set_option maxRecDepth 100000 in
set_option maxHeartbeats 8000000 in
theorem round_dot {tl : Bool} {w0 wr : World} {S A cap j P k c : Nat} {l : List UInt8} {head : Bool} {ps : List Pm.Pat} {B : Option Addr} {us : List Value} {Q : Exit → Act → World → Prop} {u2 u3 u4 u6 u7 u8 u9 u10 u11 u12 u13 u14 u15 u16 u17 u18 u19 u20 u21 u22 u23 u24 u25 u26 u27 u28 u29 u30 u31 u32 u33 u34 u35 u36 u37 u38 u39 u40 u41 u42 u43 u44 u45 u46 u47 u48 u49 u50 u51 u52 u53 u54 u55 u56 u57 u58 u59 u60 u61 u62 u63 u64 u65 u66 u67 u68 u69 u70 u71 u72 u73 u74 u75 u76 u77 u78 u79 u80 u81 u82 u83 u84 u85 u86 u87 u88 u89 u90 u91 u92 u93 u94 u95 u96 u97 u98 u99 u100 u101 u102 u103 u104 u105 u106 u107 u108 u109 u110 u111 u112 u113 u114 u115 u116 u117 u118 u119 u120 u121 u122 u123 u124 u125 u126 u127 u128 u129 u130 u131 u132 u133 u134 u135 u136 u137 u138 u139 u140 u141 u142 u143 u144 u145 u146 u147 u148 u149 u150 u151 u152 u153 u154 u155 u156 u157 u158 u159 u160 u161 u162 u163 u164 u165 u166 u167 u168 u169 u170 u171 u172 u173 u174 u175 u176 u177 u178 u179 u180 u181 u182 u183 u184 u185 u186 u187 u188 u189 u190 u191 u192 u193 u194 u195 u196 u197 u198 u199 u200 u201 u202 u203 u204 u205 u206 u207 u208 u209 u210 u211 u212 u213 u214 u215 u216 u217 u218 u219 u220 u221 u222 u223 u224 u225 u226 u227 u228 u229 u230 u231 u232 u233 u234 u235 u236 u237 u238 u239 u240 u241 u242 u243 u244 u245 u246 u247 u248 u249 u250 u251 u252 u253 u254 u255 u256 u257 u258 u259 u260 u261 u262 u263 u264 u265 u266 u267 u268 u269 u270 u271 u272 u273 u274 u275 u276 u277 u278 u279 u280 u281 u282 u283 u284 u285 u286 u287 u288 u289 u290 u291 u292 u293 u294 u295 u296 u297 u298 u299 u300 u301 u302 u303 u304 u305 u306 u307 : Value} (HPAT : Hid (PatAt w0 S A cap j P l head k ps wr B c us)) (hl1 : l.length ≤ 1000) (hk : k ≤ l.length + 1) (hseen : seen l k = k) (h46 : at_ l k = 46)
    (hQ : ∀ a' w', RoundPost w0 S A cap P l head (k + 1) (ps ++ [.part (.one .dot)]) tl u2 u3 u10 u11 u12 u13 u14 u15 u16 u17 u18 u19 u20 u307 a' w' → Q .normal a' w') :
    body36.wp Tryf.prog Q { tmps := #[ptr S, .bool tl, u2, u3, u4, ptr P, u6, u7, u8, u9, u10, u11, u12, u13, u14, u15, u16, u17, u18, u19, u20, u21, u22, u23, u24, u25, u26, u27, u28, u29, u30, u31, u32, u33, u34, u35, u36, u37, u38, u39, u40, u41, u42, u43, u44, u45, u46, u47, u48, u49, u50, u51, u52, u53, u54, u55, u56, u57, u58, u59, u60, u61, u62, u63, u64, u65, u66, u67, u68, u69, u70, u71, u72, u73, u74, u75, u76, u77, u78, u79, u80, u81, u82, u83, u84, u85, u86, u87, u88, u89, u90, u91, u92, u93, u94, u95, u96, u97, u98, u99, u100, u101, u102, u103, u104, u105, u106, u107, u108, u109, u110, u111, u112, u113, u114, u115, u116, u117, u118, u119, u120, u121, u122, u123, u124, u125, u126, u127, u128, u129, u130, u131, u132, u133, u134, u135, u136, u137, u138, u139, u140, u141, u142, u143, u144, u145, u146, u147, u148, u149, u150, u151, u152, u153, u154, u155, u156, u157, u158, u159, u160, u161, u162, u163, u164, u165, u166, u167, u168, u169, u170, u171, u172, u173, u174, u175, u176, u177, u178, u179, u180, u181, u182, u183, u184, u185, u186, u187, u188, u189, u190, u191, u192, u193, u194, u195, u196, u197, u198, u199, u200, u201, u202, u203, u204, u205, u206, u207, u208, u209, u210, u211, u212, u213, u214, u215, u216, u217, u218, u219, u220, u221, u222, u223, u224, u225, u226, u227, u228, u229, u230, u231, u232, u233, u234, u235, u236, u237, u238, u239, u240, u241, u242, u243, u244, u245, u246, u247, u248, u249, u250, u251, u252, u253, u254, u255, u256, u257, u258, u259, u260, u261, u262, u263, u264, u265, u266, u267, u268, u269, u270, u271, u272, u273, u274, u275, u276, u277, u278, u279, u280, u281, u282, u283, u284, u285, u286, u287, u288, u289, u290, u291, u292, u293, u294, u295, u296, u297, u298, u299, u300, u301, u302, u303, u304, u305, u306, u307], defers := [] } wr := by
  obtain ⟨i0, hi0, hz0, hz1, hz2⟩ := info_parts Tryf.info137
  have I0 := Lib.hid hi0
  have Z0 := Lib.hid hz0
  have Z1 := Lib.hid hz1
  have Z2 := Lib.hid hz2
  clear hi0 hz0 hz1 hz2
  have hlen0 := HPAT.out.len
  have hll := HPAT.out.scan.len
  have HQ := Lib.hid hQ
  clear hQ
  conv => arg 2; whnf
  conv => arg 4; dsimp only
  have hkl := at_lt (l := l) (k := k) (by rw [h46]; decide)
  have t37 : (at_ l k == 37) = false := by simp [h46]
  have t46 : (at_ l k == 46) = true := by simp [h46]
  have H46 := Lib.hid h46
  clear h46
  go_wp2_with fail
  refine (scan_peek HPAT.out.scan (by omega)).mono ?_
  rintro e w2 ⟨rfl, hs, hc2, hz⟩
  rw [hseen] at hs
  have hp2 := HPAT.out.moved hs hc2 HPAT.out.len
  have q2 := hp2.c2
  have z2 := hp2.lt
  have f2 := hp2.fz 2
  have HPAT2 := Lib.hid hp2
  clear hp2 hs hz HPAT hc2
  go_wp2_with fail
  refine region_dot HPAT2 hl1 (by omega) hkl H46 ?_
  intro w9 B9 c9 us9 z121 z122 z123 z124 z125 z126 z127 z128 z129 z130 z131 z132 z133 z134 hpush
  have HPUSH := Lib.hid hpush
  clear hpush
  simp only [Exit.then]
  go_wp2_with fail
  refine HQ.out _ _ ⟨⟨_, _, _, _, HPUSH.out⟩, ?_⟩
  (repeat apply Exists.intro)
  rfl

set_option maxRecDepth 100000 in
set_option maxHeartbeats 8000000 in
theorem round_num {tl : Bool} {w0 wr : World} {S A cap j P k c : Nat} {l : List UInt8} {head : Bool} {ps : List Pm.Pat} {B : Option Addr} {us : List Value} {Q : Exit → Act → World → Prop} {u2 u3 u4 u6 u7 u8 u9 u10 u11 u12 u13 u14 u15 u16 u17 u18 u19 u20 u21 u22 u23 u24 u25 u26 u27 u28 u29 u30 u31 u32 u33 u34 u35 u36 u37 u38 u39 u40 u41 u42 u43 u44 u45 u46 u47 u48 u49 u50 u51 u52 u53 u54 u55 u56 u57 u58 u59 u60 u61 u62 u63 u64 u65 u66 u67 u68 u69 u70 u71 u72 u73 u74 u75 u76 u77 u78 u79 u80 u81 u82 u83 u84 u85 u86 u87 u88 u89 u90 u91 u92 u93 u94 u95 u96 u97 u98 u99 u100 u101 u102 u103 u104 u105 u106 u107 u108 u109 u110 u111 u112 u113 u114 u115 u116 u117 u118 u119 u120 u121 u122 u123 u124 u125 u126 u127 u128 u129 u130 u131 u132 u133 u134 u135 u136 u137 u138 u139 u140 u141 u142 u143 u144 u145 u146 u147 u148 u149 u150 u151 u152 u153 u154 u155 u156 u157 u158 u159 u160 u161 u162 u163 u164 u165 u166 u167 u168 u169 u170 u171 u172 u173 u174 u175 u176 u177 u178 u179 u180 u181 u182 u183 u184 u185 u186 u187 u188 u189 u190 u191 u192 u193 u194 u195 u196 u197 u198 u199 u200 u201 u202 u203 u204 u205 u206 u207 u208 u209 u210 u211 u212 u213 u214 u215 u216 u217 u218 u219 u220 u221 u222 u223 u224 u225 u226 u227 u228 u229 u230 u231 u232 u233 u234 u235 u236 u237 u238 u239 u240 u241 u242 u243 u244 u245 u246 u247 u248 u249 u250 u251 u252 u253 u254 u255 u256 u257 u258 u259 u260 u261 u262 u263 u264 u265 u266 u267 u268 u269 u270 u271 u272 u273 u274 u275 u276 u277 u278 u279 u280 u281 u282 u283 u284 u285 u286 u287 u288 u289 u290 u291 u292 u293 u294 u295 u296 u297 u298 u299 u300 u301 u302 u303 u304 u305 u306 u307 : Value} (HPAT : Hid (PatAt w0 S A cap j P l head k ps wr B c us)) (hl1 : l.length ≤ 1000) (hk : k ≤ l.length + 1) (hseen : seen l k = k) (h37 : at_ l k = 37) (h49 : at_ l (k + 1) = 49)
    (hQ : ∀ a' w', RoundPost w0 S A cap P l head (k + 2) (ps ++ [.part (.num (at_ l (k + 1) - 48))]) tl u2 u3 u10 u11 u12 u13 u14 u15 u16 u17 u18 u19 u20 u307 a' w' → Q .normal a' w') :
    body36.wp Tryf.prog Q { tmps := #[ptr S, .bool tl, u2, u3, u4, ptr P, u6, u7, u8, u9, u10, u11, u12, u13, u14, u15, u16, u17, u18, u19, u20, u21, u22, u23, u24, u25, u26, u27, u28, u29, u30, u31, u32, u33, u34, u35, u36, u37, u38, u39, u40, u41, u42, u43, u44, u45, u46, u47, u48, u49, u50, u51, u52, u53, u54, u55, u56, u57, u58, u59, u60, u61, u62, u63, u64, u65, u66, u67, u68, u69, u70, u71, u72, u73, u74, u75, u76, u77, u78, u79, u80, u81, u82, u83, u84, u85, u86, u87, u88, u89, u90, u91, u92, u93, u94, u95, u96, u97, u98, u99, u100, u101, u102, u103, u104, u105, u106, u107, u108, u109, u110, u111, u112, u113, u114, u115, u116, u117, u118, u119, u120, u121, u122, u123, u124, u125, u126, u127, u128, u129, u130, u131, u132, u133, u134, u135, u136, u137, u138, u139, u140, u141, u142, u143, u144, u145, u146, u147, u148, u149, u150, u151, u152, u153, u154, u155, u156, u157, u158, u159, u160, u161, u162, u163, u164, u165, u166, u167, u168, u169, u170, u171, u172, u173, u174, u175, u176, u177, u178, u179, u180, u181, u182, u183, u184, u185, u186, u187, u188, u189, u190, u191, u192, u193, u194, u195, u196, u197, u198, u199, u200, u201, u202, u203, u204, u205, u206, u207, u208, u209, u210, u211, u212, u213, u214, u215, u216, u217, u218, u219, u220, u221, u222, u223, u224, u225, u226, u227, u228, u229, u230, u231, u232, u233, u234, u235, u236, u237, u238, u239, u240, u241, u242, u243, u244, u245, u246, u247, u248, u249, u250, u251, u252, u253, u254, u255, u256, u257, u258, u259, u260, u261, u262, u263, u264, u265, u266, u267, u268, u269, u270, u271, u272, u273, u274, u275, u276, u277, u278, u279, u280, u281, u282, u283, u284, u285, u286, u287, u288, u289, u290, u291, u292, u293, u294, u295, u296, u297, u298, u299, u300, u301, u302, u303, u304, u305, u306, u307], defers := [] } wr := by
  obtain ⟨i0, hi0, hz0, hz1, hz2⟩ := info_parts Tryf.info137
  have I0 := Lib.hid hi0
  have Z0 := Lib.hid hz0
  have Z1 := Lib.hid hz1
  have Z2 := Lib.hid hz2
  clear hi0 hz0 hz1 hz2
  have hlen0 := HPAT.out.len
  have hll := HPAT.out.scan.len
  have HQ := Lib.hid hQ
  clear hQ
  conv => arg 2; whnf
  conv => arg 4; dsimp only
  have hkl := at_lt (l := l) (k := k) (by rw [h37]; decide)
  have t37 : (at_ l k == 37) = true := by simp [h37]
  have hk1 : k + 1 < l.length := at_lt (by rw [h49]; decide)
  have s48 : (at_ l (k + 1) == 48) = false := by simp [h49]
  have s49 : (at_ l (k + 1) == 49) = true := by simp [h49]
  clear h37 h49
  go_wp2_with fail
  refine (scan_peek HPAT.out.scan (by omega)).mono ?_
  rintro e w2 ⟨rfl, hs, hc2, hz⟩
  rw [hseen] at hs
  have hp2 := HPAT.out.moved hs hc2 HPAT.out.len
  have q2 := hp2.c2
  have z2 := hp2.lt
  have f2 := hp2.fz 2
  have HPAT2 := Lib.hid hp2
  clear hp2 hs hz HPAT hc2
  go_wp2_with fail
  refine (scan_save HPAT2.out.scan).mono ?_
  rintro e w3 ⟨rfl, hs, hc2, hz⟩
  have hp2 := HPAT2.out.moved hs hc2 (by omega)
  clear q2 z2 f2
  have q2 := hp2.c2
  have z2 := hp2.lt
  have f2 := hp2.fz 2
  have HPAT3 := Lib.hid hp2
  clear hp2 hs hz HPAT2 hc2
  go_wp2_with fail
  refine (scan_next HPAT3.out.scan (by omega)).mono ?_
  rintro e w4 ⟨rfl, hs, hc2, hz⟩
  rw [show after l k = k + 1 from by simp only [after]; omega] at hs
  have hp2 := HPAT3.out.moved hs hc2 (by omega)
  clear q2 z2 f2
  have q2 := hp2.c2
  have z2 := hp2.lt
  have f2 := hp2.fz 2
  have HPAT4 := Lib.hid hp2
  clear hp2 hs hz HPAT3 hc2
  go_wp2_with fail
  refine (scan_peek HPAT4.out.scan (by omega)).mono ?_
  rintro e w5 ⟨rfl, hs, hc2, hz⟩
  rw [show seen l (k + 1) = (k + 1) from by unfold seen; rw [if_neg (by omega)]] at hs
  have hp2 := HPAT4.out.moved hs hc2 (by omega)
  clear q2 z2 f2
  have q2 := hp2.c2
  have z2 := hp2.lt
  have f2 := hp2.fz 2
  have HPAT5 := Lib.hid hp2
  clear hp2 hs hz HPAT4 hc2
  go_wp2_with fail
  refine region_num HPAT5 hl1 (by omega) hk1 ?_
  intro w9 B9 c9 us9 z82 z83 z84 z85 z86 z87 z88 z89 z90 z91 z92 z93 z94 z95 z96 hpush
  have HPUSH := Lib.hid hpush
  clear hpush
  simp only [Exit.then]
  go_wp2_with fail
  refine HQ.out _ _ ⟨⟨_, _, _, _, HPUSH.out⟩, ?_⟩
  (repeat apply Exists.intro)
  rfl

end Go.Proofs.YtkbdngcbifonkaaFmt
