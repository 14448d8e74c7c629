/-
  ONE ROUND OF parsePattern's LOOP, a lemma a kind of part. Lines laid by a program of this session (mkround.py).
-/
import Derived.Test.YtkbdngcbifonkaaFmtRnd
namespace Go.Proofs.YtkbdngcbifonkaaFmt
set_option linter.all false
open Go.RowKit

set_option maxRecDepth 100000 in
set_option maxHeartbeats 8000000 in
theorem round_close {w0 wr : World} {S A cap j P k c : Nat} {l : List UInt8} {head : Bool} {ps : List Pm.Pat} {B : Option Addr} {us : List Value} {Q : Exit → Act → World → Prop} {u2 u3 u4 u6 u7 u8 u9 u10 u11 u12 u13 u14 u15 u16 u17 u18 u19 u20 u21 u22 u23 u24 u25 u26 u27 u28 u29 u30 u31 u32 u33 u34 u35 u36 u37 u38 u39 u40 u41 u42 u43 u44 u45 u46 u47 u48 u49 u50 u51 u52 u53 u54 u55 u56 u57 u58 u59 u60 u61 u62 u63 u64 u65 u66 u67 u68 u69 u70 u71 u72 u73 u74 u75 u76 u77 u78 u79 u80 u81 u82 u83 u84 u85 u86 u87 u88 u89 u90 u91 u92 u93 u94 u95 u96 u97 u98 u99 u100 u101 u102 u103 u104 u105 u106 u107 u108 u109 u110 u111 u112 u113 u114 u115 u116 u117 u118 u119 u120 u121 u122 u123 u124 u125 u126 u127 u128 u129 u130 u131 u132 u133 u134 u135 u136 u137 u138 u139 u140 u141 u142 u143 u144 u145 u146 u147 u148 u149 u150 u151 u152 u153 u154 u155 u156 u157 u158 u159 u160 u161 u162 u163 u164 u165 u166 u167 u168 u169 u170 u171 u172 u173 u174 u175 u176 u177 u178 u179 u180 u181 u182 u183 u184 u185 u186 u187 u188 u189 u190 u191 u192 u193 u194 u195 u196 u197 u198 u199 u200 u201 u202 u203 u204 u205 u206 u207 u208 u209 u210 u211 u212 u213 u214 u215 u216 u217 u218 u219 u220 u221 u222 u223 u224 u225 u226 u227 u228 u229 u230 u231 u232 u233 u234 u235 u236 u237 u238 u239 u240 u241 u242 u243 u244 u245 u246 u247 u248 u249 u250 u251 u252 u253 u254 u255 u256 u257 u258 u259 u260 u261 u262 u263 u264 u265 u266 u267 u268 u269 u270 u271 u272 u273 u274 u275 u276 u277 u278 u279 u280 u281 u282 u283 u284 u285 u286 u287 u288 u289 u290 u291 u292 u293 u294 u295 u296 u297 u298 u299 u300 u301 u302 u303 u304 u305 u306 u307 : Value} (HPAT : Hid (PatAt w0 S A cap j P l head k ps wr B c us)) (hl1 : l.length ≤ 1000) (hk : k ≤ l.length + 1) (hseen : seen l k = k) (hc : at_ l k = 41)
    (hQ : ∀ (w' : World) (j' : Nat) (y6 y7 y8 y9 y21 y22 y23 y24 y25 y26 y27 y28 y29 y30 y31 y32 y33 y34 y35 y36 y37 y38 y39 y40 y41 y42 y43 y44 y45 y46 y47 y48 y49 y50 y51 y52 y53 y54 y55 y56 y57 y58 y59 y60 y61 y62 y63 y64 y65 y66 y67 y68 y69 y70 y71 y72 y73 y74 y75 y76 y77 y78 y79 y80 y81 y82 y83 y84 y85 y86 y87 y88 y89 y90 y91 y92 y93 y94 y95 y96 y97 y98 y99 y100 y101 y102 y103 y104 y105 y106 y107 y108 y109 y110 y111 y112 y113 y114 y115 y116 y117 y118 y119 y120 y121 y122 y123 y124 y125 y126 y127 y128 y129 y130 y131 y132 y133 y134 y135 y136 y137 y138 y139 y140 y141 y142 y143 y144 y145 y146 y147 y148 y149 y150 y151 y152 y153 y154 y155 y156 y157 y158 y159 y160 y161 y162 y163 y164 y165 y166 y167 y168 y169 y170 y171 y172 y173 y174 y175 y176 y177 y178 y179 y180 y181 y182 y183 y184 y185 y186 y187 y188 y189 y190 y191 y192 y193 y194 y195 y196 y197 y198 y199 y200 y201 y202 y203 y204 y205 y206 y207 y208 y209 y210 y211 y212 y213 y214 y215 y216 y217 y218 y219 y220 y221 y222 y223 y224 y225 y226 y227 y228 y229 y230 y231 y232 y233 y234 y235 y236 y237 y238 y239 y240 y241 y242 y243 y244 y245 y246 y247 y248 y249 y250 y251 y252 y253 y254 y255 y256 y257 y258 y259 y260 y261 y262 y263 y264 y265 y266 y267 y268 y269 y270 y271 y272 y273 y274 y275 y276 y277 y278 y279 y280 y281 y282 y283 y284 y285 y286 y287 y288 y289 y290 y291 y292 y293 y294 y295 y296 y297 y298 y299 y300 y301 y302 y303 y304 y305 y306 : Value), PatAt w0 S A cap j' P l head k ps w' B c us → Q .ret { tmps := #[ptr S, .bool false, u2, u3, ptr P, ptr P, y6, y7, y8, y9, u10, u11, u12, u13, u14, u15, u16, u17, u18, u19, u20, y21, y22, y23, y24, y25, y26, y27, y28, y29, y30, y31, y32, y33, y34, y35, y36, y37, y38, y39, y40, y41, y42, y43, y44, y45, y46, y47, y48, y49, y50, y51, y52, y53, y54, y55, y56, y57, y58, y59, y60, y61, y62, y63, y64, y65, y66, y67, y68, y69, y70, y71, y72, y73, y74, y75, y76, y77, y78, y79, y80, y81, y82, y83, y84, y85, y86, y87, y88, y89, y90, y91, y92, y93, y94, y95, y96, y97, y98, y99, y100, y101, y102, y103, y104, y105, y106, y107, y108, y109, y110, y111, y112, y113, y114, y115, y116, y117, y118, y119, y120, y121, y122, y123, y124, y125, y126, y127, y128, y129, y130, y131, y132, y133, y134, y135, y136, y137, y138, y139, y140, y141, y142, y143, y144, y145, y146, y147, y148, y149, y150, y151, y152, y153, y154, y155, y156, y157, y158, y159, y160, y161, y162, y163, y164, y165, y166, y167, y168, y169, y170, y171, y172, y173, y174, y175, y176, y177, y178, y179, y180, y181, y182, y183, y184, y185, y186, y187, y188, y189, y190, y191, y192, y193, y194, y195, y196, y197, y198, y199, y200, y201, y202, y203, y204, y205, y206, y207, y208, y209, y210, y211, y212, y213, y214, y215, y216, y217, y218, y219, y220, y221, y222, y223, y224, y225, y226, y227, y228, y229, y230, y231, y232, y233, y234, y235, y236, y237, y238, y239, y240, y241, y242, y243, y244, y245, y246, y247, y248, y249, y250, y251, y252, y253, y254, y255, y256, y257, y258, y259, y260, y261, y262, y263, y264, y265, y266, y267, y268, y269, y270, y271, y272, y273, y274, y275, y276, y277, y278, y279, y280, y281, y282, y283, y284, y285, y286, y287, y288, y289, y290, y291, y292, y293, y294, y295, y296, y297, y298, y299, y300, y301, y302, y303, y304, y305, y306, u307], defers := [] } w') :
    body36.wp Tryf.prog Q { tmps := #[ptr S, .bool false, u2, u3, u4, ptr P, u6, u7, u8, u9, u10, u11, u12, u13, u14, u15, u16, u17, u18, u19, u20, u21, u22, u23, u24, u25, u26, u27, u28, u29, u30, u31, u32, u33, u34, u35, u36, u37, u38, u39, u40, u41, u42, u43, u44, u45, u46, u47, u48, u49, u50, u51, u52, u53, u54, u55, u56, u57, u58, u59, u60, u61, u62, u63, u64, u65, u66, u67, u68, u69, u70, u71, u72, u73, u74, u75, u76, u77, u78, u79, u80, u81, u82, u83, u84, u85, u86, u87, u88, u89, u90, u91, u92, u93, u94, u95, u96, u97, u98, u99, u100, u101, u102, u103, u104, u105, u106, u107, u108, u109, u110, u111, u112, u113, u114, u115, u116, u117, u118, u119, u120, u121, u122, u123, u124, u125, u126, u127, u128, u129, u130, u131, u132, u133, u134, u135, u136, u137, u138, u139, u140, u141, u142, u143, u144, u145, u146, u147, u148, u149, u150, u151, u152, u153, u154, u155, u156, u157, u158, u159, u160, u161, u162, u163, u164, u165, u166, u167, u168, u169, u170, u171, u172, u173, u174, u175, u176, u177, u178, u179, u180, u181, u182, u183, u184, u185, u186, u187, u188, u189, u190, u191, u192, u193, u194, u195, u196, u197, u198, u199, u200, u201, u202, u203, u204, u205, u206, u207, u208, u209, u210, u211, u212, u213, u214, u215, u216, u217, u218, u219, u220, u221, u222, u223, u224, u225, u226, u227, u228, u229, u230, u231, u232, u233, u234, u235, u236, u237, u238, u239, u240, u241, u242, u243, u244, u245, u246, u247, u248, u249, u250, u251, u252, u253, u254, u255, u256, u257, u258, u259, u260, u261, u262, u263, u264, u265, u266, u267, u268, u269, u270, u271, u272, u273, u274, u275, u276, u277, u278, u279, u280, u281, u282, u283, u284, u285, u286, u287, u288, u289, u290, u291, u292, u293, u294, u295, u296, u297, u298, u299, u300, u301, u302, u303, u304, u305, u306, u307], defers := [] } wr := by
  have hlen0 := HPAT.out.len
  have hll := HPAT.out.scan.len
  have HQ := Lib.hid hQ
  clear hQ
  conv => arg 2; whnf
  conv => arg 4; dsimp only
  have t37 : (at_ l k == 37) = false := by simp [hc]
  have t46 : (at_ l k == 46) = false := by simp [hc]
  have t91 : (at_ l k == 91) = false := by simp [hc]
  have t93 : (at_ l k == 93) = false := by simp [hc]
  have t41 : (at_ l k == 41) = true := by simp [hc]
  clear hc
  go_wp2_with fail
  refine (scan_peek HPAT.out.scan (by omega)).mono ?_
  rintro e w2 ⟨rfl, hs, hc2, hz⟩
  rw [hseen] at hs
  have hp2 := HPAT.out.moved hs hc2 HPAT.out.len
  have q2 := hp2.c2
  have z2 := hp2.lt
  have f2 := hp2.fz 2
  have HPAT2 := Lib.hid hp2
  clear hp2 hs hz HPAT hc2
  simp only []
  go_wp2_with fail
  exact HQ.out _ _ _ _ _ _ _ _ _ _ _ _ _ _ _ _ _ _ _ _ _ _ _ _ _ _ _ _ _ _ _ _ _ _ _ _ _ _ _ _ _ _ _ _ _ _ _ _ _ _ _ _ _ _ _ _ _ _ _ _ _ _ _ _ _ _ _ _ _ _ _ _ _ _ _ _ _ _ _ _ _ _ _ _ _ _ _ _ _ _ _ _ _ _ _ _ _ _ _ _ _ _ _ _ _ _ _ _ _ _ _ _ _ _ _ _ _ _ _ _ _ _ _ _ _ _ _ _ _ _ _ _ _ _ _ _ _ _ _ _ _ _ _ _ _ _ _ _ _ _ _ _ _ _ _ _ _ _ _ _ _ _ _ _ _ _ _ _ _ _ _ _ _ _ _ _ _ _ _ _ _ _ _ _ _ _ _ _ _ _ _ _ _ _ _ _ _ _ _ _ _ _ _ _ _ _ _ _ _ _ _ _ _ _ _ _ _ _ _ _ _ _ _ _ _ _ _ _ _ _ _ _ _ _ _ _ _ _ _ _ _ _ _ _ _ _ _ _ _ _ _ _ _ _ _ _ _ _ _ _ _ _ _ _ _ _ _ _ _ _ _ _ _ _ _ _ _ _ _ _ _ _ _ _ _ _ _ _ _ _ _ _ HPAT2.out

set_option maxRecDepth 100000 in
set_option maxHeartbeats 8000000 in
theorem round_cap {tl : Bool} {w0 wr : World} {S A cap j P k c : Nat} {l : List UInt8} {head : Bool} {ps : List Pm.Pat} {B : Option Addr} {us : List Value} {Q : Exit → Act → World → Prop} {u2 u3 u4 u6 u7 u8 u9 u10 u11 u12 u13 u14 u15 u16 u17 u18 u19 u20 u21 u22 u23 u24 u25 u26 u27 u28 u29 u30 u31 u32 u33 u34 u35 u36 u37 u38 u39 u40 u41 u42 u43 u44 u45 u46 u47 u48 u49 u50 u51 u52 u53 u54 u55 u56 u57 u58 u59 u60 u61 u62 u63 u64 u65 u66 u67 u68 u69 u70 u71 u72 u73 u74 u75 u76 u77 u78 u79 u80 u81 u82 u83 u84 u85 u86 u87 u88 u89 u90 u91 u92 u93 u94 u95 u96 u97 u98 u99 u100 u101 u102 u103 u104 u105 u106 u107 u108 u109 u110 u111 u112 u113 u114 u115 u116 u117 u118 u119 u120 u121 u122 u123 u124 u125 u126 u127 u128 u129 u130 u131 u132 u133 u134 u135 u136 u137 u138 u139 u140 u141 u142 u143 u144 u145 u146 u147 u148 u149 u150 u151 u152 u153 u154 u155 u156 u157 u158 u159 u160 u161 u162 u163 u164 u165 u166 u167 u168 u169 u170 u171 u172 u173 u174 u175 u176 u177 u178 u179 u180 u181 u182 u183 u184 u185 u186 u187 u188 u189 u190 u191 u192 u193 u194 u195 u196 u197 u198 u199 u200 u201 u202 u203 u204 u205 u206 u207 u208 u209 u210 u211 u212 u213 u214 u215 u216 u217 u218 u219 u220 u221 u222 u223 u224 u225 u226 u227 u228 u229 u230 u231 u232 u233 u234 u235 u236 u237 u238 u239 u240 u241 u242 u243 u244 u245 u246 u247 u248 u249 u250 u251 u252 u253 u254 u255 u256 u257 u258 u259 u260 u261 u262 u263 u264 u265 u266 u267 u268 u269 u270 u271 u272 u273 u274 u275 u276 u277 u278 u279 u280 u281 u282 u283 u284 u285 u286 u287 u288 u289 u290 u291 u292 u293 u294 u295 u296 u297 u298 u299 u300 u301 u302 u303 u304 u305 u306 u307 : Value} (HPAT : Hid (PatAt w0 S A cap j P l head k ps wr B c us)) (hl1 : l.length ≤ 1000) (hk : k ≤ l.length + 1) (hseen : seen l k = k) {pl : List Pm.Part} {k2 : Nat} (hc : at_ l k = 40) (hc1 : ¬ at_ l (k + 1) = 41) (hk2 : k + 1 ≤ k2 ∧ k2 < l.length) (hc2 : at_ l k2 = 41) (HIN : Hid (∀ w1 j1, Scan w1 S A cap l (k + 1) j1 → A < w1.heap.size → Calls Tryf.prog 36 #[ptr S, .bool false] w1 fun e w' => ∃ b j', e = .returned (ptr b) ∧ RepPats w' (fun b => w1.heap.size ≤ b ∧ b < w'.heap.size) b false false (pl.map .part) ∧ Scan w' S A cap l k2 j' ∧ Ch (· = S) w1 w'))
    (hQ : ∀ a' w', RoundPost w0 S A cap P l head (k2 + 1) (ps ++ [.cap pl]) tl u2 u3 u10 u11 u12 u13 u14 u15 u16 u17 u18 u19 u20 u307 a' w' → Q .normal a' w') :
    body36.wp Tryf.prog Q { tmps := #[ptr S, .bool tl, u2, u3, u4, ptr P, u6, u7, u8, u9, u10, u11, u12, u13, u14, u15, u16, u17, u18, u19, u20, u21, u22, u23, u24, u25, u26, u27, u28, u29, u30, u31, u32, u33, u34, u35, u36, u37, u38, u39, u40, u41, u42, u43, u44, u45, u46, u47, u48, u49, u50, u51, u52, u53, u54, u55, u56, u57, u58, u59, u60, u61, u62, u63, u64, u65, u66, u67, u68, u69, u70, u71, u72, u73, u74, u75, u76, u77, u78, u79, u80, u81, u82, u83, u84, u85, u86, u87, u88, u89, u90, u91, u92, u93, u94, u95, u96, u97, u98, u99, u100, u101, u102, u103, u104, u105, u106, u107, u108, u109, u110, u111, u112, u113, u114, u115, u116, u117, u118, u119, u120, u121, u122, u123, u124, u125, u126, u127, u128, u129, u130, u131, u132, u133, u134, u135, u136, u137, u138, u139, u140, u141, u142, u143, u144, u145, u146, u147, u148, u149, u150, u151, u152, u153, u154, u155, u156, u157, u158, u159, u160, u161, u162, u163, u164, u165, u166, u167, u168, u169, u170, u171, u172, u173, u174, u175, u176, u177, u178, u179, u180, u181, u182, u183, u184, u185, u186, u187, u188, u189, u190, u191, u192, u193, u194, u195, u196, u197, u198, u199, u200, u201, u202, u203, u204, u205, u206, u207, u208, u209, u210, u211, u212, u213, u214, u215, u216, u217, u218, u219, u220, u221, u222, u223, u224, u225, u226, u227, u228, u229, u230, u231, u232, u233, u234, u235, u236, u237, u238, u239, u240, u241, u242, u243, u244, u245, u246, u247, u248, u249, u250, u251, u252, u253, u254, u255, u256, u257, u258, u259, u260, u261, u262, u263, u264, u265, u266, u267, u268, u269, u270, u271, u272, u273, u274, u275, u276, u277, u278, u279, u280, u281, u282, u283, u284, u285, u286, u287, u288, u289, u290, u291, u292, u293, u294, u295, u296, u297, u298, u299, u300, u301, u302, u303, u304, u305, u306, u307], defers := [] } wr := by
  obtain ⟨i0, hi0, hz0, hz1, hz2⟩ := info_parts Tryf.info137
  have I0 := Lib.hid hi0
  have Z0 := Lib.hid hz0
  have Z1 := Lib.hid hz1
  have Z2 := Lib.hid hz2
  clear hi0 hz0 hz1 hz2
  have hlen0 := HPAT.out.len
  have hll := HPAT.out.scan.len
  have HQ := Lib.hid hQ
  clear hQ
  conv => arg 2; whnf
  conv => arg 4; dsimp only
  have hkl := at_lt (l := l) (k := k) (by rw [hc]; decide)
  have hk1 : k + 1 < l.length := by omega
  have t37 : (at_ l k == 37) = false := by simp [hc]
  have t46 : (at_ l k == 46) = false := by simp [hc]
  have t91 : (at_ l k == 91) = false := by simp [hc]
  have t93 : (at_ l k == 93) = false := by simp [hc]
  have t41 : (at_ l k == 41) = false := by simp [hc]
  have t40 : (at_ l k == 40) = true := by simp [hc]
  have s41 := beq_no hc1
  have t41b : (at_ l k2 != 41) = false := by simp [hc2]
  have t41c : (at_ l k2 == 41) = true := by simp [hc2]
  clear hc hc1 hc2
  go_wp2_with fail
  refine (scan_peek HPAT.out.scan (by omega)).mono ?_
  rintro e w2 ⟨rfl, hs, hc2, hz⟩
  rw [hseen] at hs
  have hp2 := HPAT.out.moved hs hc2 HPAT.out.len
  have q2 := hp2.c2
  have z2 := hp2.lt
  have f2 := hp2.fz 2
  have HPAT2 := Lib.hid hp2
  clear hp2 hs hz HPAT hc2
  go_wp2_with fail
  refine (scan_next HPAT2.out.scan (by omega)).mono ?_
  rintro e w3 ⟨rfl, hs, hc2, hz⟩
  rw [show after l k = k + 1 from by simp only [after]; omega] at hs
  have hp2 := HPAT2.out.moved hs hc2 (by omega)
  clear q2 z2 f2
  have q2 := hp2.c2
  have z2 := hp2.lt
  have f2 := hp2.fz 2
  have HPAT3 := Lib.hid hp2
  clear hp2 hs hz HPAT2 hc2
  go_wp2_with fail
  refine (scan_peek HPAT3.out.scan (by omega)).mono ?_
  rintro e w4 ⟨rfl, hs, hc2, hz⟩
  rw [show seen l (k + 1) = (k + 1) from by unfold seen; rw [if_neg (by omega)]] at hs
  have hp2 := HPAT3.out.moved hs hc2 (by omega)
  clear q2 z2 f2
  have q2 := hp2.c2
  have z2 := hp2.lt
  have f2 := hp2.fz 2
  have HPAT4 := Lib.hid hp2
  clear hp2 hs hz HPAT3 hc2
  go_wp2_with fail
  refine (HIN.out _ _ HPAT4.out.scan (by have := HPAT4.out.old.2; have := HPAT4.out.ch.size; omega)).mono ?_
  rintro e w5 ⟨b, j5, rfl, hrep, hs, hc2⟩
  have hp5 := HPAT4.out.moved hs hc2 (by omega)
  have hpx := hp5.alloc (.cells #[.iface 95 (ptr b)] 139)
  have hfr := HPAT4.out.fresh
  have hcap := new_cap (w0 := w0) (s := b) (pl := pl) hfr HPAT4.out.base hc2.size (RepPats.parts hrep)
  have HCAP := Lib.hid hcap
  clear q2 z2 f2 hp5 hfr hcap hrep hs hc2
  have q2 := hpx.c2
  have z2 := hpx.lt
  have f2 := hpx.fz 2
  have HPATX := Lib.hid hpx
  clear hpx HPAT4
  simp only []
  go_wp2_with fail
  refine (scan_peek HPATX.out.scan (by omega)).mono ?_
  rintro e w7 ⟨rfl, hs, hc2, hz⟩
  rw [show seen l k2 = k2 from by unfold seen; rw [if_neg (by omega)]] at hs
  have hp2 := HPATX.out.moved hs hc2 HPATX.out.len
  have hcap := HCAP.out.keep (w' := w7) (ok' := fun b => w0.heap.size ≤ b ∧ b < w7.heap.size ∧ b ≠ P ∧ ¬ blk B = some b) (fun b hb => ⟨hc2.block b hb.2.1 (by have := HPATX.out.old.1; omega), hb.1, Nat.lt_of_lt_of_le hb.2.1 hc2.size, hb.2.2⟩)
  clear q2 z2 f2 HCAP
  have q2 := hp2.c2
  have z2 := hp2.lt
  have f2 := hp2.fz 2
  have HPAT7 := Lib.hid hp2
  have HCAP := Lib.hid hcap
  clear hp2 hs hz HPATX hc2 hcap
  go_wp2_with fail
  refine (scan_next HPAT7.out.scan (by omega)).mono ?_
  rintro e w8 ⟨rfl, hs, hc2, hz⟩
  rw [show after l k2 = k2 + 1 from by simp only [after]; omega] at hs
  have hp2 := HPAT7.out.moved hs hc2 (by omega)
  have hcap := HCAP.out.keep (w' := w8) (ok' := fun b => w0.heap.size ≤ b ∧ b < w8.heap.size ∧ b ≠ P ∧ ¬ blk B = some b) (fun b hb => ⟨hc2.block b hb.2.1 (by have := HPAT7.out.old.1; omega), hb.1, Nat.lt_of_lt_of_le hb.2.1 hc2.size, hb.2.2⟩)
  clear q2 z2 f2 HCAP
  have q2 := hp2.c2
  have z2 := hp2.lt
  have f2 := hp2.fz 2
  have HPAT8 := Lib.hid hp2
  have HCAP := Lib.hid hcap
  clear hp2 hs hz HPAT7 hc2 hcap
  go_wp2_with (at_builtin; refine wpList_append_lies _ rfl (.tmp 182) (.tmp 185) 103 rfl w0.heap.size 137 i0 _ 1 16 Tryf.underlying103 I0.out Z0.out Z1.out Z2.out rfl (by omega) _ _ us rfl (HPAT8.out.own.alloc _) ⟨w8.heap.size, 0, none⟩ 1 1 [.iface 136 (ptr w5.heap.size)] rfl rfl (World.news_of_block (heap_alloc_new w8 _)) (one_cell _ _) (by omega) (by unfold maxLen; omega) (by omega) (by have := HPAT8.out.base; have := HPAT8.out.lt; simp; omega) (w8.heap.size + 1) (by simp) ?_; intro g' c' w9 hown9 hgrow9 hat9 hlt9
               obtain ⟨hpush, d9, f9⟩ := HPAT8.out.pushed (by omega) HCAP.out ((Ch.refl _ _).alloc _) hgrow9 (hat9.imp id (fun e => by simp; omega)) hown9
               have HPUSH := Lib.hid hpush
               clear hown9 hgrow9 hat9 hlt9 hpush)
  refine HQ.out _ _ ⟨⟨_, _, _, _, HPUSH.out⟩, ?_⟩
  (repeat apply Exists.intro)
  rfl

end Go.Proofs.YtkbdngcbifonkaaFmt
