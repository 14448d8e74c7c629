/-
  ONE ROUND OF parsePattern's LOOP, a lemma a kind of part. Lines laid by a program of this session (mkround.py).
-/
import Derived.Test.YtkbdngcbifonkaaFmtRnd
import Derived.Test.YtkbdngcbifonkaaFmtRegR
namespace Go.Proofs.YtkbdngcbifonkaaFmt
set_option linter.all false
open Go.RowKit

theorem PatAt.last {w0 w : World} {S A cap j P k c : Nat} {l : List UInt8} {head : Bool} {ps : List Pm.Pat} {cl : Pm.Cls} {B : Option Addr} {us : List Value} (hp : PatAt w0 S A cap j P l head k (ps ++ [.part (.one cl)]) w B c us) :
    ∃ g o ui xi us0, B = some ⟨g, 0, none⟩ ∧ us = us0 ++ [.iface 127 (ptr o)] ∧ w.cell? ⟨g, ps.length, none⟩ = some (.iface 127 (ptr o)) ∧ w.cell? ⟨o, 0, none⟩ = some (.iface ui xi) ∧ ¬ o = P ∧ ¬ g = P ∧ ps.length ≤ c ∧
      RepCls w (fun b => w0.heap.size ≤ b ∧ b < w.heap.size ∧ b ≠ P ∧ ¬ blk B = some b) (.iface ui xi) cl := by
  obtain ⟨g, c0, hB, hg1, hg2⟩ := hp.own.form (by simp)
  obtain ⟨rfl, rfl⟩ : B = some ⟨g, 0, none⟩ ∧ c = c0 := by cases hB; exact ⟨rfl, rfl⟩
  have hus := hp.len_us
  obtain ⟨us0, v, rfl⟩ : ∃ us0 v, us = us0 ++ [v] := by
    rcases List.eq_nil_or_concat us with rfl | ⟨a, b, rfl⟩
    · simp at hus
    · exact ⟨a, b, by simp⟩
  have hus0 : us0.length = ps.length := by simp at hus; omega
  have hrep := hp.rep ps.length (by simp)
  have e1 : (us0 ++ [v]).getD ps.length undef = v := by simp [List.getD_eq_getElem?_getD, ← hus0]
  have e2 : (ps ++ [Pm.Pat.part (.one cl)])[ps.length] = .part (.one cl) := by simp
  rw [e1, e2] at hrep
  obtain ⟨o, x0, hok, rfl, hox, hrc⟩ := hrep
  obtain ⟨ui, xi, rfl⟩ := hrc.form
  have hcell : w.cell? ⟨g, ps.length, none⟩ = some (.iface 127 (ptr o)) := hp.cellAt ps.length _ (by rw [← hus0]; simp)
  refine ⟨g, o, ui, xi, us0, rfl, rfl, hcell, hox, hok.2.2.1, fun e => hp.ne (by simp [blk, e]), ?_, hrc⟩
  have := own_cap hp.own
  simp at this
  omega

set_option maxRecDepth 100000 in
set_option maxHeartbeats 8000000 in
theorem round_rep42 {tl : Bool} {w0 wr : World} {S A cap j P k c : Nat} {l : List UInt8} {head : Bool} {ps : List Pm.Pat} {B : Option Addr} {us : List Value} {cl : Pm.Cls} {Q : Exit → Act → World → Prop} {u2 u3 u4 u6 u7 u8 u9 u10 u11 u12 u13 u14 u15 u16 u17 u18 u19 u20 u21 u22 u23 u24 u25 u26 u27 u28 u29 u30 u31 u32 u33 u34 u35 u36 u37 u38 u39 u40 u41 u42 u43 u44 u45 u46 u47 u48 u49 u50 u51 u52 u53 u54 u55 u56 u57 u58 u59 u60 u61 u62 u63 u64 u65 u66 u67 u68 u69 u70 u71 u72 u73 u74 u75 u76 u77 u78 u79 u80 u81 u82 u83 u84 u85 u86 u87 u88 u89 u90 u91 u92 u93 u94 u95 u96 u97 u98 u99 u100 u101 u102 u103 u104 u105 u106 u107 u108 u109 u110 u111 u112 u113 u114 u115 u116 u117 u118 u119 u120 u121 u122 u123 u124 u125 u126 u127 u128 u129 u130 u131 u132 u133 u134 u135 u136 u137 u138 u139 u140 u141 u142 u143 u144 u145 u146 u147 u148 u149 u150 u151 u152 u153 u154 u155 u156 u157 u158 u159 u160 u161 u162 u163 u164 u165 u166 u167 u168 u169 u170 u171 u172 u173 u174 u175 u176 u177 u178 u179 u180 u181 u182 u183 u184 u185 u186 u187 u188 u189 u190 u191 u192 u193 u194 u195 u196 u197 u198 u199 u200 u201 u202 u203 u204 u205 u206 u207 u208 u209 u210 u211 u212 u213 u214 u215 u216 u217 u218 u219 u220 u221 u222 u223 u224 u225 u226 u227 u228 u229 u230 u231 u232 u233 u234 u235 u236 u237 u238 u239 u240 u241 u242 u243 u244 u245 u246 u247 u248 u249 u250 u251 u252 u253 u254 u255 u256 u257 u258 u259 u260 u261 u262 u263 u264 u265 u266 u267 u268 u269 u270 u271 u272 u273 u274 u275 u276 u277 u278 u279 u280 u281 u282 u283 u284 u285 u286 u287 u288 u289 u290 u291 u292 u293 u294 u295 u296 u297 u298 u299 u300 u301 u302 u303 u304 u305 u306 u307 : Value} (HPAT : Hid (PatAt w0 S A cap j P l head k (ps ++ [.part (.one cl)]) wr B c us)) (hl1 : l.length ≤ 1000) (hk : k ≤ l.length + 1) (hseen : seen l k = k) (hc : at_ l k = 42)
    (hQ : ∀ a' w', RoundPost w0 S A cap P l head (k + 1) (ps ++ [.part (.rep (at_ l k) cl)]) tl u2 u3 u10 u11 u12 u13 u14 u15 u16 u17 u18 u19 u20 u307 a' w' → Q .normal a' w') :
    body36.wp Tryf.prog Q { tmps := #[ptr S, .bool tl, u2, u3, u4, ptr P, u6, u7, u8, u9, u10, u11, u12, u13, u14, u15, u16, u17, u18, u19, u20, u21, u22, u23, u24, u25, u26, u27, u28, u29, u30, u31, u32, u33, u34, u35, u36, u37, u38, u39, u40, u41, u42, u43, u44, u45, u46, u47, u48, u49, u50, u51, u52, u53, u54, u55, u56, u57, u58, u59, u60, u61, u62, u63, u64, u65, u66, u67, u68, u69, u70, u71, u72, u73, u74, u75, u76, u77, u78, u79, u80, u81, u82, u83, u84, u85, u86, u87, u88, u89, u90, u91, u92, u93, u94, u95, u96, u97, u98, u99, u100, u101, u102, u103, u104, u105, u106, u107, u108, u109, u110, u111, u112, u113, u114, u115, u116, u117, u118, u119, u120, u121, u122, u123, u124, u125, u126, u127, u128, u129, u130, u131, u132, u133, u134, u135, u136, u137, u138, u139, u140, u141, u142, u143, u144, u145, u146, u147, u148, u149, u150, u151, u152, u153, u154, u155, u156, u157, u158, u159, u160, u161, u162, u163, u164, u165, u166, u167, u168, u169, u170, u171, u172, u173, u174, u175, u176, u177, u178, u179, u180, u181, u182, u183, u184, u185, u186, u187, u188, u189, u190, u191, u192, u193, u194, u195, u196, u197, u198, u199, u200, u201, u202, u203, u204, u205, u206, u207, u208, u209, u210, u211, u212, u213, u214, u215, u216, u217, u218, u219, u220, u221, u222, u223, u224, u225, u226, u227, u228, u229, u230, u231, u232, u233, u234, u235, u236, u237, u238, u239, u240, u241, u242, u243, u244, u245, u246, u247, u248, u249, u250, u251, u252, u253, u254, u255, u256, u257, u258, u259, u260, u261, u262, u263, u264, u265, u266, u267, u268, u269, u270, u271, u272, u273, u274, u275, u276, u277, u278, u279, u280, u281, u282, u283, u284, u285, u286, u287, u288, u289, u290, u291, u292, u293, u294, u295, u296, u297, u298, u299, u300, u301, u302, u303, u304, u305, u306, u307], defers := [] } wr := by
  obtain ⟨i0, hi0, hz0, hz1, hz2⟩ := info_parts Tryf.info137
  have I0 := Lib.hid hi0
  have Z0 := Lib.hid hz0
  have Z1 := Lib.hid hz1
  have Z2 := Lib.hid hz2
  clear hi0 hz0 hz1 hz2
  have hlen0 := HPAT.out.len
  have hll := HPAT.out.scan.len
  have HQ := Lib.hid hQ
  clear hQ
  conv => arg 2; whnf
  conv => arg 4; dsimp only
  have hkl := at_lt (l := l) (k := k) (by rw [hc]; decide)
  rw [List.length_append] at hlen0
  simp only [List.length_cons, List.length_nil] at hlen0
  have hlt1 : ps.length < k + 1 := by omega
  have hk1l : k + 1 ≤ l.length := by omega
  have t37 : (at_ l k == 37) = false := by simp [hc]
  have t46 : (at_ l k == 46) = false := by simp [hc]
  have t91 : (at_ l k == 91) = false := by simp [hc]
  have t93 : (at_ l k == 93) = false := by simp [hc]
  have t41 : (at_ l k == 41) = false := by simp [hc]
  have t40 : (at_ l k == 40) = false := by simp [hc]
  have t42 : (at_ l k == 42) = true := by simp [hc]
  clear hc
  go_wp2_with fail
  refine (scan_peek HPAT.out.scan (by omega)).mono ?_
  rintro e w2 ⟨rfl, hs, hc2, hz⟩
  rw [hseen] at hs
  have hp2 := HPAT.out.moved hs hc2 HPAT.out.len
  have q2 := hp2.c2
  have z2 := hp2.lt
  have f2 := hp2.fz 2
  have HPAT2 := Lib.hid hp2
  clear hp2 hs hz HPAT hc2
  go_wp2_with fail
  refine (scan_next HPAT2.out.scan (by omega)).mono ?_
  rintro e w3 ⟨rfl, hs, hc2, hz⟩
  rw [show after l k = k + 1 from by simp only [after]; omega] at hs
  have hp2 := HPAT2.out.moved hs hc2 (by rw [List.length_append]; simp only [List.length_cons, List.length_nil]; omega)
  clear q2 z2 f2
  have q2 := hp2.c2
  have z2 := hp2.lt
  have f2 := hp2.fz 2
  have HPAT3 := Lib.hid hp2
  clear hp2 hs hz HPAT2 hc2
  clear q2 z2 f2
  obtain ⟨g, o, ui, xi, us0, rfl, rfl, hcell, hox, hop, hgp, hcap, hrc⟩ := HPAT3.out.last
  have HRC := Lib.hid hrc
  have HOX := Lib.hid hox
  have q2 : w3.cell? ⟨P, 2, none⟩ = some (.slice (some ⟨g, 0, none⟩) (ps.length + 1) c) := by have := HPAT3.out.c2; rw [List.length_append] at this; exact this
  have z2 := HPAT3.out.lt
  have f2 := HPAT3.out.fz 2
  have hn0 : (0 : Int) < (ps.length : Int) + 1 := by omega
  clear hrc hox
  go_wp2_with fail
  refine region_look (n := ps.length) (g := g) (c := c) (o := o) q2 hcell (by omega) ?_
  intro w4 v202 v203 v204 v205 v206 v207 v208 v209 v210 v211 v212 v213 v214 v215 v216 v217 hw4
  obtain ⟨m4, rfl⟩ := hw4
  have hp4 : PatAt w0 S A cap j P l head (k + 1) (ps ++ [.part (.one cl)]) (w3.drewN m4) (some ⟨g, 0, none⟩) c (us0 ++ [.iface 127 (ptr o)]) :=
    HPAT3.out.moved (HPAT3.out.scan.kept (T := fun _ => False) ((Ch.refl _ _).drewN m4) id id) ((Ch.refl _ _).drewN m4) HPAT3.out.len
  have hx4 : (w3.drewN m4).cell? ⟨o, 0, none⟩ = some (.iface ui xi) := HOX.out
  have hr4 : RepCls (w3.drewN m4) (fun b => w0.heap.size ≤ b ∧ b < (w3.drewN m4).heap.size ∧ b ≠ P ∧ ¬ blk (some (⟨g, 0, none⟩ : Addr)) = some b) (.iface ui xi) cl := HRC.out.keep (fun b hb => ⟨rfl, hb⟩)
  generalize w3.drewN m4 = w4 at *
  clear q2 z2 f2 hcell HPAT3 HRC HOX
  have q2 : w4.cell? ⟨P, 2, none⟩ = some (.slice (some ⟨g, 0, none⟩) (ps.length + 1) c) := by have := hp4.c2; rw [List.length_append] at this; exact this
  have z2 := hp4.lt
  have f2 := hp4.fz 2
  have HPAT4 := Lib.hid hp4
  have HRC4 := Lib.hid hr4
  have HOX4 := Lib.hid hx4
  clear hp4 hr4 hx4
  simp only [Exit.then]
  go_wp2_with fail
  refine region_pop (n := ps.length) (g := g) (c := c) q2 f2 z2 (by omega) hcap ?_
  intro w5 v219 v220 v221 v222 v223 v224 v225 v226 v227 v228 v229 v230 v231 v232 hw5
  have hp5 : PatAt w0 S A cap j P l head (k + 1) ps w5 (some ⟨g, 0, none⟩) c us0 := by
    rcases hw5 with rfl | rfl
    · exact HPAT4.out.pop
    · exact HPAT4.out.drew.pop
  have hch5 : Ch (· = P) w4 w5 := by
    rcases hw5 with rfl | rfl
    · exact (Ch.refl (· = P) w4).setCell (p := ⟨P, 2, none⟩) (fun _ => rfl) _
    · exact ((Ch.refl (· = P) w4).drew).setCell (p := ⟨P, 2, none⟩) (fun _ => rfl) _
  have hx5 := hch5.cell_some HOX4.out hop
  have hr5 := HRC4.out.keep (w' := w5) (ok' := fun b => w0.heap.size ≤ b ∧ b < w5.heap.size ∧ b ≠ P ∧ ¬ blk (some (⟨g, 0, none⟩ : Addr)) = some b) (fun b hb => ⟨hch5.block b hb.2.1 hb.2.2.1, hb.1, Nat.lt_of_lt_of_le hb.2.1 hch5.size, hb.2.2⟩)
  have HPAT5 := Lib.hid hp5
  have HRC5 := Lib.hid hr5
  have HOX5 := Lib.hid hx5
  clear q2 z2 f2 hp5 hr5 hx5 hch5 hw5 HPAT4 HRC4 HOX4
  simp only [Exit.then]
  go_wp2_with fail
  refine region_rep (cl := cl) (o := o) (u := ui) (x := xi) HPAT5 hl1 hk1l hlt1 HOX5.out HRC5 ?_
  intro w9 B9 c9 us9 z233 z234 z235 z236 z237 z238 z239 z240 z241 z242 z243 z244 z245 z246 z247 z248 z249 hpush
  have HPUSH := Lib.hid hpush
  clear hpush
  simp only [Exit.then]
  go_wp2_with fail
  refine HQ.out _ _ ⟨⟨_, _, _, _, HPUSH.out⟩, ?_⟩
  (repeat apply Exists.intro)
  rfl

set_option maxRecDepth 100000 in
set_option maxHeartbeats 8000000 in
theorem round_rep43 {tl : Bool} {w0 wr : World} {S A cap j P k c : Nat} {l : List UInt8} {head : Bool} {ps : List Pm.Pat} {B : Option Addr} {us : List Value} {cl : Pm.Cls} {Q : Exit → Act → World → Prop} {u2 u3 u4 u6 u7 u8 u9 u10 u11 u12 u13 u14 u15 u16 u17 u18 u19 u20 u21 u22 u23 u24 u25 u26 u27 u28 u29 u30 u31 u32 u33 u34 u35 u36 u37 u38 u39 u40 u41 u42 u43 u44 u45 u46 u47 u48 u49 u50 u51 u52 u53 u54 u55 u56 u57 u58 u59 u60 u61 u62 u63 u64 u65 u66 u67 u68 u69 u70 u71 u72 u73 u74 u75 u76 u77 u78 u79 u80 u81 u82 u83 u84 u85 u86 u87 u88 u89 u90 u91 u92 u93 u94 u95 u96 u97 u98 u99 u100 u101 u102 u103 u104 u105 u106 u107 u108 u109 u110 u111 u112 u113 u114 u115 u116 u117 u118 u119 u120 u121 u122 u123 u124 u125 u126 u127 u128 u129 u130 u131 u132 u133 u134 u135 u136 u137 u138 u139 u140 u141 u142 u143 u144 u145 u146 u147 u148 u149 u150 u151 u152 u153 u154 u155 u156 u157 u158 u159 u160 u161 u162 u163 u164 u165 u166 u167 u168 u169 u170 u171 u172 u173 u174 u175 u176 u177 u178 u179 u180 u181 u182 u183 u184 u185 u186 u187 u188 u189 u190 u191 u192 u193 u194 u195 u196 u197 u198 u199 u200 u201 u202 u203 u204 u205 u206 u207 u208 u209 u210 u211 u212 u213 u214 u215 u216 u217 u218 u219 u220 u221 u222 u223 u224 u225 u226 u227 u228 u229 u230 u231 u232 u233 u234 u235 u236 u237 u238 u239 u240 u241 u242 u243 u244 u245 u246 u247 u248 u249 u250 u251 u252 u253 u254 u255 u256 u257 u258 u259 u260 u261 u262 u263 u264 u265 u266 u267 u268 u269 u270 u271 u272 u273 u274 u275 u276 u277 u278 u279 u280 u281 u282 u283 u284 u285 u286 u287 u288 u289 u290 u291 u292 u293 u294 u295 u296 u297 u298 u299 u300 u301 u302 u303 u304 u305 u306 u307 : Value} (HPAT : Hid (PatAt w0 S A cap j P l head k (ps ++ [.part (.one cl)]) wr B c us)) (hl1 : l.length ≤ 1000) (hk : k ≤ l.length + 1) (hseen : seen l k = k) (hc : at_ l k = 43)
    (hQ : ∀ a' w', RoundPost w0 S A cap P l head (k + 1) (ps ++ [.part (.rep (at_ l k) cl)]) tl u2 u3 u10 u11 u12 u13 u14 u15 u16 u17 u18 u19 u20 u307 a' w' → Q .normal a' w') :
    body36.wp Tryf.prog Q { tmps := #[ptr S, .bool tl, u2, u3, u4, ptr P, u6, u7, u8, u9, u10, u11, u12, u13, u14, u15, u16, u17, u18, u19, u20, u21, u22, u23, u24, u25, u26, u27, u28, u29, u30, u31, u32, u33, u34, u35, u36, u37, u38, u39, u40, u41, u42, u43, u44, u45, u46, u47, u48, u49, u50, u51, u52, u53, u54, u55, u56, u57, u58, u59, u60, u61, u62, u63, u64, u65, u66, u67, u68, u69, u70, u71, u72, u73, u74, u75, u76, u77, u78, u79, u80, u81, u82, u83, u84, u85, u86, u87, u88, u89, u90, u91, u92, u93, u94, u95, u96, u97, u98, u99, u100, u101, u102, u103, u104, u105, u106, u107, u108, u109, u110, u111, u112, u113, u114, u115, u116, u117, u118, u119, u120, u121, u122, u123, u124, u125, u126, u127, u128, u129, u130, u131, u132, u133, u134, u135, u136, u137, u138, u139, u140, u141, u142, u143, u144, u145, u146, u147, u148, u149, u150, u151, u152, u153, u154, u155, u156, u157, u158, u159, u160, u161, u162, u163, u164, u165, u166, u167, u168, u169, u170, u171, u172, u173, u174, u175, u176, u177, u178, u179, u180, u181, u182, u183, u184, u185, u186, u187, u188, u189, u190, u191, u192, u193, u194, u195, u196, u197, u198, u199, u200, u201, u202, u203, u204, u205, u206, u207, u208, u209, u210, u211, u212, u213, u214, u215, u216, u217, u218, u219, u220, u221, u222, u223, u224, u225, u226, u227, u228, u229, u230, u231, u232, u233, u234, u235, u236, u237, u238, u239, u240, u241, u242, u243, u244, u245, u246, u247, u248, u249, u250, u251, u252, u253, u254, u255, u256, u257, u258, u259, u260, u261, u262, u263, u264, u265, u266, u267, u268, u269, u270, u271, u272, u273, u274, u275, u276, u277, u278, u279, u280, u281, u282, u283, u284, u285, u286, u287, u288, u289, u290, u291, u292, u293, u294, u295, u296, u297, u298, u299, u300, u301, u302, u303, u304, u305, u306, u307], defers := [] } wr := by
  obtain ⟨i0, hi0, hz0, hz1, hz2⟩ := info_parts Tryf.info137
  have I0 := Lib.hid hi0
  have Z0 := Lib.hid hz0
  have Z1 := Lib.hid hz1
  have Z2 := Lib.hid hz2
  clear hi0 hz0 hz1 hz2
  have hlen0 := HPAT.out.len
  have hll := HPAT.out.scan.len
  have HQ := Lib.hid hQ
  clear hQ
  conv => arg 2; whnf
  conv => arg 4; dsimp only
  have hkl := at_lt (l := l) (k := k) (by rw [hc]; decide)
  rw [List.length_append] at hlen0
  simp only [List.length_cons, List.length_nil] at hlen0
  have hlt1 : ps.length < k + 1 := by omega
  have hk1l : k + 1 ≤ l.length := by omega
  have t37 : (at_ l k == 37) = false := by simp [hc]
  have t46 : (at_ l k == 46) = false := by simp [hc]
  have t91 : (at_ l k == 91) = false := by simp [hc]
  have t93 : (at_ l k == 93) = false := by simp [hc]
  have t41 : (at_ l k == 41) = false := by simp [hc]
  have t40 : (at_ l k == 40) = false := by simp [hc]
  have t42 : (at_ l k == 42) = false := by simp [hc]
  have t43 : (at_ l k == 43) = true := by simp [hc]
  clear hc
  go_wp2_with fail
  refine (scan_peek HPAT.out.scan (by omega)).mono ?_
  rintro e w2 ⟨rfl, hs, hc2, hz⟩
  rw [hseen] at hs
  have hp2 := HPAT.out.moved hs hc2 HPAT.out.len
  have q2 := hp2.c2
  have z2 := hp2.lt
  have f2 := hp2.fz 2
  have HPAT2 := Lib.hid hp2
  clear hp2 hs hz HPAT hc2
  go_wp2_with fail
  refine (scan_next HPAT2.out.scan (by omega)).mono ?_
  rintro e w3 ⟨rfl, hs, hc2, hz⟩
  rw [show after l k = k + 1 from by simp only [after]; omega] at hs
  have hp2 := HPAT2.out.moved hs hc2 (by rw [List.length_append]; simp only [List.length_cons, List.length_nil]; omega)
  clear q2 z2 f2
  have q2 := hp2.c2
  have z2 := hp2.lt
  have f2 := hp2.fz 2
  have HPAT3 := Lib.hid hp2
  clear hp2 hs hz HPAT2 hc2
  clear q2 z2 f2
  obtain ⟨g, o, ui, xi, us0, rfl, rfl, hcell, hox, hop, hgp, hcap, hrc⟩ := HPAT3.out.last
  have HRC := Lib.hid hrc
  have HOX := Lib.hid hox
  have q2 : w3.cell? ⟨P, 2, none⟩ = some (.slice (some ⟨g, 0, none⟩) (ps.length + 1) c) := by have := HPAT3.out.c2; rw [List.length_append] at this; exact this
  have z2 := HPAT3.out.lt
  have f2 := HPAT3.out.fz 2
  have hn0 : (0 : Int) < (ps.length : Int) + 1 := by omega
  clear hrc hox
  go_wp2_with fail
  refine region_look (n := ps.length) (g := g) (c := c) (o := o) q2 hcell (by omega) ?_
  intro w4 v202 v203 v204 v205 v206 v207 v208 v209 v210 v211 v212 v213 v214 v215 v216 v217 hw4
  obtain ⟨m4, rfl⟩ := hw4
  have hp4 : PatAt w0 S A cap j P l head (k + 1) (ps ++ [.part (.one cl)]) (w3.drewN m4) (some ⟨g, 0, none⟩) c (us0 ++ [.iface 127 (ptr o)]) :=
    HPAT3.out.moved (HPAT3.out.scan.kept (T := fun _ => False) ((Ch.refl _ _).drewN m4) id id) ((Ch.refl _ _).drewN m4) HPAT3.out.len
  have hx4 : (w3.drewN m4).cell? ⟨o, 0, none⟩ = some (.iface ui xi) := HOX.out
  have hr4 : RepCls (w3.drewN m4) (fun b => w0.heap.size ≤ b ∧ b < (w3.drewN m4).heap.size ∧ b ≠ P ∧ ¬ blk (some (⟨g, 0, none⟩ : Addr)) = some b) (.iface ui xi) cl := HRC.out.keep (fun b hb => ⟨rfl, hb⟩)
  generalize w3.drewN m4 = w4 at *
  clear q2 z2 f2 hcell HPAT3 HRC HOX
  have q2 : w4.cell? ⟨P, 2, none⟩ = some (.slice (some ⟨g, 0, none⟩) (ps.length + 1) c) := by have := hp4.c2; rw [List.length_append] at this; exact this
  have z2 := hp4.lt
  have f2 := hp4.fz 2
  have HPAT4 := Lib.hid hp4
  have HRC4 := Lib.hid hr4
  have HOX4 := Lib.hid hx4
  clear hp4 hr4 hx4
  simp only [Exit.then]
  go_wp2_with fail
  refine region_pop (n := ps.length) (g := g) (c := c) q2 f2 z2 (by omega) hcap ?_
  intro w5 v219 v220 v221 v222 v223 v224 v225 v226 v227 v228 v229 v230 v231 v232 hw5
  have hp5 : PatAt w0 S A cap j P l head (k + 1) ps w5 (some ⟨g, 0, none⟩) c us0 := by
    rcases hw5 with rfl | rfl
    · exact HPAT4.out.pop
    · exact HPAT4.out.drew.pop
  have hch5 : Ch (· = P) w4 w5 := by
    rcases hw5 with rfl | rfl
    · exact (Ch.refl (· = P) w4).setCell (p := ⟨P, 2, none⟩) (fun _ => rfl) _
    · exact ((Ch.refl (· = P) w4).drew).setCell (p := ⟨P, 2, none⟩) (fun _ => rfl) _
  have hx5 := hch5.cell_some HOX4.out hop
  have hr5 := HRC4.out.keep (w' := w5) (ok' := fun b => w0.heap.size ≤ b ∧ b < w5.heap.size ∧ b ≠ P ∧ ¬ blk (some (⟨g, 0, none⟩ : Addr)) = some b) (fun b hb => ⟨hch5.block b hb.2.1 hb.2.2.1, hb.1, Nat.lt_of_lt_of_le hb.2.1 hch5.size, hb.2.2⟩)
  have HPAT5 := Lib.hid hp5
  have HRC5 := Lib.hid hr5
  have HOX5 := Lib.hid hx5
  clear q2 z2 f2 hp5 hr5 hx5 hch5 hw5 HPAT4 HRC4 HOX4
  simp only [Exit.then]
  go_wp2_with fail
  refine region_rep (cl := cl) (o := o) (u := ui) (x := xi) HPAT5 hl1 hk1l hlt1 HOX5.out HRC5 ?_
  intro w9 B9 c9 us9 z233 z234 z235 z236 z237 z238 z239 z240 z241 z242 z243 z244 z245 z246 z247 z248 z249 hpush
  have HPUSH := Lib.hid hpush
  clear hpush
  simp only [Exit.then]
  go_wp2_with fail
  refine HQ.out _ _ ⟨⟨_, _, _, _, HPUSH.out⟩, ?_⟩
  (repeat apply Exists.intro)
  rfl

set_option maxRecDepth 100000 in
set_option maxHeartbeats 8000000 in
theorem round_rep45 {tl : Bool} {w0 wr : World} {S A cap j P k c : Nat} {l : List UInt8} {head : Bool} {ps : List Pm.Pat} {B : Option Addr} {us : List Value} {cl : Pm.Cls} {Q : Exit → Act → World → Prop} {u2 u3 u4 u6 u7 u8 u9 u10 u11 u12 u13 u14 u15 u16 u17 u18 u19 u20 u21 u22 u23 u24 u25 u26 u27 u28 u29 u30 u31 u32 u33 u34 u35 u36 u37 u38 u39 u40 u41 u42 u43 u44 u45 u46 u47 u48 u49 u50 u51 u52 u53 u54 u55 u56 u57 u58 u59 u60 u61 u62 u63 u64 u65 u66 u67 u68 u69 u70 u71 u72 u73 u74 u75 u76 u77 u78 u79 u80 u81 u82 u83 u84 u85 u86 u87 u88 u89 u90 u91 u92 u93 u94 u95 u96 u97 u98 u99 u100 u101 u102 u103 u104 u105 u106 u107 u108 u109 u110 u111 u112 u113 u114 u115 u116 u117 u118 u119 u120 u121 u122 u123 u124 u125 u126 u127 u128 u129 u130 u131 u132 u133 u134 u135 u136 u137 u138 u139 u140 u141 u142 u143 u144 u145 u146 u147 u148 u149 u150 u151 u152 u153 u154 u155 u156 u157 u158 u159 u160 u161 u162 u163 u164 u165 u166 u167 u168 u169 u170 u171 u172 u173 u174 u175 u176 u177 u178 u179 u180 u181 u182 u183 u184 u185 u186 u187 u188 u189 u190 u191 u192 u193 u194 u195 u196 u197 u198 u199 u200 u201 u202 u203 u204 u205 u206 u207 u208 u209 u210 u211 u212 u213 u214 u215 u216 u217 u218 u219 u220 u221 u222 u223 u224 u225 u226 u227 u228 u229 u230 u231 u232 u233 u234 u235 u236 u237 u238 u239 u240 u241 u242 u243 u244 u245 u246 u247 u248 u249 u250 u251 u252 u253 u254 u255 u256 u257 u258 u259 u260 u261 u262 u263 u264 u265 u266 u267 u268 u269 u270 u271 u272 u273 u274 u275 u276 u277 u278 u279 u280 u281 u282 u283 u284 u285 u286 u287 u288 u289 u290 u291 u292 u293 u294 u295 u296 u297 u298 u299 u300 u301 u302 u303 u304 u305 u306 u307 : Value} (HPAT : Hid (PatAt w0 S A cap j P l head k (ps ++ [.part (.one cl)]) wr B c us)) (hl1 : l.length ≤ 1000) (hk : k ≤ l.length + 1) (hseen : seen l k = k) (hc : at_ l k = 45)
    (hQ : ∀ a' w', RoundPost w0 S A cap P l head (k + 1) (ps ++ [.part (.rep (at_ l k) cl)]) tl u2 u3 u10 u11 u12 u13 u14 u15 u16 u17 u18 u19 u20 u307 a' w' → Q .normal a' w') :
    body36.wp Tryf.prog Q { tmps := #[ptr S, .bool tl, u2, u3, u4, ptr P, u6, u7, u8, u9, u10, u11, u12, u13, u14, u15, u16, u17, u18, u19, u20, u21, u22, u23, u24, u25, u26, u27, u28, u29, u30, u31, u32, u33, u34, u35, u36, u37, u38, u39, u40, u41, u42, u43, u44, u45, u46, u47, u48, u49, u50, u51, u52, u53, u54, u55, u56, u57, u58, u59, u60, u61, u62, u63, u64, u65, u66, u67, u68, u69, u70, u71, u72, u73, u74, u75, u76, u77, u78, u79, u80, u81, u82, u83, u84, u85, u86, u87, u88, u89, u90, u91, u92, u93, u94, u95, u96, u97, u98, u99, u100, u101, u102, u103, u104, u105, u106, u107, u108, u109, u110, u111, u112, u113, u114, u115, u116, u117, u118, u119, u120, u121, u122, u123, u124, u125, u126, u127, u128, u129, u130, u131, u132, u133, u134, u135, u136, u137, u138, u139, u140, u141, u142, u143, u144, u145, u146, u147, u148, u149, u150, u151, u152, u153, u154, u155, u156, u157, u158, u159, u160, u161, u162, u163, u164, u165, u166, u167, u168, u169, u170, u171, u172, u173, u174, u175, u176, u177, u178, u179, u180, u181, u182, u183, u184, u185, u186, u187, u188, u189, u190, u191, u192, u193, u194, u195, u196, u197, u198, u199, u200, u201, u202, u203, u204, u205, u206, u207, u208, u209, u210, u211, u212, u213, u214, u215, u216, u217, u218, u219, u220, u221, u222, u223, u224, u225, u226, u227, u228, u229, u230, u231, u232, u233, u234, u235, u236, u237, u238, u239, u240, u241, u242, u243, u244, u245, u246, u247, u248, u249, u250, u251, u252, u253, u254, u255, u256, u257, u258, u259, u260, u261, u262, u263, u264, u265, u266, u267, u268, u269, u270, u271, u272, u273, u274, u275, u276, u277, u278, u279, u280, u281, u282, u283, u284, u285, u286, u287, u288, u289, u290, u291, u292, u293, u294, u295, u296, u297, u298, u299, u300, u301, u302, u303, u304, u305, u306, u307], defers := [] } wr := by
  obtain ⟨i0, hi0, hz0, hz1, hz2⟩ := info_parts Tryf.info137
  have I0 := Lib.hid hi0
  have Z0 := Lib.hid hz0
  have Z1 := Lib.hid hz1
  have Z2 := Lib.hid hz2
  clear hi0 hz0 hz1 hz2
  have hlen0 := HPAT.out.len
  have hll := HPAT.out.scan.len
  have HQ := Lib.hid hQ
  clear hQ
  conv => arg 2; whnf
  conv => arg 4; dsimp only
  have hkl := at_lt (l := l) (k := k) (by rw [hc]; decide)
  rw [List.length_append] at hlen0
  simp only [List.length_cons, List.length_nil] at hlen0
  have hlt1 : ps.length < k + 1 := by omega
  have hk1l : k + 1 ≤ l.length := by omega
  have t37 : (at_ l k == 37) = false := by simp [hc]
  have t46 : (at_ l k == 46) = false := by simp [hc]
  have t91 : (at_ l k == 91) = false := by simp [hc]
  have t93 : (at_ l k == 93) = false := by simp [hc]
  have t41 : (at_ l k == 41) = false := by simp [hc]
  have t40 : (at_ l k == 40) = false := by simp [hc]
  have t42 : (at_ l k == 42) = false := by simp [hc]
  have t43 : (at_ l k == 43) = false := by simp [hc]
  have t45 : (at_ l k == 45) = true := by simp [hc]
  clear hc
  go_wp2_with fail
  refine (scan_peek HPAT.out.scan (by omega)).mono ?_
  rintro e w2 ⟨rfl, hs, hc2, hz⟩
  rw [hseen] at hs
  have hp2 := HPAT.out.moved hs hc2 HPAT.out.len
  have q2 := hp2.c2
  have z2 := hp2.lt
  have f2 := hp2.fz 2
  have HPAT2 := Lib.hid hp2
  clear hp2 hs hz HPAT hc2
  go_wp2_with fail
  refine (scan_next HPAT2.out.scan (by omega)).mono ?_
  rintro e w3 ⟨rfl, hs, hc2, hz⟩
  rw [show after l k = k + 1 from by simp only [after]; omega] at hs
  have hp2 := HPAT2.out.moved hs hc2 (by rw [List.length_append]; simp only [List.length_cons, List.length_nil]; omega)
  clear q2 z2 f2
  have q2 := hp2.c2
  have z2 := hp2.lt
  have f2 := hp2.fz 2
  have HPAT3 := Lib.hid hp2
  clear hp2 hs hz HPAT2 hc2
  clear q2 z2 f2
  obtain ⟨g, o, ui, xi, us0, rfl, rfl, hcell, hox, hop, hgp, hcap, hrc⟩ := HPAT3.out.last
  have HRC := Lib.hid hrc
  have HOX := Lib.hid hox
  have q2 : w3.cell? ⟨P, 2, none⟩ = some (.slice (some ⟨g, 0, none⟩) (ps.length + 1) c) := by have := HPAT3.out.c2; rw [List.length_append] at this; exact this
  have z2 := HPAT3.out.lt
  have f2 := HPAT3.out.fz 2
  have hn0 : (0 : Int) < (ps.length : Int) + 1 := by omega
  clear hrc hox
  go_wp2_with fail
  refine region_look (n := ps.length) (g := g) (c := c) (o := o) q2 hcell (by omega) ?_
  intro w4 v202 v203 v204 v205 v206 v207 v208 v209 v210 v211 v212 v213 v214 v215 v216 v217 hw4
  obtain ⟨m4, rfl⟩ := hw4
  have hp4 : PatAt w0 S A cap j P l head (k + 1) (ps ++ [.part (.one cl)]) (w3.drewN m4) (some ⟨g, 0, none⟩) c (us0 ++ [.iface 127 (ptr o)]) :=
    HPAT3.out.moved (HPAT3.out.scan.kept (T := fun _ => False) ((Ch.refl _ _).drewN m4) id id) ((Ch.refl _ _).drewN m4) HPAT3.out.len
  have hx4 : (w3.drewN m4).cell? ⟨o, 0, none⟩ = some (.iface ui xi) := HOX.out
  have hr4 : RepCls (w3.drewN m4) (fun b => w0.heap.size ≤ b ∧ b < (w3.drewN m4).heap.size ∧ b ≠ P ∧ ¬ blk (some (⟨g, 0, none⟩ : Addr)) = some b) (.iface ui xi) cl := HRC.out.keep (fun b hb => ⟨rfl, hb⟩)
  generalize w3.drewN m4 = w4 at *
  clear q2 z2 f2 hcell HPAT3 HRC HOX
  have q2 : w4.cell? ⟨P, 2, none⟩ = some (.slice (some ⟨g, 0, none⟩) (ps.length + 1) c) := by have := hp4.c2; rw [List.length_append] at this; exact this
  have z2 := hp4.lt
  have f2 := hp4.fz 2
  have HPAT4 := Lib.hid hp4
  have HRC4 := Lib.hid hr4
  have HOX4 := Lib.hid hx4
  clear hp4 hr4 hx4
  simp only [Exit.then]
  go_wp2_with fail
  refine region_pop (n := ps.length) (g := g) (c := c) q2 f2 z2 (by omega) hcap ?_
  intro w5 v219 v220 v221 v222 v223 v224 v225 v226 v227 v228 v229 v230 v231 v232 hw5
  have hp5 : PatAt w0 S A cap j P l head (k + 1) ps w5 (some ⟨g, 0, none⟩) c us0 := by
    rcases hw5 with rfl | rfl
    · exact HPAT4.out.pop
    · exact HPAT4.out.drew.pop
  have hch5 : Ch (· = P) w4 w5 := by
    rcases hw5 with rfl | rfl
    · exact (Ch.refl (· = P) w4).setCell (p := ⟨P, 2, none⟩) (fun _ => rfl) _
    · exact ((Ch.refl (· = P) w4).drew).setCell (p := ⟨P, 2, none⟩) (fun _ => rfl) _
  have hx5 := hch5.cell_some HOX4.out hop
  have hr5 := HRC4.out.keep (w' := w5) (ok' := fun b => w0.heap.size ≤ b ∧ b < w5.heap.size ∧ b ≠ P ∧ ¬ blk (some (⟨g, 0, none⟩ : Addr)) = some b) (fun b hb => ⟨hch5.block b hb.2.1 hb.2.2.1, hb.1, Nat.lt_of_lt_of_le hb.2.1 hch5.size, hb.2.2⟩)
  have HPAT5 := Lib.hid hp5
  have HRC5 := Lib.hid hr5
  have HOX5 := Lib.hid hx5
  clear q2 z2 f2 hp5 hr5 hx5 hch5 hw5 HPAT4 HRC4 HOX4
  simp only [Exit.then]
  go_wp2_with fail
  refine region_rep (cl := cl) (o := o) (u := ui) (x := xi) HPAT5 hl1 hk1l hlt1 HOX5.out HRC5 ?_
  intro w9 B9 c9 us9 z233 z234 z235 z236 z237 z238 z239 z240 z241 z242 z243 z244 z245 z246 z247 z248 z249 hpush
  have HPUSH := Lib.hid hpush
  clear hpush
  simp only [Exit.then]
  go_wp2_with fail
  refine HQ.out _ _ ⟨⟨_, _, _, _, HPUSH.out⟩, ?_⟩
  (repeat apply Exists.intro)
  rfl

set_option maxRecDepth 100000 in
set_option maxHeartbeats 8000000 in
theorem round_rep63 {tl : Bool} {w0 wr : World} {S A cap j P k c : Nat} {l : List UInt8} {head : Bool} {ps : List Pm.Pat} {B : Option Addr} {us : List Value} {cl : Pm.Cls} {Q : Exit → Act → World → Prop} {u2 u3 u4 u6 u7 u8 u9 u10 u11 u12 u13 u14 u15 u16 u17 u18 u19 u20 u21 u22 u23 u24 u25 u26 u27 u28 u29 u30 u31 u32 u33 u34 u35 u36 u37 u38 u39 u40 u41 u42 u43 u44 u45 u46 u47 u48 u49 u50 u51 u52 u53 u54 u55 u56 u57 u58 u59 u60 u61 u62 u63 u64 u65 u66 u67 u68 u69 u70 u71 u72 u73 u74 u75 u76 u77 u78 u79 u80 u81 u82 u83 u84 u85 u86 u87 u88 u89 u90 u91 u92 u93 u94 u95 u96 u97 u98 u99 u100 u101 u102 u103 u104 u105 u106 u107 u108 u109 u110 u111 u112 u113 u114 u115 u116 u117 u118 u119 u120 u121 u122 u123 u124 u125 u126 u127 u128 u129 u130 u131 u132 u133 u134 u135 u136 u137 u138 u139 u140 u141 u142 u143 u144 u145 u146 u147 u148 u149 u150 u151 u152 u153 u154 u155 u156 u157 u158 u159 u160 u161 u162 u163 u164 u165 u166 u167 u168 u169 u170 u171 u172 u173 u174 u175 u176 u177 u178 u179 u180 u181 u182 u183 u184 u185 u186 u187 u188 u189 u190 u191 u192 u193 u194 u195 u196 u197 u198 u199 u200 u201 u202 u203 u204 u205 u206 u207 u208 u209 u210 u211 u212 u213 u214 u215 u216 u217 u218 u219 u220 u221 u222 u223 u224 u225 u226 u227 u228 u229 u230 u231 u232 u233 u234 u235 u236 u237 u238 u239 u240 u241 u242 u243 u244 u245 u246 u247 u248 u249 u250 u251 u252 u253 u254 u255 u256 u257 u258 u259 u260 u261 u262 u263 u264 u265 u266 u267 u268 u269 u270 u271 u272 u273 u274 u275 u276 u277 u278 u279 u280 u281 u282 u283 u284 u285 u286 u287 u288 u289 u290 u291 u292 u293 u294 u295 u296 u297 u298 u299 u300 u301 u302 u303 u304 u305 u306 u307 : Value} (HPAT : Hid (PatAt w0 S A cap j P l head k (ps ++ [.part (.one cl)]) wr B c us)) (hl1 : l.length ≤ 1000) (hk : k ≤ l.length + 1) (hseen : seen l k = k) (hc : at_ l k = 63)
    (hQ : ∀ a' w', RoundPost w0 S A cap P l head (k + 1) (ps ++ [.part (.rep (at_ l k) cl)]) tl u2 u3 u10 u11 u12 u13 u14 u15 u16 u17 u18 u19 u20 u307 a' w' → Q .normal a' w') :
    body36.wp Tryf.prog Q { tmps := #[ptr S, .bool tl, u2, u3, u4, ptr P, u6, u7, u8, u9, u10, u11, u12, u13, u14, u15, u16, u17, u18, u19, u20, u21, u22, u23, u24, u25, u26, u27, u28, u29, u30, u31, u32, u33, u34, u35, u36, u37, u38, u39, u40, u41, u42, u43, u44, u45, u46, u47, u48, u49, u50, u51, u52, u53, u54, u55, u56, u57, u58, u59, u60, u61, u62, u63, u64, u65, u66, u67, u68, u69, u70, u71, u72, u73, u74, u75, u76, u77, u78, u79, u80, u81, u82, u83, u84, u85, u86, u87, u88, u89, u90, u91, u92, u93, u94, u95, u96, u97, u98, u99, u100, u101, u102, u103, u104, u105, u106, u107, u108, u109, u110, u111, u112, u113, u114, u115, u116, u117, u118, u119, u120, u121, u122, u123, u124, u125, u126, u127, u128, u129, u130, u131, u132, u133, u134, u135, u136, u137, u138, u139, u140, u141, u142, u143, u144, u145, u146, u147, u148, u149, u150, u151, u152, u153, u154, u155, u156, u157, u158, u159, u160, u161, u162, u163, u164, u165, u166, u167, u168, u169, u170, u171, u172, u173, u174, u175, u176, u177, u178, u179, u180, u181, u182, u183, u184, u185, u186, u187, u188, u189, u190, u191, u192, u193, u194, u195, u196, u197, u198, u199, u200, u201, u202, u203, u204, u205, u206, u207, u208, u209, u210, u211, u212, u213, u214, u215, u216, u217, u218, u219, u220, u221, u222, u223, u224, u225, u226, u227, u228, u229, u230, u231, u232, u233, u234, u235, u236, u237, u238, u239, u240, u241, u242, u243, u244, u245, u246, u247, u248, u249, u250, u251, u252, u253, u254, u255, u256, u257, u258, u259, u260, u261, u262, u263, u264, u265, u266, u267, u268, u269, u270, u271, u272, u273, u274, u275, u276, u277, u278, u279, u280, u281, u282, u283, u284, u285, u286, u287, u288, u289, u290, u291, u292, u293, u294, u295, u296, u297, u298, u299, u300, u301, u302, u303, u304, u305, u306, u307], defers := [] } wr := by
  obtain ⟨i0, hi0, hz0, hz1, hz2⟩ := info_parts Tryf.info137
  have I0 := Lib.hid hi0
  have Z0 := Lib.hid hz0
  have Z1 := Lib.hid hz1
  have Z2 := Lib.hid hz2
  clear hi0 hz0 hz1 hz2
  have hlen0 := HPAT.out.len
  have hll := HPAT.out.scan.len
  have HQ := Lib.hid hQ
  clear hQ
  conv => arg 2; whnf
  conv => arg 4; dsimp only
  have hkl := at_lt (l := l) (k := k) (by rw [hc]; decide)
  rw [List.length_append] at hlen0
  simp only [List.length_cons, List.length_nil] at hlen0
  have hlt1 : ps.length < k + 1 := by omega
  have hk1l : k + 1 ≤ l.length := by omega
  have t37 : (at_ l k == 37) = false := by simp [hc]
  have t46 : (at_ l k == 46) = false := by simp [hc]
  have t91 : (at_ l k == 91) = false := by simp [hc]
  have t93 : (at_ l k == 93) = false := by simp [hc]
  have t41 : (at_ l k == 41) = false := by simp [hc]
  have t40 : (at_ l k == 40) = false := by simp [hc]
  have t42 : (at_ l k == 42) = false := by simp [hc]
  have t43 : (at_ l k == 43) = false := by simp [hc]
  have t45 : (at_ l k == 45) = false := by simp [hc]
  have t63 : (at_ l k == 63) = true := by simp [hc]
  clear hc
  go_wp2_with fail
  refine (scan_peek HPAT.out.scan (by omega)).mono ?_
  rintro e w2 ⟨rfl, hs, hc2, hz⟩
  rw [hseen] at hs
  have hp2 := HPAT.out.moved hs hc2 HPAT.out.len
  have q2 := hp2.c2
  have z2 := hp2.lt
  have f2 := hp2.fz 2
  have HPAT2 := Lib.hid hp2
  clear hp2 hs hz HPAT hc2
  go_wp2_with fail
  refine (scan_next HPAT2.out.scan (by omega)).mono ?_
  rintro e w3 ⟨rfl, hs, hc2, hz⟩
  rw [show after l k = k + 1 from by simp only [after]; omega] at hs
  have hp2 := HPAT2.out.moved hs hc2 (by rw [List.length_append]; simp only [List.length_cons, List.length_nil]; omega)
  clear q2 z2 f2
  have q2 := hp2.c2
  have z2 := hp2.lt
  have f2 := hp2.fz 2
  have HPAT3 := Lib.hid hp2
  clear hp2 hs hz HPAT2 hc2
  clear q2 z2 f2
  obtain ⟨g, o, ui, xi, us0, rfl, rfl, hcell, hox, hop, hgp, hcap, hrc⟩ := HPAT3.out.last
  have HRC := Lib.hid hrc
  have HOX := Lib.hid hox
  have q2 : w3.cell? ⟨P, 2, none⟩ = some (.slice (some ⟨g, 0, none⟩) (ps.length + 1) c) := by have := HPAT3.out.c2; rw [List.length_append] at this; exact this
  have z2 := HPAT3.out.lt
  have f2 := HPAT3.out.fz 2
  have hn0 : (0 : Int) < (ps.length : Int) + 1 := by omega
  clear hrc hox
  go_wp2_with fail
  refine region_look (n := ps.length) (g := g) (c := c) (o := o) q2 hcell (by omega) ?_
  intro w4 v202 v203 v204 v205 v206 v207 v208 v209 v210 v211 v212 v213 v214 v215 v216 v217 hw4
  obtain ⟨m4, rfl⟩ := hw4
  have hp4 : PatAt w0 S A cap j P l head (k + 1) (ps ++ [.part (.one cl)]) (w3.drewN m4) (some ⟨g, 0, none⟩) c (us0 ++ [.iface 127 (ptr o)]) :=
    HPAT3.out.moved (HPAT3.out.scan.kept (T := fun _ => False) ((Ch.refl _ _).drewN m4) id id) ((Ch.refl _ _).drewN m4) HPAT3.out.len
  have hx4 : (w3.drewN m4).cell? ⟨o, 0, none⟩ = some (.iface ui xi) := HOX.out
  have hr4 : RepCls (w3.drewN m4) (fun b => w0.heap.size ≤ b ∧ b < (w3.drewN m4).heap.size ∧ b ≠ P ∧ ¬ blk (some (⟨g, 0, none⟩ : Addr)) = some b) (.iface ui xi) cl := HRC.out.keep (fun b hb => ⟨rfl, hb⟩)
  generalize w3.drewN m4 = w4 at *
  clear q2 z2 f2 hcell HPAT3 HRC HOX
  have q2 : w4.cell? ⟨P, 2, none⟩ = some (.slice (some ⟨g, 0, none⟩) (ps.length + 1) c) := by have := hp4.c2; rw [List.length_append] at this; exact this
  have z2 := hp4.lt
  have f2 := hp4.fz 2
  have HPAT4 := Lib.hid hp4
  have HRC4 := Lib.hid hr4
  have HOX4 := Lib.hid hx4
  clear hp4 hr4 hx4
  simp only [Exit.then]
  go_wp2_with fail
  refine region_pop (n := ps.length) (g := g) (c := c) q2 f2 z2 (by omega) hcap ?_
  intro w5 v219 v220 v221 v222 v223 v224 v225 v226 v227 v228 v229 v230 v231 v232 hw5
  have hp5 : PatAt w0 S A cap j P l head (k + 1) ps w5 (some ⟨g, 0, none⟩) c us0 := by
    rcases hw5 with rfl | rfl
    · exact HPAT4.out.pop
    · exact HPAT4.out.drew.pop
  have hch5 : Ch (· = P) w4 w5 := by
    rcases hw5 with rfl | rfl
    · exact (Ch.refl (· = P) w4).setCell (p := ⟨P, 2, none⟩) (fun _ => rfl) _
    · exact ((Ch.refl (· = P) w4).drew).setCell (p := ⟨P, 2, none⟩) (fun _ => rfl) _
  have hx5 := hch5.cell_some HOX4.out hop
  have hr5 := HRC4.out.keep (w' := w5) (ok' := fun b => w0.heap.size ≤ b ∧ b < w5.heap.size ∧ b ≠ P ∧ ¬ blk (some (⟨g, 0, none⟩ : Addr)) = some b) (fun b hb => ⟨hch5.block b hb.2.1 hb.2.2.1, hb.1, Nat.lt_of_lt_of_le hb.2.1 hch5.size, hb.2.2⟩)
  have HPAT5 := Lib.hid hp5
  have HRC5 := Lib.hid hr5
  have HOX5 := Lib.hid hx5
  clear q2 z2 f2 hp5 hr5 hx5 hch5 hw5 HPAT4 HRC4 HOX4
  simp only [Exit.then]
  go_wp2_with fail
  refine region_rep (cl := cl) (o := o) (u := ui) (x := xi) HPAT5 hl1 hk1l hlt1 HOX5.out HRC5 ?_
  intro w9 B9 c9 us9 z233 z234 z235 z236 z237 z238 z239 z240 z241 z242 z243 z244 z245 z246 z247 z248 z249 hpush
  have HPUSH := Lib.hid hpush
  clear hpush
  simp only [Exit.then]
  go_wp2_with fail
  refine HQ.out _ _ ⟨⟨_, _, _, _, HPUSH.out⟩, ?_⟩
  (repeat apply Exists.intro)
  rfl

end Go.Proofs.YtkbdngcbifonkaaFmt
