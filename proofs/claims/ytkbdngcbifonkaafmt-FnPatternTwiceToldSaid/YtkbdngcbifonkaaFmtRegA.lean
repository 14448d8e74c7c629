/-
  THE STATEMENTS OF parsePattern THAT LEAVE THEIR ORDER OPEN: each appends one part. Lines laid by a program of this session (mkregs.py).
-/
import Derived.Test.YtkbdngcbifonkaaFmtPat
import Derived.Test.YtkbdngcbifonkaaFmtSet
import Derived.Deep.RegionHeld3
namespace Go.Proofs.YtkbdngcbifonkaaFmt
set_option linter.all false
open Go.RowKit

/-- The region of a number in a code. -/
noncomputable def rgn (id : Nat) : Code → Option Code
  | .region i ops d => if i = id then some (.region i ops d) else none
  | .seq a b => (rgn id a).orElse fun _ => rgn id b
  | .cond _ a b => (rgn id a).orElse fun _ => rgn id b
  | .block _ b => rgn id b
  | .loop b => rgn id b
  | .scope b => rgn id b
  | _ => none
noncomputable def reg36 (id : Nat) : Code := (rgn id (Tryf.f36.body.getD .skip)).getD .skip

theorem one_cell (u : TypeId) (x : Value) : ∀ y ∈ [Value.iface u x], y.oneCell' = true := by intro y hy; simp at hy; subst hy; rfl
theorem hnb3 (w : World) (o1 o2 o3 : Obj) : (((w.alloc o1).alloc o2).alloc o3).heap[w.heap.size + 2]? = some o3 := by
  have h := heap_alloc_new ((w.alloc o1).alloc o2) o3
  simpa using h
theorem hnb2 (w : World) (o1 o2 : Obj) : ((w.alloc o1).alloc o2).heap[w.heap.size + 1]? = some o2 := by
  have h := heap_alloc_new (w.alloc o1) o2
  simpa using h

theorem at_ge {l : List UInt8} {k : Nat} (hk : k < l.length) : 0 ≤ at_ l k ∧ at_ l k ≤ 255 := by
  have e : at_ l k = (l[k].toNat : Int) := by simp [at_, hk]
  have := UInt8.toNat_lt l[k]
  omega

/-- A set is read: what parsePattern asks of parseClass. -/
theorem parseClass_set {w : World} {S A cap k k' j : Nat} {l : List UInt8} {neg : Bool} {es : List Pm.Elem} (h : Scan w S A cap l k j) (hA : A < w.heap.size) (hp : at_ l k = 91) (hs : setAt l (k + 1) = some (neg, es, k')) :
    Calls Tryf.prog 55 #[ptr S, .bool true] w fun e w' => ∃ v, e = .returned v ∧ RepCls w' (fun b => w.heap.size ≤ b ∧ b < w'.heap.size) v (.set neg es) ∧ Scan w' S A cap l k' j ∧ Ch (· = S) w w' := by
  have hk : k < l.length := at_lt (by rw [hp]; decide)
  have hk1 : k + 1 < l.length := by
    rcases Nat.lt_or_ge (k + 1) l.length with hlt | hge
    · exact hlt
    · exfalso
      have hm : at_ l (k + 1) = -1 := by simp [at_]; omega
      unfold setAt at hs
      simp [hm, setGo, atomAt] at hs
  go_enter Tryf.func55, Tryf.ntmps55
  go_wp2_with fail
  refine (scan_next h (by omega)).mono ?_
  rintro e w1 ⟨rfl, hs1, hc, hz⟩
  rw [hp]
  have haf : after l k = k + 1 := by simp only [after]; omega
  rw [haf] at hs1
  clear h haf hp
  have HS := Lib.hid hs1
  have HZ := Lib.hid hz
  have HSS := Lib.hid hs
  clear hs1 hz hs
  go_wp2_with fail
  by_cases h94 : at_ l (k + 1) = 94
  · have hs := HSS.out
    unfold setAt at hs
    rw [if_pos h94] at hs
    obtain ⟨p, hp, hq⟩ := Option.map_eq_some_iff.1 hs
    cases hq
    refine (parseSet_true HS.out (by have := HZ.out; omega) hk1 (by simp [h94]) hp).mono ?_
    rintro e w2 ⟨v, rfl, hr, hs2, hc2⟩
    have HR := Lib.hid hr
    have HS2 := Lib.hid hs2
    clear hr hs2 hp hs h94
    go_wp2
    go_ret
    exact ⟨_, rfl, HR.out.keep (fun b hb => ⟨rfl, by have := HZ.out; omega, hb.2⟩), HS2.out, hc.trans hc2⟩
  · have hs := HSS.out
    unfold setAt at hs
    rw [if_neg h94] at hs
    obtain ⟨p, hp, hq⟩ := Option.map_eq_some_iff.1 hs
    cases hq
    refine (parseSet_false HS.out (by have := HZ.out; omega) hk1 (beq_no h94) hp).mono ?_
    rintro e w2 ⟨v, rfl, hr, hs2, hc2⟩
    have HR := Lib.hid hr
    have HS2 := Lib.hid hs2
    clear hr hs2 hp hs h94
    go_wp2
    go_ret
    exact ⟨_, rfl, HR.out.keep (fun b hb => ⟨rfl, by have := HZ.out; omega, hb.2⟩), HS2.out, hc.trans hc2⟩

set_option maxRecDepth 100000 in
set_option maxHeartbeats 8000000 in
theorem region_pct {w0 w : World} {S A cap j P k c : Nat} {l : List UInt8} {head : Bool} {ps : List Pm.Pat} {B : Option Addr} {us : List Value} {Q : Exit → Act → World → Prop} {u1 u2 u3 u4 u6 u7 u8 u9 u10 u11 u12 u13 u14 u15 u16 u17 u18 u19 u20 u21 u22 u23 u24 u25 u26 u27 u28 u29 u30 u31 u32 u33 u34 u35 u36 u37 u38 u39 u40 u41 u42 u43 u44 u45 u46 u47 u48 u49 u50 u51 u52 u53 u54 u55 u56 u57 u58 u59 u60 u61 u62 u63 u64 u65 u66 u67 u68 u69 u70 u71 u72 u73 u74 u75 u76 u77 u78 u79 u80 u81 u82 u83 u84 u85 u86 u87 u88 u89 u90 u91 u92 u93 u94 u95 u96 u97 u98 u99 u100 u101 u102 u103 u104 u105 u106 u107 u108 u109 u110 u111 u112 u113 u114 u115 u116 u117 u118 u119 u120 u121 u122 u123 u124 u125 u126 u127 u128 u129 u130 u131 u132 u133 u134 u135 u136 u137 u138 u139 u140 u141 u142 u143 u144 u145 u146 u147 u148 u149 u150 u151 u152 u153 u154 u155 u156 u157 u158 u159 u160 u161 u162 u163 u164 u165 u166 u167 u168 u169 u170 u171 u172 u173 u174 u175 u176 u177 u178 u179 u180 u181 u182 u183 u184 u185 u186 u187 u188 u189 u190 u191 u192 u193 u194 u195 u196 u197 u198 u199 u200 u201 u202 u203 u204 u205 u206 u207 u208 u209 u210 u211 u212 u213 u214 u215 u216 u217 u218 u219 u220 u221 u222 u223 u224 u225 u226 u227 u228 u229 u230 u231 u232 u233 u234 u235 u236 u237 u238 u239 u240 u241 u242 u243 u244 u245 u246 u247 u248 u249 u250 u251 u252 u253 u254 u255 u256 u257 u258 u259 u260 u261 u262 u263 u264 u265 u266 u267 u268 u269 u270 u271 u272 u273 u274 u275 u276 u277 u278 u279 u280 u281 u282 u283 u284 u285 u286 u287 u288 u289 u290 u291 u292 u293 u294 u295 u296 u297 u298 u299 u300 u301 u302 u303 u304 u305 u306 u307 : Value} (HPAT : Hid (PatAt w0 S A cap j P l head k ps w B c us)) (hl1 : l.length ≤ 1000) (hkl : k ≤ l.length) (hk1 : k + 1 < l.length) (H37 : Hid (at_ l k = 37))
    (hQ : ∀ (w' : World) (B' : Option Addr) (c' : Nat) (us' : List Value) (y52 y53 y54 y55 y56 y57 y58 y59 y60 y61 y62 y63 y64 y65 : Value), PatAt w0 S A cap j P l head (k + 2) (ps ++ [.part (.one (.atom (.single (at_ l (k + 1)))))]) w' B' c' us' → Q .normal { tmps := #[ptr S, u1, u2, u3, u4, ptr P, u6, u7, u8, u9, u10, u11, u12, u13, u14, u15, u16, u17, u18, u19, u20, u21, u22, u23, u24, u25, u26, u27, u28, u29, u30, u31, u32, u33, u34, u35, u36, u37, u38, u39, u40, u41, u42, u43, u44, u45, u46, u47, u48, u49, u50, u51, y52, y53, y54, y55, y56, y57, y58, y59, y60, y61, y62, y63, y64, y65, u66, u67, u68, u69, u70, u71, u72, u73, u74, u75, u76, u77, u78, u79, u80, u81, u82, u83, u84, u85, u86, u87, u88, u89, u90, u91, u92, u93, u94, u95, u96, u97, u98, u99, u100, u101, u102, u103, u104, u105, u106, u107, u108, u109, u110, u111, u112, u113, u114, u115, u116, u117, u118, u119, u120, u121, u122, u123, u124, u125, u126, u127, u128, u129, u130, u131, u132, u133, u134, u135, u136, u137, u138, u139, u140, u141, u142, u143, u144, u145, u146, u147, u148, u149, u150, u151, u152, u153, u154, u155, u156, u157, u158, u159, u160, u161, u162, u163, u164, u165, u166, u167, u168, u169, u170, u171, u172, u173, u174, u175, u176, u177, u178, u179, u180, u181, u182, u183, u184, u185, u186, u187, u188, u189, u190, u191, u192, u193, u194, u195, u196, u197, u198, u199, u200, u201, u202, u203, u204, u205, u206, u207, u208, u209, u210, u211, u212, u213, u214, u215, u216, u217, u218, u219, u220, u221, u222, u223, u224, u225, u226, u227, u228, u229, u230, u231, u232, u233, u234, u235, u236, u237, u238, u239, u240, u241, u242, u243, u244, u245, u246, u247, u248, u249, u250, u251, u252, u253, u254, u255, u256, u257, u258, u259, u260, u261, u262, u263, u264, u265, u266, u267, u268, u269, u270, u271, u272, u273, u274, u275, u276, u277, u278, u279, u280, u281, u282, u283, u284, u285, u286, u287, u288, u289, u290, u291, u292, u293, u294, u295, u296, u297, u298, u299, u300, u301, u302, u303, u304, u305, u306, u307], defers := [] } w') :
    (reg36 15).wp Tryf.prog Q { tmps := #[ptr S, u1, u2, u3, u4, ptr P, u6, u7, u8, u9, u10, u11, u12, u13, u14, u15, u16, u17, u18, u19, u20, u21, u22, u23, u24, u25, u26, u27, u28, u29, u30, u31, u32, u33, u34, u35, u36, u37, u38, u39, u40, u41, u42, u43, u44, u45, u46, u47, u48, u49, u50, u51, u52, u53, u54, u55, u56, u57, u58, u59, u60, u61, u62, u63, u64, u65, u66, u67, u68, u69, u70, u71, u72, u73, u74, u75, u76, u77, u78, u79, u80, u81, u82, u83, u84, u85, u86, u87, u88, u89, u90, u91, u92, u93, u94, u95, u96, u97, u98, u99, u100, u101, u102, u103, u104, u105, u106, u107, u108, u109, u110, u111, u112, u113, u114, u115, u116, u117, u118, u119, u120, u121, u122, u123, u124, u125, u126, u127, u128, u129, u130, u131, u132, u133, u134, u135, u136, u137, u138, u139, u140, u141, u142, u143, u144, u145, u146, u147, u148, u149, u150, u151, u152, u153, u154, u155, u156, u157, u158, u159, u160, u161, u162, u163, u164, u165, u166, u167, u168, u169, u170, u171, u172, u173, u174, u175, u176, u177, u178, u179, u180, u181, u182, u183, u184, u185, u186, u187, u188, u189, u190, u191, u192, u193, u194, u195, u196, u197, u198, u199, u200, u201, u202, u203, u204, u205, u206, u207, u208, u209, u210, u211, u212, u213, u214, u215, u216, u217, u218, u219, u220, u221, u222, u223, u224, u225, u226, u227, u228, u229, u230, u231, u232, u233, u234, u235, u236, u237, u238, u239, u240, u241, u242, u243, u244, u245, u246, u247, u248, u249, u250, u251, u252, u253, u254, u255, u256, u257, u258, u259, u260, u261, u262, u263, u264, u265, u266, u267, u268, u269, u270, u271, u272, u273, u274, u275, u276, u277, u278, u279, u280, u281, u282, u283, u284, u285, u286, u287, u288, u289, u290, u291, u292, u293, u294, u295, u296, u297, u298, u299, u300, u301, u302, u303, u304, u305, u306, u307], defers := [] } w := by
  obtain ⟨i0, hi0, hz0, hz1, hz2⟩ := info_parts Tryf.info137
  have I0 := Lib.hid hi0
  have Z0 := Lib.hid hz0
  have Z1 := Lib.hid hz1
  have Z2 := Lib.hid hz2
  clear hi0 hz0 hz1 hz2
  have q2 := HPAT.out.c2
  have z2 := HPAT.out.lt
  have f2 := HPAT.out.fz 2
  have hlen0 := HPAT.out.len
  have HQ := Lib.hid hQ
  clear hQ
  conv => arg 2; whnf
  refine wp_region_noPanic ?_
  go_region_law (first
    | (refine step_append_lies _ rfl (.tmp 56) (.tmp 62) 103 rfl w0.heap.size 137 i0 _ 1 16 Tryf.underlying103 I0.out Z0.out Z1.out Z2.out rfl (by omega) _ _ us rfl ((HPAT9.out.own.alloc _).alloc _) ⟨w3.heap.size + 1, 0, none⟩ 1 1 [.iface 127 (ptr w3.heap.size)] rfl rfl (World.news_of_block (hnb2 w3 _ _ )) (one_cell _ _) (by omega) (by unfold maxLen; omega) (by omega) (by have := HPAT9.out.base; have := HPAT9.out.lt; simp; omega) (w3.heap.size + 2) (by simp) ?_; intro g' c' w9 hown9 hgrow9 hat9 hlt9
       obtain ⟨hpush, d9, f9⟩ := (HPAT9.out.alloc (.cells #[.iface u x] 132)).pushed (by omega) (new_one HFR.out HPAT9.out.base HSZ.out HR.out) ((Ch.refl _ _).alloc _) hgrow9 (hat9.imp id (fun e => by simp; omega)) hown9
       have HPUSH := Lib.hid hpush
       clear hown9 hgrow9 hat9 hlt9 hpush)
    | (go_simp; go_at_call 55; refine (parseClass_pct HPAT.out.scan.drew hk1 H37.out true).mono ?_; rintro e w3 ⟨v, rfl, hr, hs3, hc3⟩
       obtain ⟨u, x, hux⟩ := (RepAtom.form hr)
       subst hux
       have hp3 := HPAT.out.drew.moved hs3 hc3 (by omega)
       have q3 := hp3.c2
       have z3 := hp3.lt
       have HR : Hid (RepCls w3 (fun b => w.heap.size ≤ b ∧ b < w3.heap.size) (.iface u x) (.atom (.single (at_ l (k + 1))))) := hr
       have HFR := Lib.hid HPAT.out.drew.fresh
       have HPAT9 := Lib.hid hp3
       have HSZ : Hid (w.heap.size ≤ w3.heap.size) := hc3.size
       clear hr hs3 hc3 hp3)
)
  all_goals
    refine NoPanic.normal ?_
    exact HQ.out _ _ _ _ _ _ _ _ _ _ _ _ _ _ _ _ _ _ HPUSH.out

set_option maxRecDepth 100000 in
set_option maxHeartbeats 8000000 in
theorem region_dot {w0 w : World} {S A cap j P k c : Nat} {l : List UInt8} {head : Bool} {ps : List Pm.Pat} {B : Option Addr} {us : List Value} {Q : Exit → Act → World → Prop} {u1 u2 u3 u4 u6 u7 u8 u9 u10 u11 u12 u13 u14 u15 u16 u17 u18 u19 u20 u21 u22 u23 u24 u25 u26 u27 u28 u29 u30 u31 u32 u33 u34 u35 u36 u37 u38 u39 u40 u41 u42 u43 u44 u45 u46 u47 u48 u49 u50 u51 u52 u53 u54 u55 u56 u57 u58 u59 u60 u61 u62 u63 u64 u65 u66 u67 u68 u69 u70 u71 u72 u73 u74 u75 u76 u77 u78 u79 u80 u81 u82 u83 u84 u85 u86 u87 u88 u89 u90 u91 u92 u93 u94 u95 u96 u97 u98 u99 u100 u101 u102 u103 u104 u105 u106 u107 u108 u109 u110 u111 u112 u113 u114 u115 u116 u117 u118 u119 u120 u121 u122 u123 u124 u125 u126 u127 u128 u129 u130 u131 u132 u133 u134 u135 u136 u137 u138 u139 u140 u141 u142 u143 u144 u145 u146 u147 u148 u149 u150 u151 u152 u153 u154 u155 u156 u157 u158 u159 u160 u161 u162 u163 u164 u165 u166 u167 u168 u169 u170 u171 u172 u173 u174 u175 u176 u177 u178 u179 u180 u181 u182 u183 u184 u185 u186 u187 u188 u189 u190 u191 u192 u193 u194 u195 u196 u197 u198 u199 u200 u201 u202 u203 u204 u205 u206 u207 u208 u209 u210 u211 u212 u213 u214 u215 u216 u217 u218 u219 u220 u221 u222 u223 u224 u225 u226 u227 u228 u229 u230 u231 u232 u233 u234 u235 u236 u237 u238 u239 u240 u241 u242 u243 u244 u245 u246 u247 u248 u249 u250 u251 u252 u253 u254 u255 u256 u257 u258 u259 u260 u261 u262 u263 u264 u265 u266 u267 u268 u269 u270 u271 u272 u273 u274 u275 u276 u277 u278 u279 u280 u281 u282 u283 u284 u285 u286 u287 u288 u289 u290 u291 u292 u293 u294 u295 u296 u297 u298 u299 u300 u301 u302 u303 u304 u305 u306 u307 : Value} (HPAT : Hid (PatAt w0 S A cap j P l head k ps w B c us)) (hl1 : l.length ≤ 1000) (hkl : k ≤ l.length) (hk1 : k < l.length) (H46 : Hid (at_ l k = 46))
    (hQ : ∀ (w' : World) (B' : Option Addr) (c' : Nat) (us' : List Value) (y121 y122 y123 y124 y125 y126 y127 y128 y129 y130 y131 y132 y133 y134 : Value), PatAt w0 S A cap j P l head (k + 1) (ps ++ [.part (.one .dot)]) w' B' c' us' → Q .normal { tmps := #[ptr S, u1, u2, u3, u4, ptr P, u6, u7, u8, u9, u10, u11, u12, u13, u14, u15, u16, u17, u18, u19, u20, u21, u22, u23, u24, u25, u26, u27, u28, u29, u30, u31, u32, u33, u34, u35, u36, u37, u38, u39, u40, u41, u42, u43, u44, u45, u46, u47, u48, u49, u50, u51, u52, u53, u54, u55, u56, u57, u58, u59, u60, u61, u62, u63, u64, u65, u66, u67, u68, u69, u70, u71, u72, u73, u74, u75, u76, u77, u78, u79, u80, u81, u82, u83, u84, u85, u86, u87, u88, u89, u90, u91, u92, u93, u94, u95, u96, u97, u98, u99, u100, u101, u102, u103, u104, u105, u106, u107, u108, u109, u110, u111, u112, u113, u114, u115, u116, u117, u118, u119, u120, y121, y122, y123, y124, y125, y126, y127, y128, y129, y130, y131, y132, y133, y134, u135, u136, u137, u138, u139, u140, u141, u142, u143, u144, u145, u146, u147, u148, u149, u150, u151, u152, u153, u154, u155, u156, u157, u158, u159, u160, u161, u162, u163, u164, u165, u166, u167, u168, u169, u170, u171, u172, u173, u174, u175, u176, u177, u178, u179, u180, u181, u182, u183, u184, u185, u186, u187, u188, u189, u190, u191, u192, u193, u194, u195, u196, u197, u198, u199, u200, u201, u202, u203, u204, u205, u206, u207, u208, u209, u210, u211, u212, u213, u214, u215, u216, u217, u218, u219, u220, u221, u222, u223, u224, u225, u226, u227, u228, u229, u230, u231, u232, u233, u234, u235, u236, u237, u238, u239, u240, u241, u242, u243, u244, u245, u246, u247, u248, u249, u250, u251, u252, u253, u254, u255, u256, u257, u258, u259, u260, u261, u262, u263, u264, u265, u266, u267, u268, u269, u270, u271, u272, u273, u274, u275, u276, u277, u278, u279, u280, u281, u282, u283, u284, u285, u286, u287, u288, u289, u290, u291, u292, u293, u294, u295, u296, u297, u298, u299, u300, u301, u302, u303, u304, u305, u306, u307], defers := [] } w') :
    (reg36 34).wp Tryf.prog Q { tmps := #[ptr S, u1, u2, u3, u4, ptr P, u6, u7, u8, u9, u10, u11, u12, u13, u14, u15, u16, u17, u18, u19, u20, u21, u22, u23, u24, u25, u26, u27, u28, u29, u30, u31, u32, u33, u34, u35, u36, u37, u38, u39, u40, u41, u42, u43, u44, u45, u46, u47, u48, u49, u50, u51, u52, u53, u54, u55, u56, u57, u58, u59, u60, u61, u62, u63, u64, u65, u66, u67, u68, u69, u70, u71, u72, u73, u74, u75, u76, u77, u78, u79, u80, u81, u82, u83, u84, u85, u86, u87, u88, u89, u90, u91, u92, u93, u94, u95, u96, u97, u98, u99, u100, u101, u102, u103, u104, u105, u106, u107, u108, u109, u110, u111, u112, u113, u114, u115, u116, u117, u118, u119, u120, u121, u122, u123, u124, u125, u126, u127, u128, u129, u130, u131, u132, u133, u134, u135, u136, u137, u138, u139, u140, u141, u142, u143, u144, u145, u146, u147, u148, u149, u150, u151, u152, u153, u154, u155, u156, u157, u158, u159, u160, u161, u162, u163, u164, u165, u166, u167, u168, u169, u170, u171, u172, u173, u174, u175, u176, u177, u178, u179, u180, u181, u182, u183, u184, u185, u186, u187, u188, u189, u190, u191, u192, u193, u194, u195, u196, u197, u198, u199, u200, u201, u202, u203, u204, u205, u206, u207, u208, u209, u210, u211, u212, u213, u214, u215, u216, u217, u218, u219, u220, u221, u222, u223, u224, u225, u226, u227, u228, u229, u230, u231, u232, u233, u234, u235, u236, u237, u238, u239, u240, u241, u242, u243, u244, u245, u246, u247, u248, u249, u250, u251, u252, u253, u254, u255, u256, u257, u258, u259, u260, u261, u262, u263, u264, u265, u266, u267, u268, u269, u270, u271, u272, u273, u274, u275, u276, u277, u278, u279, u280, u281, u282, u283, u284, u285, u286, u287, u288, u289, u290, u291, u292, u293, u294, u295, u296, u297, u298, u299, u300, u301, u302, u303, u304, u305, u306, u307], defers := [] } w := by
  obtain ⟨i0, hi0, hz0, hz1, hz2⟩ := info_parts Tryf.info137
  have I0 := Lib.hid hi0
  have Z0 := Lib.hid hz0
  have Z1 := Lib.hid hz1
  have Z2 := Lib.hid hz2
  clear hi0 hz0 hz1 hz2
  have q2 := HPAT.out.c2
  have z2 := HPAT.out.lt
  have f2 := HPAT.out.fz 2
  have hlen0 := HPAT.out.len
  have HQ := Lib.hid hQ
  clear hQ
  conv => arg 2; whnf
  refine wp_region_noPanic ?_
  go_region_law (first
    | (refine step_append_lies _ rfl (.tmp 125) (.tmp 131) 103 rfl w0.heap.size 137 i0 _ 1 16 Tryf.underlying103 I0.out Z0.out Z1.out Z2.out rfl (by omega) _ _ us rfl ((HPAT9.out.own.alloc _).alloc _) ⟨w3.heap.size + 1, 0, none⟩ 1 1 [.iface 127 (ptr w3.heap.size)] rfl rfl (World.news_of_block (hnb2 w3 _ _ )) (one_cell _ _) (by omega) (by unfold maxLen; omega) (by omega) (by have := HPAT9.out.base; have := HPAT9.out.lt; simp; omega) (w3.heap.size + 2) (by simp) ?_; intro g' c' w9 hown9 hgrow9 hat9 hlt9
       obtain ⟨hpush, d9, f9⟩ := (HPAT9.out.alloc (.cells #[.iface u x] 132)).pushed (by omega) (new_one HFR.out HPAT9.out.base HSZ.out HR.out) ((Ch.refl _ _).alloc _) hgrow9 (hat9.imp id (fun e => by simp; omega)) hown9
       have HPUSH := Lib.hid hpush
       clear hown9 hgrow9 hat9 hlt9 hpush)
    | (go_simp; go_at_call 55; refine (parseClass_dot HPAT.out.scan.drew hk1 H46.out).mono ?_; rintro e w3 ⟨v, rfl, hr, hs3, hc3⟩
       obtain ⟨u, x, hux⟩ := hr.form
       subst hux
       have hp3 := HPAT.out.drew.moved hs3 hc3 (by omega)
       have q3 := hp3.c2
       have z3 := hp3.lt
       have HR := Lib.hid hr
       have HFR := Lib.hid HPAT.out.drew.fresh
       have HPAT9 := Lib.hid hp3
       have HSZ : Hid (w.heap.size ≤ w3.heap.size) := hc3.size
       clear hr hs3 hc3 hp3)
)
  all_goals
    refine NoPanic.normal ?_
    exact HQ.out _ _ _ _ _ _ _ _ _ _ _ _ _ _ _ _ _ _ HPUSH.out

set_option maxRecDepth 100000 in
set_option maxHeartbeats 8000000 in
theorem region_set {w0 w : World} {S A cap j P k c : Nat} {l : List UInt8} {head : Bool} {ps : List Pm.Pat} {B : Option Addr} {us : List Value} {Q : Exit → Act → World → Prop} {u1 u2 u3 u4 u6 u7 u8 u9 u10 u11 u12 u13 u14 u15 u16 u17 u18 u19 u20 u21 u22 u23 u24 u25 u26 u27 u28 u29 u30 u31 u32 u33 u34 u35 u36 u37 u38 u39 u40 u41 u42 u43 u44 u45 u46 u47 u48 u49 u50 u51 u52 u53 u54 u55 u56 u57 u58 u59 u60 u61 u62 u63 u64 u65 u66 u67 u68 u69 u70 u71 u72 u73 u74 u75 u76 u77 u78 u79 u80 u81 u82 u83 u84 u85 u86 u87 u88 u89 u90 u91 u92 u93 u94 u95 u96 u97 u98 u99 u100 u101 u102 u103 u104 u105 u106 u107 u108 u109 u110 u111 u112 u113 u114 u115 u116 u117 u118 u119 u120 u121 u122 u123 u124 u125 u126 u127 u128 u129 u130 u131 u132 u133 u134 u135 u136 u137 u138 u139 u140 u141 u142 u143 u144 u145 u146 u147 u148 u149 u150 u151 u152 u153 u154 u155 u156 u157 u158 u159 u160 u161 u162 u163 u164 u165 u166 u167 u168 u169 u170 u171 u172 u173 u174 u175 u176 u177 u178 u179 u180 u181 u182 u183 u184 u185 u186 u187 u188 u189 u190 u191 u192 u193 u194 u195 u196 u197 u198 u199 u200 u201 u202 u203 u204 u205 u206 u207 u208 u209 u210 u211 u212 u213 u214 u215 u216 u217 u218 u219 u220 u221 u222 u223 u224 u225 u226 u227 u228 u229 u230 u231 u232 u233 u234 u235 u236 u237 u238 u239 u240 u241 u242 u243 u244 u245 u246 u247 u248 u249 u250 u251 u252 u253 u254 u255 u256 u257 u258 u259 u260 u261 u262 u263 u264 u265 u266 u267 u268 u269 u270 u271 u272 u273 u274 u275 u276 u277 u278 u279 u280 u281 u282 u283 u284 u285 u286 u287 u288 u289 u290 u291 u292 u293 u294 u295 u296 u297 u298 u299 u300 u301 u302 u303 u304 u305 u306 u307 : Value} (HPAT : Hid (PatAt w0 S A cap j P l head k ps w B c us)) (hl1 : l.length ≤ 1000) (hkl : k ≤ l.length) {neg : Bool} {es : List Pm.Elem} {k' : Nat} (hk' : k < k' ∧ k' ≤ l.length) (H91 : Hid (at_ l k = 91)) (HSET : Hid (setAt l (k + 1) = some (neg, es, k')))
    (hQ : ∀ (w' : World) (B' : Option Addr) (c' : Nat) (us' : List Value) (y121 y122 y123 y124 y125 y126 y127 y128 y129 y130 y131 y132 y133 y134 : Value), PatAt w0 S A cap j P l head k' (ps ++ [.part (.one (.set neg es))]) w' B' c' us' → Q .normal { tmps := #[ptr S, u1, u2, u3, u4, ptr P, u6, u7, u8, u9, u10, u11, u12, u13, u14, u15, u16, u17, u18, u19, u20, u21, u22, u23, u24, u25, u26, u27, u28, u29, u30, u31, u32, u33, u34, u35, u36, u37, u38, u39, u40, u41, u42, u43, u44, u45, u46, u47, u48, u49, u50, u51, u52, u53, u54, u55, u56, u57, u58, u59, u60, u61, u62, u63, u64, u65, u66, u67, u68, u69, u70, u71, u72, u73, u74, u75, u76, u77, u78, u79, u80, u81, u82, u83, u84, u85, u86, u87, u88, u89, u90, u91, u92, u93, u94, u95, u96, u97, u98, u99, u100, u101, u102, u103, u104, u105, u106, u107, u108, u109, u110, u111, u112, u113, u114, u115, u116, u117, u118, u119, u120, y121, y122, y123, y124, y125, y126, y127, y128, y129, y130, y131, y132, y133, y134, u135, u136, u137, u138, u139, u140, u141, u142, u143, u144, u145, u146, u147, u148, u149, u150, u151, u152, u153, u154, u155, u156, u157, u158, u159, u160, u161, u162, u163, u164, u165, u166, u167, u168, u169, u170, u171, u172, u173, u174, u175, u176, u177, u178, u179, u180, u181, u182, u183, u184, u185, u186, u187, u188, u189, u190, u191, u192, u193, u194, u195, u196, u197, u198, u199, u200, u201, u202, u203, u204, u205, u206, u207, u208, u209, u210, u211, u212, u213, u214, u215, u216, u217, u218, u219, u220, u221, u222, u223, u224, u225, u226, u227, u228, u229, u230, u231, u232, u233, u234, u235, u236, u237, u238, u239, u240, u241, u242, u243, u244, u245, u246, u247, u248, u249, u250, u251, u252, u253, u254, u255, u256, u257, u258, u259, u260, u261, u262, u263, u264, u265, u266, u267, u268, u269, u270, u271, u272, u273, u274, u275, u276, u277, u278, u279, u280, u281, u282, u283, u284, u285, u286, u287, u288, u289, u290, u291, u292, u293, u294, u295, u296, u297, u298, u299, u300, u301, u302, u303, u304, u305, u306, u307], defers := [] } w') :
    (reg36 34).wp Tryf.prog Q { tmps := #[ptr S, u1, u2, u3, u4, ptr P, u6, u7, u8, u9, u10, u11, u12, u13, u14, u15, u16, u17, u18, u19, u20, u21, u22, u23, u24, u25, u26, u27, u28, u29, u30, u31, u32, u33, u34, u35, u36, u37, u38, u39, u40, u41, u42, u43, u44, u45, u46, u47, u48, u49, u50, u51, u52, u53, u54, u55, u56, u57, u58, u59, u60, u61, u62, u63, u64, u65, u66, u67, u68, u69, u70, u71, u72, u73, u74, u75, u76, u77, u78, u79, u80, u81, u82, u83, u84, u85, u86, u87, u88, u89, u90, u91, u92, u93, u94, u95, u96, u97, u98, u99, u100, u101, u102, u103, u104, u105, u106, u107, u108, u109, u110, u111, u112, u113, u114, u115, u116, u117, u118, u119, u120, u121, u122, u123, u124, u125, u126, u127, u128, u129, u130, u131, u132, u133, u134, u135, u136, u137, u138, u139, u140, u141, u142, u143, u144, u145, u146, u147, u148, u149, u150, u151, u152, u153, u154, u155, u156, u157, u158, u159, u160, u161, u162, u163, u164, u165, u166, u167, u168, u169, u170, u171, u172, u173, u174, u175, u176, u177, u178, u179, u180, u181, u182, u183, u184, u185, u186, u187, u188, u189, u190, u191, u192, u193, u194, u195, u196, u197, u198, u199, u200, u201, u202, u203, u204, u205, u206, u207, u208, u209, u210, u211, u212, u213, u214, u215, u216, u217, u218, u219, u220, u221, u222, u223, u224, u225, u226, u227, u228, u229, u230, u231, u232, u233, u234, u235, u236, u237, u238, u239, u240, u241, u242, u243, u244, u245, u246, u247, u248, u249, u250, u251, u252, u253, u254, u255, u256, u257, u258, u259, u260, u261, u262, u263, u264, u265, u266, u267, u268, u269, u270, u271, u272, u273, u274, u275, u276, u277, u278, u279, u280, u281, u282, u283, u284, u285, u286, u287, u288, u289, u290, u291, u292, u293, u294, u295, u296, u297, u298, u299, u300, u301, u302, u303, u304, u305, u306, u307], defers := [] } w := by
  obtain ⟨i0, hi0, hz0, hz1, hz2⟩ := info_parts Tryf.info137
  have I0 := Lib.hid hi0
  have Z0 := Lib.hid hz0
  have Z1 := Lib.hid hz1
  have Z2 := Lib.hid hz2
  clear hi0 hz0 hz1 hz2
  have q2 := HPAT.out.c2
  have z2 := HPAT.out.lt
  have f2 := HPAT.out.fz 2
  have hlen0 := HPAT.out.len
  have hA : A < w.drew.heap.size := Nat.lt_of_lt_of_le HPAT.out.old.2 HPAT.out.ch.size
  have HQ := Lib.hid hQ
  clear hQ
  conv => arg 2; whnf
  refine wp_region_noPanic ?_
  go_region_law (first
    | (refine step_append_lies _ rfl (.tmp 125) (.tmp 131) 103 rfl w0.heap.size 137 i0 _ 1 16 Tryf.underlying103 I0.out Z0.out Z1.out Z2.out rfl (by omega) _ _ us rfl ((HPAT9.out.own.alloc _).alloc _) ⟨w3.heap.size + 1, 0, none⟩ 1 1 [.iface 127 (ptr w3.heap.size)] rfl rfl (World.news_of_block (hnb2 w3 _ _ )) (one_cell _ _) (by omega) (by unfold maxLen; omega) (by omega) (by have := HPAT9.out.base; have := HPAT9.out.lt; simp; omega) (w3.heap.size + 2) (by simp) ?_; intro g' c' w9 hown9 hgrow9 hat9 hlt9
       obtain ⟨hpush, d9, f9⟩ := (HPAT9.out.alloc (.cells #[.iface u x] 132)).pushed (by omega) (new_one HFR.out HPAT9.out.base HSZ.out HR.out) ((Ch.refl _ _).alloc _) hgrow9 (hat9.imp id (fun e => by simp; omega)) hown9
       have HPUSH := Lib.hid hpush
       clear hown9 hgrow9 hat9 hlt9 hpush)
    | (go_simp; go_at_call 55; refine (parseClass_set HPAT.out.scan.drew hA H91.out HSET.out).mono ?_; rintro e w3 ⟨v, rfl, hr, hs3, hc3⟩
       obtain ⟨u, x, hux⟩ := hr.form
       subst hux
       have hp3 := HPAT.out.drew.moved hs3 hc3 (by omega)
       have q3 := hp3.c2
       have z3 := hp3.lt
       have HR := Lib.hid hr
       have HFR := Lib.hid HPAT.out.drew.fresh
       have HPAT9 := Lib.hid hp3
       have HSZ : Hid (w.heap.size ≤ w3.heap.size) := hc3.size
       clear hr hs3 hc3 hp3)
)
  all_goals
    refine NoPanic.normal ?_
    exact HQ.out _ _ _ _ _ _ _ _ _ _ _ _ _ _ _ _ _ _ HPUSH.out

set_option maxRecDepth 100000 in
set_option maxHeartbeats 8000000 in
theorem region_num {w0 w : World} {S A cap j P k c : Nat} {l : List UInt8} {head : Bool} {ps : List Pm.Pat} {B : Option Addr} {us : List Value} {Q : Exit → Act → World → Prop} {u1 u2 u3 u4 u6 u7 u8 u9 u10 u11 u12 u13 u14 u15 u16 u17 u18 u19 u20 u21 u22 u23 u24 u25 u26 u27 u28 u29 u30 u31 u32 u33 u34 u35 u36 u37 u38 u39 u40 u41 u42 u43 u44 u45 u46 u47 u48 u49 u50 u51 u52 u53 u54 u55 u56 u57 u58 u59 u60 u61 u62 u63 u64 u65 u66 u67 u68 u69 u70 u71 u72 u73 u74 u75 u76 u77 u78 u79 u80 u81 u82 u83 u84 u85 u86 u87 u88 u89 u90 u91 u92 u93 u94 u95 u96 u97 u98 u99 u100 u101 u102 u103 u104 u105 u106 u107 u108 u109 u110 u111 u112 u113 u114 u115 u116 u117 u118 u119 u120 u121 u122 u123 u124 u125 u126 u127 u128 u129 u130 u131 u132 u133 u134 u135 u136 u137 u138 u139 u140 u141 u142 u143 u144 u145 u146 u147 u148 u149 u150 u151 u152 u153 u154 u155 u156 u157 u158 u159 u160 u161 u162 u163 u164 u165 u166 u167 u168 u169 u170 u171 u172 u173 u174 u175 u176 u177 u178 u179 u180 u181 u182 u183 u184 u185 u186 u187 u188 u189 u190 u191 u192 u193 u194 u195 u196 u197 u198 u199 u200 u201 u202 u203 u204 u205 u206 u207 u208 u209 u210 u211 u212 u213 u214 u215 u216 u217 u218 u219 u220 u221 u222 u223 u224 u225 u226 u227 u228 u229 u230 u231 u232 u233 u234 u235 u236 u237 u238 u239 u240 u241 u242 u243 u244 u245 u246 u247 u248 u249 u250 u251 u252 u253 u254 u255 u256 u257 u258 u259 u260 u261 u262 u263 u264 u265 u266 u267 u268 u269 u270 u271 u272 u273 u274 u275 u276 u277 u278 u279 u280 u281 u282 u283 u284 u285 u286 u287 u288 u289 u290 u291 u292 u293 u294 u295 u296 u297 u298 u299 u300 u301 u302 u303 u304 u305 u306 u307 : Value} (HPAT : Hid (PatAt w0 S A cap j P l head k ps w B c us)) (hl1 : l.length ≤ 1000) (hkl : k ≤ l.length) (hk1 : k < l.length)
    (hQ : ∀ (w' : World) (B' : Option Addr) (c' : Nat) (us' : List Value) (y82 y83 y84 y85 y86 y87 y88 y89 y90 y91 y92 y93 y94 y95 y96 : Value), PatAt w0 S A cap j P l head (k + 1) (ps ++ [.part (.num (at_ l k - 48))]) w' B' c' us' → Q .normal { tmps := #[ptr S, u1, u2, u3, u4, ptr P, u6, u7, u8, u9, u10, u11, u12, u13, u14, u15, u16, u17, u18, u19, u20, u21, u22, u23, u24, u25, u26, u27, u28, u29, u30, u31, u32, u33, u34, u35, u36, u37, u38, u39, u40, u41, u42, u43, u44, u45, u46, u47, u48, u49, u50, u51, u52, u53, u54, u55, u56, u57, u58, u59, u60, u61, u62, u63, u64, u65, u66, u67, u68, u69, u70, u71, u72, u73, u74, u75, u76, u77, u78, u79, u80, u81, y82, y83, y84, y85, y86, y87, y88, y89, y90, y91, y92, y93, y94, y95, y96, u97, u98, u99, u100, u101, u102, u103, u104, u105, u106, u107, u108, u109, u110, u111, u112, u113, u114, u115, u116, u117, u118, u119, u120, u121, u122, u123, u124, u125, u126, u127, u128, u129, u130, u131, u132, u133, u134, u135, u136, u137, u138, u139, u140, u141, u142, u143, u144, u145, u146, u147, u148, u149, u150, u151, u152, u153, u154, u155, u156, u157, u158, u159, u160, u161, u162, u163, u164, u165, u166, u167, u168, u169, u170, u171, u172, u173, u174, u175, u176, u177, u178, u179, u180, u181, u182, u183, u184, u185, u186, u187, u188, u189, u190, u191, u192, u193, u194, u195, u196, u197, u198, u199, u200, u201, u202, u203, u204, u205, u206, u207, u208, u209, u210, u211, u212, u213, u214, u215, u216, u217, u218, u219, u220, u221, u222, u223, u224, u225, u226, u227, u228, u229, u230, u231, u232, u233, u234, u235, u236, u237, u238, u239, u240, u241, u242, u243, u244, u245, u246, u247, u248, u249, u250, u251, u252, u253, u254, u255, u256, u257, u258, u259, u260, u261, u262, u263, u264, u265, u266, u267, u268, u269, u270, u271, u272, u273, u274, u275, u276, u277, u278, u279, u280, u281, u282, u283, u284, u285, u286, u287, u288, u289, u290, u291, u292, u293, u294, u295, u296, u297, u298, u299, u300, u301, u302, u303, u304, u305, u306, u307], defers := [] } w') :
    (reg36 27).wp Tryf.prog Q { tmps := #[ptr S, u1, u2, u3, u4, ptr P, u6, u7, u8, u9, u10, u11, u12, u13, u14, u15, u16, u17, u18, u19, u20, u21, u22, u23, u24, u25, u26, u27, u28, u29, u30, u31, u32, u33, u34, u35, u36, u37, u38, u39, u40, u41, u42, u43, u44, u45, u46, u47, u48, u49, u50, u51, u52, u53, u54, u55, u56, u57, u58, u59, u60, u61, u62, u63, u64, u65, u66, u67, u68, u69, u70, u71, u72, u73, u74, u75, u76, u77, u78, u79, u80, u81, u82, u83, u84, u85, u86, u87, u88, u89, u90, u91, u92, u93, u94, u95, u96, u97, u98, u99, u100, u101, u102, u103, u104, u105, u106, u107, u108, u109, u110, u111, u112, u113, u114, u115, u116, u117, u118, u119, u120, u121, u122, u123, u124, u125, u126, u127, u128, u129, u130, u131, u132, u133, u134, u135, u136, u137, u138, u139, u140, u141, u142, u143, u144, u145, u146, u147, u148, u149, u150, u151, u152, u153, u154, u155, u156, u157, u158, u159, u160, u161, u162, u163, u164, u165, u166, u167, u168, u169, u170, u171, u172, u173, u174, u175, u176, u177, u178, u179, u180, u181, u182, u183, u184, u185, u186, u187, u188, u189, u190, u191, u192, u193, u194, u195, u196, u197, u198, u199, u200, u201, u202, u203, u204, u205, u206, u207, u208, u209, u210, u211, u212, u213, u214, u215, u216, u217, u218, u219, u220, u221, u222, u223, u224, u225, u226, u227, u228, u229, u230, u231, u232, u233, u234, u235, u236, u237, u238, u239, u240, u241, u242, u243, u244, u245, u246, u247, u248, u249, u250, u251, u252, u253, u254, u255, u256, u257, u258, u259, u260, u261, u262, u263, u264, u265, u266, u267, u268, u269, u270, u271, u272, u273, u274, u275, u276, u277, u278, u279, u280, u281, u282, u283, u284, u285, u286, u287, u288, u289, u290, u291, u292, u293, u294, u295, u296, u297, u298, u299, u300, u301, u302, u303, u304, u305, u306, u307], defers := [] } w := by
  obtain ⟨i0, hi0, hz0, hz1, hz2⟩ := info_parts Tryf.info137
  have I0 := Lib.hid hi0
  have Z0 := Lib.hid hz0
  have Z1 := Lib.hid hz1
  have Z2 := Lib.hid hz2
  clear hi0 hz0 hz1 hz2
  have q2 := HPAT.out.c2
  have z2 := HPAT.out.lt
  have f2 := HPAT.out.fz 2
  have hlen0 := HPAT.out.len
  have hb := at_ge (l := l) (k := k) hk1
  have hw : IntKind.i64.wrap (at_ l k - 48) = at_ l k - 48 := IntWalk.i64_in _ (by omega)
  have HQ := Lib.hid hQ
  clear hQ
  conv => arg 2; whnf
  refine wp_region_noPanic ?_
  go_region_law (first
    | (refine step_append_lies _ rfl (.tmp 86) (.tmp 93) 103 rfl w0.heap.size 137 i0 _ 1 16 Tryf.underlying103 I0.out Z0.out Z1.out Z2.out rfl (by omega) _ _ us rfl ((HPAT9.out.own.alloc _).alloc _) ⟨w3.heap.size + 1, 0, none⟩ 1 1 [.iface 121 (ptr w3.heap.size)] rfl rfl (World.news_of_block (hnb2 w3 _ _ )) (one_cell _ _) (by omega) (by unfold maxLen; omega) (by omega) (by have := HPAT9.out.base; have := HPAT9.out.lt; simp; omega) (w3.heap.size + 2) (by simp) ?_; intro g' c' w9 hown9 hgrow9 hat9 hlt9
       obtain ⟨hpush, d9, f9⟩ := (HPAT9.out.alloc (.cells #[.int .i64 (at_ l k - 48)] 123)).pushed (by omega) (new_num HPAT9.out) ((Ch.refl _ _).alloc _) hgrow9 (hat9.imp id (fun e => by simp; omega)) hown9
       have HPUSH := Lib.hid hpush
       clear hown9 hgrow9 hat9 hlt9 hpush)
    | (go_simp; go_at_call 50; refine (scan_next HPAT.out.scan.drew (by omega)).mono ?_; rintro e w3 ⟨rfl, hs3, hc3, hz3⟩
       rw [show after l k = k + 1 from by simp only [after]; omega] at hs3
       have hp3 := HPAT.out.drew.moved hs3 hc3 (by omega)
       have qw3 := hp3.c2
       have zw3 := hp3.lt
       have HPAT9 := Lib.hid hp3
       clear hs3 hc3 hp3 hz3 HPAT)
)
  all_goals
    refine NoPanic.normal ?_
    exact HQ.out _ _ _ _ _ _ _ _ _ _ _ _ _ _ _ _ _ _ _ HPUSH.out

set_option maxRecDepth 100000 in
set_option maxHeartbeats 8000000 in
theorem region_brace {w0 w : World} {S A cap j P k c : Nat} {l : List UInt8} {head : Bool} {ps : List Pm.Pat} {B : Option Addr} {us : List Value} {Q : Exit → Act → World → Prop} {u1 u2 u3 u4 u6 u7 u8 u9 u10 u11 u12 u13 u14 u15 u16 u17 u18 u19 u20 u21 u22 u23 u24 u25 u26 u27 u28 u29 u30 u31 u32 u33 u34 u35 u36 u37 u38 u39 u40 u41 u42 u43 u44 u45 u46 u47 u48 u49 u50 u51 u52 u53 u54 u55 u56 u57 u58 u59 u60 u61 u62 u63 u64 u65 u66 u67 u68 u69 u70 u71 u72 u73 u74 u75 u76 u77 u78 u79 u80 u81 u82 u83 u84 u85 u86 u87 u88 u89 u90 u91 u92 u93 u94 u95 u96 u97 u98 u99 u100 u101 u102 u103 u104 u105 u106 u107 u108 u109 u110 u111 u112 u113 u114 u115 u116 u117 u118 u119 u120 u121 u122 u123 u124 u125 u126 u127 u128 u129 u130 u131 u132 u133 u134 u135 u136 u137 u138 u139 u140 u141 u142 u143 u144 u145 u146 u147 u148 u149 u150 u151 u152 u153 u154 u155 u156 u157 u158 u159 u160 u161 u162 u163 u164 u165 u166 u167 u168 u169 u170 u171 u172 u173 u174 u175 u176 u177 u178 u179 u180 u181 u182 u183 u184 u185 u186 u187 u188 u189 u190 u191 u192 u193 u194 u195 u196 u197 u198 u199 u200 u201 u202 u203 u204 u205 u206 u207 u208 u209 u210 u211 u212 u213 u214 u215 u216 u217 u218 u219 u220 u221 u222 u223 u224 u225 u226 u227 u228 u229 u230 u231 u232 u233 u234 u235 u236 u237 u238 u239 u240 u241 u242 u243 u244 u245 u246 u247 u248 u249 u250 u251 u252 u253 u254 u255 u256 u257 u258 u259 u260 u261 u262 u263 u264 u265 u266 u267 u268 u269 u270 u271 u272 u273 u274 u275 u276 u277 u278 u279 u280 u281 u282 u283 u284 u285 u286 u287 u288 u289 u290 u291 u292 u293 u294 u295 u296 u297 u298 u299 u300 u301 u302 u303 u304 u305 u306 u307 : Value} (HPAT : Hid (PatAt w0 S A cap j P l head k ps w B c us)) (hl1 : l.length ≤ 1000) (hkl : k ≤ l.length) (hk1 : k + 1 < l.length)
    (hQ : ∀ (w' : World) (B' : Option Addr) (c' : Nat) (us' : List Value) (y101 y102 y103 y104 y105 y106 y107 y108 y109 y110 y111 y112 y113 y114 y115 y116 : Value), PatAt w0 S A cap j P l head (k + 2) (ps ++ [.part (.brace (at_ l k) (at_ l (k + 1)))]) w' B' c' us' → Q .normal { tmps := #[ptr S, u1, u2, u3, u4, ptr P, u6, u7, u8, u9, u10, u11, u12, u13, u14, u15, u16, u17, u18, u19, u20, u21, u22, u23, u24, u25, u26, u27, u28, u29, u30, u31, u32, u33, u34, u35, u36, u37, u38, u39, u40, u41, u42, u43, u44, u45, u46, u47, u48, u49, u50, u51, u52, u53, u54, u55, u56, u57, u58, u59, u60, u61, u62, u63, u64, u65, u66, u67, u68, u69, u70, u71, u72, u73, u74, u75, u76, u77, u78, u79, u80, u81, u82, u83, u84, u85, u86, u87, u88, u89, u90, u91, u92, u93, u94, u95, u96, u97, u98, u99, u100, y101, y102, y103, y104, y105, y106, y107, y108, y109, y110, y111, y112, y113, y114, y115, y116, u117, u118, u119, u120, u121, u122, u123, u124, u125, u126, u127, u128, u129, u130, u131, u132, u133, u134, u135, u136, u137, u138, u139, u140, u141, u142, u143, u144, u145, u146, u147, u148, u149, u150, u151, u152, u153, u154, u155, u156, u157, u158, u159, u160, u161, u162, u163, u164, u165, u166, u167, u168, u169, u170, u171, u172, u173, u174, u175, u176, u177, u178, u179, u180, u181, u182, u183, u184, u185, u186, u187, u188, u189, u190, u191, u192, u193, u194, u195, u196, u197, u198, u199, u200, u201, u202, u203, u204, u205, u206, u207, u208, u209, u210, u211, u212, u213, u214, u215, u216, u217, u218, u219, u220, u221, u222, u223, u224, u225, u226, u227, u228, u229, u230, u231, u232, u233, u234, u235, u236, u237, u238, u239, u240, u241, u242, u243, u244, u245, u246, u247, u248, u249, u250, u251, u252, u253, u254, u255, u256, u257, u258, u259, u260, u261, u262, u263, u264, u265, u266, u267, u268, u269, u270, u271, u272, u273, u274, u275, u276, u277, u278, u279, u280, u281, u282, u283, u284, u285, u286, u287, u288, u289, u290, u291, u292, u293, u294, u295, u296, u297, u298, u299, u300, u301, u302, u303, u304, u305, u306, u307], defers := [] } w') :
    (reg36 30).wp Tryf.prog Q { tmps := #[ptr S, u1, u2, u3, u4, ptr P, u6, u7, u8, u9, u10, u11, u12, u13, u14, u15, u16, u17, u18, u19, u20, u21, u22, u23, u24, u25, u26, u27, u28, u29, u30, u31, u32, u33, u34, u35, u36, u37, u38, u39, u40, u41, u42, u43, u44, u45, u46, u47, u48, u49, u50, u51, u52, u53, u54, u55, u56, u57, u58, u59, u60, u61, u62, u63, u64, u65, u66, u67, u68, u69, u70, u71, u72, u73, u74, u75, u76, u77, u78, u79, u80, u81, u82, u83, u84, u85, u86, u87, u88, u89, u90, u91, u92, u93, u94, u95, u96, u97, u98, u99, u100, u101, u102, u103, u104, u105, u106, u107, u108, u109, u110, u111, u112, u113, u114, u115, u116, u117, u118, u119, u120, u121, u122, u123, u124, u125, u126, u127, u128, u129, u130, u131, u132, u133, u134, u135, u136, u137, u138, u139, u140, u141, u142, u143, u144, u145, u146, u147, u148, u149, u150, u151, u152, u153, u154, u155, u156, u157, u158, u159, u160, u161, u162, u163, u164, u165, u166, u167, u168, u169, u170, u171, u172, u173, u174, u175, u176, u177, u178, u179, u180, u181, u182, u183, u184, u185, u186, u187, u188, u189, u190, u191, u192, u193, u194, u195, u196, u197, u198, u199, u200, u201, u202, u203, u204, u205, u206, u207, u208, u209, u210, u211, u212, u213, u214, u215, u216, u217, u218, u219, u220, u221, u222, u223, u224, u225, u226, u227, u228, u229, u230, u231, u232, u233, u234, u235, u236, u237, u238, u239, u240, u241, u242, u243, u244, u245, u246, u247, u248, u249, u250, u251, u252, u253, u254, u255, u256, u257, u258, u259, u260, u261, u262, u263, u264, u265, u266, u267, u268, u269, u270, u271, u272, u273, u274, u275, u276, u277, u278, u279, u280, u281, u282, u283, u284, u285, u286, u287, u288, u289, u290, u291, u292, u293, u294, u295, u296, u297, u298, u299, u300, u301, u302, u303, u304, u305, u306, u307], defers := [] } w := by
  obtain ⟨i0, hi0, hz0, hz1, hz2⟩ := info_parts Tryf.info137
  have I0 := Lib.hid hi0
  have Z0 := Lib.hid hz0
  have Z1 := Lib.hid hz1
  have Z2 := Lib.hid hz2
  clear hi0 hz0 hz1 hz2
  have q2 := HPAT.out.c2
  have z2 := HPAT.out.lt
  have f2 := HPAT.out.fz 2
  have hlen0 := HPAT.out.len
  have HQ := Lib.hid hQ
  clear hQ
  conv => arg 2; whnf
  refine wp_region_noPanic ?_
  go_region_law (first
    | (refine step_append_lies _ rfl (.tmp 105) (.tmp 113) 103 rfl w0.heap.size 137 i0 _ 1 16 Tryf.underlying103 I0.out Z0.out Z1.out Z2.out rfl (by omega) _ _ us rfl ((HPAT9.out.own.alloc _).alloc _) ⟨w4.heap.size + 1, 0, none⟩ 1 1 [.iface 124 (ptr w4.heap.size)] rfl rfl (World.news_of_block (hnb2 w4 _ _ )) (one_cell _ _) (by omega) (by unfold maxLen; omega) (by omega) (by have := HPAT9.out.base; have := HPAT9.out.lt; simp; omega) (w4.heap.size + 2) (by simp) ?_; intro g' c' w9 hown9 hgrow9 hat9 hlt9
       obtain ⟨hpush, d9, f9⟩ := (HPAT9.out.alloc (.cells #[.int .i64 (at_ l k), .int .i64 (at_ l (k + 1))] 126)).pushed (by omega) (new_brace HPAT9.out) ((Ch.refl _ _).alloc _) hgrow9 (hat9.imp id (fun e => by simp; omega)) hown9
       have HPUSH := Lib.hid hpush
       clear hown9 hgrow9 hat9 hlt9 hpush)
    | (go_simp; go_at_call 50; refine (scan_next HPAT.out.scan.drew (by omega)).mono ?_; rintro e w3 ⟨rfl, hs3, hc3, hz3⟩
       rw [show after l k = k + 1 from by simp only [after]; omega] at hs3
       have hp3 := HPAT.out.drew.moved hs3 hc3 (by omega)
       have qw3 := hp3.c2
       have zw3 := hp3.lt
       have HPAT3 := Lib.hid hp3
       clear hs3 hc3 hp3 hz3 HPAT)
    | (go_simp; go_at_call 50; refine (scan_next HPAT3.out.scan (by omega)).mono ?_; rintro e w4 ⟨rfl, hs3, hc3, hz3⟩
       rw [show after l (k + 1) = (k + 1) + 1 from by simp only [after]; omega] at hs3
       have hp3 := HPAT3.out.moved hs3 hc3 (by omega)
       have qw4 := hp3.c2
       have zw4 := hp3.lt
       have HPAT9 := Lib.hid hp3
       clear hs3 hc3 hp3 hz3 HPAT3)
)
  all_goals
    refine NoPanic.normal ?_
    exact HQ.out _ _ _ _ _ _ _ _ _ _ _ _ _ _ _ _ _ _ _ _ HPUSH.out

set_option maxRecDepth 100000 in
set_option maxHeartbeats 8000000 in
theorem region_rep {w0 w : World} {S A cap j P k c : Nat} {l : List UInt8} {head : Bool} {ps : List Pm.Pat} {B : Option Addr} {us : List Value} {Q : Exit → Act → World → Prop} {u1 u2 u3 u4 u7 u9 u10 u11 u12 u13 u14 u15 u16 u17 u18 u19 u20 u21 u22 u23 u24 u25 u26 u27 u28 u29 u30 u31 u32 u33 u34 u35 u36 u37 u38 u39 u40 u41 u42 u43 u44 u45 u46 u47 u48 u49 u50 u51 u52 u53 u54 u55 u56 u57 u58 u59 u60 u61 u62 u63 u64 u65 u66 u67 u68 u69 u70 u71 u72 u73 u74 u75 u76 u77 u78 u79 u80 u81 u82 u83 u84 u85 u86 u87 u88 u89 u90 u91 u92 u93 u94 u95 u96 u97 u98 u99 u100 u101 u102 u103 u104 u105 u106 u107 u108 u109 u110 u111 u112 u113 u114 u115 u116 u117 u118 u119 u120 u121 u122 u123 u124 u125 u126 u127 u128 u129 u130 u131 u132 u133 u134 u135 u136 u137 u138 u139 u140 u141 u142 u143 u144 u145 u146 u147 u148 u149 u150 u151 u152 u153 u154 u155 u156 u157 u158 u159 u160 u161 u162 u163 u164 u165 u166 u167 u168 u169 u170 u171 u172 u173 u174 u175 u176 u177 u178 u179 u180 u181 u182 u183 u184 u185 u186 u187 u188 u189 u190 u191 u192 u193 u194 u195 u196 u197 u198 u199 u200 u201 u202 u203 u204 u205 u206 u207 u208 u209 u210 u211 u212 u213 u214 u215 u216 u217 u218 u219 u220 u221 u222 u223 u224 u225 u226 u227 u228 u229 u230 u231 u232 u233 u234 u235 u236 u237 u238 u239 u240 u241 u242 u243 u244 u245 u246 u247 u248 u249 u250 u251 u252 u253 u254 u255 u256 u257 u258 u259 u260 u261 u262 u263 u264 u265 u266 u267 u268 u269 u270 u271 u272 u273 u274 u275 u276 u277 u278 u279 u280 u281 u282 u283 u284 u285 u286 u287 u288 u289 u290 u291 u292 u293 u294 u295 u296 u297 u298 u299 u300 u301 u302 u303 u304 u305 u306 u307 : Value} {t : Int} {cl : Pm.Cls} {o : Nat} {u : TypeId} {x : Value} (HPAT : Hid (PatAt w0 S A cap j P l head k ps w B c us)) (hl1 : l.length ≤ 1000) (hkl : k ≤ l.length) (hlt : ps.length < k)
    (ho : w.cell? ⟨o, 0, none⟩ = some (.iface u x)) (HR : Hid (RepCls w (fun b => w0.heap.size ≤ b ∧ b < w.heap.size ∧ b ≠ P ∧ ¬ blk B = some b) (.iface u x) cl))
    (hQ : ∀ (w' : World) (B' : Option Addr) (c' : Nat) (us' : List Value) (y233 y234 y235 y236 y237 y238 y239 y240 y241 y242 y243 y244 y245 y246 y247 y248 y249 : Value), PatAt w0 S A cap j P l head k (ps ++ [.part (.rep t cl)]) w' B' c' us' → Q .normal { tmps := #[ptr S, u1, u2, u3, u4, ptr P, .int .i64 t, u7, ptr o, u9, u10, u11, u12, u13, u14, u15, u16, u17, u18, u19, u20, u21, u22, u23, u24, u25, u26, u27, u28, u29, u30, u31, u32, u33, u34, u35, u36, u37, u38, u39, u40, u41, u42, u43, u44, u45, u46, u47, u48, u49, u50, u51, u52, u53, u54, u55, u56, u57, u58, u59, u60, u61, u62, u63, u64, u65, u66, u67, u68, u69, u70, u71, u72, u73, u74, u75, u76, u77, u78, u79, u80, u81, u82, u83, u84, u85, u86, u87, u88, u89, u90, u91, u92, u93, u94, u95, u96, u97, u98, u99, u100, u101, u102, u103, u104, u105, u106, u107, u108, u109, u110, u111, u112, u113, u114, u115, u116, u117, u118, u119, u120, u121, u122, u123, u124, u125, u126, u127, u128, u129, u130, u131, u132, u133, u134, u135, u136, u137, u138, u139, u140, u141, u142, u143, u144, u145, u146, u147, u148, u149, u150, u151, u152, u153, u154, u155, u156, u157, u158, u159, u160, u161, u162, u163, u164, u165, u166, u167, u168, u169, u170, u171, u172, u173, u174, u175, u176, u177, u178, u179, u180, u181, u182, u183, u184, u185, u186, u187, u188, u189, u190, u191, u192, u193, u194, u195, u196, u197, u198, u199, u200, u201, u202, u203, u204, u205, u206, u207, u208, u209, u210, u211, u212, u213, u214, u215, u216, u217, u218, u219, u220, u221, u222, u223, u224, u225, u226, u227, u228, u229, u230, u231, u232, y233, y234, y235, y236, y237, y238, y239, y240, y241, y242, y243, y244, y245, y246, y247, y248, y249, u250, u251, u252, u253, u254, u255, u256, u257, u258, u259, u260, u261, u262, u263, u264, u265, u266, u267, u268, u269, u270, u271, u272, u273, u274, u275, u276, u277, u278, u279, u280, u281, u282, u283, u284, u285, u286, u287, u288, u289, u290, u291, u292, u293, u294, u295, u296, u297, u298, u299, u300, u301, u302, u303, u304, u305, u306, u307], defers := [] } w') :
    (reg36 58).wp Tryf.prog Q { tmps := #[ptr S, u1, u2, u3, u4, ptr P, .int .i64 t, u7, ptr o, u9, u10, u11, u12, u13, u14, u15, u16, u17, u18, u19, u20, u21, u22, u23, u24, u25, u26, u27, u28, u29, u30, u31, u32, u33, u34, u35, u36, u37, u38, u39, u40, u41, u42, u43, u44, u45, u46, u47, u48, u49, u50, u51, u52, u53, u54, u55, u56, u57, u58, u59, u60, u61, u62, u63, u64, u65, u66, u67, u68, u69, u70, u71, u72, u73, u74, u75, u76, u77, u78, u79, u80, u81, u82, u83, u84, u85, u86, u87, u88, u89, u90, u91, u92, u93, u94, u95, u96, u97, u98, u99, u100, u101, u102, u103, u104, u105, u106, u107, u108, u109, u110, u111, u112, u113, u114, u115, u116, u117, u118, u119, u120, u121, u122, u123, u124, u125, u126, u127, u128, u129, u130, u131, u132, u133, u134, u135, u136, u137, u138, u139, u140, u141, u142, u143, u144, u145, u146, u147, u148, u149, u150, u151, u152, u153, u154, u155, u156, u157, u158, u159, u160, u161, u162, u163, u164, u165, u166, u167, u168, u169, u170, u171, u172, u173, u174, u175, u176, u177, u178, u179, u180, u181, u182, u183, u184, u185, u186, u187, u188, u189, u190, u191, u192, u193, u194, u195, u196, u197, u198, u199, u200, u201, u202, u203, u204, u205, u206, u207, u208, u209, u210, u211, u212, u213, u214, u215, u216, u217, u218, u219, u220, u221, u222, u223, u224, u225, u226, u227, u228, u229, u230, u231, u232, u233, u234, u235, u236, u237, u238, u239, u240, u241, u242, u243, u244, u245, u246, u247, u248, u249, u250, u251, u252, u253, u254, u255, u256, u257, u258, u259, u260, u261, u262, u263, u264, u265, u266, u267, u268, u269, u270, u271, u272, u273, u274, u275, u276, u277, u278, u279, u280, u281, u282, u283, u284, u285, u286, u287, u288, u289, u290, u291, u292, u293, u294, u295, u296, u297, u298, u299, u300, u301, u302, u303, u304, u305, u306, u307], defers := [] } w := by
  obtain ⟨i0, hi0, hz0, hz1, hz2⟩ := info_parts Tryf.info137
  have I0 := Lib.hid hi0
  have Z0 := Lib.hid hz0
  have Z1 := Lib.hid hz1
  have Z2 := Lib.hid hz2
  clear hi0 hz0 hz1 hz2
  have q2 := HPAT.out.c2
  have z2 := HPAT.out.lt
  have f2 := HPAT.out.fz 2
  have hlen0 := HPAT.out.len
  have hol := World.block_lt_of_cell? w _ ho
  have HQ := Lib.hid hQ
  clear hQ
  conv => arg 2; whnf
  refine wp_region_noPanic ?_
  go_region_law (first
    | (refine step_append_lies _ rfl (.tmp 237) (.tmp 246) 103 rfl w0.heap.size 137 i0 _ 1 16 Tryf.underlying103 I0.out Z0.out Z1.out Z2.out rfl (by omega) _ _ us rfl (((HPAT.out.own.alloc _).alloc _).drew) ⟨w.heap.size + 1, 0, none⟩ 1 1 [.iface 141 (ptr w.heap.size)] rfl rfl (World.news_of_block (hnb2 w _ _)) (one_cell _ _) (by omega) (by unfold maxLen; omega) (by omega) (by have := HPAT.out.base; have := HPAT.out.lt; simp; omega) (w.heap.size + 2) (by simp) ?_; intro g' c' w9 hown9 hgrow9 hat9 hlt9
       obtain ⟨hpush, d9, f9⟩ := (HPAT.out.alloc (.cells #[.int .i64 t, .iface u x] 143)).pushed hlt (new_rep HPAT.out HR.out) ((Ch.refl _ _).alloc _).drew hgrow9 (hat9.imp id (fun e => by simp; omega)) hown9
       have HPUSH := Lib.hid hpush
       clear hown9 hgrow9 hat9 hlt9 hpush))
  all_goals
    refine NoPanic.normal ?_
    exact HQ.out _ _ _ _ _ _ _ _ _ _ _ _ _ _ _ _ _ _ _ _ _ HPUSH.out

end Go.Proofs.YtkbdngcbifonkaaFmt
