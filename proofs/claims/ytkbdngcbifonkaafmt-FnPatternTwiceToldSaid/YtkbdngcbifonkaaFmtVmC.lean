/-
  THE MACHINE: what a call of it gives, for every fuel.
-/
import Derived.Test.YtkbdngcbifonkaaFmtVmB
import Derived.Test.YtkbdngcbifonkaaFmtVmN
import Derived.Test.YtkbdngcbifonkaaFmtPmL
namespace Go.Proofs.YtkbdngcbifonkaaFmt
set_option linter.all false
open Go.RowKit

theorem wp_scope_ghost {P : Program} {Q : Exit → Act → World → Prop} {a : Act} {w : World} {c rest : Code} (l : Nat) (I : Nat → Act → World → Prop) (hf : findLabel c l = some rest)
    (first : c.wp P (Exit.jump l (fun a' w' => ∃ n, I n a' w') Q) a w)
    (pass : ∀ n a w, I n a w → rest.wp P (Exit.jump l (fun a' w' => ∃ n', n' < n ∧ I n' a' w') Q) a w) : (Code.scope c).wp P Q a w := by
  refine wp_scope_jumps l (fun a w => ∃ n, I n a w) (fun a w => leastOf (fun n => I n a w)) hf first ?_
  intro a w hI
  refine wp_mono (pass _ a w (leastOf_spec hI).1) ?_
  intro e a' w' hq
  cases e with
  | goto l' =>
    obtain ⟨rfl, n', hlt, hI'⟩ := hq
    exact ⟨rfl, ⟨n', hI'⟩, Nat.lt_of_le_of_lt ((leastOf_spec ⟨n', hI'⟩).2 n' hI') hlt⟩
  | normal => exact hq
  | exit id => exact hq
  | ret => exact hq
  | panic ch => exact hq
  | outgrown => exact hq

/-- The machine's state at its label. -/
structure VmSt (w0 : World) (Bd C S M g : Nat) (l : List Pm.Ins) (src : List UInt8) (r : Bool) (n : Nat) (caps' : List Nat) (f : Nat) (w : World) (pc sp : Nat) (caps : List Nat) (g1 c1 : Nat) : Prop where
  env : VmEnv w Bd C S l src
  cp : CapsAt w Bd M caps g1 c1
  ok : CapsOk caps
  spl : sp ≤ src.length
  vm : Pm.vm l src f pc sp caps = some (r, n, caps')
  ch : Ch (Tc M g) w0 w
  gg : g1 = g ∨ w0.heap.size ≤ g1

set_option maxRecDepth 100000 in
def VmJ (w0 : World) (Bd C S cap scap M rec g : Nat) (l : List Pm.Ins) (src : List UInt8) (ms : Value) (r : Bool) (n : Nat) (caps' : List Nat) (f : Nat) (a : Act) (w : World) : Prop :=
  ∃ (pc sp : Nat) (caps : List Nat) (g1 c1 : Nat) (y6 y7 y8 y9 y10 y11 y12 y13 y14 y16 y17 y18 y19 y20 y21 y22 y23 y24 y25 y26 y27 y28 y29 y30 y31 y32 y33 y34 y35 y36 y37 y38 y39 y40 y41 y42 y43 y44 y45 y46 y47 y48 y49 y50 y51 y52 y53 y54 y55 y56 y57 y58 y59 y60 y61 y62 y63 y64 y65 y66 y67 y68 y69 y70 y71 y72 y73 y74 y75 y76 y77 y78 y79 y80 y81 y82 y83 y84 y85 y86 y87 y88 y89 y90 y91 y92 y93 y94 y95 y96 y97 y98 y99 y100 y101 y102 y103 y104 y105 y106 y107 y108 y109 y110 y111 y112 y113 y114 y115 y116 y117 y118 y119 y120 y121 y122 y123 y124 y125 y126 y127 y128 y129 y130 y131 y132 y133 y134 y135 y136 y137 y138 y139 y140 y141 y142 y143 y144 y145 y146 y147 y148 y149 y150 y151 y152 y153 y154 y155 y156 y157 y158 y159 y160 y161 y162 y163 y164 y165 y166 y167 y168 y169 y170 y171 y172 y173 y174 y175 y176 y177 y178 y179 y180 y181 y182 y183 y184 y185 y186 y187 y188 y189 y190 y191 y192 y193 y194 y195 y196 y197 y198 y199 y200 y201 y202 y203 y204 y205 y206 y207 y208 y209 y210 y211 y212 y213 y214 y215 y216 y217 y218 y219 y220 y221 y222 y223 y224 y225 y226 y227 y228 y229 y230 y231 y232 y233 y234 y235 y236 y237 y238 y239 y240 y241 y242 y243 y244 y245 y246 y247 y248 y249 y250 y251 y252 y253 y254 y255 y256 : Value), a = { tmps := #[sliceAt S src.length scap, sliceAt C l.length cap, .int .i64 (pc : Int), .int .i64 (sp : Int), .int .i64 (rec : Int), ms, y6, y7, y8, y9, y10, y11, y12, y13, y14, ptr M, y16, y17, y18, y19, y20, y21, y22, y23, y24, y25, y26, y27, y28, y29, y30, y31, y32, y33, y34, y35, y36, y37, y38, y39, y40, y41, y42, y43, y44, y45, y46, y47, y48, y49, y50, y51, y52, y53, y54, y55, y56, y57, y58, y59, y60, y61, y62, y63, y64, y65, y66, y67, y68, y69, y70, y71, y72, y73, y74, y75, y76, y77, y78, y79, y80, y81, y82, y83, y84, y85, y86, y87, y88, y89, y90, y91, y92, y93, y94, y95, y96, y97, y98, y99, y100, y101, y102, y103, y104, y105, y106, y107, y108, y109, y110, y111, y112, y113, y114, y115, y116, y117, y118, y119, y120, y121, y122, y123, y124, y125, y126, y127, y128, y129, y130, y131, y132, y133, y134, y135, y136, y137, y138, y139, y140, y141, y142, y143, y144, y145, y146, y147, y148, y149, y150, y151, y152, y153, y154, y155, y156, y157, y158, y159, y160, y161, y162, y163, y164, y165, y166, y167, y168, y169, y170, y171, y172, y173, y174, y175, y176, y177, y178, y179, y180, y181, y182, y183, y184, y185, y186, y187, y188, y189, y190, y191, y192, y193, y194, y195, y196, y197, y198, y199, y200, y201, y202, y203, y204, y205, y206, y207, y208, y209, y210, y211, y212, y213, y214, y215, y216, y217, y218, y219, y220, y221, y222, y223, y224, y225, y226, y227, y228, y229, y230, y231, y232, y233, y234, y235, y236, y237, y238, y239, y240, y241, y242, y243, y244, y245, y246, y247, y248, y249, y250, y251, y252, y253, y254, y255, y256], defers := [] } ∧ VmSt w0 Bd C S M g l src r n caps' f w pc sp caps g1 c1

def VmFin (w0 : World) (Bd M g : Nat) (caps' : List Nat) (w' : World) : Prop := (∃ g' c', CapsAt w' Bd M caps' g' c' ∧ (g' = g ∨ w0.heap.size ≤ g')) ∧ Ch (Tc M g) w0 w'

set_option maxRecDepth 100000 in
theorem next_of {Q : Exit → Act → World → Prop} {w0 : World} {Bd C S cap scap M rec g f pc sp n : Nat} {l : List Pm.Ins} {src : List UInt8} {ms : Value} {r : Bool} {caps' : List Nat} {P : World → Prop}
    (hgo : ∀ a' w', (∃ f', f' < f ∧ VmJ w0 Bd C S cap scap M rec g l src ms r n caps' f' a' w') → Q (.goto 0) a' w')
    (st : ∀ w', P w' → ∃ f', f' < f ∧ ∃ caps g1 c1, VmSt w0 Bd C S M g l src r n caps' f' w' pc sp caps g1 c1) : VmNext Q S src.length scap C l.length cap rec M ms pc sp P := by
  intro w' y6 y7 y8 y9 y10 y11 y12 y13 y14 y16 y17 y18 y19 y20 y21 y22 y23 y24 y25 y26 y27 y28 y29 y30 y31 y32 y33 y34 y35 y36 y37 y38 y39 y40 y41 y42 y43 y44 y45 y46 y47 y48 y49 y50 y51 y52 y53 y54 y55 y56 y57 y58 y59 y60 y61 y62 y63 y64 y65 y66 y67 y68 y69 y70 y71 y72 y73 y74 y75 y76 y77 y78 y79 y80 y81 y82 y83 y84 y85 y86 y87 y88 y89 y90 y91 y92 y93 y94 y95 y96 y97 y98 y99 y100 y101 y102 y103 y104 y105 y106 y107 y108 y109 y110 y111 y112 y113 y114 y115 y116 y117 y118 y119 y120 y121 y122 y123 y124 y125 y126 y127 y128 y129 y130 y131 y132 y133 y134 y135 y136 y137 y138 y139 y140 y141 y142 y143 y144 y145 y146 y147 y148 y149 y150 y151 y152 y153 y154 y155 y156 y157 y158 y159 y160 y161 y162 y163 y164 y165 y166 y167 y168 y169 y170 y171 y172 y173 y174 y175 y176 y177 y178 y179 y180 y181 y182 y183 y184 y185 y186 y187 y188 y189 y190 y191 y192 y193 y194 y195 y196 y197 y198 y199 y200 y201 y202 y203 y204 y205 y206 y207 y208 y209 y210 y211 y212 y213 y214 y215 y216 y217 y218 y219 y220 y221 y222 y223 y224 y225 y226 y227 y228 y229 y230 y231 y232 y233 y234 y235 y236 y237 y238 y239 y240 y241 y242 y243 y244 y245 y246 y247 y248 y249 y250 y251 y252 y253 y254 y255 y256 hP
  obtain ⟨f', hlt, caps, g1, c1, h⟩ := st w' hP
  exact hgo _ _ ⟨f', hlt, pc, sp, caps, g1, c1, y6, y7, y8, y9, y10, y11, y12, y13, y14, y16, y17, y18, y19, y20, y21, y22, y23, y24, y25, y26, y27, y28, y29, y30, y31, y32, y33, y34, y35, y36, y37, y38, y39, y40, y41, y42, y43, y44, y45, y46, y47, y48, y49, y50, y51, y52, y53, y54, y55, y56, y57, y58, y59, y60, y61, y62, y63, y64, y65, y66, y67, y68, y69, y70, y71, y72, y73, y74, y75, y76, y77, y78, y79, y80, y81, y82, y83, y84, y85, y86, y87, y88, y89, y90, y91, y92, y93, y94, y95, y96, y97, y98, y99, y100, y101, y102, y103, y104, y105, y106, y107, y108, y109, y110, y111, y112, y113, y114, y115, y116, y117, y118, y119, y120, y121, y122, y123, y124, y125, y126, y127, y128, y129, y130, y131, y132, y133, y134, y135, y136, y137, y138, y139, y140, y141, y142, y143, y144, y145, y146, y147, y148, y149, y150, y151, y152, y153, y154, y155, y156, y157, y158, y159, y160, y161, y162, y163, y164, y165, y166, y167, y168, y169, y170, y171, y172, y173, y174, y175, y176, y177, y178, y179, y180, y181, y182, y183, y184, y185, y186, y187, y188, y189, y190, y191, y192, y193, y194, y195, y196, y197, y198, y199, y200, y201, y202, y203, y204, y205, y206, y207, y208, y209, y210, y211, y212, y213, y214, y215, y216, y217, y218, y219, y220, y221, y222, y223, y224, y225, y226, y227, y228, y229, y230, y231, y232, y233, y234, y235, y236, y237, y238, y239, y240, y241, y242, y243, y244, y245, y246, y247, y248, y249, y250, y251, y252, y253, y254, y255, y256, rfl, h⟩

set_option maxRecDepth 100000 in
/-- Behind a return: the results' slots. -/
def VmRes (M : Nat) (r : Bool) (n : Nat) (a : Act) : Prop := ∃ (y0 y1 y2 y3 y4 y5 y6 y7 y8 y9 y10 y11 y15 y16 y17 y18 y19 y20 y21 y22 y23 y24 y25 y26 y27 y28 y29 y30 y31 y32 y33 y34 y35 y36 y37 y38 y39 y40 y41 y42 y43 y44 y45 y46 y47 y48 y49 y50 y51 y52 y53 y54 y55 y56 y57 y58 y59 y60 y61 y62 y63 y64 y65 y66 y67 y68 y69 y70 y71 y72 y73 y74 y75 y76 y77 y78 y79 y80 y81 y82 y83 y84 y85 y86 y87 y88 y89 y90 y91 y92 y93 y94 y95 y96 y97 y98 y99 y100 y101 y102 y103 y104 y105 y106 y107 y108 y109 y110 y111 y112 y113 y114 y115 y116 y117 y118 y119 y120 y121 y122 y123 y124 y125 y126 y127 y128 y129 y130 y131 y132 y133 y134 y135 y136 y137 y138 y139 y140 y141 y142 y143 y144 y145 y146 y147 y148 y149 y150 y151 y152 y153 y154 y155 y156 y157 y158 y159 y160 y161 y162 y163 y164 y165 y166 y167 y168 y169 y170 y171 y172 y173 y174 y175 y176 y177 y178 y179 y180 y181 y182 y183 y184 y185 y186 y187 y188 y189 y190 y191 y192 y193 y194 y195 y196 y197 y198 y199 y200 y201 y202 y203 y204 y205 y206 y207 y208 y209 y210 y211 y212 y213 y214 y215 y216 y217 y218 y219 y220 y221 y222 y223 y224 y225 y226 y227 y228 y229 y230 y231 y232 y233 y234 y235 y236 y237 y238 y239 y240 y241 y242 y243 y244 y245 y246 y247 y248 y249 y250 y251 y252 y253 y254 y255 y256 : Value), a = { tmps := #[y0, y1, y2, y3, y4, y5, y6, y7, y8, y9, y10, y11, .bool r, .int .i64 (n : Int), ptr M, y15, y16, y17, y18, y19, y20, y21, y22, y23, y24, y25, y26, y27, y28, y29, y30, y31, y32, y33, y34, y35, y36, y37, y38, y39, y40, y41, y42, y43, y44, y45, y46, y47, y48, y49, y50, y51, y52, y53, y54, y55, y56, y57, y58, y59, y60, y61, y62, y63, y64, y65, y66, y67, y68, y69, y70, y71, y72, y73, y74, y75, y76, y77, y78, y79, y80, y81, y82, y83, y84, y85, y86, y87, y88, y89, y90, y91, y92, y93, y94, y95, y96, y97, y98, y99, y100, y101, y102, y103, y104, y105, y106, y107, y108, y109, y110, y111, y112, y113, y114, y115, y116, y117, y118, y119, y120, y121, y122, y123, y124, y125, y126, y127, y128, y129, y130, y131, y132, y133, y134, y135, y136, y137, y138, y139, y140, y141, y142, y143, y144, y145, y146, y147, y148, y149, y150, y151, y152, y153, y154, y155, y156, y157, y158, y159, y160, y161, y162, y163, y164, y165, y166, y167, y168, y169, y170, y171, y172, y173, y174, y175, y176, y177, y178, y179, y180, y181, y182, y183, y184, y185, y186, y187, y188, y189, y190, y191, y192, y193, y194, y195, y196, y197, y198, y199, y200, y201, y202, y203, y204, y205, y206, y207, y208, y209, y210, y211, y212, y213, y214, y215, y216, y217, y218, y219, y220, y221, y222, y223, y224, y225, y226, y227, y228, y229, y230, y231, y232, y233, y234, y235, y236, y237, y238, y239, y240, y241, y242, y243, y244, y245, y246, y247, y248, y249, y250, y251, y252, y253, y254, y255, y256], defers := [] }

set_option maxRecDepth 100000 in
theorem back_of {Q : Exit → Act → World → Prop} {w0 : World} {Bd M g n : Nat} {r : Bool} {caps' : List Nat} {P : World → Prop}
    (hret : ∀ a' w', VmRes M r n a' → VmFin w0 Bd M g caps' w' → Q .ret a' w') (st : ∀ w', P w' → VmFin w0 Bd M g caps' w') : VmBack Q M r n P := by
  intro w' y0 y1 y2 y3 y4 y5 y6 y7 y8 y9 y10 y11 y15 y16 y17 y18 y19 y20 y21 y22 y23 y24 y25 y26 y27 y28 y29 y30 y31 y32 y33 y34 y35 y36 y37 y38 y39 y40 y41 y42 y43 y44 y45 y46 y47 y48 y49 y50 y51 y52 y53 y54 y55 y56 y57 y58 y59 y60 y61 y62 y63 y64 y65 y66 y67 y68 y69 y70 y71 y72 y73 y74 y75 y76 y77 y78 y79 y80 y81 y82 y83 y84 y85 y86 y87 y88 y89 y90 y91 y92 y93 y94 y95 y96 y97 y98 y99 y100 y101 y102 y103 y104 y105 y106 y107 y108 y109 y110 y111 y112 y113 y114 y115 y116 y117 y118 y119 y120 y121 y122 y123 y124 y125 y126 y127 y128 y129 y130 y131 y132 y133 y134 y135 y136 y137 y138 y139 y140 y141 y142 y143 y144 y145 y146 y147 y148 y149 y150 y151 y152 y153 y154 y155 y156 y157 y158 y159 y160 y161 y162 y163 y164 y165 y166 y167 y168 y169 y170 y171 y172 y173 y174 y175 y176 y177 y178 y179 y180 y181 y182 y183 y184 y185 y186 y187 y188 y189 y190 y191 y192 y193 y194 y195 y196 y197 y198 y199 y200 y201 y202 y203 y204 y205 y206 y207 y208 y209 y210 y211 y212 y213 y214 y215 y216 y217 y218 y219 y220 y221 y222 y223 y224 y225 y226 y227 y228 y229 y230 y231 y232 y233 y234 y235 y236 y237 y238 y239 y240 y241 y242 y243 y244 y245 y246 y247 y248 y249 y250 y251 y252 y253 y254 y255 y256 hP
  exact hret _ _ ⟨y0, y1, y2, y3, y4, y5, y6, y7, y8, y9, y10, y11, y15, y16, y17, y18, y19, y20, y21, y22, y23, y24, y25, y26, y27, y28, y29, y30, y31, y32, y33, y34, y35, y36, y37, y38, y39, y40, y41, y42, y43, y44, y45, y46, y47, y48, y49, y50, y51, y52, y53, y54, y55, y56, y57, y58, y59, y60, y61, y62, y63, y64, y65, y66, y67, y68, y69, y70, y71, y72, y73, y74, y75, y76, y77, y78, y79, y80, y81, y82, y83, y84, y85, y86, y87, y88, y89, y90, y91, y92, y93, y94, y95, y96, y97, y98, y99, y100, y101, y102, y103, y104, y105, y106, y107, y108, y109, y110, y111, y112, y113, y114, y115, y116, y117, y118, y119, y120, y121, y122, y123, y124, y125, y126, y127, y128, y129, y130, y131, y132, y133, y134, y135, y136, y137, y138, y139, y140, y141, y142, y143, y144, y145, y146, y147, y148, y149, y150, y151, y152, y153, y154, y155, y156, y157, y158, y159, y160, y161, y162, y163, y164, y165, y166, y167, y168, y169, y170, y171, y172, y173, y174, y175, y176, y177, y178, y179, y180, y181, y182, y183, y184, y185, y186, y187, y188, y189, y190, y191, y192, y193, y194, y195, y196, y197, y198, y199, y200, y201, y202, y203, y204, y205, y206, y207, y208, y209, y210, y211, y212, y213, y214, y215, y216, y217, y218, y219, y220, y221, y222, y223, y224, y225, y226, y227, y228, y229, y230, y231, y232, y233, y234, y235, y236, y237, y238, y239, y240, y241, y242, y243, y244, y245, y246, y247, y248, y249, y250, y251, y252, y253, y254, y255, y256, rfl⟩ (st w' hP)

theorem VmSt.moved {w0 w w' : World} {Bd C S M g f f' n pc pc' sp sp' g1 c1 : Nat} {l : List Pm.Ins} {src : List UInt8} {r : Bool} {caps caps' : List Nat} (h : VmSt w0 Bd C S M g l src r n caps' f w pc sp caps g1 c1)
    (hc : Ch (fun _ => False) w w') (hsp : sp' ≤ src.length) (hv : Pm.vm l src f' pc' sp' caps = some (r, n, caps')) : VmSt w0 Bd C S M g l src r n caps' f' w' pc' sp' caps g1 c1 :=
  ⟨h.env.keep (hc.mono fun _ _ h => h.elim), h.cp.keep hc (fun _ _ _ => id), h.ok, hsp, hv, h.ch.trans (hc.mono fun _ _ h => h.elim), h.gg⟩

theorem VmSt.fin {w0 w w' : World} {Bd C S M g f n pc sp g1 c1 : Nat} {l : List Pm.Ins} {src : List UInt8} {r : Bool} {caps caps' : List Nat} (h : VmSt w0 Bd C S M g l src r n caps' f w pc sp caps g1 c1)
    (hc : Ch (fun _ => False) w w') (he : caps = caps') : VmFin w0 Bd M g caps' w' := by
  subst he
  exact ⟨⟨g1, c1, h.cp.keep hc (fun _ _ _ => id), h.gg⟩, h.ch.trans (hc.mono fun _ _ h => h.elim)⟩

set_option maxRecDepth 100000 in
set_option maxHeartbeats 4000000 in
theorem vm_pass {Q : Exit → Act → World → Prop} {w0 w : World} {Bd C S cap scap M rec g f pc sp n g1 c1 : Nat} {l : List Pm.Ins} {src : List UInt8} {ms : Value} {r : Bool} {caps caps' : List Nat} {u6 u7 u8 u9 u10 u11 u12 u13 u14 u16 u17 u18 u19 u20 u21 u22 u23 u24 u25 u26 u27 u28 u29 u30 u31 u32 u33 u34 u35 u36 u37 u38 u39 u40 u41 u42 u43 u44 u45 u46 u47 u48 u49 u50 u51 u52 u53 u54 u55 u56 u57 u58 u59 u60 u61 u62 u63 u64 u65 u66 u67 u68 u69 u70 u71 u72 u73 u74 u75 u76 u77 u78 u79 u80 u81 u82 u83 u84 u85 u86 u87 u88 u89 u90 u91 u92 u93 u94 u95 u96 u97 u98 u99 u100 u101 u102 u103 u104 u105 u106 u107 u108 u109 u110 u111 u112 u113 u114 u115 u116 u117 u118 u119 u120 u121 u122 u123 u124 u125 u126 u127 u128 u129 u130 u131 u132 u133 u134 u135 u136 u137 u138 u139 u140 u141 u142 u143 u144 u145 u146 u147 u148 u149 u150 u151 u152 u153 u154 u155 u156 u157 u158 u159 u160 u161 u162 u163 u164 u165 u166 u167 u168 u169 u170 u171 u172 u173 u174 u175 u176 u177 u178 u179 u180 u181 u182 u183 u184 u185 u186 u187 u188 u189 u190 u191 u192 u193 u194 u195 u196 u197 u198 u199 u200 u201 u202 u203 u204 u205 u206 u207 u208 u209 u210 u211 u212 u213 u214 u215 u216 u217 u218 u219 u220 u221 u222 u223 u224 u225 u226 u227 u228 u229 u230 u231 u232 u233 u234 u235 u236 u237 u238 u239 u240 u241 u242 u243 u244 u245 u246 u247 u248 u249 u250 u251 u252 u253 u254 u255 u256 : Value}
    (hrec : rec + f ≤ 1000001) (hsc : src.length ≤ scap) (ih : ∀ f', f' < f → VmCalls f') (st : VmSt w0 Bd C S M g l src r n caps' f w pc sp caps g1 c1)
    (hgo : ∀ a' w', (∃ f', f' < f ∧ VmJ w0 Bd C S cap scap M rec g l src ms r n caps' f' a' w') → Q (.goto 0) a' w')
    (hret : ∀ a' w', VmRes M r n a' → VmFin w0 Bd M g caps' w' → Q .ret a' w') :
    pass39.wp Tryf.prog Q { tmps := #[sliceAt S src.length scap, sliceAt C l.length cap, .int .i64 (pc : Int), .int .i64 (sp : Int), .int .i64 (rec : Int), ms, u6, u7, u8, u9, u10, u11, u12, u13, u14, ptr M, u16, u17, u18, u19, u20, u21, u22, u23, u24, u25, u26, u27, u28, u29, u30, u31, u32, u33, u34, u35, u36, u37, u38, u39, u40, u41, u42, u43, u44, u45, u46, u47, u48, u49, u50, u51, u52, u53, u54, u55, u56, u57, u58, u59, u60, u61, u62, u63, u64, u65, u66, u67, u68, u69, u70, u71, u72, u73, u74, u75, u76, u77, u78, u79, u80, u81, u82, u83, u84, u85, u86, u87, u88, u89, u90, u91, u92, u93, u94, u95, u96, u97, u98, u99, u100, u101, u102, u103, u104, u105, u106, u107, u108, u109, u110, u111, u112, u113, u114, u115, u116, u117, u118, u119, u120, u121, u122, u123, u124, u125, u126, u127, u128, u129, u130, u131, u132, u133, u134, u135, u136, u137, u138, u139, u140, u141, u142, u143, u144, u145, u146, u147, u148, u149, u150, u151, u152, u153, u154, u155, u156, u157, u158, u159, u160, u161, u162, u163, u164, u165, u166, u167, u168, u169, u170, u171, u172, u173, u174, u175, u176, u177, u178, u179, u180, u181, u182, u183, u184, u185, u186, u187, u188, u189, u190, u191, u192, u193, u194, u195, u196, u197, u198, u199, u200, u201, u202, u203, u204, u205, u206, u207, u208, u209, u210, u211, u212, u213, u214, u215, u216, u217, u218, u219, u220, u221, u222, u223, u224, u225, u226, u227, u228, u229, u230, u231, u232, u233, u234, u235, u236, u237, u238, u239, u240, u241, u242, u243, u244, u245, u246, u247, u248, u249, u250, u251, u252, u253, u254, u255, u256], defers := [] } w := by
  obtain ⟨f, rfl⟩ : ∃ f0, f = f0 + 1 := by
    cases f with
    | zero => have := st.vm; simp [Pm.vm] at this
    | succ f => exact ⟨f, rfl⟩
  have hv := st.vm
  rw [Pm.vm] at hv
  cases hi : l[pc]? with
  | none => rw [hi] at hv; simp at hv
  | some i =>
    obtain ⟨hpl, hpe⟩ := List.getElem?_eq_some_iff.1 hi
    obtain ⟨x, hx, hj⟩ := st.env.code pc hpl
    have hin := st.env.ins pc hpl
    rw [hpe] at hx hj hin
    rw [hi] at hv
    have b1 := st.env.codelen
    have b2 := st.env.srclen
    have b3 := st.spl
    have b4 := st.cp.lt
    have b5 := st.cp.g_lt
    have e1 : (pc : Int) < l.length := by omega
    have e2 : (pc : Int) ≤ 1000 := by omega
    have e3 : (0 : Int) ≤ pc := by omega
    have e4 : (0 : Int) ≤ sp := by omega
    have e5 : (sp : Int) ≤ 100000 := by omega
    have hbyte : ∀ b, src[sp]? = some b → (sp < src.length ∧ decide ((src.length : Int) ≤ sp) = false ∧ (sp : Int) < src.length ∧ S < w.heap.size ∧ w.cell? ⟨S, sp, none⟩ = some (.int .u8 (b.toNat : Nat)) ∧ IntKind.i64.wrap ((b.toNat : Nat) : Int) = ((b.toNat : Nat) : Int)) := by
      intro b hb
      obtain ⟨hlt, hbe⟩ := List.getElem?_eq_some_iff.1 hb
      refine ⟨hlt, by simp; omega, by omega, Nat.lt_of_lt_of_le st.env.sb st.env.bw, ?_, ?_⟩
      · have := st.env.bytes sp hlt
        rw [hbe] at this
        exact this
      · rw [IntKind.wrap_i64]
        have := b.toNat_lt
        omega
    cases i with
    | chr c =>
      simp only at hv
      have hset : ∀ neg es, c = .set neg es → es.length ≤ 100000 := hin
      have hr : RepCls w (· < Bd) x c := hx
      obtain ⟨u, v, fn, rfl, hm, hcf, hcall⟩ := cls_asks hset hr
      cases hb : src[sp]? with
      | none =>
        rw [hb] at hv
        simp only [Option.some.injEq, Prod.mk.injEq] at hv
        obtain ⟨rfl, rfl, hcc⟩ := hv
        have hge : (src.length : Int) ≤ sp := by have := List.getElem?_eq_none_iff.1 hb; omega
        exact vm_chr_end e1 e2 e3 e4 e5 (hj 0 (by omega)) (hj 1 (by omega)) (hj 2 (by omega)) (hj 3 (by omega)) hge (back_of hret fun w' hc => st.fin hc hcc)
      | some b =>
        rw [hb] at hv
        simp only at hv
        obtain ⟨h1, h2, h3, h4, h5, h6⟩ := hbyte b hb
        have hcl : ∀ w1, Ch (fun _ => False) w w1 → Calls Tryf.prog fn #[v, .int .i64 ((b.toNat : Nat) : Int)] w1 fun e w' => e = .returned (.bool (c.mat ((b.toNat : Nat) : Int))) ∧ w1 = w' := by
          intro w1 hc
          have hk : Keeps w w1 (· < Bd) (· < Bd) := fun b' hb' => ⟨hc.block b' (Nat.lt_of_lt_of_le hb' st.env.bw) id, hb'⟩
          obtain ⟨u', v', fn', e, hm', _, hcall'⟩ := cls_asks hset (hr.keep hk)
          obtain ⟨rfl, rfl⟩ : u = u' ∧ v = v' := by injection e with e1 e2; exact ⟨e1, e2⟩
          have hfn : fn = fn' := by
            have := (hm w).symm.trans (hm' w)
            simpa using this
          subst hfn
          exact hcall' _ (by omega)
        cases hmt : c.mat ((b.toNat : Nat) : Int) with
        | true =>
          rw [hmt] at hv
          simp only [if_true] at hv
          rw [hmt] at hcl
          exact vm_chr_yes e1 e2 e3 e4 e5 (hj 0 (by omega)) (hj 1 (by omega)) (hj 2 (by omega)) (hj 3 (by omega)) h2 h3 h1 h4 h5 hm hcf h6 (Lib.hid hcl) (next_of hgo fun w' hc => ⟨f, by omega, caps, g1, c1, st.moved hc h1 hv⟩)
        | false =>
          rw [hmt] at hv
          simp only [Bool.false_eq_true, if_false, Option.some.injEq, Prod.mk.injEq] at hv
          obtain ⟨rfl, rfl, hcc⟩ := hv
          rw [hmt] at hcl
          exact vm_chr_no e1 e2 e3 e4 e5 (hj 0 (by omega)) (hj 1 (by omega)) (hj 2 (by omega)) (hj 3 (by omega)) h2 h3 h1 h4 h5 hm hcf h6 (Lib.hid hcl) (back_of hret fun w' hc => st.fin hc hcc)
    | done =>
      simp only [Option.some.injEq, Prod.mk.injEq] at hv
      obtain ⟨rfl, rfl, hcc⟩ := hv
      exact vm_done e1 e2 e3 e4 e5 (hj 0 (by omega)) (hj 1 (by omega)) (hj 2 (by omega)) (hj 3 (by omega)) (back_of hret fun w' hc => st.fin hc hcc)
    | jmp a =>
      exact vm_jmp e1 e2 e3 e4 e5 (hj 0 (by omega)) (hj 1 (by omega)) (hj 2 (by omega)) (hj 3 (by omega)) (next_of hgo fun w' hc => ⟨f, by omega, caps, g1, c1, st.moved hc b3 hv⟩)
    | split a b =>
      simp only at hv
      cases h1 : Pm.vm l src f a sp caps with
      | none => rw [h1] at hv; simp at hv
      | some t =>
        obtain ⟨r1, n1, cs1⟩ := t
        rw [h1] at hv
        have hok := vm_ok l src st.env.ins b2 f a sp caps r1 n1 cs1 st.ok b3 h1
        have key : ∀ w1 R, Ch (fun _ => False) w w1 → w.heap.size < w1.heap.size → w1.cell? ⟨w.heap.size, 3, none⟩ = some (.int .i64 (b : Int)) → w1.cell? ⟨R, 0, none⟩ = some (ptr M) →
            Calls Tryf.prog 39 #[sliceAt S src.length scap, sliceAt C l.length cap, .int .i64 (a : Nat), .int .i64 (sp : Int), .int .i64 (rec : Int), sliceAt R 1 1] w1 fun e w' =>
              e = .returned (.tuple #[.bool r1, .int .i64 (n1 : Nat), ptr M]) ∧ (w'.cell? ⟨w.heap.size, 3, none⟩ = some (.int .i64 (b : Int)) ∧ (∃ g' c', CapsAt w' Bd M cs1 g' c' ∧ (g' = g1 ∨ w.heap.size ≤ g')) ∧ Ch (Tc M g1) w w') := by
          intro w1 R hc hlt h3 hR
          refine (ih f (by omega) w1 Bd C S cap scap R 1 M g1 c1 a sp rec n1 l src caps cs1 r1 (Lib.hid (st.env.keep (hc.mono fun _ _ h => h.elim))) (Lib.hid (st.cp.keep hc (fun _ _ _ => id))) (Lib.hid st.ok) hsc (by omega) b3 hR (Lib.hid h1)).mono ?_
          rintro e w' ⟨he, ⟨g', c', hcap, hg'⟩, hch⟩
          refine ⟨he, hch.cell_some h3 (by rintro (e | e) <;> simp at e <;> omega), ⟨g', c', hcap, hg'.imp id (fun h => by omega)⟩, (hc.mono fun _ _ h => h.elim).trans hch⟩
        cases r1 with
        | true =>
          simp only [Option.some.injEq, Prod.mk.injEq] at hv
          obtain ⟨rfl, rfl, rfl⟩ := hv
          exact vm_split_yes e1 e2 e3 e4 e5 (hj 0 (by omega)) (hj 1 (by omega)) (hj 2 (by omega)) (hj 3 (by omega)) (fun w' h => h.1) (Lib.hid key) (back_of hret fun w' h => ⟨by
            obtain ⟨_, ⟨g', c', hcap, hg'⟩, hch⟩ := h
            exact ⟨g', c', hcap, by rcases hg' with e | e; · rw [e]; exact st.gg
                                    · exact .inr (Nat.le_trans st.ch.size e)⟩, st.ch.caps st.gg h.2.2⟩)
        | false =>
          exact vm_split_no e1 e2 e3 e4 e5 (hj 0 (by omega)) (hj 1 (by omega)) (hj 2 (by omega)) (hj 3 (by omega)) (fun w' h => h.1) (Lib.hid key) (next_of hgo fun w' h => by
            obtain ⟨_, ⟨g', c', hcap, hg'⟩, hch⟩ := h
            exact ⟨f, by omega, cs1, g', c', st.env.keep (hch.mono (T' := (Bd ≤ ·)) fun i _ e => by
              rcases e with e | e
              · subst e; exact st.cp.base
              · subst e; exact b5.1), hcap, hok.1, b3, hv, st.ch.caps st.gg hch, by
              rcases hg' with e | e
              · rw [e]; exact st.gg
              · exact .inr (Nat.le_trans st.ch.size e)⟩)
    | save s =>
      simp only at hv
      have hs1 : s ≤ 100 := hin
      cases h1 : Pm.vm l src f (pc + 1) sp ((Pm.pad caps s).set s (2 * sp)) with
      | none => rw [h1] at hv; simp at hv
      | some t =>
        obtain ⟨r1, n1, cs1⟩ := t
        rw [h1] at hv
        have hok0 := st.ok.save hs1 (show sp ≤ 100000 by omega)
        have hok := vm_ok l src st.env.ins b2 f (pc + 1) sp _ r1 n1 cs1 hok0 b3 h1
        have hlen : s < cs1.length := by
          have := hok.2.1
          simp [Pm.pad] at this
          omega
        have key0 : ∀ w1, Ch (fun _ => False) w w1 → w1.heap.size = w.heap.size + 1 → w1.cell? ⟨w.heap.size, 2, none⟩ = some (.int .i64 (s : Int)) → Calls Tryf.prog 59 #[ptr M, .int .i64 (s : Nat), .int .i64 (sp : Int)] w1 fun e w' =>
            e = .returned (.int .u32 (((Pm.pad caps s).getD s 0 : Nat) : Int)) ∧ (w'.cell? ⟨w.heap.size, 2, none⟩ = some (.int .i64 (s : Int)) ∧ w.heap.size < w'.heap.size ∧ (∃ g' c', CapsAt w' Bd M ((Pm.pad caps s).set s (2 * sp)) g' c' ∧ (g' = g1 ∨ w.heap.size + 1 ≤ g')) ∧ Ch (Tc M g1) w w') := by
          intro w1 hc hsz h3
          refine (set_calls (st.cp.keep hc (fun _ _ _ => id)) hs1 (by have := st.ok.1; omega) (by omega)).mono ?_
          rintro e w' ⟨g', c', he, hcap, hch, hg'⟩
          have := hch.size
          exact ⟨he, hch.cell_some h3 (by rintro (e | e) <;> simp at e <;> omega), by omega, ⟨g', c', hcap, hg'.imp id (fun h => by omega)⟩, (hc.mono fun _ _ h => h.elim).trans hch⟩
        have key : ∀ w2 w3 R, (w2.cell? ⟨w.heap.size, 2, none⟩ = some (.int .i64 (s : Int)) ∧ w.heap.size < w2.heap.size ∧ (∃ g' c', CapsAt w2 Bd M ((Pm.pad caps s).set s (2 * sp)) g' c' ∧ (g' = g1 ∨ w.heap.size + 1 ≤ g')) ∧ Ch (Tc M g1) w w2) → Ch (fun _ => False) w2 w3 → w3.cell? ⟨R, 0, none⟩ = some (ptr M) →
            Calls Tryf.prog 39 #[sliceAt S src.length scap, sliceAt C l.length cap, .int .i64 (pc + 1 : Nat), .int .i64 (sp : Int), .int .i64 (rec : Int), sliceAt R 1 1] w3 fun e w' =>
              e = .returned (.tuple #[.bool r1, .int .i64 (n1 : Nat), ptr M]) ∧ (w'.cell? ⟨w.heap.size, 2, none⟩ = some (.int .i64 (s : Int)) ∧ (∃ g' c', CapsAt w' Bd M cs1 g' c' ∧ (g' = g1 ∨ w.heap.size ≤ g')) ∧ Ch (Tc M g1) w w') := by
          rintro w2 w3 R ⟨h3, hlt, ⟨g2, c2, hcap2, hg2⟩, hch2⟩ hc hR
          have envw2 := st.env.keep (hch2.mono (T' := (Bd ≤ ·)) fun i _ e => by
              rcases e with e | e
              · subst e; exact st.cp.base
              · subst e; exact b5.1)
          refine (ih f (by omega) w3 Bd C S cap scap R 1 M g2 c2 (pc + 1) sp rec n1 l src _ cs1 r1 (Lib.hid (envw2.keep (hc.mono fun _ _ h => h.elim))) (Lib.hid (hcap2.keep hc (fun _ _ _ => id))) (Lib.hid hok0) hsc (by omega) b3 hR (Lib.hid h1)).mono ?_
          rintro e w' ⟨he, ⟨g', c', hcap, hg'⟩, hch⟩
          have hsz := hc.size
          refine ⟨he, hch.cell_some (hc.cell_some h3 id) (by rintro (e | e) <;> simp at e <;> omega), ⟨g', c', hcap, ?_⟩, ?_⟩
          · rcases hg' with e | e
            · rw [e]; exact hg2.imp id (fun h => by omega)
            · exact .inr (by omega)
          · exact (hch2.trans (hc.mono fun _ _ h => h.elim)).caps (hg2.imp id (fun h => by omega)) hch
        cases r1 with
        | true =>
          simp only [Option.some.injEq, Prod.mk.injEq] at hv
          obtain ⟨rfl, rfl, rfl⟩ := hv
          exact vm_save_yes e1 e2 e3 e4 e5 (hj 0 (by omega)) (hj 1 (by omega)) (hj 2 (by omega)) (hj 3 (by omega)) (Lib.hid key0) (Lib.hid key) (P3 := fun _ => True) (back_of hret fun w' h => ⟨by
            obtain ⟨_, ⟨g', c', hcap, hg'⟩, hch⟩ := h
            exact ⟨g', c', hcap, by rcases hg' with e | e; · rw [e]; exact st.gg
                                    · exact .inr (Nat.le_trans st.ch.size e)⟩, st.ch.caps st.gg h.2.2⟩)
        | false =>
          simp only [Option.some.injEq, Prod.mk.injEq] at hv
          obtain ⟨rfl, rfl, rfl⟩ := hv
          refine vm_save_no e1 e2 e3 e4 e5 (hj 0 (by omega)) (hj 1 (by omega)) (hj 2 (by omega)) (hj 3 (by omega)) (Lib.hid key0) (Lib.hid key) (Lib.hid fun w4 h => h.1) (P3 := VmFin w0 Bd M g (cs1.set s ((Pm.pad caps s).getD s 0))) (Lib.hid ?_) (back_of hret fun w' h => h)
          rintro w4 ⟨_, ⟨g', c', hcap, hg'⟩, hch⟩
          refine (restore_calls hcap hlen (by have := hok.1.1; omega)).mono ?_
          rintro e w5 ⟨he, hcap5, hch5⟩
          have hgg : g' = g ∨ w0.heap.size ≤ g' := by
            rcases hg' with e | e
            · rw [e]; exact st.gg
            · exact .inr (Nat.le_trans st.ch.size e)
          exact ⟨he, ⟨g', c', hcap5, hgg⟩, (st.ch.caps st.gg hch).caps hgg (hch5.mono fun i _ e => .inr e)⟩
    | brace b e =>
      simp only at hv
      cases hb : src[sp]? with
      | none =>
        rw [hb] at hv
        simp only [Option.some.injEq, Prod.mk.injEq] at hv
        obtain ⟨rfl, rfl, hcc⟩ := hv
        have hge : (src.length : Int) ≤ sp := by have := List.getElem?_eq_none_iff.1 hb; omega
        exact vm_brace_end (c := 0) e1 e2 e3 e4 e5 (hj 0 (by omega)) (hj 1 (by omega)) (hj 2 (by omega)) (hj 3 (by omega)) hge (back_of hret fun w' hc => st.fin hc hcc)
      | some c =>
        rw [hb] at hv
        simp only at hv
        obtain ⟨h1, h2, h3, h4, h5, h6⟩ := hbyte c hb
        by_cases hcb : (c.toNat : Int) = b
        · simp only [hcb, if_true] at hv
          refine vm_brace e1 e2 e3 e4 e5 (hj 0 (by omega)) (hj 1 (by omega)) (hj 2 (by omega)) (hj 3 (by omega)) h2 h3 h1 h4 h5 h6 hcb (Lib.hid rfl) (by omega) (Lib.hid st.env.bytes) (Lib.hid ?_) (Lib.hid ?_)
          · intro k hk
            rw [hk] at hv
            have := bal_le _ _ _ _ _ hk
            simp at this
            exact next_of hgo fun w' hc => ⟨f, by omega, caps, g1, c1, st.moved hc (by omega) hv⟩
          · intro hk
            rw [hk] at hv
            simp only [Option.some.injEq, Prod.mk.injEq] at hv
            obtain ⟨rfl, rfl, hcc⟩ := hv
            exact back_of hret fun w' hc => st.fin hc hcc
        · simp only [hcb, if_false, Option.some.injEq, Prod.mk.injEq] at hv
          obtain ⟨rfl, rfl, hcc⟩ := hv
          exact vm_brace_ne e1 e2 e3 e4 e5 (hj 0 (by omega)) (hj 1 (by omega)) (hj 2 (by omega)) (hj 3 (by omega)) h2 h3 h1 h4 h5 h6 (by simpa using hcb) (back_of hret fun w' hc => st.fin hc hcc)
    | num n =>
      have hn1 : n = 1 := hin
      subst hn1
      simp only [show 2 * (1 : Int).toNat = 2 from rfl] at hv
      by_cases hl3 : caps.length ≤ 2 + 1
      · rw [if_pos hl3] at hv; cases hv
      rw [if_neg hl3] at hv
      have hok := st.ok
      have g2 : caps.getD 2 0 = caps[2] := by rw [List.getD_eq_getElem?_getD, List.getElem?_eq_getElem (by omega)]; rfl
      have g3 : caps.getD (2 + 1) 0 = caps[3] := by rw [List.getD_eq_getElem?_getD, List.getElem?_eq_getElem (by omega)]; rfl
      rw [g2, g3] at hv
      have b2' : caps[2] ≤ 1000000 := Nat.le_trans (hok.2 _ (List.getElem_mem _)) (by omega)
      have b3' : caps[3] ≤ 1000000 := Nat.le_trans (hok.2 _ (List.getElem_mem _)) (by omega)
      by_cases hz : caps[2] / 2 ≤ caps[3] / 2 ∧ caps[3] / 2 ≤ src.length
      · rw [if_pos hz] at hv
        refine vm_num (P := caps.length) e1 e2 e3 e4 e5 (hj 0 (by omega)) (hj 1 (by omega)) (hj 2 (by omega)) (hj 3 (by omega)) (by have := hok.1; omega) (by omega) hz.1 hz.2 (by omega) hsc b3 (Nat.lt_of_lt_of_le st.env.sb st.env.bw) (Lib.hid ?_) (Lib.hid ?_) (Lib.hid ?_) (Lib.hid rfl) (Lib.hid st.env.bytes) (Lib.hid ?_) (Lib.hid ?_)
        · intro w1 hc
          refine (length_calls (st.cp.keep hc (fun _ _ _ => id))).mono ?_
          rintro e w' ⟨rfl, rfl⟩
          exact ⟨rfl, rfl⟩
        · intro w1 hc
          refine (capture_calls (s := 2) (st.cp.keep hc (fun _ _ _ => id)) (by omega) b2').mono ?_
          rintro e w' ⟨rfl, rfl⟩
          exact ⟨rfl, rfl⟩
        · intro w1 hc
          refine (capture_calls (s := 3) (st.cp.keep hc (fun _ _ _ => id)) (by omega) b3').mono ?_
          rintro e w' ⟨rfl, rfl⟩
          exact ⟨rfl, rfl⟩
        · intro ht
          rw [if_pos ht] at hv
          refine next_of hgo fun w' hc => ⟨f, by omega, caps, g1, c1, st.moved hc ?_ hv⟩
          have := congrArg List.length ht
          simp only [List.length_take, List.length_drop] at this
          omega
        · intro ht
          rw [if_neg ht] at hv
          simp only [Option.some.injEq, Prod.mk.injEq] at hv
          obtain ⟨rfl, rfl, hcc⟩ := hv
          exact back_of hret fun w' hc => st.fin hc hcc
      · rw [if_neg hz] at hv
        cases hv

end Go.Proofs.YtkbdngcbifonkaaFmt
