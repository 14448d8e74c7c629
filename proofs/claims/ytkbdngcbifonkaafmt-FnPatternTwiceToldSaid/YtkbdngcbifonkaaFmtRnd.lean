/-
  ONE ROUND OF parsePattern's LOOP, a lemma a kind of part. Lines laid by a program of this session (mkround.py).
-/
import Derived.Test.YtkbdngcbifonkaaFmtRegA
namespace Go.Proofs.YtkbdngcbifonkaaFmt
set_option linter.all false
open Go.RowKit

/-- The body of the first loop in a code. -/
noncomputable def lpn : Code → Option Code
  | .seq a b => (lpn a).orElse fun _ => lpn b
  | .cond _ a b => (lpn a).orElse fun _ => lpn b
  | .block _ b => lpn b
  | .loop b => some b
  | .scope b => lpn b
  | _ => none
noncomputable def body36 : Code := (lpn (Tryf.f36.body.getD .skip)).getD .skip

theorem new_one_at {w0 w : World} {P m N : Nat} {B : Option Addr} {v : Value} {cl : Pm.Cls} (hN : w.heap.size = N) (hf : Fresh P B m) (hb : w0.heap.size ≤ P) (hm : m ≤ w.heap.size) (hr : RepCls w (fun b => m ≤ b ∧ b < w.heap.size) v cl) :
    RepPat (w.alloc (.cells #[v] 132)) (fun b => w0.heap.size ≤ b ∧ b < (w.alloc (.cells #[v] 132)).heap.size ∧ b ≠ P ∧ ¬ blk B = some b) (.iface 127 (ptr N)) (.part (.one cl)) := by
  subst hN
  exact new_one hf hb hm hr

theorem own_cap {w : World} {base : Nat} {e : TypeId} {size g n c m : Nat} {xs : List Value} (h : w.ownsRow base e size (.slice (some ⟨g, 0, none⟩) n c) m xs) : m ≤ c := by
  rcases h.2 with ⟨h2, _⟩ | ⟨g', cap', cur, hv, _, _, hn, _⟩
  · cases h2
  · cases hv
    exact hn

theorem ta_single (v : Value) (w : World) : (Instr.typeAssert (.iface 127 v) 137 127 true).run Tryf.prog w = .ok (.tuple #[v, .bool true]) w := by kernel_rfl

set_option maxRecDepth 100000 in
/-- Behind a round. -/
def RoundPost (w0 : World) (S A cap P : Nat) (l : List UInt8) (head : Bool) (k : Nat) (ps : List Pm.Pat) (tl : Bool) (u2 u3 u10 u11 u12 u13 u14 u15 u16 u17 u18 u19 u20 u307 : Value) (a' : Act) (w' : World) : Prop :=
  (∃ j B c us, PatAt w0 S A cap j P l head k ps w' B c us) ∧ ∃ y4 y6 y7 y8 y9 y21 y22 y23 y24 y25 y26 y27 y28 y29 y30 y31 y32 y33 y34 y35 y36 y37 y38 y39 y40 y41 y42 y43 y44 y45 y46 y47 y48 y49 y50 y51 y52 y53 y54 y55 y56 y57 y58 y59 y60 y61 y62 y63 y64 y65 y66 y67 y68 y69 y70 y71 y72 y73 y74 y75 y76 y77 y78 y79 y80 y81 y82 y83 y84 y85 y86 y87 y88 y89 y90 y91 y92 y93 y94 y95 y96 y97 y98 y99 y100 y101 y102 y103 y104 y105 y106 y107 y108 y109 y110 y111 y112 y113 y114 y115 y116 y117 y118 y119 y120 y121 y122 y123 y124 y125 y126 y127 y128 y129 y130 y131 y132 y133 y134 y135 y136 y137 y138 y139 y140 y141 y142 y143 y144 y145 y146 y147 y148 y149 y150 y151 y152 y153 y154 y155 y156 y157 y158 y159 y160 y161 y162 y163 y164 y165 y166 y167 y168 y169 y170 y171 y172 y173 y174 y175 y176 y177 y178 y179 y180 y181 y182 y183 y184 y185 y186 y187 y188 y189 y190 y191 y192 y193 y194 y195 y196 y197 y198 y199 y200 y201 y202 y203 y204 y205 y206 y207 y208 y209 y210 y211 y212 y213 y214 y215 y216 y217 y218 y219 y220 y221 y222 y223 y224 y225 y226 y227 y228 y229 y230 y231 y232 y233 y234 y235 y236 y237 y238 y239 y240 y241 y242 y243 y244 y245 y246 y247 y248 y249 y250 y251 y252 y253 y254 y255 y256 y257 y258 y259 y260 y261 y262 y263 y264 y265 y266 y267 y268 y269 y270 y271 y272 y273 y274 y275 y276 y277 y278 y279 y280 y281 y282 y283 y284 y285 y286 y287 y288 y289 y290 y291 y292 y293 y294 y295 y296 y297 y298 y299 y300 y301 y302 y303 y304 y305 y306 : Value, a' = { tmps := #[ptr S, .bool tl, u2, u3, y4, ptr P, y6, y7, y8, y9, u10, u11, u12, u13, u14, u15, u16, u17, u18, u19, u20, y21, y22, y23, y24, y25, y26, y27, y28, y29, y30, y31, y32, y33, y34, y35, y36, y37, y38, y39, y40, y41, y42, y43, y44, y45, y46, y47, y48, y49, y50, y51, y52, y53, y54, y55, y56, y57, y58, y59, y60, y61, y62, y63, y64, y65, y66, y67, y68, y69, y70, y71, y72, y73, y74, y75, y76, y77, y78, y79, y80, y81, y82, y83, y84, y85, y86, y87, y88, y89, y90, y91, y92, y93, y94, y95, y96, y97, y98, y99, y100, y101, y102, y103, y104, y105, y106, y107, y108, y109, y110, y111, y112, y113, y114, y115, y116, y117, y118, y119, y120, y121, y122, y123, y124, y125, y126, y127, y128, y129, y130, y131, y132, y133, y134, y135, y136, y137, y138, y139, y140, y141, y142, y143, y144, y145, y146, y147, y148, y149, y150, y151, y152, y153, y154, y155, y156, y157, y158, y159, y160, y161, y162, y163, y164, y165, y166, y167, y168, y169, y170, y171, y172, y173, y174, y175, y176, y177, y178, y179, y180, y181, y182, y183, y184, y185, y186, y187, y188, y189, y190, y191, y192, y193, y194, y195, y196, y197, y198, y199, y200, y201, y202, y203, y204, y205, y206, y207, y208, y209, y210, y211, y212, y213, y214, y215, y216, y217, y218, y219, y220, y221, y222, y223, y224, y225, y226, y227, y228, y229, y230, y231, y232, y233, y234, y235, y236, y237, y238, y239, y240, y241, y242, y243, y244, y245, y246, y247, y248, y249, y250, y251, y252, y253, y254, y255, y256, y257, y258, y259, y260, y261, y262, y263, y264, y265, y266, y267, y268, y269, y270, y271, y272, y273, y274, y275, y276, y277, y278, y279, y280, y281, y282, y283, y284, y285, y286, y287, y288, y289, y290, y291, y292, y293, y294, y295, y296, y297, y298, y299, y300, y301, y302, y303, y304, y305, y306, u307], defers := [] }

end Go.Proofs.YtkbdngcbifonkaaFmt
