/-
  bufio.Reader.fill OVER strings.Reader: the whole text at the first call, its end at the second.
-/
import Derived.Test.YtbgjjbffpckimaaDoorBir
import Derived.Laws.IdiomCopy
import Derived.Deep.LoopGhost
namespace Go.Proofs.YtbgjjbffpckimaaDoor
set_option linter.all false
open Go.RowKit

/-- 'copy' of nothing, as a step of a region. -/
theorem step_copy_none {P : Program} {ops : Array Oper} {o : Oper} {a : Act} {w : World} {K : Act → World → Prop} {Q : Exit → Act → World → Prop} {E : Prop}
    (hg : o.guard = none) (d x : Operand) (dT sT : TypeId) (hop : o.op = Op.call { callee := Callee.builtin Builtin.copy, args := #[d, x], argTypes := #[dT, sT] })
    (elem : TypeId) (hu : P.underlying dT = some (.slice elem)) (hs : (P.info? elem).map (·.size) = some 1)
    (da xa : Option Addr) (dLen dCap sCap : Nat) (hd : a.eval d = .slice da dLen dCap) (hx : a.eval x = .slice xa 0 sCap)
    (hK : K (a.put o.dst (goInt 0)) w) :
    if Region.wanted o (yielded ops a.tmps) = true then Oper.wp P o a w K Q else E := by
  have hw : Region.wanted o (yielded ops a.tmps) = true := by simp [Region.wanted, hg]
  rw [if_pos hw]
  have hrun := run_copy_none (P := P) w dT sT o.type elem da xa dLen dCap 0 sCap hu hs (by simp)
  unfold Oper.wp
  simp [execOp, hop, resolve, invoke, builtin, hd, hx, hrun, Result.andThen]
  exact hK

/-- A call of a Go function, as a step of a region. -/
theorem step_enter {P : Program} {ops : Array Oper} {o : Oper} {a : Act} {w : World} {K : Act → World → Prop} {Q : Exit → Act → World → Prop} {E : Prop}
    (hg : o.guard = none) {f : FuncId} {args : Array Value} (hrun : (execOp a.eval o).run P w = .ok (.enter f args) w) {r : Value} {R : World → Prop}
    (hc : Calls P f args w fun e w' => e = .returned r ∧ R w') (hK : ∀ w', R w' → K (a.put o.dst r) w') :
    if Region.wanted o (yielded ops a.tmps) = true then Oper.wp P o a w K Q else E := by
  have hw : Region.wanted o (yielded ops a.tmps) = true := by simp [Region.wanted, hg]
  rw [if_pos hw]
  unfold Oper.wp
  rw [hrun]
  refine hc.mono ?_
  rintro e w' ⟨rfl, hR⟩
  exact hK w' hR
theorem inv_read (x : Value) (w : World) : (method 267 35 x "Read").run Tryd.prog w = .ok (106, x) w := by kernel_rfl
noncomputable def reg53 (id : Nat) : Code := (rgd id (Tryd.f53.body.getD .skip)).getD .skip

set_option maxRecDepth 100000 in
set_option maxHeartbeats 4000000 in
theorem fill_r1 {w : World} {B F r : Nat} {Q : Exit → Act → World → Prop} {u1 u2 u3 u4 u5 u6 u7 u8 u9 u10 u11 u12 u13 u14 u15 u16 u17 u18 u19 u20 u21 u22 u23 u24 u25 u26 u27 u28 u29 u30 u31 u32 u33 u34 u35 u36 u37 u38 u39 u40 u41 u42 u43 u44 u45 u46 u47 u48 u49 u50 u51 u52 u53 u54 u55 u56 u57 u58 u59 u60 u61 u62 u63 u64 u65 u66 u67 u68 u69 u70 u71 u72 u73 u74 u75 u76 u77 u78 u79 u80 u81 u82 u83 u84 u85 u86 u87 u88 u89 u90 u91 u92 u93 u94 u95 u96 u97 u98 : Value} (b0 : w.cell? ⟨B, 0, none⟩ = some (.slice (some ⟨F, 0, none⟩) 4096 4096)) (b2 : w.cell? ⟨B, 2, none⟩ = some (.int .i64 (r : Int))) (b3 : w.cell? ⟨B, 3, none⟩ = some (.int .i64 (r : Int))) (hr : r < 4096)
    (hQ : ∀ (w' : World) (y10 y11 y12 y13 y14 y15 y16 y17 y18 y19 y20 y21 y22 y23 y24 y25 y26 y27 : Value), (w' = w ∨ w' = w.drew) → Q .normal { tmps := #[ptr B, u1, u2, u3, u4, u5, u6, u7, u8, u9, y10, y11, y12, y13, y14, y15, y16, y17, y18, y19, y20, y21, y22, y23, y24, y25, y26, y27, u28, u29, u30, u31, u32, u33, u34, u35, u36, u37, u38, u39, u40, u41, u42, u43, u44, u45, u46, u47, u48, u49, u50, u51, u52, u53, u54, u55, u56, u57, u58, u59, u60, u61, u62, u63, u64, u65, u66, u67, u68, u69, u70, u71, u72, u73, u74, u75, u76, u77, u78, u79, u80, u81, u82, u83, u84, u85, u86, u87, u88, u89, u90, u91, u92, u93, u94, u95, u96, u97, u98], defers := [] } w') :
    (reg53 1).wp Tryd.prog Q { tmps := #[ptr B, u1, u2, u3, u4, u5, u6, u7, u8, u9, u10, u11, u12, u13, u14, u15, u16, u17, u18, u19, u20, u21, u22, u23, u24, u25, u26, u27, u28, u29, u30, u31, u32, u33, u34, u35, u36, u37, u38, u39, u40, u41, u42, u43, u44, u45, u46, u47, u48, u49, u50, u51, u52, u53, u54, u55, u56, u57, u58, u59, u60, u61, u62, u63, u64, u65, u66, u67, u68, u69, u70, u71, u72, u73, u74, u75, u76, u77, u78, u79, u80, u81, u82, u83, u84, u85, u86, u87, u88, u89, u90, u91, u92, u93, u94, u95, u96, u97, u98], defers := [] } w := by
  have g1 : (r : Int) < 4096 := by omega
  have g2 : ¬ (4096 : Int) < (r : Int) := by omega
  have g3 : (0 : Int) ≤ (r : Int) := by omega
  have g4 : ¬ 4096 = r := by omega
  have g5 : (r : Int) ≤ 4096 := by omega
  have HQ := Lib.hid hQ
  clear hQ
  conv => arg 2; whnf
  refine wp_region_noPanic ?_
  go_region_law (go_loud (refine step_copy_none rfl (.tmp 13) (.tmp 26) 31 31 rfl 5 und31 sz5 (some ⟨F, 0, none⟩) (some ⟨F, r, none⟩) 4096 4096 (4096 - r) (by simp [Act.eval, Act.put]) (by simp [Act.eval, Act.put, *]) ?_))
  all_goals
    refine NoPanic.normal ?_
    first
    | exact HQ.out _ _ _ _ _ _ _ _ _ _ _ _ _ _ _ _ _ _ _ (.inl rfl)
    | exact HQ.out _ _ _ _ _ _ _ _ _ _ _ _ _ _ _ _ _ _ _ (.inr (rfl))

set_option maxRecDepth 100000 in
set_option maxHeartbeats 4000000 in
theorem fill_r2 {w : World} {B r : Nat} {Q : Exit → Act → World → Prop} {u1 u2 u3 u4 u5 u6 u7 u8 u9 u10 u11 u12 u13 u14 u15 u16 u17 u18 u19 u20 u21 u22 u23 u24 u25 u26 u27 u28 u29 u30 u31 u32 u33 u34 u35 u36 u37 u38 u39 u40 u41 u42 u43 u44 u45 u46 u47 u48 u49 u50 u51 u52 u53 u54 u55 u56 u57 u58 u59 u60 u61 u62 u63 u64 u65 u66 u67 u68 u69 u70 u71 u72 u73 u74 u75 u76 u77 u78 u79 u80 u81 u82 u83 u84 u85 u86 u87 u88 u89 u90 u91 u92 u93 u94 u95 u96 u97 u98 : Value} (b2 : w.cell? ⟨B, 2, none⟩ = some (.int .i64 (r : Int))) (b3 : w.cell? ⟨B, 3, none⟩ = some (.int .i64 (r : Int))) (z3 : w.frozen? ⟨B, 3, none⟩ = false)
    (hQ : ∀ (w' : World) (y28 y29 y30 y31 y32 y33 y34 y35 y36 y37 y38 : Value), (w' = w.setCell ⟨B, 3, none⟩ (.int .i64 0) ∨ w' = (w.setCell ⟨B, 3, none⟩ (.int .i64 0)).drew ∨ w' = w.drew.setCell ⟨B, 3, none⟩ (.int .i64 0)) → Q .normal { tmps := #[ptr B, u1, u2, u3, u4, u5, u6, u7, u8, u9, u10, u11, u12, u13, u14, u15, u16, u17, u18, u19, u20, u21, u22, u23, u24, u25, u26, u27, y28, y29, y30, y31, y32, y33, y34, y35, y36, y37, y38, u39, u40, u41, u42, u43, u44, u45, u46, u47, u48, u49, u50, u51, u52, u53, u54, u55, u56, u57, u58, u59, u60, u61, u62, u63, u64, u65, u66, u67, u68, u69, u70, u71, u72, u73, u74, u75, u76, u77, u78, u79, u80, u81, u82, u83, u84, u85, u86, u87, u88, u89, u90, u91, u92, u93, u94, u95, u96, u97, u98], defers := [] } w') :
    (reg53 2).wp Tryd.prog Q { tmps := #[ptr B, u1, u2, u3, u4, u5, u6, u7, u8, u9, u10, u11, u12, u13, u14, u15, u16, u17, u18, u19, u20, u21, u22, u23, u24, u25, u26, u27, u28, u29, u30, u31, u32, u33, u34, u35, u36, u37, u38, u39, u40, u41, u42, u43, u44, u45, u46, u47, u48, u49, u50, u51, u52, u53, u54, u55, u56, u57, u58, u59, u60, u61, u62, u63, u64, u65, u66, u67, u68, u69, u70, u71, u72, u73, u74, u75, u76, u77, u78, u79, u80, u81, u82, u83, u84, u85, u86, u87, u88, u89, u90, u91, u92, u93, u94, u95, u96, u97, u98], defers := [] } w := by
  have hw0 : IntKind.i64.wrap ((r : Int) - (r : Int)) = 0 := by rw [IntKind.wrap_i64]; omega
  have HQ := Lib.hid hQ
  clear hQ
  conv => arg 2; whnf
  refine wp_region_noPanic ?_
  go_region_law (fail)
  all_goals
    refine NoPanic.normal ?_
    first
    | exact HQ.out _ _ _ _ _ _ _ _ _ _ _ _ (.inl rfl)
    | exact HQ.out _ _ _ _ _ _ _ _ _ _ _ _ (.inr (.inl rfl))
    | exact HQ.out _ _ _ _ _ _ _ _ _ _ _ _ (.inr (.inr (rfl)))

set_option maxRecDepth 100000 in
set_option maxHeartbeats 4000000 in
theorem fill_r9 {w : World} {B F S : Nat} {n : Int} {ev : Value} {R : World → Prop} {Q : Exit → Act → World → Prop} {u1 u2 u3 u4 u5 u6 u7 u8 u9 u10 u11 u12 u13 u14 u15 u16 u17 u18 u19 u20 u21 u22 u23 u24 u25 u26 u27 u28 u29 u30 u31 u32 u33 u34 u35 u36 u37 u38 u39 u40 u41 u42 u43 u44 u45 u46 u47 u48 u49 u50 u51 u52 u53 u54 u55 u56 u57 u58 u59 u60 u61 u62 u63 u64 u65 u66 u67 u68 u69 u70 u71 u72 u73 u74 u75 u76 u77 u78 u79 u80 u81 u82 u83 u84 u85 u86 u87 u88 u89 u90 u91 u92 u93 u94 u95 u96 u97 u98 : Value} (b0 : w.cell? ⟨B, 0, none⟩ = some (.slice (some ⟨F, 0, none⟩) 4096 4096)) (b1 : w.cell? ⟨B, 1, none⟩ = some (.iface 35 (ptr S))) (b3 : w.cell? ⟨B, 3, none⟩ = some (.int .i64 0)) (hcall : ∀ w1, (w1 = w ∨ w1 = w.drew) → Calls Tryd.prog 106 #[ptr S, .slice (some ⟨F, 0, none⟩) 4096 4096] w1 (fun e w' => e = .returned (.tuple #[.int .i64 n, ev]) ∧ R w'))
    (hQ : ∀ (w' : World) (y57 y58 y59 y60 y61 y62 y63 y64 y65 y66 y67 y68 y69 y70 y71 y72 y73 y74 y75 : Value), (R w') → Q .normal { tmps := #[ptr B, u1, u2, .int .i64 n, ev, u5, u6, u7, u8, u9, u10, u11, u12, u13, u14, u15, u16, u17, u18, u19, u20, u21, u22, u23, u24, u25, u26, u27, u28, u29, u30, u31, u32, u33, u34, u35, u36, u37, u38, u39, u40, u41, u42, u43, u44, u45, u46, u47, u48, u49, u50, u51, u52, u53, u54, u55, u56, y57, y58, y59, y60, y61, y62, y63, y64, y65, y66, y67, y68, y69, y70, y71, y72, y73, y74, y75, u76, u77, u78, u79, u80, u81, u82, u83, u84, u85, u86, u87, u88, u89, u90, u91, u92, u93, u94, u95, u96, u97, u98], defers := [] } w') :
    (reg53 9).wp Tryd.prog Q { tmps := #[ptr B, u1, u2, u3, u4, u5, u6, u7, u8, u9, u10, u11, u12, u13, u14, u15, u16, u17, u18, u19, u20, u21, u22, u23, u24, u25, u26, u27, u28, u29, u30, u31, u32, u33, u34, u35, u36, u37, u38, u39, u40, u41, u42, u43, u44, u45, u46, u47, u48, u49, u50, u51, u52, u53, u54, u55, u56, u57, u58, u59, u60, u61, u62, u63, u64, u65, u66, u67, u68, u69, u70, u71, u72, u73, u74, u75, u76, u77, u78, u79, u80, u81, u82, u83, u84, u85, u86, u87, u88, u89, u90, u91, u92, u93, u94, u95, u96, u97, u98], defers := [] } w := by
  have HC := Lib.hid hcall
  have inv := fun w1 => inv_read (ptr S) w1
  clear hcall
  have HQ := Lib.hid hQ
  clear hQ
  conv => arg 2; whnf
  refine wp_region_noPanic ?_
  go_region_law ((go_loud (refine step_enter rfl (f := 106) (args := #[ptr S, .slice (some ⟨F, 0, none⟩) 4096 4096]) (by go_simp) (HC.out _ (by first | exact .inl rfl | exact .inr rfl)) ?_); intro w' hR))
  all_goals
    refine NoPanic.normal ?_
    exact HQ.out _ _ _ _ _ _ _ _ _ _ _ _ _ _ _ _ _ _ _ _ hR

end Go.Proofs.YtbgjjbffpckimaaDoor

