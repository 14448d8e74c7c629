/-
  spec.ptReader: an item of \x01(.+)%1\x02. Lines laid by a program of this session (mkrdr3.py).
-/
import Derived.Test.YtkbdngcbifonkaaFmtRdq
namespace Go.Proofs.YtkbdngcbifonkaaFmt
set_option linter.all false
open Go.RowKit

noncomputable def reg33 (id : Nat) : Code := (rgc id (Tryf.f33.body.getD .skip)).getD .skip

set_option maxRecDepth 100000 in
set_option maxHeartbeats 4000000 in
theorem sgl_reg {w0 w : World} {R k cp n c : Nat} {o : Value} {go : Option Nat} {us : List Value} {ds : List (Nat × (Nat → Bool))} {B : Option Addr} {f : Nat → Bool} {kn : Int} {Q : Exit → Act → World → Prop} {u1 u2 u3 u4 u5 u6 u7 u8 u9 u10 u11 u12 u13 u14 u15 u16 u17 u18 u19 u20 u21 u22 u23 u24 u25 u26 u27 u28 u29 u30 u31 u32 u33 u34 u35 u36 u37 u38 u39 u40 u41 u42 u43 u44 u45 u46 u47 u48 u49 u50 u51 u52 u53 u54 u55 u56 u57 u58 u59 u60 u61 u62 u63 u64 u65 u66 u67 u68 u69 u70 u71 u72 u73 u74 u75 u76 u77 u78 u79 u80 u81 u82 u83 u84 u85 u86 u87 u88 u89 u90 u91 u92 u93 u94 u95 u96 u97 u98 u99 u100 u101 u102 u103 u104 u105 u106 u107 u108 u109 u110 u111 u112 u113 u114 u115 u116 u117 u118 : Value} (HR : Hid (RdAt w0 R k cp o go n us ds w B c))
    (HS : Hid (∀ w1, Calls Tryf.prog 45 #[.string ⟨#[1, 40, 46, 43, 41, 37, 49, 2]⟩, .int .i64 (k : Int)] w1 (SglPost w1 kn f)))
    (hQ : ∀ (w' : World) (D : Nat) (y70 y71 y72 y73 y74 y75 y76 y77 y78 y79 y80 y81 y82 : Value), RdAt w0 R k cp o go n us ((D, f) :: ds) w' B c → Q .normal { tmps := #[ptr R, u1, u2, u3, u4, .slice (some ⟨D, 0, none⟩) 128 128, .int .i64 kn, .bool true, u8, u9, u10, u11, u12, u13, u14, u15, u16, u17, u18, u19, u20, u21, u22, u23, u24, u25, u26, u27, u28, u29, u30, u31, u32, u33, u34, u35, u36, u37, u38, u39, u40, u41, u42, u43, u44, u45, u46, u47, u48, u49, u50, u51, u52, u53, u54, u55, u56, u57, u58, u59, u60, u61, u62, u63, u64, u65, u66, u67, u68, u69, y70, y71, y72, y73, y74, y75, y76, y77, y78, y79, y80, y81, y82, u83, u84, u85, u86, u87, u88, u89, u90, u91, u92, u93, u94, u95, u96, u97, u98, u99, u100, u101, u102, u103, u104, u105, u106, u107, u108, u109, u110, u111, u112, u113, u114, u115, u116, u117, u118], defers := [] } w') :
    (reg33 10).wp Tryf.prog Q { tmps := #[ptr R, u1, u2, u3, u4, u5, u6, u7, u8, u9, u10, u11, u12, u13, u14, u15, u16, u17, u18, u19, u20, u21, u22, u23, u24, u25, u26, u27, u28, u29, u30, u31, u32, u33, u34, u35, u36, u37, u38, u39, u40, u41, u42, u43, u44, u45, u46, u47, u48, u49, u50, u51, u52, u53, u54, u55, u56, u57, u58, u59, u60, u61, u62, u63, u64, u65, u66, u67, u68, u69, u70, u71, u72, u73, u74, u75, u76, u77, u78, u79, u80, u81, u82, u83, u84, u85, u86, u87, u88, u89, u90, u91, u92, u93, u94, u95, u96, u97, u98, u99, u100, u101, u102, u103, u104, u105, u106, u107, u108, u109, u110, u111, u112, u113, u114, u115, u116, u117, u118], defers := [] } w := by
  have q0 := HR.out.c0
  have q1 := HR.out.c1
  have HQ := Lib.hid hQ
  clear hQ
  conv => arg 2; whnf
  refine wp_region_noPanic ?_
  go_region_law (go_simp; go_at_call 45; refine (HS.out _).mono ?_; rintro e w2 ⟨hch, D, rfl, hD, hset⟩
                 have hx : RdAt w0 R k cp o go n us ((D, f) :: ds) w2 B c := (HR.out.moved (((Ch.refl _ _).drew).trans hch)).withSet hset (by have := HR.out.ch.size; simp at hD; omega) (by have := HR.out.lt; simp at hD; omega) (fun e => by have := (HR.out.blk_lt e).2; simp at hD; omega)
                 have HX := Lib.hid hx
                 clear hch hset hD hx)
  all_goals
    refine NoPanic.normal ?_
    go_simp
    exact HQ.out _ _ _ _ _ _ _ _ _ _ _ _ _ _ _ HX.out

set_option maxRecDepth 100000 in
set_option maxHeartbeats 4000000 in
theorem put_reg {w0 w : World} {R k cp n c X : Nat} {o : Value} {go : Option Nat} {us : List Value} {ds : List (Nat × (Nat → Bool))} {B : Option Addr} {a0 a2 a3 : Int} {sB : Option Addr} {sn sc far bh : Nat} {Q : Exit → Act → World → Prop} {u1 u2 u3 u4 u5 u7 u9 u10 u11 u12 u13 u14 u15 u16 u17 u18 u19 u20 u21 u22 u23 u24 u25 u26 u27 u28 u29 u30 u31 u32 u33 u34 u35 u36 u37 u38 u39 u40 u41 u42 u43 u44 u45 u46 u47 u48 u49 u50 u51 u52 u53 u54 u55 u56 u57 u58 u59 u60 u61 u62 u63 u64 u65 u66 u67 u68 u69 u70 u71 u72 u73 u74 u75 u76 u77 u78 u79 u80 u81 u82 u83 u84 u85 u86 u87 u88 u89 u90 u91 u92 u93 u94 u95 u96 u97 u98 u99 u100 u101 u102 u103 u104 u105 u106 u107 u108 u109 u110 u111 u112 u113 u114 u115 u116 u117 u118 : Value} (HR : Hid (RdAt w0 R k cp o go n us ds w B c)) (hn : n ≤ 100) (hk : k ≤ 100) (hf : far ≤ 100) (hb : bh = k + far)
    (x0 : w.cell? ⟨X, 0, none⟩ = some (.int .i64 a0)) (x1 : w.cell? ⟨X, 1, none⟩ = some (.slice sB sn sc)) (x2 : w.cell? ⟨X, 2, none⟩ = some (.int .u8 a2)) (x3 : w.cell? ⟨X, 3, none⟩ = some (.int .i64 a3)) (x4 : w.cell? ⟨X, 4, none⟩ = some (.int .u8 0)) (x5 : w.cell? ⟨X, 5, none⟩ = some (.int .u8 0))
    (hQ : ∀ (w' : World) (B' : Option Addr) (c' : Nat) (y110 y111 y112 y113 y114 y115 y116 y117 y118 : Value), RdAt w0 R (k + far) cp o go (n + 1) (us ++ itemCells a0 sB sn sc a2 a3) ds w' B' c' → Q .normal { tmps := #[ptr R, u1, .bool true, u3, u4, u5, .int .i64 (bh : Int), u7, ptr X, u9, u10, u11, u12, u13, u14, u15, u16, u17, u18, u19, u20, u21, u22, u23, u24, u25, u26, u27, u28, u29, u30, u31, u32, u33, u34, u35, u36, u37, u38, u39, u40, u41, u42, u43, u44, u45, u46, u47, u48, u49, u50, u51, u52, u53, u54, u55, u56, u57, u58, u59, u60, u61, u62, u63, u64, u65, u66, u67, u68, u69, u70, u71, u72, u73, u74, u75, u76, u77, u78, u79, u80, u81, u82, u83, u84, u85, u86, u87, u88, u89, u90, u91, u92, u93, u94, u95, u96, u97, u98, u99, u100, u101, u102, u103, u104, u105, u106, u107, u108, u109, y110, y111, y112, y113, y114, y115, y116, y117, y118], defers := [] } w') :
    (reg33 23).wp Tryf.prog Q { tmps := #[ptr R, u1, u2, u3, u4, u5, .int .i64 (bh : Int), u7, ptr X, u9, u10, u11, u12, u13, u14, u15, u16, u17, u18, u19, u20, u21, u22, u23, u24, u25, u26, u27, u28, u29, u30, u31, u32, u33, u34, u35, u36, u37, u38, u39, u40, u41, u42, u43, u44, u45, u46, u47, u48, u49, u50, u51, u52, u53, u54, u55, u56, u57, u58, u59, u60, u61, u62, u63, u64, u65, u66, u67, u68, u69, u70, u71, u72, u73, u74, u75, u76, u77, u78, u79, u80, u81, u82, u83, u84, u85, u86, u87, u88, u89, u90, u91, u92, u93, u94, u95, u96, u97, u98, u99, u100, u101, u102, u103, u104, u105, u106, u107, u108, u109, u110, u111, u112, u113, u114, u115, u116, u117, u118], defers := [] } w := by
  have q1 := HR.out.c1
  have hw : IntKind.i64.wrap ((bh : Int) - (k : Int)) = (far : Int) := by rw [IntKind.wrap_i64]; omega
  have HQ := Lib.hid hQ
  clear hQ hb
  conv => arg 2; whnf
  refine wp_region_noPanic ?_
  go_region_law (go_simp; go_at_call 43; refine (add_calls (far := far) (Lib.hid (HR.out.moved ((Ch.refl _ _).drew))) hn hk hf).mono ?_; rintro e w2 ⟨rfl, B', c', hx⟩
                 have HX := Lib.hid hx
                 clear hx)
  all_goals
    refine NoPanic.normal ?_
    exact HQ.out _ _ _ _ _ _ _ _ _ _ _ _ HX.out

end Go.Proofs.YtkbdngcbifonkaaFmt
