/-
  FnPatternRepeats: the law gives true, whatever the input. Lines laid by a program of this session (mkrpl.py).
-/
import Derived.Test.YtkbdngcbifonkaaFmtRph
import Derived.Test.YtkbdngcbifonkaaFmtRngL
import Derived.Deep.RegionHeld3
namespace Go.Proofs.YtkbdngcbifonkaaFmt
set_option linter.all false
open Go.RowKit

noncomputable def reg7 (id : Nat) : Code := (rgc id (Tryf.f7.body.getD .skip)).getD .skip

set_option maxRecDepth 100000 in
set_option maxHeartbeats 4000000 in
theorem rpt_reg {w : World} {x : UInt8} {s : ByteArray} {n : Nat} {Q : Exit → Act → World → Prop} {u2 u3 u4 u5 u6 u7 u8 u9 u10 u11 u12 u13 u14 u15 u16 u17 u18 u19 u20 u21 u22 u23 u24 u25 u26 u27 u28 u29 u30 u31 u32 u33 u34 u35 u36 u37 u38 u39 u40 u41 u42 u43 u44 u45 u46 u47 u48 u49 u50 u51 u52 u53 u54 u55 u56 u57 u58 u59 u60 u61 u62 u63 u64 u65 u66 u67 u68 u69 u70 u71 u72 u73 u74 u75 u76 u77 u78 u79 u80 u81 u82 u83 u84 u85 u86 u87 u88 u89 u90 u91 u92 u93 u94 u95 u96 u97 u98 u99 u100 u101 u102 : Value} (hwx : IntKind.u8.wrap (x.toNat : Int) = (x.toNat : Int))
    (HRUN : Hid (∀ w1, Calls Tryf.prog 15 #[.int .u8 (x.toNat : Int), .string s] w1 fun e w' => Ch (fun _ => False) w1 w' ∧ e = .returned (.int .i64 (n : Nat))))
    (hQ : ∀ (w' : World) (y38 y39 y40 y41 y42 y43 y44 y45 : Value), Ch (fun _ => False) w w' → Q .normal { tmps := #[.int .i64 (x.toNat : Int), .string s, u2, u3, u4, u5, u6, .string ⟨#[94, 37, x]⟩, .int .i64 (n : Int), u9, u10, u11, u12, u13, u14, u15, u16, u17, u18, u19, u20, u21, u22, u23, u24, u25, u26, u27, u28, u29, u30, u31, u32, u33, u34, u35, u36, u37, y38, y39, y40, y41, y42, y43, y44, y45, u46, u47, u48, u49, u50, u51, u52, u53, u54, u55, u56, u57, u58, u59, u60, u61, u62, u63, u64, u65, u66, u67, u68, u69, u70, u71, u72, u73, u74, u75, u76, u77, u78, u79, u80, u81, u82, u83, u84, u85, u86, u87, u88, u89, u90, u91, u92, u93, u94, u95, u96, u97, u98, u99, u100, u101, u102], defers := [] } w') :
    (reg7 8).wp Tryf.prog Q { tmps := #[.int .i64 (x.toNat : Int), .string s, u2, u3, u4, u5, u6, u7, u8, u9, u10, u11, u12, u13, u14, u15, u16, u17, u18, u19, u20, u21, u22, u23, u24, u25, u26, u27, u28, u29, u30, u31, u32, u33, u34, u35, u36, u37, u38, u39, u40, u41, u42, u43, u44, u45, u46, u47, u48, u49, u50, u51, u52, u53, u54, u55, u56, u57, u58, u59, u60, u61, u62, u63, u64, u65, u66, u67, u68, u69, u70, u71, u72, u73, u74, u75, u76, u77, u78, u79, u80, u81, u82, u83, u84, u85, u86, u87, u88, u89, u90, u91, u92, u93, u94, u95, u96, u97, u98, u99, u100, u101, u102], defers := [] } w := by
  have c3 : ∀ (W : World) (n : Nat), W.cell? ⟨n, 0, none⟩ = some (.int .u8 94) → W.cell? ⟨n, 1, none⟩ = some (.int .u8 37) → W.cell? ⟨n, 2, none⟩ = some (.int .u8 (x.toNat : Int)) → (convert 32 9 (.slice (some ⟨n, 0, none⟩) 3 3)).run Tryf.prog W = .ok (.string ⟨#[94, 37, x]⟩) W := conv3 94 37 x
  have HQ := Lib.hid hQ
  clear hQ
  conv => arg 2; whnf
  refine wp_region_noPanic ?_
  go_region_law (go_simp; go_at_call 15; refine (HRUN.out _).mono ?_; rintro e w2 ⟨hch, rfl⟩; have HC := Lib.hid hch; (try (have h0 : w2.cell? ⟨w.heap.size, 0, none⟩ = some (.int .u8 94) := hch.cell_some (World.cell?_alloc_at _ _ _ _ rfl) id; have h1 : w2.cell? ⟨w.heap.size, 1, none⟩ = some (.int .u8 37) := hch.cell_some (World.cell?_alloc_at _ _ _ _ rfl) id; have h2 : w2.cell? ⟨w.heap.size, 2, none⟩ = some (.int .u8 (x.toNat : Int)) := hch.cell_some (World.cell?_alloc_at _ _ _ _ rfl) id)); clear hch)
  all_goals
    refine NoPanic.normal ?_
    refine HQ.out _ _ _ _ _ _ _ _ _ ?_
    first | exact (((Ch.refl _ _).alloc _).drew).trans HC.out | exact ((((Ch.refl _ _).alloc _)).trans HC.out).drew | exact ((Ch.refl _ _).alloc _).trans HC.out | exact HC.out.alloc _ | exact (HC.out.alloc _).drew | exact (((Ch.refl _ _).drew).trans HC.out).alloc _ | exact (((Ch.refl _ _).drew).alloc _).trans HC.out

noncomputable def body7 : Code := (lpn (Tryf.f7.body.getD .skip)).getD .skip

set_option maxRecDepth 100000 in
set_option maxHeartbeats 4000000 in
theorem rpt_round0z {w : World} {x : UInt8} {s : ByteArray} {G : Nat} {Q : Exit → Act → World → Prop} {u2 u3 u4 u5 u6 u9 u10 u11 u12 u13 u14 u15 u16 u17 u18 u19 u20 u21 u22 u23 u24 u25 u26 u27 u28 u29 u30 u31 u32 u33 u34 u35 u36 u37 u38 u39 u40 u41 u42 u43 u44 u45 u49 u50 u51 u52 u53 u54 u55 u56 u57 u58 u59 u60 u61 u62 u63 u64 u65 u66 u67 u68 u69 u70 u71 u72 u73 u74 u75 u76 u77 u78 u79 u80 u81 u82 u83 u84 u85 u86 u87 u88 u89 u90 u91 u92 u93 u94 u95 u96 u97 u98 u99 u100 u101 u102 : Value} (hcell : w.cell? ⟨G, 0, none⟩ = some (.string ⟨#[]⟩))
    (HF : Hid (∀ w1, Calls Tryf.prog 11 #[.string ⟨#[94, 37, x]⟩, .string s, .int .i64 0] w1 fun e w' => Ch (fun _ => False) w1 w' ∧ ∃ (p q : Int) (A A' : Option Addr) (c c' : Nat), e = .returned (.tuple #[.agg #[.int .i64 p, .int .i64 q, .slice A 0 c, .slice A' 0 c'], .bool true, .bool false])))
    (hQ : ∀ (w' : World) (y9 y10 y11 y12 y13 y14 y15 y49 y50 y51 y52 y53 y54 y55 y56 y57 y58 y59 y60 y61 y62 y63 y64 y65 y66 y67 y68 y69 y70 y71 y72 y73 y74 y75 y76 y77 y78 y79 y80 y81 y82 y83 y84 y85 y86 y87 y88 y89 y90 y91 y92 y93 y94 y95 y96 y97 y98 y99 y100 y101 y102 : Value), Ch (fun _ => False) w w' → Q .normal { tmps := #[.int .i64 (x.toNat : Int), .string s, u2, u3, u4, u5, u6, .string ⟨#[94, 37, x]⟩, .int .i64 0, y9, y10, y11, y12, y13, y14, y15, u16, u17, u18, u19, u20, u21, u22, u23, u24, u25, u26, u27, u28, u29, u30, u31, u32, u33, u34, u35, u36, u37, u38, u39, u40, u41, u42, u43, u44, u45, sliceAt G 5 5, .int .i64 5, .int .i64 1, y49, y50, y51, y52, y53, y54, y55, y56, y57, y58, y59, y60, y61, y62, y63, y64, y65, y66, y67, y68, y69, y70, y71, y72, y73, y74, y75, y76, y77, y78, y79, y80, y81, y82, y83, y84, y85, y86, y87, y88, y89, y90, y91, y92, y93, y94, y95, y96, y97, y98, y99, y100, y101, y102], defers := [] } w') :
    body7.wp Tryf.prog Q { tmps := #[.int .i64 (x.toNat : Int), .string s, u2, u3, u4, u5, u6, .string ⟨#[94, 37, x]⟩, .int .i64 0, u9, u10, u11, u12, u13, u14, u15, u16, u17, u18, u19, u20, u21, u22, u23, u24, u25, u26, u27, u28, u29, u30, u31, u32, u33, u34, u35, u36, u37, u38, u39, u40, u41, u42, u43, u44, u45, sliceAt G 5 5, .int .i64 5, .int .i64 0, u49, u50, u51, u52, u53, u54, u55, u56, u57, u58, u59, u60, u61, u62, u63, u64, u65, u66, u67, u68, u69, u70, u71, u72, u73, u74, u75, u76, u77, u78, u79, u80, u81, u82, u83, u84, u85, u86, u87, u88, u89, u90, u91, u92, u93, u94, u95, u96, u97, u98, u99, u100, u101, u102], defers := [] } w := by
  have hix : ∀ w, (Instr.index 43 (.agg #[.int .i64 0, .int .i64 0, .int .i64 0, .int .i64 0, .int .i64 0]) (.int .i64 0)).run Tryf.prog w = .ok (.int .i64 0) w := fun _ => by kernel_rfl
  have HQ := Lib.hid hQ
  clear hQ
  conv => arg 2; whnf
  go_wp2_with fail
  refine (HF.out _).mono ?_
  rintro e w2 ⟨hch, p, q, A, A', c, c', rfl⟩
  have HC := Lib.hid hch
  clear hch
  simp only []
  go_wp2_with fail
  refine HQ.out _ _ _ _ _ _ _ _ _ _ _ _ _ _ _ _ _ _ _ _ _ _ _ _ _ _ _ _ _ _ _ _ _ _ _ _ _ _ _ _ _ _ _ _ _ _ _ _ _ _ _ _ _ _ _ _ _ _ _ _ _ _ ?_
  first | exact HC.out | exact HC.out.alloc _ | exact (((Ch.refl (fun _ => False) w).alloc _).trans HC.out).setCell (fun h => absurd h (Nat.lt_irrefl _)) _ | skip

set_option maxRecDepth 100000 in
set_option maxHeartbeats 4000000 in
theorem rpt_round0o {w : World} {x : UInt8} {s : ByteArray} {G : Nat} {Q : Exit → Act → World → Prop} {u2 u3 u4 u5 u6 u9 u10 u11 u12 u13 u14 u15 u16 u17 u18 u19 u20 u21 u22 u23 u24 u25 u26 u27 u28 u29 u30 u31 u32 u33 u34 u35 u36 u37 u38 u39 u40 u41 u42 u43 u44 u45 u49 u50 u51 u52 u53 u54 u55 u56 u57 u58 u59 u60 u61 u62 u63 u64 u65 u66 u67 u68 u69 u70 u71 u72 u73 u74 u75 u76 u77 u78 u79 u80 u81 u82 u83 u84 u85 u86 u87 u88 u89 u90 u91 u92 u93 u94 u95 u96 u97 u98 u99 u100 u101 u102 : Value} (hcell : w.cell? ⟨G, 0, none⟩ = some (.string ⟨#[]⟩))
    (HF : Hid (∀ w1, Calls Tryf.prog 11 #[.string ⟨#[94, 37, x]⟩, .string s, .int .i64 0] w1 fun e w' => Ch (fun _ => False) w1 w' ∧ ∃ (p q : Int) (A A' : Option Addr) (c c' : Nat), e = .returned (.tuple #[.agg #[.int .i64 p, .int .i64 q, .slice A 0 c, .slice A' 0 c'], .bool true, .bool true]) ∧ p = 0 ∧ q = 1))
    (hQ : ∀ (w' : World) (y9 y10 y11 y12 y13 y14 y15 y49 y50 y51 y52 y53 y54 y55 y56 y57 y58 y59 y60 y61 y62 y63 y64 y65 y66 y67 y68 y69 y70 y71 y72 y73 y74 y75 y76 y77 y78 y79 y80 y81 y82 y83 y84 y85 y86 y87 y88 y89 y90 y91 y92 y93 y94 y95 y96 y97 y98 y99 y100 y101 y102 : Value), Ch (fun _ => False) w w' → Q .normal { tmps := #[.int .i64 (x.toNat : Int), .string s, u2, u3, u4, u5, u6, .string ⟨#[94, 37, x]⟩, .int .i64 1, y9, y10, y11, y12, y13, y14, y15, u16, u17, u18, u19, u20, u21, u22, u23, u24, u25, u26, u27, u28, u29, u30, u31, u32, u33, u34, u35, u36, u37, u38, u39, u40, u41, u42, u43, u44, u45, sliceAt G 5 5, .int .i64 5, .int .i64 1, y49, y50, y51, y52, y53, y54, y55, y56, y57, y58, y59, y60, y61, y62, y63, y64, y65, y66, y67, y68, y69, y70, y71, y72, y73, y74, y75, y76, y77, y78, y79, y80, y81, y82, y83, y84, y85, y86, y87, y88, y89, y90, y91, y92, y93, y94, y95, y96, y97, y98, y99, y100, y101, y102], defers := [] } w') :
    body7.wp Tryf.prog Q { tmps := #[.int .i64 (x.toNat : Int), .string s, u2, u3, u4, u5, u6, .string ⟨#[94, 37, x]⟩, .int .i64 1, u9, u10, u11, u12, u13, u14, u15, u16, u17, u18, u19, u20, u21, u22, u23, u24, u25, u26, u27, u28, u29, u30, u31, u32, u33, u34, u35, u36, u37, u38, u39, u40, u41, u42, u43, u44, u45, sliceAt G 5 5, .int .i64 5, .int .i64 0, u49, u50, u51, u52, u53, u54, u55, u56, u57, u58, u59, u60, u61, u62, u63, u64, u65, u66, u67, u68, u69, u70, u71, u72, u73, u74, u75, u76, u77, u78, u79, u80, u81, u82, u83, u84, u85, u86, u87, u88, u89, u90, u91, u92, u93, u94, u95, u96, u97, u98, u99, u100, u101, u102], defers := [] } w := by
  have hix : ∀ w, (Instr.index 43 (.agg #[.int .i64 1, .int .i64 1, .int .i64 1, .int .i64 1, .int .i64 0]) (.int .i64 0)).run Tryf.prog w = .ok (.int .i64 1) w := fun _ => by kernel_rfl
  have HQ := Lib.hid hQ
  clear hQ
  conv => arg 2; whnf
  go_wp2_with fail
  refine (HF.out _).mono ?_
  rintro e w2 ⟨hch, p, q, A, A', c, c', rfl, rfl, rfl⟩
  have HC := Lib.hid hch
  clear hch
  simp only []
  go_wp2_with fail
  refine HQ.out _ _ _ _ _ _ _ _ _ _ _ _ _ _ _ _ _ _ _ _ _ _ _ _ _ _ _ _ _ _ _ _ _ _ _ _ _ _ _ _ _ _ _ _ _ _ _ _ _ _ _ _ _ _ _ _ _ _ _ _ _ _ ?_
  first | exact HC.out | exact HC.out.alloc _ | exact (((Ch.refl (fun _ => False) w).alloc _).trans HC.out).setCell (fun h => absurd h (Nat.lt_irrefl _)) _ | skip

set_option maxRecDepth 100000 in
set_option maxHeartbeats 4000000 in
theorem rpt_round0p {w : World} {x : UInt8} {s : ByteArray} {n : Nat} {G : Nat} {Q : Exit → Act → World → Prop} {u2 u3 u4 u5 u6 u9 u10 u11 u12 u13 u14 u15 u16 u17 u18 u19 u20 u21 u22 u23 u24 u25 u26 u27 u28 u29 u30 u31 u32 u33 u34 u35 u36 u37 u38 u39 u40 u41 u42 u43 u44 u45 u49 u50 u51 u52 u53 u54 u55 u56 u57 u58 u59 u60 u61 u62 u63 u64 u65 u66 u67 u68 u69 u70 u71 u72 u73 u74 u75 u76 u77 u78 u79 u80 u81 u82 u83 u84 u85 u86 u87 u88 u89 u90 u91 u92 u93 u94 u95 u96 u97 u98 u99 u100 u101 u102 : Value} (hn : 2 ≤ n) (hn2 : n ≤ 1000) (hcell : w.cell? ⟨G, 0, none⟩ = some (.string ⟨#[]⟩))
    (HF : Hid (∀ w1, Calls Tryf.prog 11 #[.string ⟨#[94, 37, x]⟩, .string s, .int .i64 0] w1 fun e w' => Ch (fun _ => False) w1 w' ∧ ∃ (p q : Int) (A A' : Option Addr) (c c' : Nat), e = .returned (.tuple #[.agg #[.int .i64 p, .int .i64 q, .slice A 0 c, .slice A' 0 c'], .bool true, .bool true]) ∧ p = 0 ∧ q = 1))
    (hQ : ∀ (w' : World) (y9 y10 y11 y12 y13 y14 y15 y49 y50 y51 y52 y53 y54 y55 y56 y57 y58 y59 y60 y61 y62 y63 y64 y65 y66 y67 y68 y69 y70 y71 y72 y73 y74 y75 y76 y77 y78 y79 y80 y81 y82 y83 y84 y85 y86 y87 y88 y89 y90 y91 y92 y93 y94 y95 y96 y97 y98 y99 y100 y101 y102 : Value), Ch (fun _ => False) w w' → Q .normal { tmps := #[.int .i64 (x.toNat : Int), .string s, u2, u3, u4, u5, u6, .string ⟨#[94, 37, x]⟩, .int .i64 (n : Int), y9, y10, y11, y12, y13, y14, y15, u16, u17, u18, u19, u20, u21, u22, u23, u24, u25, u26, u27, u28, u29, u30, u31, u32, u33, u34, u35, u36, u37, u38, u39, u40, u41, u42, u43, u44, u45, sliceAt G 5 5, .int .i64 5, .int .i64 1, y49, y50, y51, y52, y53, y54, y55, y56, y57, y58, y59, y60, y61, y62, y63, y64, y65, y66, y67, y68, y69, y70, y71, y72, y73, y74, y75, y76, y77, y78, y79, y80, y81, y82, y83, y84, y85, y86, y87, y88, y89, y90, y91, y92, y93, y94, y95, y96, y97, y98, y99, y100, y101, y102], defers := [] } w') :
    body7.wp Tryf.prog Q { tmps := #[.int .i64 (x.toNat : Int), .string s, u2, u3, u4, u5, u6, .string ⟨#[94, 37, x]⟩, .int .i64 (n : Int), u9, u10, u11, u12, u13, u14, u15, u16, u17, u18, u19, u20, u21, u22, u23, u24, u25, u26, u27, u28, u29, u30, u31, u32, u33, u34, u35, u36, u37, u38, u39, u40, u41, u42, u43, u44, u45, sliceAt G 5 5, .int .i64 5, .int .i64 0, u49, u50, u51, u52, u53, u54, u55, u56, u57, u58, u59, u60, u61, u62, u63, u64, u65, u66, u67, u68, u69, u70, u71, u72, u73, u74, u75, u76, u77, u78, u79, u80, u81, u82, u83, u84, u85, u86, u87, u88, u89, u90, u91, u92, u93, u94, u95, u96, u97, u98, u99, u100, u101, u102], defers := [] } w := by
  have g0 : decide ((0 : Int) < (n : Int)) = true := decide_eq_true (by omega)
  have g1 : ¬ ((n : Int) ≤ 1) := by omega
  have g2 : (0 : Int) < (n : Int) := by omega
  have g3 : decide (0 < n) = true := decide_eq_true (by omega)
  have g4 : 0 < n := by omega
  have hix : ∀ w, (Instr.index 43 (.agg #[.int .i64 1, .int .i64 (n : Int), .int .i64 (n : Int), .int .i64 1, .int .i64 0]) (.int .i64 0)).run Tryf.prog w = .ok (.int .i64 1) w := fun _ => by kernel_rfl
  have HQ := Lib.hid hQ
  clear hQ
  conv => arg 2; whnf
  go_wp2_with fail
  refine (HF.out _).mono ?_
  rintro e w2 ⟨hch, p, q, A, A', c, c', rfl, rfl, rfl⟩
  have HC := Lib.hid hch
  clear hch
  simp only []
  go_wp2_with fail
  refine HQ.out _ _ _ _ _ _ _ _ _ _ _ _ _ _ _ _ _ _ _ _ _ _ _ _ _ _ _ _ _ _ _ _ _ _ _ _ _ _ _ _ _ _ _ _ _ _ _ _ _ _ _ _ _ _ _ _ _ _ _ _ _ _ ?_
  first | exact HC.out | exact HC.out.alloc _ | exact (((Ch.refl (fun _ => False) w).alloc _).trans HC.out).setCell (fun h => absurd h (Nat.lt_irrefl _)) _ | skip

set_option maxRecDepth 100000 in
set_option maxHeartbeats 4000000 in
theorem rpt_round1z {w : World} {x : UInt8} {s : ByteArray} {G : Nat} {Q : Exit → Act → World → Prop} {u2 u3 u4 u5 u6 u9 u10 u11 u12 u13 u14 u15 u16 u17 u18 u19 u20 u21 u22 u23 u24 u25 u26 u27 u28 u29 u30 u31 u32 u33 u34 u35 u36 u37 u38 u39 u40 u41 u42 u43 u44 u45 u49 u50 u51 u52 u53 u54 u55 u56 u57 u58 u59 u60 u61 u62 u63 u64 u65 u66 u67 u68 u69 u70 u71 u72 u73 u74 u75 u76 u77 u78 u79 u80 u81 u82 u83 u84 u85 u86 u87 u88 u89 u90 u91 u92 u93 u94 u95 u96 u97 u98 u99 u100 u101 u102 : Value} (hcell : w.cell? ⟨G, 1, none⟩ = some (.string ⟨#[42]⟩))
    (HF : Hid (∀ w1, Calls Tryf.prog 11 #[.string ⟨#[94, 37, x, 42]⟩, .string s, .int .i64 0] w1 fun e w' => Ch (fun _ => False) w1 w' ∧ ∃ (p q : Int) (A A' : Option Addr) (c c' : Nat), e = .returned (.tuple #[.agg #[.int .i64 p, .int .i64 q, .slice A 0 c, .slice A' 0 c'], .bool true, .bool true]) ∧ p = 0 ∧ q = 0))
    (hQ : ∀ (w' : World) (y9 y10 y11 y12 y13 y14 y15 y49 y50 y51 y52 y53 y54 y55 y56 y57 y58 y59 y60 y61 y62 y63 y64 y65 y66 y67 y68 y69 y70 y71 y72 y73 y74 y75 y76 y77 y78 y79 y80 y81 y82 y83 y84 y85 y86 y87 y88 y89 y90 y91 y92 y93 y94 y95 y96 y97 y98 y99 y100 y101 y102 : Value), Ch (fun _ => False) w w' → Q .normal { tmps := #[.int .i64 (x.toNat : Int), .string s, u2, u3, u4, u5, u6, .string ⟨#[94, 37, x]⟩, .int .i64 0, y9, y10, y11, y12, y13, y14, y15, u16, u17, u18, u19, u20, u21, u22, u23, u24, u25, u26, u27, u28, u29, u30, u31, u32, u33, u34, u35, u36, u37, u38, u39, u40, u41, u42, u43, u44, u45, sliceAt G 5 5, .int .i64 5, .int .i64 2, y49, y50, y51, y52, y53, y54, y55, y56, y57, y58, y59, y60, y61, y62, y63, y64, y65, y66, y67, y68, y69, y70, y71, y72, y73, y74, y75, y76, y77, y78, y79, y80, y81, y82, y83, y84, y85, y86, y87, y88, y89, y90, y91, y92, y93, y94, y95, y96, y97, y98, y99, y100, y101, y102], defers := [] } w') :
    body7.wp Tryf.prog Q { tmps := #[.int .i64 (x.toNat : Int), .string s, u2, u3, u4, u5, u6, .string ⟨#[94, 37, x]⟩, .int .i64 0, u9, u10, u11, u12, u13, u14, u15, u16, u17, u18, u19, u20, u21, u22, u23, u24, u25, u26, u27, u28, u29, u30, u31, u32, u33, u34, u35, u36, u37, u38, u39, u40, u41, u42, u43, u44, u45, sliceAt G 5 5, .int .i64 5, .int .i64 1, u49, u50, u51, u52, u53, u54, u55, u56, u57, u58, u59, u60, u61, u62, u63, u64, u65, u66, u67, u68, u69, u70, u71, u72, u73, u74, u75, u76, u77, u78, u79, u80, u81, u82, u83, u84, u85, u86, u87, u88, u89, u90, u91, u92, u93, u94, u95, u96, u97, u98, u99, u100, u101, u102], defers := [] } w := by
  have hix : ∀ w, (Instr.index 43 (.agg #[.int .i64 0, .int .i64 0, .int .i64 0, .int .i64 0, .int .i64 0]) (.int .i64 1)).run Tryf.prog w = .ok (.int .i64 0) w := fun _ => by kernel_rfl
  have HQ := Lib.hid hQ
  clear hQ
  conv => arg 2; whnf
  go_wp2_with fail
  refine (HF.out _).mono ?_
  rintro e w2 ⟨hch, p, q, A, A', c, c', rfl, rfl, rfl⟩
  have HC := Lib.hid hch
  clear hch
  simp only []
  go_wp2_with fail
  refine HQ.out _ _ _ _ _ _ _ _ _ _ _ _ _ _ _ _ _ _ _ _ _ _ _ _ _ _ _ _ _ _ _ _ _ _ _ _ _ _ _ _ _ _ _ _ _ _ _ _ _ _ _ _ _ _ _ _ _ _ _ _ _ _ ?_
  first | exact HC.out | exact HC.out.alloc _ | exact (((Ch.refl (fun _ => False) w).alloc _).trans HC.out).setCell (fun h => absurd h (Nat.lt_irrefl _)) _ | skip

set_option maxRecDepth 100000 in
set_option maxHeartbeats 4000000 in
theorem rpt_round1o {w : World} {x : UInt8} {s : ByteArray} {G : Nat} {Q : Exit → Act → World → Prop} {u2 u3 u4 u5 u6 u9 u10 u11 u12 u13 u14 u15 u16 u17 u18 u19 u20 u21 u22 u23 u24 u25 u26 u27 u28 u29 u30 u31 u32 u33 u34 u35 u36 u37 u38 u39 u40 u41 u42 u43 u44 u45 u49 u50 u51 u52 u53 u54 u55 u56 u57 u58 u59 u60 u61 u62 u63 u64 u65 u66 u67 u68 u69 u70 u71 u72 u73 u74 u75 u76 u77 u78 u79 u80 u81 u82 u83 u84 u85 u86 u87 u88 u89 u90 u91 u92 u93 u94 u95 u96 u97 u98 u99 u100 u101 u102 : Value} (hcell : w.cell? ⟨G, 1, none⟩ = some (.string ⟨#[42]⟩))
    (HF : Hid (∀ w1, Calls Tryf.prog 11 #[.string ⟨#[94, 37, x, 42]⟩, .string s, .int .i64 0] w1 fun e w' => Ch (fun _ => False) w1 w' ∧ ∃ (p q : Int) (A A' : Option Addr) (c c' : Nat), e = .returned (.tuple #[.agg #[.int .i64 p, .int .i64 q, .slice A 0 c, .slice A' 0 c'], .bool true, .bool true]) ∧ p = 0 ∧ q = 1))
    (hQ : ∀ (w' : World) (y9 y10 y11 y12 y13 y14 y15 y49 y50 y51 y52 y53 y54 y55 y56 y57 y58 y59 y60 y61 y62 y63 y64 y65 y66 y67 y68 y69 y70 y71 y72 y73 y74 y75 y76 y77 y78 y79 y80 y81 y82 y83 y84 y85 y86 y87 y88 y89 y90 y91 y92 y93 y94 y95 y96 y97 y98 y99 y100 y101 y102 : Value), Ch (fun _ => False) w w' → Q .normal { tmps := #[.int .i64 (x.toNat : Int), .string s, u2, u3, u4, u5, u6, .string ⟨#[94, 37, x]⟩, .int .i64 1, y9, y10, y11, y12, y13, y14, y15, u16, u17, u18, u19, u20, u21, u22, u23, u24, u25, u26, u27, u28, u29, u30, u31, u32, u33, u34, u35, u36, u37, u38, u39, u40, u41, u42, u43, u44, u45, sliceAt G 5 5, .int .i64 5, .int .i64 2, y49, y50, y51, y52, y53, y54, y55, y56, y57, y58, y59, y60, y61, y62, y63, y64, y65, y66, y67, y68, y69, y70, y71, y72, y73, y74, y75, y76, y77, y78, y79, y80, y81, y82, y83, y84, y85, y86, y87, y88, y89, y90, y91, y92, y93, y94, y95, y96, y97, y98, y99, y100, y101, y102], defers := [] } w') :
    body7.wp Tryf.prog Q { tmps := #[.int .i64 (x.toNat : Int), .string s, u2, u3, u4, u5, u6, .string ⟨#[94, 37, x]⟩, .int .i64 1, u9, u10, u11, u12, u13, u14, u15, u16, u17, u18, u19, u20, u21, u22, u23, u24, u25, u26, u27, u28, u29, u30, u31, u32, u33, u34, u35, u36, u37, u38, u39, u40, u41, u42, u43, u44, u45, sliceAt G 5 5, .int .i64 5, .int .i64 1, u49, u50, u51, u52, u53, u54, u55, u56, u57, u58, u59, u60, u61, u62, u63, u64, u65, u66, u67, u68, u69, u70, u71, u72, u73, u74, u75, u76, u77, u78, u79, u80, u81, u82, u83, u84, u85, u86, u87, u88, u89, u90, u91, u92, u93, u94, u95, u96, u97, u98, u99, u100, u101, u102], defers := [] } w := by
  have hix : ∀ w, (Instr.index 43 (.agg #[.int .i64 1, .int .i64 1, .int .i64 1, .int .i64 1, .int .i64 0]) (.int .i64 1)).run Tryf.prog w = .ok (.int .i64 1) w := fun _ => by kernel_rfl
  have HQ := Lib.hid hQ
  clear hQ
  conv => arg 2; whnf
  go_wp2_with fail
  refine (HF.out _).mono ?_
  rintro e w2 ⟨hch, p, q, A, A', c, c', rfl, rfl, rfl⟩
  have HC := Lib.hid hch
  clear hch
  simp only []
  go_wp2_with fail
  refine HQ.out _ _ _ _ _ _ _ _ _ _ _ _ _ _ _ _ _ _ _ _ _ _ _ _ _ _ _ _ _ _ _ _ _ _ _ _ _ _ _ _ _ _ _ _ _ _ _ _ _ _ _ _ _ _ _ _ _ _ _ _ _ _ ?_
  first | exact HC.out | exact HC.out.alloc _ | exact (((Ch.refl (fun _ => False) w).alloc _).trans HC.out).setCell (fun h => absurd h (Nat.lt_irrefl _)) _ | skip

set_option maxRecDepth 100000 in
set_option maxHeartbeats 4000000 in
theorem rpt_round1p {w : World} {x : UInt8} {s : ByteArray} {n : Nat} {G : Nat} {Q : Exit → Act → World → Prop} {u2 u3 u4 u5 u6 u9 u10 u11 u12 u13 u14 u15 u16 u17 u18 u19 u20 u21 u22 u23 u24 u25 u26 u27 u28 u29 u30 u31 u32 u33 u34 u35 u36 u37 u38 u39 u40 u41 u42 u43 u44 u45 u49 u50 u51 u52 u53 u54 u55 u56 u57 u58 u59 u60 u61 u62 u63 u64 u65 u66 u67 u68 u69 u70 u71 u72 u73 u74 u75 u76 u77 u78 u79 u80 u81 u82 u83 u84 u85 u86 u87 u88 u89 u90 u91 u92 u93 u94 u95 u96 u97 u98 u99 u100 u101 u102 : Value} (hn : 2 ≤ n) (hn2 : n ≤ 1000) (hcell : w.cell? ⟨G, 1, none⟩ = some (.string ⟨#[42]⟩))
    (HF : Hid (∀ w1, Calls Tryf.prog 11 #[.string ⟨#[94, 37, x, 42]⟩, .string s, .int .i64 0] w1 fun e w' => Ch (fun _ => False) w1 w' ∧ ∃ (p q : Int) (A A' : Option Addr) (c c' : Nat), e = .returned (.tuple #[.agg #[.int .i64 p, .int .i64 q, .slice A 0 c, .slice A' 0 c'], .bool true, .bool true]) ∧ p = 0 ∧ q = (n : Int)))
    (hQ : ∀ (w' : World) (y9 y10 y11 y12 y13 y14 y15 y49 y50 y51 y52 y53 y54 y55 y56 y57 y58 y59 y60 y61 y62 y63 y64 y65 y66 y67 y68 y69 y70 y71 y72 y73 y74 y75 y76 y77 y78 y79 y80 y81 y82 y83 y84 y85 y86 y87 y88 y89 y90 y91 y92 y93 y94 y95 y96 y97 y98 y99 y100 y101 y102 : Value), Ch (fun _ => False) w w' → Q .normal { tmps := #[.int .i64 (x.toNat : Int), .string s, u2, u3, u4, u5, u6, .string ⟨#[94, 37, x]⟩, .int .i64 (n : Int), y9, y10, y11, y12, y13, y14, y15, u16, u17, u18, u19, u20, u21, u22, u23, u24, u25, u26, u27, u28, u29, u30, u31, u32, u33, u34, u35, u36, u37, u38, u39, u40, u41, u42, u43, u44, u45, sliceAt G 5 5, .int .i64 5, .int .i64 2, y49, y50, y51, y52, y53, y54, y55, y56, y57, y58, y59, y60, y61, y62, y63, y64, y65, y66, y67, y68, y69, y70, y71, y72, y73, y74, y75, y76, y77, y78, y79, y80, y81, y82, y83, y84, y85, y86, y87, y88, y89, y90, y91, y92, y93, y94, y95, y96, y97, y98, y99, y100, y101, y102], defers := [] } w') :
    body7.wp Tryf.prog Q { tmps := #[.int .i64 (x.toNat : Int), .string s, u2, u3, u4, u5, u6, .string ⟨#[94, 37, x]⟩, .int .i64 (n : Int), u9, u10, u11, u12, u13, u14, u15, u16, u17, u18, u19, u20, u21, u22, u23, u24, u25, u26, u27, u28, u29, u30, u31, u32, u33, u34, u35, u36, u37, u38, u39, u40, u41, u42, u43, u44, u45, sliceAt G 5 5, .int .i64 5, .int .i64 1, u49, u50, u51, u52, u53, u54, u55, u56, u57, u58, u59, u60, u61, u62, u63, u64, u65, u66, u67, u68, u69, u70, u71, u72, u73, u74, u75, u76, u77, u78, u79, u80, u81, u82, u83, u84, u85, u86, u87, u88, u89, u90, u91, u92, u93, u94, u95, u96, u97, u98, u99, u100, u101, u102], defers := [] } w := by
  have g0 : decide ((0 : Int) < (n : Int)) = true := decide_eq_true (by omega)
  have g1 : ¬ ((n : Int) ≤ 1) := by omega
  have g2 : (0 : Int) < (n : Int) := by omega
  have g3 : decide (0 < n) = true := decide_eq_true (by omega)
  have g4 : 0 < n := by omega
  have hix : ∀ w, (Instr.index 43 (.agg #[.int .i64 1, .int .i64 (n : Int), .int .i64 (n : Int), .int .i64 1, .int .i64 0]) (.int .i64 1)).run Tryf.prog w = .ok (.int .i64 (n : Int)) w := fun _ => by kernel_rfl
  have HQ := Lib.hid hQ
  clear hQ
  conv => arg 2; whnf
  go_wp2_with fail
  refine (HF.out _).mono ?_
  rintro e w2 ⟨hch, p, q, A, A', c, c', rfl, rfl, rfl⟩
  have HC := Lib.hid hch
  clear hch
  simp only []
  go_wp2_with fail
  refine HQ.out _ _ _ _ _ _ _ _ _ _ _ _ _ _ _ _ _ _ _ _ _ _ _ _ _ _ _ _ _ _ _ _ _ _ _ _ _ _ _ _ _ _ _ _ _ _ _ _ _ _ _ _ _ _ _ _ _ _ _ _ _ _ ?_
  first | exact HC.out | exact HC.out.alloc _ | exact (((Ch.refl (fun _ => False) w).alloc _).trans HC.out).setCell (fun h => absurd h (Nat.lt_irrefl _)) _ | skip

set_option maxRecDepth 100000 in
set_option maxHeartbeats 4000000 in
theorem rpt_round2z {w : World} {x : UInt8} {s : ByteArray} {G : Nat} {Q : Exit → Act → World → Prop} {u2 u3 u4 u5 u6 u9 u10 u11 u12 u13 u14 u15 u16 u17 u18 u19 u20 u21 u22 u23 u24 u25 u26 u27 u28 u29 u30 u31 u32 u33 u34 u35 u36 u37 u38 u39 u40 u41 u42 u43 u44 u45 u49 u50 u51 u52 u53 u54 u55 u56 u57 u58 u59 u60 u61 u62 u63 u64 u65 u66 u67 u68 u69 u70 u71 u72 u73 u74 u75 u76 u77 u78 u79 u80 u81 u82 u83 u84 u85 u86 u87 u88 u89 u90 u91 u92 u93 u94 u95 u96 u97 u98 u99 u100 u101 u102 : Value} (hcell : w.cell? ⟨G, 2, none⟩ = some (.string ⟨#[43]⟩))
    (HF : Hid (∀ w1, Calls Tryf.prog 11 #[.string ⟨#[94, 37, x, 43]⟩, .string s, .int .i64 0] w1 fun e w' => Ch (fun _ => False) w1 w' ∧ ∃ (p q : Int) (A A' : Option Addr) (c c' : Nat), e = .returned (.tuple #[.agg #[.int .i64 p, .int .i64 q, .slice A 0 c, .slice A' 0 c'], .bool true, .bool false])))
    (hQ : ∀ (w' : World) (y9 y10 y11 y12 y13 y14 y15 y49 y50 y51 y52 y53 y54 y55 y56 y57 y58 y59 y60 y61 y62 y63 y64 y65 y66 y67 y68 y69 y70 y71 y72 y73 y74 y75 y76 y77 y78 y79 y80 y81 y82 y83 y84 y85 y86 y87 y88 y89 y90 y91 y92 y93 y94 y95 y96 y97 y98 y99 y100 y101 y102 : Value), Ch (fun _ => False) w w' → Q .normal { tmps := #[.int .i64 (x.toNat : Int), .string s, u2, u3, u4, u5, u6, .string ⟨#[94, 37, x]⟩, .int .i64 0, y9, y10, y11, y12, y13, y14, y15, u16, u17, u18, u19, u20, u21, u22, u23, u24, u25, u26, u27, u28, u29, u30, u31, u32, u33, u34, u35, u36, u37, u38, u39, u40, u41, u42, u43, u44, u45, sliceAt G 5 5, .int .i64 5, .int .i64 3, y49, y50, y51, y52, y53, y54, y55, y56, y57, y58, y59, y60, y61, y62, y63, y64, y65, y66, y67, y68, y69, y70, y71, y72, y73, y74, y75, y76, y77, y78, y79, y80, y81, y82, y83, y84, y85, y86, y87, y88, y89, y90, y91, y92, y93, y94, y95, y96, y97, y98, y99, y100, y101, y102], defers := [] } w') :
    body7.wp Tryf.prog Q { tmps := #[.int .i64 (x.toNat : Int), .string s, u2, u3, u4, u5, u6, .string ⟨#[94, 37, x]⟩, .int .i64 0, u9, u10, u11, u12, u13, u14, u15, u16, u17, u18, u19, u20, u21, u22, u23, u24, u25, u26, u27, u28, u29, u30, u31, u32, u33, u34, u35, u36, u37, u38, u39, u40, u41, u42, u43, u44, u45, sliceAt G 5 5, .int .i64 5, .int .i64 2, u49, u50, u51, u52, u53, u54, u55, u56, u57, u58, u59, u60, u61, u62, u63, u64, u65, u66, u67, u68, u69, u70, u71, u72, u73, u74, u75, u76, u77, u78, u79, u80, u81, u82, u83, u84, u85, u86, u87, u88, u89, u90, u91, u92, u93, u94, u95, u96, u97, u98, u99, u100, u101, u102], defers := [] } w := by
  have hix : ∀ w, (Instr.index 43 (.agg #[.int .i64 0, .int .i64 0, .int .i64 0, .int .i64 0, .int .i64 0]) (.int .i64 2)).run Tryf.prog w = .ok (.int .i64 0) w := fun _ => by kernel_rfl
  have HQ := Lib.hid hQ
  clear hQ
  conv => arg 2; whnf
  go_wp2_with fail
  refine (HF.out _).mono ?_
  rintro e w2 ⟨hch, p, q, A, A', c, c', rfl⟩
  have HC := Lib.hid hch
  clear hch
  simp only []
  go_wp2_with fail
  refine HQ.out _ _ _ _ _ _ _ _ _ _ _ _ _ _ _ _ _ _ _ _ _ _ _ _ _ _ _ _ _ _ _ _ _ _ _ _ _ _ _ _ _ _ _ _ _ _ _ _ _ _ _ _ _ _ _ _ _ _ _ _ _ _ ?_
  first | exact HC.out | exact HC.out.alloc _ | exact (((Ch.refl (fun _ => False) w).alloc _).trans HC.out).setCell (fun h => absurd h (Nat.lt_irrefl _)) _ | skip

set_option maxRecDepth 100000 in
set_option maxHeartbeats 4000000 in
theorem rpt_round2o {w : World} {x : UInt8} {s : ByteArray} {G : Nat} {Q : Exit → Act → World → Prop} {u2 u3 u4 u5 u6 u9 u10 u11 u12 u13 u14 u15 u16 u17 u18 u19 u20 u21 u22 u23 u24 u25 u26 u27 u28 u29 u30 u31 u32 u33 u34 u35 u36 u37 u38 u39 u40 u41 u42 u43 u44 u45 u49 u50 u51 u52 u53 u54 u55 u56 u57 u58 u59 u60 u61 u62 u63 u64 u65 u66 u67 u68 u69 u70 u71 u72 u73 u74 u75 u76 u77 u78 u79 u80 u81 u82 u83 u84 u85 u86 u87 u88 u89 u90 u91 u92 u93 u94 u95 u96 u97 u98 u99 u100 u101 u102 : Value} (hcell : w.cell? ⟨G, 2, none⟩ = some (.string ⟨#[43]⟩))
    (HF : Hid (∀ w1, Calls Tryf.prog 11 #[.string ⟨#[94, 37, x, 43]⟩, .string s, .int .i64 0] w1 fun e w' => Ch (fun _ => False) w1 w' ∧ ∃ (p q : Int) (A A' : Option Addr) (c c' : Nat), e = .returned (.tuple #[.agg #[.int .i64 p, .int .i64 q, .slice A 0 c, .slice A' 0 c'], .bool true, .bool true]) ∧ p = 0 ∧ q = 1))
    (hQ : ∀ (w' : World) (y9 y10 y11 y12 y13 y14 y15 y49 y50 y51 y52 y53 y54 y55 y56 y57 y58 y59 y60 y61 y62 y63 y64 y65 y66 y67 y68 y69 y70 y71 y72 y73 y74 y75 y76 y77 y78 y79 y80 y81 y82 y83 y84 y85 y86 y87 y88 y89 y90 y91 y92 y93 y94 y95 y96 y97 y98 y99 y100 y101 y102 : Value), Ch (fun _ => False) w w' → Q .normal { tmps := #[.int .i64 (x.toNat : Int), .string s, u2, u3, u4, u5, u6, .string ⟨#[94, 37, x]⟩, .int .i64 1, y9, y10, y11, y12, y13, y14, y15, u16, u17, u18, u19, u20, u21, u22, u23, u24, u25, u26, u27, u28, u29, u30, u31, u32, u33, u34, u35, u36, u37, u38, u39, u40, u41, u42, u43, u44, u45, sliceAt G 5 5, .int .i64 5, .int .i64 3, y49, y50, y51, y52, y53, y54, y55, y56, y57, y58, y59, y60, y61, y62, y63, y64, y65, y66, y67, y68, y69, y70, y71, y72, y73, y74, y75, y76, y77, y78, y79, y80, y81, y82, y83, y84, y85, y86, y87, y88, y89, y90, y91, y92, y93, y94, y95, y96, y97, y98, y99, y100, y101, y102], defers := [] } w') :
    body7.wp Tryf.prog Q { tmps := #[.int .i64 (x.toNat : Int), .string s, u2, u3, u4, u5, u6, .string ⟨#[94, 37, x]⟩, .int .i64 1, u9, u10, u11, u12, u13, u14, u15, u16, u17, u18, u19, u20, u21, u22, u23, u24, u25, u26, u27, u28, u29, u30, u31, u32, u33, u34, u35, u36, u37, u38, u39, u40, u41, u42, u43, u44, u45, sliceAt G 5 5, .int .i64 5, .int .i64 2, u49, u50, u51, u52, u53, u54, u55, u56, u57, u58, u59, u60, u61, u62, u63, u64, u65, u66, u67, u68, u69, u70, u71, u72, u73, u74, u75, u76, u77, u78, u79, u80, u81, u82, u83, u84, u85, u86, u87, u88, u89, u90, u91, u92, u93, u94, u95, u96, u97, u98, u99, u100, u101, u102], defers := [] } w := by
  have hix : ∀ w, (Instr.index 43 (.agg #[.int .i64 1, .int .i64 1, .int .i64 1, .int .i64 1, .int .i64 0]) (.int .i64 2)).run Tryf.prog w = .ok (.int .i64 1) w := fun _ => by kernel_rfl
  have HQ := Lib.hid hQ
  clear hQ
  conv => arg 2; whnf
  go_wp2_with fail
  refine (HF.out _).mono ?_
  rintro e w2 ⟨hch, p, q, A, A', c, c', rfl, rfl, rfl⟩
  have HC := Lib.hid hch
  clear hch
  simp only []
  go_wp2_with fail
  refine HQ.out _ _ _ _ _ _ _ _ _ _ _ _ _ _ _ _ _ _ _ _ _ _ _ _ _ _ _ _ _ _ _ _ _ _ _ _ _ _ _ _ _ _ _ _ _ _ _ _ _ _ _ _ _ _ _ _ _ _ _ _ _ _ ?_
  first | exact HC.out | exact HC.out.alloc _ | exact (((Ch.refl (fun _ => False) w).alloc _).trans HC.out).setCell (fun h => absurd h (Nat.lt_irrefl _)) _ | skip

set_option maxRecDepth 100000 in
set_option maxHeartbeats 4000000 in
theorem rpt_round2p {w : World} {x : UInt8} {s : ByteArray} {n : Nat} {G : Nat} {Q : Exit → Act → World → Prop} {u2 u3 u4 u5 u6 u9 u10 u11 u12 u13 u14 u15 u16 u17 u18 u19 u20 u21 u22 u23 u24 u25 u26 u27 u28 u29 u30 u31 u32 u33 u34 u35 u36 u37 u38 u39 u40 u41 u42 u43 u44 u45 u49 u50 u51 u52 u53 u54 u55 u56 u57 u58 u59 u60 u61 u62 u63 u64 u65 u66 u67 u68 u69 u70 u71 u72 u73 u74 u75 u76 u77 u78 u79 u80 u81 u82 u83 u84 u85 u86 u87 u88 u89 u90 u91 u92 u93 u94 u95 u96 u97 u98 u99 u100 u101 u102 : Value} (hn : 2 ≤ n) (hn2 : n ≤ 1000) (hcell : w.cell? ⟨G, 2, none⟩ = some (.string ⟨#[43]⟩))
    (HF : Hid (∀ w1, Calls Tryf.prog 11 #[.string ⟨#[94, 37, x, 43]⟩, .string s, .int .i64 0] w1 fun e w' => Ch (fun _ => False) w1 w' ∧ ∃ (p q : Int) (A A' : Option Addr) (c c' : Nat), e = .returned (.tuple #[.agg #[.int .i64 p, .int .i64 q, .slice A 0 c, .slice A' 0 c'], .bool true, .bool true]) ∧ p = 0 ∧ q = (n : Int)))
    (hQ : ∀ (w' : World) (y9 y10 y11 y12 y13 y14 y15 y49 y50 y51 y52 y53 y54 y55 y56 y57 y58 y59 y60 y61 y62 y63 y64 y65 y66 y67 y68 y69 y70 y71 y72 y73 y74 y75 y76 y77 y78 y79 y80 y81 y82 y83 y84 y85 y86 y87 y88 y89 y90 y91 y92 y93 y94 y95 y96 y97 y98 y99 y100 y101 y102 : Value), Ch (fun _ => False) w w' → Q .normal { tmps := #[.int .i64 (x.toNat : Int), .string s, u2, u3, u4, u5, u6, .string ⟨#[94, 37, x]⟩, .int .i64 (n : Int), y9, y10, y11, y12, y13, y14, y15, u16, u17, u18, u19, u20, u21, u22, u23, u24, u25, u26, u27, u28, u29, u30, u31, u32, u33, u34, u35, u36, u37, u38, u39, u40, u41, u42, u43, u44, u45, sliceAt G 5 5, .int .i64 5, .int .i64 3, y49, y50, y51, y52, y53, y54, y55, y56, y57, y58, y59, y60, y61, y62, y63, y64, y65, y66, y67, y68, y69, y70, y71, y72, y73, y74, y75, y76, y77, y78, y79, y80, y81, y82, y83, y84, y85, y86, y87, y88, y89, y90, y91, y92, y93, y94, y95, y96, y97, y98, y99, y100, y101, y102], defers := [] } w') :
    body7.wp Tryf.prog Q { tmps := #[.int .i64 (x.toNat : Int), .string s, u2, u3, u4, u5, u6, .string ⟨#[94, 37, x]⟩, .int .i64 (n : Int), u9, u10, u11, u12, u13, u14, u15, u16, u17, u18, u19, u20, u21, u22, u23, u24, u25, u26, u27, u28, u29, u30, u31, u32, u33, u34, u35, u36, u37, u38, u39, u40, u41, u42, u43, u44, u45, sliceAt G 5 5, .int .i64 5, .int .i64 2, u49, u50, u51, u52, u53, u54, u55, u56, u57, u58, u59, u60, u61, u62, u63, u64, u65, u66, u67, u68, u69, u70, u71, u72, u73, u74, u75, u76, u77, u78, u79, u80, u81, u82, u83, u84, u85, u86, u87, u88, u89, u90, u91, u92, u93, u94, u95, u96, u97, u98, u99, u100, u101, u102], defers := [] } w := by
  have g0 : decide ((0 : Int) < (n : Int)) = true := decide_eq_true (by omega)
  have g1 : ¬ ((n : Int) ≤ 1) := by omega
  have g2 : (0 : Int) < (n : Int) := by omega
  have g3 : decide (0 < n) = true := decide_eq_true (by omega)
  have g4 : 0 < n := by omega
  have hix : ∀ w, (Instr.index 43 (.agg #[.int .i64 1, .int .i64 (n : Int), .int .i64 (n : Int), .int .i64 1, .int .i64 0]) (.int .i64 2)).run Tryf.prog w = .ok (.int .i64 (n : Int)) w := fun _ => by kernel_rfl
  have HQ := Lib.hid hQ
  clear hQ
  conv => arg 2; whnf
  go_wp2_with fail
  refine (HF.out _).mono ?_
  rintro e w2 ⟨hch, p, q, A, A', c, c', rfl, rfl, rfl⟩
  have HC := Lib.hid hch
  clear hch
  simp only []
  go_wp2_with fail
  refine HQ.out _ _ _ _ _ _ _ _ _ _ _ _ _ _ _ _ _ _ _ _ _ _ _ _ _ _ _ _ _ _ _ _ _ _ _ _ _ _ _ _ _ _ _ _ _ _ _ _ _ _ _ _ _ _ _ _ _ _ _ _ _ _ ?_
  first | exact HC.out | exact HC.out.alloc _ | exact (((Ch.refl (fun _ => False) w).alloc _).trans HC.out).setCell (fun h => absurd h (Nat.lt_irrefl _)) _ | skip

set_option maxRecDepth 100000 in
set_option maxHeartbeats 4000000 in
theorem rpt_round3z {w : World} {x : UInt8} {s : ByteArray} {G : Nat} {Q : Exit → Act → World → Prop} {u2 u3 u4 u5 u6 u9 u10 u11 u12 u13 u14 u15 u16 u17 u18 u19 u20 u21 u22 u23 u24 u25 u26 u27 u28 u29 u30 u31 u32 u33 u34 u35 u36 u37 u38 u39 u40 u41 u42 u43 u44 u45 u49 u50 u51 u52 u53 u54 u55 u56 u57 u58 u59 u60 u61 u62 u63 u64 u65 u66 u67 u68 u69 u70 u71 u72 u73 u74 u75 u76 u77 u78 u79 u80 u81 u82 u83 u84 u85 u86 u87 u88 u89 u90 u91 u92 u93 u94 u95 u96 u97 u98 u99 u100 u101 u102 : Value} (hcell : w.cell? ⟨G, 3, none⟩ = some (.string ⟨#[63]⟩))
    (HF : Hid (∀ w1, Calls Tryf.prog 11 #[.string ⟨#[94, 37, x, 63]⟩, .string s, .int .i64 0] w1 fun e w' => Ch (fun _ => False) w1 w' ∧ ∃ (p q : Int) (A A' : Option Addr) (c c' : Nat), e = .returned (.tuple #[.agg #[.int .i64 p, .int .i64 q, .slice A 0 c, .slice A' 0 c'], .bool true, .bool true]) ∧ p = 0 ∧ q = 0))
    (hQ : ∀ (w' : World) (y9 y10 y11 y12 y13 y14 y15 y49 y50 y51 y52 y53 y54 y55 y56 y57 y58 y59 y60 y61 y62 y63 y64 y65 y66 y67 y68 y69 y70 y71 y72 y73 y74 y75 y76 y77 y78 y79 y80 y81 y82 y83 y84 y85 y86 y87 y88 y89 y90 y91 y92 y93 y94 y95 y96 y97 y98 y99 y100 y101 y102 : Value), Ch (fun _ => False) w w' → Q .normal { tmps := #[.int .i64 (x.toNat : Int), .string s, u2, u3, u4, u5, u6, .string ⟨#[94, 37, x]⟩, .int .i64 0, y9, y10, y11, y12, y13, y14, y15, u16, u17, u18, u19, u20, u21, u22, u23, u24, u25, u26, u27, u28, u29, u30, u31, u32, u33, u34, u35, u36, u37, u38, u39, u40, u41, u42, u43, u44, u45, sliceAt G 5 5, .int .i64 5, .int .i64 4, y49, y50, y51, y52, y53, y54, y55, y56, y57, y58, y59, y60, y61, y62, y63, y64, y65, y66, y67, y68, y69, y70, y71, y72, y73, y74, y75, y76, y77, y78, y79, y80, y81, y82, y83, y84, y85, y86, y87, y88, y89, y90, y91, y92, y93, y94, y95, y96, y97, y98, y99, y100, y101, y102], defers := [] } w') :
    body7.wp Tryf.prog Q { tmps := #[.int .i64 (x.toNat : Int), .string s, u2, u3, u4, u5, u6, .string ⟨#[94, 37, x]⟩, .int .i64 0, u9, u10, u11, u12, u13, u14, u15, u16, u17, u18, u19, u20, u21, u22, u23, u24, u25, u26, u27, u28, u29, u30, u31, u32, u33, u34, u35, u36, u37, u38, u39, u40, u41, u42, u43, u44, u45, sliceAt G 5 5, .int .i64 5, .int .i64 3, u49, u50, u51, u52, u53, u54, u55, u56, u57, u58, u59, u60, u61, u62, u63, u64, u65, u66, u67, u68, u69, u70, u71, u72, u73, u74, u75, u76, u77, u78, u79, u80, u81, u82, u83, u84, u85, u86, u87, u88, u89, u90, u91, u92, u93, u94, u95, u96, u97, u98, u99, u100, u101, u102], defers := [] } w := by
  have hix : ∀ w, (Instr.index 43 (.agg #[.int .i64 0, .int .i64 0, .int .i64 0, .int .i64 0, .int .i64 0]) (.int .i64 3)).run Tryf.prog w = .ok (.int .i64 0) w := fun _ => by kernel_rfl
  have HQ := Lib.hid hQ
  clear hQ
  conv => arg 2; whnf
  go_wp2_with fail
  refine (HF.out _).mono ?_
  rintro e w2 ⟨hch, p, q, A, A', c, c', rfl, rfl, rfl⟩
  have HC := Lib.hid hch
  clear hch
  simp only []
  go_wp2_with fail
  refine HQ.out _ _ _ _ _ _ _ _ _ _ _ _ _ _ _ _ _ _ _ _ _ _ _ _ _ _ _ _ _ _ _ _ _ _ _ _ _ _ _ _ _ _ _ _ _ _ _ _ _ _ _ _ _ _ _ _ _ _ _ _ _ _ ?_
  first | exact HC.out | exact HC.out.alloc _ | exact (((Ch.refl (fun _ => False) w).alloc _).trans HC.out).setCell (fun h => absurd h (Nat.lt_irrefl _)) _ | skip

set_option maxRecDepth 100000 in
set_option maxHeartbeats 4000000 in
theorem rpt_round3o {w : World} {x : UInt8} {s : ByteArray} {G : Nat} {Q : Exit → Act → World → Prop} {u2 u3 u4 u5 u6 u9 u10 u11 u12 u13 u14 u15 u16 u17 u18 u19 u20 u21 u22 u23 u24 u25 u26 u27 u28 u29 u30 u31 u32 u33 u34 u35 u36 u37 u38 u39 u40 u41 u42 u43 u44 u45 u49 u50 u51 u52 u53 u54 u55 u56 u57 u58 u59 u60 u61 u62 u63 u64 u65 u66 u67 u68 u69 u70 u71 u72 u73 u74 u75 u76 u77 u78 u79 u80 u81 u82 u83 u84 u85 u86 u87 u88 u89 u90 u91 u92 u93 u94 u95 u96 u97 u98 u99 u100 u101 u102 : Value} (hcell : w.cell? ⟨G, 3, none⟩ = some (.string ⟨#[63]⟩))
    (HF : Hid (∀ w1, Calls Tryf.prog 11 #[.string ⟨#[94, 37, x, 63]⟩, .string s, .int .i64 0] w1 fun e w' => Ch (fun _ => False) w1 w' ∧ ∃ (p q : Int) (A A' : Option Addr) (c c' : Nat), e = .returned (.tuple #[.agg #[.int .i64 p, .int .i64 q, .slice A 0 c, .slice A' 0 c'], .bool true, .bool true]) ∧ p = 0 ∧ q = 1))
    (hQ : ∀ (w' : World) (y9 y10 y11 y12 y13 y14 y15 y49 y50 y51 y52 y53 y54 y55 y56 y57 y58 y59 y60 y61 y62 y63 y64 y65 y66 y67 y68 y69 y70 y71 y72 y73 y74 y75 y76 y77 y78 y79 y80 y81 y82 y83 y84 y85 y86 y87 y88 y89 y90 y91 y92 y93 y94 y95 y96 y97 y98 y99 y100 y101 y102 : Value), Ch (fun _ => False) w w' → Q .normal { tmps := #[.int .i64 (x.toNat : Int), .string s, u2, u3, u4, u5, u6, .string ⟨#[94, 37, x]⟩, .int .i64 1, y9, y10, y11, y12, y13, y14, y15, u16, u17, u18, u19, u20, u21, u22, u23, u24, u25, u26, u27, u28, u29, u30, u31, u32, u33, u34, u35, u36, u37, u38, u39, u40, u41, u42, u43, u44, u45, sliceAt G 5 5, .int .i64 5, .int .i64 4, y49, y50, y51, y52, y53, y54, y55, y56, y57, y58, y59, y60, y61, y62, y63, y64, y65, y66, y67, y68, y69, y70, y71, y72, y73, y74, y75, y76, y77, y78, y79, y80, y81, y82, y83, y84, y85, y86, y87, y88, y89, y90, y91, y92, y93, y94, y95, y96, y97, y98, y99, y100, y101, y102], defers := [] } w') :
    body7.wp Tryf.prog Q { tmps := #[.int .i64 (x.toNat : Int), .string s, u2, u3, u4, u5, u6, .string ⟨#[94, 37, x]⟩, .int .i64 1, u9, u10, u11, u12, u13, u14, u15, u16, u17, u18, u19, u20, u21, u22, u23, u24, u25, u26, u27, u28, u29, u30, u31, u32, u33, u34, u35, u36, u37, u38, u39, u40, u41, u42, u43, u44, u45, sliceAt G 5 5, .int .i64 5, .int .i64 3, u49, u50, u51, u52, u53, u54, u55, u56, u57, u58, u59, u60, u61, u62, u63, u64, u65, u66, u67, u68, u69, u70, u71, u72, u73, u74, u75, u76, u77, u78, u79, u80, u81, u82, u83, u84, u85, u86, u87, u88, u89, u90, u91, u92, u93, u94, u95, u96, u97, u98, u99, u100, u101, u102], defers := [] } w := by
  have hix : ∀ w, (Instr.index 43 (.agg #[.int .i64 1, .int .i64 1, .int .i64 1, .int .i64 1, .int .i64 0]) (.int .i64 3)).run Tryf.prog w = .ok (.int .i64 1) w := fun _ => by kernel_rfl
  have HQ := Lib.hid hQ
  clear hQ
  conv => arg 2; whnf
  go_wp2_with fail
  refine (HF.out _).mono ?_
  rintro e w2 ⟨hch, p, q, A, A', c, c', rfl, rfl, rfl⟩
  have HC := Lib.hid hch
  clear hch
  simp only []
  go_wp2_with fail
  refine HQ.out _ _ _ _ _ _ _ _ _ _ _ _ _ _ _ _ _ _ _ _ _ _ _ _ _ _ _ _ _ _ _ _ _ _ _ _ _ _ _ _ _ _ _ _ _ _ _ _ _ _ _ _ _ _ _ _ _ _ _ _ _ _ ?_
  first | exact HC.out | exact HC.out.alloc _ | exact (((Ch.refl (fun _ => False) w).alloc _).trans HC.out).setCell (fun h => absurd h (Nat.lt_irrefl _)) _ | skip

set_option maxRecDepth 100000 in
set_option maxHeartbeats 4000000 in
theorem rpt_round3p {w : World} {x : UInt8} {s : ByteArray} {n : Nat} {G : Nat} {Q : Exit → Act → World → Prop} {u2 u3 u4 u5 u6 u9 u10 u11 u12 u13 u14 u15 u16 u17 u18 u19 u20 u21 u22 u23 u24 u25 u26 u27 u28 u29 u30 u31 u32 u33 u34 u35 u36 u37 u38 u39 u40 u41 u42 u43 u44 u45 u49 u50 u51 u52 u53 u54 u55 u56 u57 u58 u59 u60 u61 u62 u63 u64 u65 u66 u67 u68 u69 u70 u71 u72 u73 u74 u75 u76 u77 u78 u79 u80 u81 u82 u83 u84 u85 u86 u87 u88 u89 u90 u91 u92 u93 u94 u95 u96 u97 u98 u99 u100 u101 u102 : Value} (hn : 2 ≤ n) (hn2 : n ≤ 1000) (hcell : w.cell? ⟨G, 3, none⟩ = some (.string ⟨#[63]⟩))
    (HF : Hid (∀ w1, Calls Tryf.prog 11 #[.string ⟨#[94, 37, x, 63]⟩, .string s, .int .i64 0] w1 fun e w' => Ch (fun _ => False) w1 w' ∧ ∃ (p q : Int) (A A' : Option Addr) (c c' : Nat), e = .returned (.tuple #[.agg #[.int .i64 p, .int .i64 q, .slice A 0 c, .slice A' 0 c'], .bool true, .bool true]) ∧ p = 0 ∧ q = 1))
    (hQ : ∀ (w' : World) (y9 y10 y11 y12 y13 y14 y15 y49 y50 y51 y52 y53 y54 y55 y56 y57 y58 y59 y60 y61 y62 y63 y64 y65 y66 y67 y68 y69 y70 y71 y72 y73 y74 y75 y76 y77 y78 y79 y80 y81 y82 y83 y84 y85 y86 y87 y88 y89 y90 y91 y92 y93 y94 y95 y96 y97 y98 y99 y100 y101 y102 : Value), Ch (fun _ => False) w w' → Q .normal { tmps := #[.int .i64 (x.toNat : Int), .string s, u2, u3, u4, u5, u6, .string ⟨#[94, 37, x]⟩, .int .i64 (n : Int), y9, y10, y11, y12, y13, y14, y15, u16, u17, u18, u19, u20, u21, u22, u23, u24, u25, u26, u27, u28, u29, u30, u31, u32, u33, u34, u35, u36, u37, u38, u39, u40, u41, u42, u43, u44, u45, sliceAt G 5 5, .int .i64 5, .int .i64 4, y49, y50, y51, y52, y53, y54, y55, y56, y57, y58, y59, y60, y61, y62, y63, y64, y65, y66, y67, y68, y69, y70, y71, y72, y73, y74, y75, y76, y77, y78, y79, y80, y81, y82, y83, y84, y85, y86, y87, y88, y89, y90, y91, y92, y93, y94, y95, y96, y97, y98, y99, y100, y101, y102], defers := [] } w') :
    body7.wp Tryf.prog Q { tmps := #[.int .i64 (x.toNat : Int), .string s, u2, u3, u4, u5, u6, .string ⟨#[94, 37, x]⟩, .int .i64 (n : Int), u9, u10, u11, u12, u13, u14, u15, u16, u17, u18, u19, u20, u21, u22, u23, u24, u25, u26, u27, u28, u29, u30, u31, u32, u33, u34, u35, u36, u37, u38, u39, u40, u41, u42, u43, u44, u45, sliceAt G 5 5, .int .i64 5, .int .i64 3, u49, u50, u51, u52, u53, u54, u55, u56, u57, u58, u59, u60, u61, u62, u63, u64, u65, u66, u67, u68, u69, u70, u71, u72, u73, u74, u75, u76, u77, u78, u79, u80, u81, u82, u83, u84, u85, u86, u87, u88, u89, u90, u91, u92, u93, u94, u95, u96, u97, u98, u99, u100, u101, u102], defers := [] } w := by
  have g0 : decide ((0 : Int) < (n : Int)) = true := decide_eq_true (by omega)
  have g1 : ¬ ((n : Int) ≤ 1) := by omega
  have g2 : (0 : Int) < (n : Int) := by omega
  have g3 : decide (0 < n) = true := decide_eq_true (by omega)
  have g4 : 0 < n := by omega
  have hix : ∀ w, (Instr.index 43 (.agg #[.int .i64 1, .int .i64 (n : Int), .int .i64 (n : Int), .int .i64 1, .int .i64 0]) (.int .i64 3)).run Tryf.prog w = .ok (.int .i64 1) w := fun _ => by kernel_rfl
  have HQ := Lib.hid hQ
  clear hQ
  conv => arg 2; whnf
  go_wp2_with fail
  refine (HF.out _).mono ?_
  rintro e w2 ⟨hch, p, q, A, A', c, c', rfl, rfl, rfl⟩
  have HC := Lib.hid hch
  clear hch
  simp only []
  go_wp2_with fail
  refine HQ.out _ _ _ _ _ _ _ _ _ _ _ _ _ _ _ _ _ _ _ _ _ _ _ _ _ _ _ _ _ _ _ _ _ _ _ _ _ _ _ _ _ _ _ _ _ _ _ _ _ _ _ _ _ _ _ _ _ _ _ _ _ _ ?_
  first | exact HC.out | exact HC.out.alloc _ | exact (((Ch.refl (fun _ => False) w).alloc _).trans HC.out).setCell (fun h => absurd h (Nat.lt_irrefl _)) _ | skip

set_option maxRecDepth 100000 in
set_option maxHeartbeats 4000000 in
theorem rpt_round4z {w : World} {x : UInt8} {s : ByteArray} {G : Nat} {Q : Exit → Act → World → Prop} {u2 u3 u4 u5 u6 u9 u10 u11 u12 u13 u14 u15 u16 u17 u18 u19 u20 u21 u22 u23 u24 u25 u26 u27 u28 u29 u30 u31 u32 u33 u34 u35 u36 u37 u38 u39 u40 u41 u42 u43 u44 u45 u49 u50 u51 u52 u53 u54 u55 u56 u57 u58 u59 u60 u61 u62 u63 u64 u65 u66 u67 u68 u69 u70 u71 u72 u73 u74 u75 u76 u77 u78 u79 u80 u81 u82 u83 u84 u85 u86 u87 u88 u89 u90 u91 u92 u93 u94 u95 u96 u97 u98 u99 u100 u101 u102 : Value} (hcell : w.cell? ⟨G, 4, none⟩ = some (.string ⟨#[45]⟩))
    (HF : Hid (∀ w1, Calls Tryf.prog 11 #[.string ⟨#[94, 37, x, 45]⟩, .string s, .int .i64 0] w1 fun e w' => Ch (fun _ => False) w1 w' ∧ ∃ (p q : Int) (A A' : Option Addr) (c c' : Nat), e = .returned (.tuple #[.agg #[.int .i64 p, .int .i64 q, .slice A 0 c, .slice A' 0 c'], .bool true, .bool true]) ∧ p = 0 ∧ q = 0))
    (hQ : ∀ (w' : World) (y9 y10 y11 y12 y13 y14 y15 y49 y50 y51 y52 y53 y54 y55 y56 y57 y58 y59 y60 y61 y62 y63 y64 y65 y66 y67 y68 y69 y70 y71 y72 y73 y74 y75 y76 y77 y78 y79 y80 y81 y82 y83 y84 y85 y86 y87 y88 y89 y90 y91 y92 y93 y94 y95 y96 y97 y98 y99 y100 y101 y102 : Value), Ch (fun _ => False) w w' → Q .normal { tmps := #[.int .i64 (x.toNat : Int), .string s, u2, u3, u4, u5, u6, .string ⟨#[94, 37, x]⟩, .int .i64 0, y9, y10, y11, y12, y13, y14, y15, u16, u17, u18, u19, u20, u21, u22, u23, u24, u25, u26, u27, u28, u29, u30, u31, u32, u33, u34, u35, u36, u37, u38, u39, u40, u41, u42, u43, u44, u45, sliceAt G 5 5, .int .i64 5, .int .i64 5, y49, y50, y51, y52, y53, y54, y55, y56, y57, y58, y59, y60, y61, y62, y63, y64, y65, y66, y67, y68, y69, y70, y71, y72, y73, y74, y75, y76, y77, y78, y79, y80, y81, y82, y83, y84, y85, y86, y87, y88, y89, y90, y91, y92, y93, y94, y95, y96, y97, y98, y99, y100, y101, y102], defers := [] } w') :
    body7.wp Tryf.prog Q { tmps := #[.int .i64 (x.toNat : Int), .string s, u2, u3, u4, u5, u6, .string ⟨#[94, 37, x]⟩, .int .i64 0, u9, u10, u11, u12, u13, u14, u15, u16, u17, u18, u19, u20, u21, u22, u23, u24, u25, u26, u27, u28, u29, u30, u31, u32, u33, u34, u35, u36, u37, u38, u39, u40, u41, u42, u43, u44, u45, sliceAt G 5 5, .int .i64 5, .int .i64 4, u49, u50, u51, u52, u53, u54, u55, u56, u57, u58, u59, u60, u61, u62, u63, u64, u65, u66, u67, u68, u69, u70, u71, u72, u73, u74, u75, u76, u77, u78, u79, u80, u81, u82, u83, u84, u85, u86, u87, u88, u89, u90, u91, u92, u93, u94, u95, u96, u97, u98, u99, u100, u101, u102], defers := [] } w := by
  have hix : ∀ w, (Instr.index 43 (.agg #[.int .i64 0, .int .i64 0, .int .i64 0, .int .i64 0, .int .i64 0]) (.int .i64 4)).run Tryf.prog w = .ok (.int .i64 0) w := fun _ => by kernel_rfl
  have HQ := Lib.hid hQ
  clear hQ
  conv => arg 2; whnf
  go_wp2_with fail
  refine (HF.out _).mono ?_
  rintro e w2 ⟨hch, p, q, A, A', c, c', rfl, rfl, rfl⟩
  have HC := Lib.hid hch
  clear hch
  simp only []
  go_wp2_with fail
  refine HQ.out _ _ _ _ _ _ _ _ _ _ _ _ _ _ _ _ _ _ _ _ _ _ _ _ _ _ _ _ _ _ _ _ _ _ _ _ _ _ _ _ _ _ _ _ _ _ _ _ _ _ _ _ _ _ _ _ _ _ _ _ _ _ ?_
  first | exact HC.out | exact HC.out.alloc _ | exact (((Ch.refl (fun _ => False) w).alloc _).trans HC.out).setCell (fun h => absurd h (Nat.lt_irrefl _)) _ | skip

set_option maxRecDepth 100000 in
set_option maxHeartbeats 4000000 in
theorem rpt_round4o {w : World} {x : UInt8} {s : ByteArray} {G : Nat} {Q : Exit → Act → World → Prop} {u2 u3 u4 u5 u6 u9 u10 u11 u12 u13 u14 u15 u16 u17 u18 u19 u20 u21 u22 u23 u24 u25 u26 u27 u28 u29 u30 u31 u32 u33 u34 u35 u36 u37 u38 u39 u40 u41 u42 u43 u44 u45 u49 u50 u51 u52 u53 u54 u55 u56 u57 u58 u59 u60 u61 u62 u63 u64 u65 u66 u67 u68 u69 u70 u71 u72 u73 u74 u75 u76 u77 u78 u79 u80 u81 u82 u83 u84 u85 u86 u87 u88 u89 u90 u91 u92 u93 u94 u95 u96 u97 u98 u99 u100 u101 u102 : Value} (hcell : w.cell? ⟨G, 4, none⟩ = some (.string ⟨#[45]⟩))
    (HF : Hid (∀ w1, Calls Tryf.prog 11 #[.string ⟨#[94, 37, x, 45]⟩, .string s, .int .i64 0] w1 fun e w' => Ch (fun _ => False) w1 w' ∧ ∃ (p q : Int) (A A' : Option Addr) (c c' : Nat), e = .returned (.tuple #[.agg #[.int .i64 p, .int .i64 q, .slice A 0 c, .slice A' 0 c'], .bool true, .bool true]) ∧ p = 0 ∧ q = 0))
    (hQ : ∀ (w' : World) (y9 y10 y11 y12 y13 y14 y15 y49 y50 y51 y52 y53 y54 y55 y56 y57 y58 y59 y60 y61 y62 y63 y64 y65 y66 y67 y68 y69 y70 y71 y72 y73 y74 y75 y76 y77 y78 y79 y80 y81 y82 y83 y84 y85 y86 y87 y88 y89 y90 y91 y92 y93 y94 y95 y96 y97 y98 y99 y100 y101 y102 : Value), Ch (fun _ => False) w w' → Q .normal { tmps := #[.int .i64 (x.toNat : Int), .string s, u2, u3, u4, u5, u6, .string ⟨#[94, 37, x]⟩, .int .i64 1, y9, y10, y11, y12, y13, y14, y15, u16, u17, u18, u19, u20, u21, u22, u23, u24, u25, u26, u27, u28, u29, u30, u31, u32, u33, u34, u35, u36, u37, u38, u39, u40, u41, u42, u43, u44, u45, sliceAt G 5 5, .int .i64 5, .int .i64 5, y49, y50, y51, y52, y53, y54, y55, y56, y57, y58, y59, y60, y61, y62, y63, y64, y65, y66, y67, y68, y69, y70, y71, y72, y73, y74, y75, y76, y77, y78, y79, y80, y81, y82, y83, y84, y85, y86, y87, y88, y89, y90, y91, y92, y93, y94, y95, y96, y97, y98, y99, y100, y101, y102], defers := [] } w') :
    body7.wp Tryf.prog Q { tmps := #[.int .i64 (x.toNat : Int), .string s, u2, u3, u4, u5, u6, .string ⟨#[94, 37, x]⟩, .int .i64 1, u9, u10, u11, u12, u13, u14, u15, u16, u17, u18, u19, u20, u21, u22, u23, u24, u25, u26, u27, u28, u29, u30, u31, u32, u33, u34, u35, u36, u37, u38, u39, u40, u41, u42, u43, u44, u45, sliceAt G 5 5, .int .i64 5, .int .i64 4, u49, u50, u51, u52, u53, u54, u55, u56, u57, u58, u59, u60, u61, u62, u63, u64, u65, u66, u67, u68, u69, u70, u71, u72, u73, u74, u75, u76, u77, u78, u79, u80, u81, u82, u83, u84, u85, u86, u87, u88, u89, u90, u91, u92, u93, u94, u95, u96, u97, u98, u99, u100, u101, u102], defers := [] } w := by
  have hix : ∀ w, (Instr.index 43 (.agg #[.int .i64 1, .int .i64 1, .int .i64 1, .int .i64 1, .int .i64 0]) (.int .i64 4)).run Tryf.prog w = .ok (.int .i64 0) w := fun _ => by kernel_rfl
  have HQ := Lib.hid hQ
  clear hQ
  conv => arg 2; whnf
  go_wp2_with fail
  refine (HF.out _).mono ?_
  rintro e w2 ⟨hch, p, q, A, A', c, c', rfl, rfl, rfl⟩
  have HC := Lib.hid hch
  clear hch
  simp only []
  go_wp2_with fail
  refine HQ.out _ _ _ _ _ _ _ _ _ _ _ _ _ _ _ _ _ _ _ _ _ _ _ _ _ _ _ _ _ _ _ _ _ _ _ _ _ _ _ _ _ _ _ _ _ _ _ _ _ _ _ _ _ _ _ _ _ _ _ _ _ _ ?_
  first | exact HC.out | exact HC.out.alloc _ | exact (((Ch.refl (fun _ => False) w).alloc _).trans HC.out).setCell (fun h => absurd h (Nat.lt_irrefl _)) _ | skip

set_option maxRecDepth 100000 in
set_option maxHeartbeats 4000000 in
theorem rpt_round4p {w : World} {x : UInt8} {s : ByteArray} {n : Nat} {G : Nat} {Q : Exit → Act → World → Prop} {u2 u3 u4 u5 u6 u9 u10 u11 u12 u13 u14 u15 u16 u17 u18 u19 u20 u21 u22 u23 u24 u25 u26 u27 u28 u29 u30 u31 u32 u33 u34 u35 u36 u37 u38 u39 u40 u41 u42 u43 u44 u45 u49 u50 u51 u52 u53 u54 u55 u56 u57 u58 u59 u60 u61 u62 u63 u64 u65 u66 u67 u68 u69 u70 u71 u72 u73 u74 u75 u76 u77 u78 u79 u80 u81 u82 u83 u84 u85 u86 u87 u88 u89 u90 u91 u92 u93 u94 u95 u96 u97 u98 u99 u100 u101 u102 : Value} (hn : 2 ≤ n) (hn2 : n ≤ 1000) (hcell : w.cell? ⟨G, 4, none⟩ = some (.string ⟨#[45]⟩))
    (HF : Hid (∀ w1, Calls Tryf.prog 11 #[.string ⟨#[94, 37, x, 45]⟩, .string s, .int .i64 0] w1 fun e w' => Ch (fun _ => False) w1 w' ∧ ∃ (p q : Int) (A A' : Option Addr) (c c' : Nat), e = .returned (.tuple #[.agg #[.int .i64 p, .int .i64 q, .slice A 0 c, .slice A' 0 c'], .bool true, .bool true]) ∧ p = 0 ∧ q = 0))
    (hQ : ∀ (w' : World) (y9 y10 y11 y12 y13 y14 y15 y49 y50 y51 y52 y53 y54 y55 y56 y57 y58 y59 y60 y61 y62 y63 y64 y65 y66 y67 y68 y69 y70 y71 y72 y73 y74 y75 y76 y77 y78 y79 y80 y81 y82 y83 y84 y85 y86 y87 y88 y89 y90 y91 y92 y93 y94 y95 y96 y97 y98 y99 y100 y101 y102 : Value), Ch (fun _ => False) w w' → Q .normal { tmps := #[.int .i64 (x.toNat : Int), .string s, u2, u3, u4, u5, u6, .string ⟨#[94, 37, x]⟩, .int .i64 (n : Int), y9, y10, y11, y12, y13, y14, y15, u16, u17, u18, u19, u20, u21, u22, u23, u24, u25, u26, u27, u28, u29, u30, u31, u32, u33, u34, u35, u36, u37, u38, u39, u40, u41, u42, u43, u44, u45, sliceAt G 5 5, .int .i64 5, .int .i64 5, y49, y50, y51, y52, y53, y54, y55, y56, y57, y58, y59, y60, y61, y62, y63, y64, y65, y66, y67, y68, y69, y70, y71, y72, y73, y74, y75, y76, y77, y78, y79, y80, y81, y82, y83, y84, y85, y86, y87, y88, y89, y90, y91, y92, y93, y94, y95, y96, y97, y98, y99, y100, y101, y102], defers := [] } w') :
    body7.wp Tryf.prog Q { tmps := #[.int .i64 (x.toNat : Int), .string s, u2, u3, u4, u5, u6, .string ⟨#[94, 37, x]⟩, .int .i64 (n : Int), u9, u10, u11, u12, u13, u14, u15, u16, u17, u18, u19, u20, u21, u22, u23, u24, u25, u26, u27, u28, u29, u30, u31, u32, u33, u34, u35, u36, u37, u38, u39, u40, u41, u42, u43, u44, u45, sliceAt G 5 5, .int .i64 5, .int .i64 4, u49, u50, u51, u52, u53, u54, u55, u56, u57, u58, u59, u60, u61, u62, u63, u64, u65, u66, u67, u68, u69, u70, u71, u72, u73, u74, u75, u76, u77, u78, u79, u80, u81, u82, u83, u84, u85, u86, u87, u88, u89, u90, u91, u92, u93, u94, u95, u96, u97, u98, u99, u100, u101, u102], defers := [] } w := by
  have g0 : decide ((0 : Int) < (n : Int)) = true := decide_eq_true (by omega)
  have g1 : ¬ ((n : Int) ≤ 1) := by omega
  have g2 : (0 : Int) < (n : Int) := by omega
  have g3 : decide (0 < n) = true := decide_eq_true (by omega)
  have g4 : 0 < n := by omega
  have hix : ∀ w, (Instr.index 43 (.agg #[.int .i64 1, .int .i64 (n : Int), .int .i64 (n : Int), .int .i64 1, .int .i64 0]) (.int .i64 4)).run Tryf.prog w = .ok (.int .i64 0) w := fun _ => by kernel_rfl
  have HQ := Lib.hid hQ
  clear hQ
  conv => arg 2; whnf
  go_wp2_with fail
  refine (HF.out _).mono ?_
  rintro e w2 ⟨hch, p, q, A, A', c, c', rfl, rfl, rfl⟩
  have HC := Lib.hid hch
  clear hch
  simp only []
  go_wp2_with fail
  refine HQ.out _ _ _ _ _ _ _ _ _ _ _ _ _ _ _ _ _ _ _ _ _ _ _ _ _ _ _ _ _ _ _ _ _ _ _ _ _ _ _ _ _ _ _ _ _ _ _ _ _ _ _ _ _ _ _ _ _ _ _ _ _ _ ?_
  first | exact HC.out | exact HC.out.alloc _ | exact (((Ch.refl (fun _ => False) w).alloc _).trans HC.out).setCell (fun h => absurd h (Nat.lt_irrefl _)) _ | skip

end Go.Proofs.YtkbdngcbifonkaaFmt
