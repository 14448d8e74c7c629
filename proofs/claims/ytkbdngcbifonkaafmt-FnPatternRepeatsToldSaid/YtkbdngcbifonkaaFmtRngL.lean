/-
  FnPatternRange: the law gives true, whatever the input.
-/
import Derived.Test.YtkbdngcbifonkaaFmtRgp
import Derived.Deep.RegionHeld3
namespace Go.Proofs.YtkbdngcbifonkaaFmt
set_option linter.all false
open Go.RowKit

noncomputable def reg6 (id : Nat) : Code := (rgc id (Tryf.f6.body.getD .skip)).getD .skip

theorem conv1 (b : UInt8) : ∀ (W : World) (n : Nat), W.cell? ⟨n, 0, none⟩ = some (.int .u8 (b.toNat : Int)) → (convert 32 9 (.slice (some ⟨n, 0, none⟩) 1 1)).run Tryf.prog W = .ok (.string ⟨#[b]⟩) W := by
  intro W n h
  refine run_convert_bytes_back (P := Tryf.prog) _ 32 9 5 ⟨n, 0, none⟩ 1 [b] (by kernel_rfl) (by kernel_rfl) (by kernel_rfl) (fun j hj => ?_)
  have e : (⟨n, 0, none⟩ : Addr).add j = ⟨n, j, none⟩ := by simp [Addr.add]; omega
  rw [e]
  match j, hj with
  | 0, _ => exact h

theorem conv3 (a m z : UInt8) : ∀ (W : World) (n : Nat), W.cell? ⟨n, 0, none⟩ = some (.int .u8 (a.toNat : Int)) → W.cell? ⟨n, 1, none⟩ = some (.int .u8 (m.toNat : Int)) → W.cell? ⟨n, 2, none⟩ = some (.int .u8 (z.toNat : Int)) → (convert 32 9 (.slice (some ⟨n, 0, none⟩) 3 3)).run Tryf.prog W = .ok (.string ⟨#[a, m, z]⟩) W := by
  intro W n h0 h1 h2
  refine run_convert_bytes_back (P := Tryf.prog) _ 32 9 5 ⟨n, 0, none⟩ 3 [a, m, z] (by kernel_rfl) (by kernel_rfl) (by kernel_rfl) (fun j hj => ?_)
  have e : (⟨n, 0, none⟩ : Addr).add j = ⟨n, j, none⟩ := by simp [Addr.add]; omega
  rw [e]
  match j, hj with
  | 0, _ => exact h0
  | 1, _ => exact h1
  | 2, _ => exact h2

set_option maxRecDepth 100000 in
set_option maxHeartbeats 4000000 in
theorem rng_reg {w : World} {a z b : UInt8} {Q : Exit → Act → World → Prop} {u3 u4 u5 u6 u7 u8 u9 u10 u11 u12 u13 u14 u15 u16 u17 u18 u19 u20 u21 u22 u23 u24 u25 u26 u27 u28 u29 u30 u31 u32 u33 u34 u35 u36 u37 u38 u39 u40 u41 u42 u43 u44 u45 u46 u47 u48 u49 u50 u51 u52 u53 u54 u55 u56 u57 u58 u59 u60 u61 u62 u63 u64 u65 u66 u67 u68 u69 u70 u71 u72 u73 u74 u75 u76 u77 u78 u79 u80 u81 u82 u83 u84 u85 u86 u87 u88 u89 u90 u91 u92 u93 u94 u95 u96 u97 u98 u99 u100 u101 : Value} (hwa : IntKind.u8.wrap (a.toNat : Int) = (a.toNat : Int)) (hwz : IntKind.u8.wrap (z.toNat : Int) = (z.toNat : Int)) (hwb : IntKind.u8.wrap (b.toNat : Int) = (b.toNat : Int))
    (hQ : ∀ (w' : World) (y51 y52 y53 y54 y55 y56 y57 y58 y59 y60 : Value), Ch (fun _ => False) w w' → Q .normal { tmps := #[.int .i64 (a.toNat : Int), .int .i64 (z.toNat : Int), .int .i64 (b.toNat : Int), u3, u4, u5, u6, .string ⟨#[b]⟩, .string ⟨#[a, 45, z]⟩, u9, u10, u11, u12, u13, u14, u15, u16, u17, u18, u19, u20, u21, u22, u23, u24, u25, u26, u27, u28, u29, u30, u31, u32, u33, u34, u35, u36, u37, u38, u39, u40, u41, u42, u43, u44, u45, u46, u47, u48, u49, u50, y51, y52, y53, y54, y55, y56, y57, y58, y59, y60, u61, u62, u63, u64, u65, u66, u67, u68, u69, u70, u71, u72, u73, u74, u75, u76, u77, u78, u79, u80, u81, u82, u83, u84, u85, u86, u87, u88, u89, u90, u91, u92, u93, u94, u95, u96, u97, u98, u99, u100, u101], defers := [] } w') :
    (reg6 3).wp Tryf.prog Q { tmps := #[.int .i64 (a.toNat : Int), .int .i64 (z.toNat : Int), .int .i64 (b.toNat : Int), u3, u4, u5, u6, u7, u8, u9, u10, u11, u12, u13, u14, u15, u16, u17, u18, u19, u20, u21, u22, u23, u24, u25, u26, u27, u28, u29, u30, u31, u32, u33, u34, u35, u36, u37, u38, u39, u40, u41, u42, u43, u44, u45, u46, u47, u48, u49, u50, u51, u52, u53, u54, u55, u56, u57, u58, u59, u60, u61, u62, u63, u64, u65, u66, u67, u68, u69, u70, u71, u72, u73, u74, u75, u76, u77, u78, u79, u80, u81, u82, u83, u84, u85, u86, u87, u88, u89, u90, u91, u92, u93, u94, u95, u96, u97, u98, u99, u100, u101], defers := [] } w := by
  have c1 := conv1 b
  have c2 : ∀ (W : World) (n : Nat), W.cell? ⟨n, 0, none⟩ = some (.int .u8 (a.toNat : Int)) → W.cell? ⟨n, 1, none⟩ = some (.int .u8 45) → W.cell? ⟨n, 2, none⟩ = some (.int .u8 (z.toNat : Int)) → (convert 32 9 (.slice (some ⟨n, 0, none⟩) 3 3)).run Tryf.prog W = .ok (.string ⟨#[a, 45, z]⟩) W := conv3 a 45 z
  have HQ := Lib.hid hQ
  clear hQ
  conv => arg 2; whnf
  refine wp_region_noPanic ?_
  go_region_law (fail)
  all_goals
    refine NoPanic.normal ?_
    refine HQ.out _ _ _ _ _ _ _ _ _ _ _ ?_
    first | exact (((Ch.refl _ _).alloc _).alloc _).drew | exact (((Ch.refl _ _).drew).alloc _).alloc _ | exact ((Ch.refl _ _).alloc _).alloc _ | skip

set_option maxRecDepth 100000 in
set_option maxHeartbeats 4000000 in
theorem law_range_ff {w : World} {a z b : UInt8} (g1 : decide ((a.toNat : Int) < 48) = false) (g2 : decide (z.toNat < a.toNat) = false) (g3 : decide ((122 : Int) < (z.toNat : Int)) = false) (hz1 : decide ((91 : Int) ≤ (z.toNat : Int)) = false) (ha1 : decide ((91 : Int) ≤ (a.toNat : Int)) = false) (g4 : decide ((b.toNat : Int) < 1) = false) (g5 : decide ((127 : Int) < (b.toNat : Int)) = false)
    (ha : (48 ≤ a.toNat ∧ a.toNat ≤ 90) ∨ (95 ≤ a.toNat ∧ a.toNat ≤ 122)) (hz : (48 ≤ z.toNat ∧ z.toNat ≤ 90) ∨ (95 ≤ z.toNat ∧ z.toNat ≤ 122)) :
    Calls Tryf.prog 6 #[.int .i64 (a.toNat : Int), .int .i64 (z.toNat : Int), .int .i64 (b.toNat : Int)] w (LawPost w) := by
  have hwa : IntKind.u8.wrap (a.toNat : Int) = (a.toNat : Int) := by rw [IntKind.wrap_u8]; have := a.toNat_lt; omega
  have hwz : IntKind.u8.wrap (z.toNat : Int) = (z.toNat : Int) := by rw [IntKind.wrap_u8]; have := z.toNat_lt; omega
  have hwb : IntKind.u8.wrap (b.toNat : Int) = (b.toNat : Int) := by rw [IntKind.wrap_u8]; have := b.toNat_lt; omega
  have HA := Lib.hid ha
  have HZ := Lib.hid hz
  clear ha hz
  have HM1 : Hid ((Pm.Cls.set false [.range (.chr (a.toNat : Int)) (.chr (z.toNat : Int))]).mat (b.toNat : Int) = (decide (a.toNat ≤ b.toNat) && decide (b.toNat ≤ z.toNat))) := Lib.hid (by simp [Pm.Cls.mat, Pm.Elem.mat])
  have HM2 : Hid ((Pm.Cls.set true [.range (.chr (a.toNat : Int)) (.chr (z.toNat : Int))]).mat (b.toNat : Int) = !(decide (a.toNat ≤ b.toNat) && decide (b.toNat ≤ z.toNat))) := Lib.hid (by simp [Pm.Cls.mat, Pm.Elem.mat])
  have hset : ∀ (x : Bool) (e : Pm.Elem) neg es, Pm.Cls.set x [e] = .set neg es → es.length ≤ 100000 := fun x e neg es h => by cases h; simp
  have HSET := Lib.hid hset
  clear hset
  cases d1 : decide (a.toNat ≤ b.toNat) <;> cases d2 : decide (b.toNat ≤ z.toNat)
  all_goals
    rw [d1, d2] at HM1 HM2
    go_enter Tryf.func6, Tryf.ntmps6
    go_wp2_with fail
    refine rng_reg hwa hwz hwb ?_
    intro w2 _ _ _ _ _ _ _ _ _ _ hch
    have HC := Lib.hid hch
    clear hch
    go_wp2_with fail
    refine (first_one (s := ⟨#[91, a, 45, z, 93]⟩) (l := [91, a, 45, z, 93]) (b := b) rfl (by simp) (HSET.out _ _) (parses_range HA.out HZ.out)).mono ?_
    rw [HM1.out]
    rintro e w3 ⟨hch3, p1, q1, A1, B1, c1, e1, rfl⟩
    have HC3 := Lib.hid hch3
    clear hch3
    simp only []
    go_wp2_with fail
    refine (first_one (s := ⟨#[91, 94, a, 45, z, 93]⟩) (l := [91, 94, a, 45, z, 93]) (b := b) rfl (by simp) (HSET.out _ _) (parses_range_not HA.out HZ.out)).mono ?_
    rw [HM2.out]
    rintro e w4 ⟨hch4, p2, q2, A2, B2, c2, e2, rfl⟩
    have HC4 := Lib.hid hch4
    clear hch4
    simp only []
    go_wp2_with fail
    go_ret
    exact ⟨rfl, (((HC.out.trans HC3.out).alloc _).trans HC4.out).alloc _⟩

set_option maxRecDepth 100000 in
set_option maxHeartbeats 4000000 in
theorem law_range_tf {w : World} {a z b : UInt8} (g1 : decide ((a.toNat : Int) < 48) = false) (g2 : decide (z.toNat < a.toNat) = false) (g3 : decide ((122 : Int) < (z.toNat : Int)) = false) (hz1 : decide ((91 : Int) ≤ (z.toNat : Int)) = true) (hz2 : decide ((z.toNat : Int) ≤ 94) = false) (ha1 : decide ((91 : Int) ≤ (a.toNat : Int)) = false) (g4 : decide ((b.toNat : Int) < 1) = false) (g5 : decide ((127 : Int) < (b.toNat : Int)) = false)
    (ha : (48 ≤ a.toNat ∧ a.toNat ≤ 90) ∨ (95 ≤ a.toNat ∧ a.toNat ≤ 122)) (hz : (48 ≤ z.toNat ∧ z.toNat ≤ 90) ∨ (95 ≤ z.toNat ∧ z.toNat ≤ 122)) :
    Calls Tryf.prog 6 #[.int .i64 (a.toNat : Int), .int .i64 (z.toNat : Int), .int .i64 (b.toNat : Int)] w (LawPost w) := by
  have hwa : IntKind.u8.wrap (a.toNat : Int) = (a.toNat : Int) := by rw [IntKind.wrap_u8]; have := a.toNat_lt; omega
  have hwz : IntKind.u8.wrap (z.toNat : Int) = (z.toNat : Int) := by rw [IntKind.wrap_u8]; have := z.toNat_lt; omega
  have hwb : IntKind.u8.wrap (b.toNat : Int) = (b.toNat : Int) := by rw [IntKind.wrap_u8]; have := b.toNat_lt; omega
  have HA := Lib.hid ha
  have HZ := Lib.hid hz
  clear ha hz
  have HM1 : Hid ((Pm.Cls.set false [.range (.chr (a.toNat : Int)) (.chr (z.toNat : Int))]).mat (b.toNat : Int) = (decide (a.toNat ≤ b.toNat) && decide (b.toNat ≤ z.toNat))) := Lib.hid (by simp [Pm.Cls.mat, Pm.Elem.mat])
  have HM2 : Hid ((Pm.Cls.set true [.range (.chr (a.toNat : Int)) (.chr (z.toNat : Int))]).mat (b.toNat : Int) = !(decide (a.toNat ≤ b.toNat) && decide (b.toNat ≤ z.toNat))) := Lib.hid (by simp [Pm.Cls.mat, Pm.Elem.mat])
  have hset : ∀ (x : Bool) (e : Pm.Elem) neg es, Pm.Cls.set x [e] = .set neg es → es.length ≤ 100000 := fun x e neg es h => by cases h; simp
  have HSET := Lib.hid hset
  clear hset
  cases d1 : decide (a.toNat ≤ b.toNat) <;> cases d2 : decide (b.toNat ≤ z.toNat)
  all_goals
    rw [d1, d2] at HM1 HM2
    go_enter Tryf.func6, Tryf.ntmps6
    go_wp2_with fail
    refine rng_reg hwa hwz hwb ?_
    intro w2 _ _ _ _ _ _ _ _ _ _ hch
    have HC := Lib.hid hch
    clear hch
    go_wp2_with fail
    refine (first_one (s := ⟨#[91, a, 45, z, 93]⟩) (l := [91, a, 45, z, 93]) (b := b) rfl (by simp) (HSET.out _ _) (parses_range HA.out HZ.out)).mono ?_
    rw [HM1.out]
    rintro e w3 ⟨hch3, p1, q1, A1, B1, c1, e1, rfl⟩
    have HC3 := Lib.hid hch3
    clear hch3
    simp only []
    go_wp2_with fail
    refine (first_one (s := ⟨#[91, 94, a, 45, z, 93]⟩) (l := [91, 94, a, 45, z, 93]) (b := b) rfl (by simp) (HSET.out _ _) (parses_range_not HA.out HZ.out)).mono ?_
    rw [HM2.out]
    rintro e w4 ⟨hch4, p2, q2, A2, B2, c2, e2, rfl⟩
    have HC4 := Lib.hid hch4
    clear hch4
    simp only []
    go_wp2_with fail
    go_ret
    exact ⟨rfl, (((HC.out.trans HC3.out).alloc _).trans HC4.out).alloc _⟩

set_option maxRecDepth 100000 in
set_option maxHeartbeats 4000000 in
theorem law_range_tt {w : World} {a z b : UInt8} (g1 : decide ((a.toNat : Int) < 48) = false) (g2 : decide (z.toNat < a.toNat) = false) (g3 : decide ((122 : Int) < (z.toNat : Int)) = false) (hz1 : decide ((91 : Int) ≤ (z.toNat : Int)) = true) (hz2 : decide ((z.toNat : Int) ≤ 94) = false) (ha1 : decide ((91 : Int) ≤ (a.toNat : Int)) = true) (ha2 : decide ((a.toNat : Int) ≤ 94) = false) (g4 : decide ((b.toNat : Int) < 1) = false) (g5 : decide ((127 : Int) < (b.toNat : Int)) = false)
    (ha : (48 ≤ a.toNat ∧ a.toNat ≤ 90) ∨ (95 ≤ a.toNat ∧ a.toNat ≤ 122)) (hz : (48 ≤ z.toNat ∧ z.toNat ≤ 90) ∨ (95 ≤ z.toNat ∧ z.toNat ≤ 122)) :
    Calls Tryf.prog 6 #[.int .i64 (a.toNat : Int), .int .i64 (z.toNat : Int), .int .i64 (b.toNat : Int)] w (LawPost w) := by
  have hwa : IntKind.u8.wrap (a.toNat : Int) = (a.toNat : Int) := by rw [IntKind.wrap_u8]; have := a.toNat_lt; omega
  have hwz : IntKind.u8.wrap (z.toNat : Int) = (z.toNat : Int) := by rw [IntKind.wrap_u8]; have := z.toNat_lt; omega
  have hwb : IntKind.u8.wrap (b.toNat : Int) = (b.toNat : Int) := by rw [IntKind.wrap_u8]; have := b.toNat_lt; omega
  have HA := Lib.hid ha
  have HZ := Lib.hid hz
  clear ha hz
  have HM1 : Hid ((Pm.Cls.set false [.range (.chr (a.toNat : Int)) (.chr (z.toNat : Int))]).mat (b.toNat : Int) = (decide (a.toNat ≤ b.toNat) && decide (b.toNat ≤ z.toNat))) := Lib.hid (by simp [Pm.Cls.mat, Pm.Elem.mat])
  have HM2 : Hid ((Pm.Cls.set true [.range (.chr (a.toNat : Int)) (.chr (z.toNat : Int))]).mat (b.toNat : Int) = !(decide (a.toNat ≤ b.toNat) && decide (b.toNat ≤ z.toNat))) := Lib.hid (by simp [Pm.Cls.mat, Pm.Elem.mat])
  have hset : ∀ (x : Bool) (e : Pm.Elem) neg es, Pm.Cls.set x [e] = .set neg es → es.length ≤ 100000 := fun x e neg es h => by cases h; simp
  have HSET := Lib.hid hset
  clear hset
  cases d1 : decide (a.toNat ≤ b.toNat) <;> cases d2 : decide (b.toNat ≤ z.toNat)
  all_goals
    rw [d1, d2] at HM1 HM2
    go_enter Tryf.func6, Tryf.ntmps6
    go_wp2_with fail
    refine rng_reg hwa hwz hwb ?_
    intro w2 _ _ _ _ _ _ _ _ _ _ hch
    have HC := Lib.hid hch
    clear hch
    go_wp2_with fail
    refine (first_one (s := ⟨#[91, a, 45, z, 93]⟩) (l := [91, a, 45, z, 93]) (b := b) rfl (by simp) (HSET.out _ _) (parses_range HA.out HZ.out)).mono ?_
    rw [HM1.out]
    rintro e w3 ⟨hch3, p1, q1, A1, B1, c1, e1, rfl⟩
    have HC3 := Lib.hid hch3
    clear hch3
    simp only []
    go_wp2_with fail
    refine (first_one (s := ⟨#[91, 94, a, 45, z, 93]⟩) (l := [91, 94, a, 45, z, 93]) (b := b) rfl (by simp) (HSET.out _ _) (parses_range_not HA.out HZ.out)).mono ?_
    rw [HM2.out]
    rintro e w4 ⟨hch4, p2, q2, A2, B2, c2, e2, rfl⟩
    have HC4 := Lib.hid hch4
    clear hch4
    simp only []
    go_wp2_with fail
    go_ret
    exact ⟨rfl, (((HC.out.trans HC3.out).alloc _).trans HC4.out).alloc _⟩

set_option maxRecDepth 100000 in
theorem law_range_e1y {w : World} {a z b : Int} (t1 : decide (a < 48) = true) : Calls Tryf.prog 6 #[.int .i64 a, .int .i64 z, .int .i64 b] w (LawPost w) := by
  go_enter Tryf.func6, Tryf.ntmps6
  go_wp2_with fail
  go_ret
  exact ⟨rfl, .refl _ _⟩

set_option maxRecDepth 100000 in
theorem law_range_e1n2y {w : World} {a z b : Int} (t1 : decide (a < 48) = false) (t2 : decide (z < a) = true) : Calls Tryf.prog 6 #[.int .i64 a, .int .i64 z, .int .i64 b] w (LawPost w) := by
  go_enter Tryf.func6, Tryf.ntmps6
  go_wp2_with fail
  go_ret
  exact ⟨rfl, .refl _ _⟩

set_option maxRecDepth 100000 in
theorem law_range_e1n2n3y {w : World} {a z b : Int} (t1 : decide (a < 48) = false) (t2 : decide (z < a) = false) (t3 : decide ((122 : Int) < z) = true) : Calls Tryf.prog 6 #[.int .i64 a, .int .i64 z, .int .i64 b] w (LawPost w) := by
  go_enter Tryf.func6, Tryf.ntmps6
  go_wp2_with fail
  go_ret
  exact ⟨rfl, .refl _ _⟩

set_option maxRecDepth 100000 in
theorem law_range_e1n2n3n4y5y {w : World} {a z b : Int} (t1 : decide (a < 48) = false) (t2 : decide (z < a) = false) (t3 : decide ((122 : Int) < z) = false) (t4 : decide ((91 : Int) ≤ z) = true) (t5 : decide (z ≤ 94) = true) : Calls Tryf.prog 6 #[.int .i64 a, .int .i64 z, .int .i64 b] w (LawPost w) := by
  go_enter Tryf.func6, Tryf.ntmps6
  go_wp2_with fail
  go_ret
  exact ⟨rfl, .refl _ _⟩

set_option maxRecDepth 100000 in
theorem law_range_e1n2n3n4y5n6y7y {w : World} {a z b : Int} (t1 : decide (a < 48) = false) (t2 : decide (z < a) = false) (t3 : decide ((122 : Int) < z) = false) (t4 : decide ((91 : Int) ≤ z) = true) (t5 : decide (z ≤ 94) = false) (t6 : decide ((91 : Int) ≤ a) = true) (t7 : decide (a ≤ 94) = true) : Calls Tryf.prog 6 #[.int .i64 a, .int .i64 z, .int .i64 b] w (LawPost w) := by
  go_enter Tryf.func6, Tryf.ntmps6
  go_wp2_with fail
  go_ret
  exact ⟨rfl, .refl _ _⟩

set_option maxRecDepth 100000 in
theorem law_range_e1n2n3n4y5n6y7n8y {w : World} {a z b : Int} (t1 : decide (a < 48) = false) (t2 : decide (z < a) = false) (t3 : decide ((122 : Int) < z) = false) (t4 : decide ((91 : Int) ≤ z) = true) (t5 : decide (z ≤ 94) = false) (t6 : decide ((91 : Int) ≤ a) = true) (t7 : decide (a ≤ 94) = false) (t8 : decide (b < 1) = true) : Calls Tryf.prog 6 #[.int .i64 a, .int .i64 z, .int .i64 b] w (LawPost w) := by
  go_enter Tryf.func6, Tryf.ntmps6
  go_wp2_with fail
  go_ret
  exact ⟨rfl, .refl _ _⟩

set_option maxRecDepth 100000 in
theorem law_range_e1n2n3n4y5n6y7n8n9y {w : World} {a z b : Int} (t1 : decide (a < 48) = false) (t2 : decide (z < a) = false) (t3 : decide ((122 : Int) < z) = false) (t4 : decide ((91 : Int) ≤ z) = true) (t5 : decide (z ≤ 94) = false) (t6 : decide ((91 : Int) ≤ a) = true) (t7 : decide (a ≤ 94) = false) (t8 : decide (b < 1) = false) (t9 : decide ((127 : Int) < b) = true) : Calls Tryf.prog 6 #[.int .i64 a, .int .i64 z, .int .i64 b] w (LawPost w) := by
  go_enter Tryf.func6, Tryf.ntmps6
  go_wp2_with fail
  go_ret
  exact ⟨rfl, .refl _ _⟩

set_option maxRecDepth 100000 in
theorem law_range_e1n2n3n4y5n6n8y {w : World} {a z b : Int} (t1 : decide (a < 48) = false) (t2 : decide (z < a) = false) (t3 : decide ((122 : Int) < z) = false) (t4 : decide ((91 : Int) ≤ z) = true) (t5 : decide (z ≤ 94) = false) (t6 : decide ((91 : Int) ≤ a) = false) (t8 : decide (b < 1) = true) : Calls Tryf.prog 6 #[.int .i64 a, .int .i64 z, .int .i64 b] w (LawPost w) := by
  go_enter Tryf.func6, Tryf.ntmps6
  go_wp2_with fail
  go_ret
  exact ⟨rfl, .refl _ _⟩

set_option maxRecDepth 100000 in
theorem law_range_e1n2n3n4y5n6n8n9y {w : World} {a z b : Int} (t1 : decide (a < 48) = false) (t2 : decide (z < a) = false) (t3 : decide ((122 : Int) < z) = false) (t4 : decide ((91 : Int) ≤ z) = true) (t5 : decide (z ≤ 94) = false) (t6 : decide ((91 : Int) ≤ a) = false) (t8 : decide (b < 1) = false) (t9 : decide ((127 : Int) < b) = true) : Calls Tryf.prog 6 #[.int .i64 a, .int .i64 z, .int .i64 b] w (LawPost w) := by
  go_enter Tryf.func6, Tryf.ntmps6
  go_wp2_with fail
  go_ret
  exact ⟨rfl, .refl _ _⟩

set_option maxRecDepth 100000 in
theorem law_range_e1n2n3n4n6n8y {w : World} {a z b : Int} (t1 : decide (a < 48) = false) (t2 : decide (z < a) = false) (t3 : decide ((122 : Int) < z) = false) (t4 : decide ((91 : Int) ≤ z) = false) (t6 : decide ((91 : Int) ≤ a) = false) (t8 : decide (b < 1) = true) : Calls Tryf.prog 6 #[.int .i64 a, .int .i64 z, .int .i64 b] w (LawPost w) := by
  go_enter Tryf.func6, Tryf.ntmps6
  go_wp2_with fail
  go_ret
  exact ⟨rfl, .refl _ _⟩

set_option maxRecDepth 100000 in
theorem law_range_e1n2n3n4n6n8n9y {w : World} {a z b : Int} (t1 : decide (a < 48) = false) (t2 : decide (z < a) = false) (t3 : decide ((122 : Int) < z) = false) (t4 : decide ((91 : Int) ≤ z) = false) (t6 : decide ((91 : Int) ≤ a) = false) (t8 : decide (b < 1) = false) (t9 : decide ((127 : Int) < b) = true) : Calls Tryf.prog 6 #[.int .i64 a, .int .i64 z, .int .i64 b] w (LawPost w) := by
  go_enter Tryf.func6, Tryf.ntmps6
  go_wp2_with fail
  go_ret
  exact ⟨rfl, .refl _ _⟩

set_option maxHeartbeats 1000000 in
theorem law_range (w : World) (a z b : Int) : Calls Tryf.prog 6 #[.int .i64 a, .int .i64 z, .int .i64 b] w (LawPost w) := by
  cases t1 : decide (a < 48) with
  | true =>
    exact law_range_e1y t1
  | false =>
    cases t2 : decide (z < a) with
    | true =>
      exact law_range_e1n2y t1 t2
    | false =>
      cases t3 : decide ((122 : Int) < z) with
      | true =>
        exact law_range_e1n2n3y t1 t2 t3
      | false =>
        cases t4 : decide ((91 : Int) ≤ z) with
        | true =>
          cases t5 : decide (z ≤ 94) with
          | true =>
            exact law_range_e1n2n3n4y5y t1 t2 t3 t4 t5
          | false =>
            cases t6 : decide ((91 : Int) ≤ a) with
            | true =>
              cases t7 : decide (a ≤ 94) with
              | true =>
                exact law_range_e1n2n3n4y5n6y7y t1 t2 t3 t4 t5 t6 t7
              | false =>
                cases t8 : decide (b < 1) with
                | true =>
                  exact law_range_e1n2n3n4y5n6y7n8y t1 t2 t3 t4 t5 t6 t7 t8
                | false =>
                  cases t9 : decide ((127 : Int) < b) with
                  | true =>
                    exact law_range_e1n2n3n4y5n6y7n8n9y t1 t2 t3 t4 t5 t6 t7 t8 t9
                  | false =>
                    obtain ⟨ab, rfl⟩ := byte_of a (by simp only [decide_eq_true_eq, decide_eq_false_iff_not] at *; omega) (by simp only [decide_eq_true_eq, decide_eq_false_iff_not] at *; omega)
                    obtain ⟨zb, rfl⟩ := byte_of z (by simp only [decide_eq_true_eq, decide_eq_false_iff_not] at *; omega) (by simp only [decide_eq_true_eq, decide_eq_false_iff_not] at *; omega)
                    obtain ⟨bb, rfl⟩ := byte_of b (by simp only [decide_eq_true_eq, decide_eq_false_iff_not] at *; omega) (by simp only [decide_eq_true_eq, decide_eq_false_iff_not] at *; omega)
                    exact law_range_tt t1 (by simp only [decide_eq_true_eq, decide_eq_false_iff_not] at *; omega) t3 t4 t5 t6 t7 t8 t9 (by simp only [decide_eq_true_eq, decide_eq_false_iff_not] at *; omega) (by simp only [decide_eq_true_eq, decide_eq_false_iff_not] at *; omega)
            | false =>
              cases t8 : decide (b < 1) with
              | true =>
                exact law_range_e1n2n3n4y5n6n8y t1 t2 t3 t4 t5 t6 t8
              | false =>
                cases t9 : decide ((127 : Int) < b) with
                | true =>
                  exact law_range_e1n2n3n4y5n6n8n9y t1 t2 t3 t4 t5 t6 t8 t9
                | false =>
                  obtain ⟨ab, rfl⟩ := byte_of a (by simp only [decide_eq_true_eq, decide_eq_false_iff_not] at *; omega) (by simp only [decide_eq_true_eq, decide_eq_false_iff_not] at *; omega)
                  obtain ⟨zb, rfl⟩ := byte_of z (by simp only [decide_eq_true_eq, decide_eq_false_iff_not] at *; omega) (by simp only [decide_eq_true_eq, decide_eq_false_iff_not] at *; omega)
                  obtain ⟨bb, rfl⟩ := byte_of b (by simp only [decide_eq_true_eq, decide_eq_false_iff_not] at *; omega) (by simp only [decide_eq_true_eq, decide_eq_false_iff_not] at *; omega)
                  exact law_range_tf t1 (by simp only [decide_eq_true_eq, decide_eq_false_iff_not] at *; omega) t3 t4 t5 t6 t8 t9 (by simp only [decide_eq_true_eq, decide_eq_false_iff_not] at *; omega) (by simp only [decide_eq_true_eq, decide_eq_false_iff_not] at *; omega)
        | false =>
          cases t6 : decide ((91 : Int) ≤ a) with
          | true =>
            exfalso; simp only [decide_eq_true_eq, decide_eq_false_iff_not] at *; omega
          | false =>
            cases t8 : decide (b < 1) with
            | true =>
              exact law_range_e1n2n3n4n6n8y t1 t2 t3 t4 t6 t8
            | false =>
              cases t9 : decide ((127 : Int) < b) with
              | true =>
                exact law_range_e1n2n3n4n6n8n9y t1 t2 t3 t4 t6 t8 t9
              | false =>
                obtain ⟨ab, rfl⟩ := byte_of a (by simp only [decide_eq_true_eq, decide_eq_false_iff_not] at *; omega) (by simp only [decide_eq_true_eq, decide_eq_false_iff_not] at *; omega)
                obtain ⟨zb, rfl⟩ := byte_of z (by simp only [decide_eq_true_eq, decide_eq_false_iff_not] at *; omega) (by simp only [decide_eq_true_eq, decide_eq_false_iff_not] at *; omega)
                obtain ⟨bb, rfl⟩ := byte_of b (by simp only [decide_eq_true_eq, decide_eq_false_iff_not] at *; omega) (by simp only [decide_eq_true_eq, decide_eq_false_iff_not] at *; omega)
                exact law_range_ff t1 (by simp only [decide_eq_true_eq, decide_eq_false_iff_not] at *; omega) t3 t4 t6 t8 t9 (by simp only [decide_eq_true_eq, decide_eq_false_iff_not] at *; omega) (by simp only [decide_eq_true_eq, decide_eq_false_iff_not] at *; omega)

end Go.Proofs.YtkbdngcbifonkaaFmt
