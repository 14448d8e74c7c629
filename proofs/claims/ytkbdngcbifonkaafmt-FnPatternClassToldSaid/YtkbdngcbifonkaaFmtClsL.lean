/-
  FnPatternClass: the law gives true, whatever the input.
-/
import Derived.Test.YtkbdngcbifonkaaFmtClp
import Derived.Test.YtkbdngcbifonkaaFmtRngL
import Derived.Deep.RegionHeld3
namespace Go.Proofs.YtkbdngcbifonkaaFmt
set_option linter.all false
open Go.RowKit

noncomputable def reg4 (id : Nat) : Code := (rgc id (Tryf.f4.body.getD .skip)).getD .skip

theorem conv2 (m z : UInt8) : ∀ (W : World) (n : Nat), W.cell? ⟨n, 0, none⟩ = some (.int .u8 (m.toNat : Int)) → W.cell? ⟨n, 1, none⟩ = some (.int .u8 (z.toNat : Int)) → (convert 32 9 (.slice (some ⟨n, 0, none⟩) 2 2)).run Tryf.prog W = .ok (.string ⟨#[m, z]⟩) W := by
  intro W n h0 h1
  refine run_convert_bytes_back (P := Tryf.prog) _ 32 9 5 ⟨n, 0, none⟩ 2 [m, z] (by kernel_rfl) (by kernel_rfl) (by kernel_rfl) (fun j hj => ?_)
  have e : (⟨n, 0, none⟩ : Addr).add j = ⟨n, j, none⟩ := by simp [Addr.add]; omega
  rw [e]
  match j, hj with
  | 0, _ => exact h0
  | 1, _ => exact h1

set_option maxRecDepth 100000 in
set_option maxHeartbeats 4000000 in
theorem cls_reg {w : World} {x b : UInt8} {Q : Exit → Act → World → Prop} {u2 u3 u4 u5 u6 u7 u8 u9 u10 u11 u12 u13 u14 u15 u16 u17 u18 u19 u20 u21 u22 u23 u24 u25 u26 u27 u28 u29 u30 u31 u32 u33 u34 u35 u36 u37 u38 u39 u40 u41 u42 u43 u44 u45 u46 u47 u48 u49 u50 u51 u52 u53 u54 u55 u56 u57 u58 u59 u60 u61 u62 u63 u64 u65 u66 u67 u68 u69 u70 u71 u72 u73 u74 u75 u76 u77 u78 u79 u80 u81 u82 u83 u84 u85 u86 u87 u88 u89 u90 u91 u92 u93 u94 u95 u96 u97 : Value} (hwx : IntKind.u8.wrap (x.toNat : Int) = (x.toNat : Int)) (hwb : IntKind.u8.wrap (b.toNat : Int) = (b.toNat : Int))
    (hQ : ∀ (w' : World) (y42 y43 y44 y45 y46 y47 y48 y49 : Value), Ch (fun _ => False) w w' → Q .normal { tmps := #[.int .i64 (x.toNat : Int), .int .i64 (b.toNat : Int), u2, u3, u4, u5, u6, .string ⟨#[b]⟩, .string ⟨#[37, x]⟩, u9, u10, u11, u12, u13, u14, u15, u16, u17, u18, u19, u20, u21, u22, u23, u24, u25, u26, u27, u28, u29, u30, u31, u32, u33, u34, u35, u36, u37, u38, u39, u40, u41, y42, y43, y44, y45, y46, y47, y48, y49, u50, u51, u52, u53, u54, u55, u56, u57, u58, u59, u60, u61, u62, u63, u64, u65, u66, u67, u68, u69, u70, u71, u72, u73, u74, u75, u76, u77, u78, u79, u80, u81, u82, u83, u84, u85, u86, u87, u88, u89, u90, u91, u92, u93, u94, u95, u96, u97], defers := [] } w') :
    (reg4 6).wp Tryf.prog Q { tmps := #[.int .i64 (x.toNat : Int), .int .i64 (b.toNat : Int), u2, u3, u4, u5, u6, u7, u8, u9, u10, u11, u12, u13, u14, u15, u16, u17, u18, u19, u20, u21, u22, u23, u24, u25, u26, u27, u28, u29, u30, u31, u32, u33, u34, u35, u36, u37, u38, u39, u40, u41, u42, u43, u44, u45, u46, u47, u48, u49, u50, u51, u52, u53, u54, u55, u56, u57, u58, u59, u60, u61, u62, u63, u64, u65, u66, u67, u68, u69, u70, u71, u72, u73, u74, u75, u76, u77, u78, u79, u80, u81, u82, u83, u84, u85, u86, u87, u88, u89, u90, u91, u92, u93, u94, u95, u96, u97], defers := [] } w := by
  have c1 := conv1 b
  have c2 : ∀ (W : World) (n : Nat), W.cell? ⟨n, 0, none⟩ = some (.int .u8 37) → W.cell? ⟨n, 1, none⟩ = some (.int .u8 (x.toNat : Int)) → (convert 32 9 (.slice (some ⟨n, 0, none⟩) 2 2)).run Tryf.prog W = .ok (.string ⟨#[37, x]⟩) W := conv2 37 x
  have HQ := Lib.hid hQ
  clear hQ
  conv => arg 2; whnf
  refine wp_region_noPanic ?_
  go_region_law (fail)
  all_goals
    refine NoPanic.normal ?_
    refine HQ.out _ _ _ _ _ _ _ _ _ ?_
    first | exact (((Ch.refl _ _).alloc _).alloc _).drew | exact (((Ch.refl _ _).drew).alloc _).alloc _ | exact ((Ch.refl _ _).alloc _).alloc _

set_option maxRecDepth 100000 in
set_option maxHeartbeats 4000000 in
theorem law_class_main {w : World} {x b : UInt8} (g1 : decide ((x.toNat : Int) < 0) = false) (g2 : decide ((127 : Int) < (x.toNat : Int)) = false) (g3 : decide ((b.toNat : Int) < 1) = false) (g4 : decide ((127 : Int) < (b.toNat : Int)) = false) (hx : IsLet x.toNat) (hc : IsCls (low x.toNat)) :
    Calls Tryf.prog 4 #[.int .i64 (x.toNat : Int), .int .i64 (b.toNat : Int)] w (LawPost w) := by
  have hwx : IntKind.u8.wrap (x.toNat : Int) = (x.toNat : Int) := by rw [IntKind.wrap_u8]; have := x.toNat_lt; omega
  have hwb : IntKind.u8.wrap (b.toNat : Int) = (b.toNat : Int) := by rw [IntKind.wrap_u8]; have := b.toNat_lt; omega
  have hb : b.toNat < 128 := by have := of_decide_eq_false g4; omega
  have HIN : Hid (∀ w1, Calls Tryf.prog 12 #[.int .u8 (x.toNat : Int), .int .u8 (b.toNat : Int)] w1 fun e w' => Ch (fun _ => False) w1 w' ∧ e = .returned (.tuple #[.bool (Pm.single (x.toNat : Int) (b.toNat : Int)), .bool true])) := Lib.hid fun w1 => by rw [single_eq _ _ hx hc]; exact inclass_cls hx hc hb
  have HM1 : Hid ((Pm.Cls.atom (.single (x.toNat : Int))).mat (b.toNat : Int) = Pm.single (x.toNat : Int) (b.toNat : Int)) := Lib.hid rfl
  have HM2 : Hid ((Pm.Cls.set false [.atom (.single (x.toNat : Int))]).mat (b.toNat : Int) = Pm.single (x.toNat : Int) (b.toNat : Int)) := Lib.hid (by simp [Pm.Cls.mat, Pm.Elem.mat, Pm.Atom.mat])
  have HM3 : Hid ((Pm.Cls.set true [.atom (.single (x.toNat : Int))]).mat (b.toNat : Int) = !Pm.single (x.toNat : Int) (b.toNat : Int)) := Lib.hid (by simp [Pm.Cls.mat, Pm.Elem.mat, Pm.Atom.mat])
  have hset : ∀ (y : Bool) (e : Pm.Elem) neg es, Pm.Cls.set y [e] = .set neg es → es.length ≤ 100000 := fun y e neg es h => by cases h; simp
  have HSET := Lib.hid hset
  have HX := Lib.hid hx
  have HK := Lib.hid hc
  clear hset hx hc hb
  generalize Pm.single (x.toNat : Int) (b.toNat : Int) = v at HIN HM1 HM2 HM3
  cases v
  all_goals
    go_enter Tryf.func4, Tryf.ntmps4
    go_wp2_with fail
    refine (HIN.out _).mono ?_
    rintro e w1 ⟨hch1, rfl⟩
    have HC1 := Lib.hid hch1
    clear hch1
    simp only []
    go_wp2_with fail
    refine cls_reg hwx hwb ?_
    intro w2 _ _ _ _ _ _ _ _ hch
    have HC2 := Lib.hid hch
    clear hch
    go_wp2_with fail
    refine (first_one (s := ⟨#[37, x]⟩) (l := [37, x]) (b := b) rfl (by simp) (fun _ _ h => by cases h) (parses_cls HX.out HK.out)).mono ?_
    rw [HM1.out]
    rintro e w3 ⟨hch, p1, q1, A1, B1, c1, e1, rfl⟩
    have HC3 := Lib.hid hch
    clear hch
    simp only []
    go_wp2_with fail
    refine (first_one (s := ⟨#[91, 37, x, 93]⟩) (l := [91, 37, x, 93]) (b := b) rfl (by simp) (HSET.out _ _) parses_cls_set).mono ?_
    rw [HM2.out]
    rintro e w4 ⟨hch, p2, q2, A2, B2, c2, e2, rfl⟩
    have HC4 := Lib.hid hch
    clear hch
    simp only []
    go_wp2_with fail
    refine (first_one (s := ⟨#[91, 94, 37, x, 93]⟩) (l := [91, 94, 37, x, 93]) (b := b) rfl (by simp) (HSET.out _ _) parses_cls_not).mono ?_
    rw [HM3.out]
    rintro e w5 ⟨hch, p3, q3, A3, B3, c3, e3, rfl⟩
    have HC5 := Lib.hid hch
    clear hch
    simp only []
    go_wp2_with fail
    go_ret
    exact ⟨rfl, ((((((HC1.out.trans HC2.out).trans HC3.out).alloc _).trans HC4.out).alloc _).trans HC5.out).alloc _⟩

set_option maxRecDepth 100000 in
theorem law_class_e1 {w : World} {a b : Int} (t1 : decide (a < 0) = true) : Calls Tryf.prog 4 #[.int .i64 a, .int .i64 b] w (LawPost w) := by
  go_enter Tryf.func4, Tryf.ntmps4
  go_wp2_with fail
  go_ret
  exact ⟨rfl, .refl _ _⟩

set_option maxRecDepth 100000 in
theorem law_class_e2 {w : World} {a b : Int} (t1 : decide (a < 0) = false) (t2 : decide ((127 : Int) < a) = true) : Calls Tryf.prog 4 #[.int .i64 a, .int .i64 b] w (LawPost w) := by
  go_enter Tryf.func4, Tryf.ntmps4
  go_wp2_with fail
  go_ret
  exact ⟨rfl, .refl _ _⟩

set_option maxRecDepth 100000 in
theorem law_class_e3 {w : World} {a b : Int} (t1 : decide (a < 0) = false) (t2 : decide ((127 : Int) < a) = false) (t3 : decide (b < 1) = true) : Calls Tryf.prog 4 #[.int .i64 a, .int .i64 b] w (LawPost w) := by
  go_enter Tryf.func4, Tryf.ntmps4
  go_wp2_with fail
  go_ret
  exact ⟨rfl, .refl _ _⟩

set_option maxRecDepth 100000 in
theorem law_class_e4 {w : World} {a b : Int} (t1 : decide (a < 0) = false) (t2 : decide ((127 : Int) < a) = false) (t3 : decide (b < 1) = false) (t4 : decide ((127 : Int) < b) = true) : Calls Tryf.prog 4 #[.int .i64 a, .int .i64 b] w (LawPost w) := by
  go_enter Tryf.func4, Tryf.ntmps4
  go_wp2_with fail
  go_ret
  exact ⟨rfl, .refl _ _⟩

set_option maxRecDepth 100000 in
theorem law_class_no {w : World} {x b : UInt8} (g1 : decide ((x.toNat : Int) < 0) = false) (g2 : decide ((127 : Int) < (x.toNat : Int)) = false) (g3 : decide ((b.toNat : Int) < 1) = false) (g4 : decide ((127 : Int) < (b.toNat : Int)) = false)
    (HIN : Hid (∀ w1, Calls Tryf.prog 12 #[.int .u8 (x.toNat : Int), .int .u8 (b.toNat : Int)] w1 fun e w' => Ch (fun _ => False) w1 w' ∧ e = .returned (.tuple #[.bool false, .bool false]))) :
    Calls Tryf.prog 4 #[.int .i64 (x.toNat : Int), .int .i64 (b.toNat : Int)] w (LawPost w) := by
  have hwx : IntKind.u8.wrap (x.toNat : Int) = (x.toNat : Int) := by rw [IntKind.wrap_u8]; have := x.toNat_lt; omega
  have hwb : IntKind.u8.wrap (b.toNat : Int) = (b.toNat : Int) := by rw [IntKind.wrap_u8]; have := b.toNat_lt; omega
  go_enter Tryf.func4, Tryf.ntmps4
  go_wp2_with fail
  refine (HIN.out _).mono ?_
  rintro e w1 ⟨hch1, rfl⟩
  have HC1 := Lib.hid hch1
  clear hch1
  simp only []
  go_wp2_with fail
  go_ret
  exact ⟨rfl, HC1.out⟩

theorem law_class (w : World) (a b : Int) : Calls Tryf.prog 4 #[.int .i64 a, .int .i64 b] w (LawPost w) := by
  cases t1 : decide (a < 0) with
  | true => exact law_class_e1 t1
  | false =>
    cases t2 : decide ((127 : Int) < a) with
    | true => exact law_class_e2 t1 t2
    | false =>
      cases t3 : decide (b < 1) with
      | true => exact law_class_e3 t1 t2 t3
      | false =>
        cases t4 : decide ((127 : Int) < b) with
        | true => exact law_class_e4 t1 t2 t3 t4
        | false =>
          have k1 := of_decide_eq_false t1
          have k2 := of_decide_eq_false t2
          have k3 := of_decide_eq_false t3
          have k4 := of_decide_eq_false t4
          obtain ⟨x, rfl⟩ := byte_of a (by omega) (by omega)
          obtain ⟨y, rfl⟩ := byte_of b (by omega) (by omega)
          by_cases hx : IsLet x.toNat
          · by_cases hc : IsCls (low x.toNat)
            · exact law_class_main t1 t2 t3 t4 hx hc
            · exact law_class_no t1 t2 t3 t4 (Lib.hid fun w1 => inclass_none hx hc (by omega))
          · exact law_class_no t1 t2 t3 t4 (Lib.hid fun w1 => inclass_not hx)

end Go.Proofs.YtkbdngcbifonkaaFmt
