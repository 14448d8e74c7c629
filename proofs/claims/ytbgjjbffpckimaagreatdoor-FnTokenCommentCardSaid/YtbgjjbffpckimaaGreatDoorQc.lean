/-
  The tokens of a text: the scanner: numerals.
-/
import Derived.Test.YtbgjjbffpckimaaGreatDoorQb
namespace Go.Proofs.YtbgjjbffpckimaaGreatDoor
set_option linter.all false
open Go.RowKit

/-- The second part of a sequence. -/
def sq2 : Code → Code
  | .seq _ b => b
  | c => c
noncomputable def bd20 : Code := Tryz.f33.body.getD .skip
noncomputable def rest20 : Code := sq2 (sq2 (sq2 bd20))

/-- What follows the digits of a numeral. -/
def TailOk (r raw rest : Bs) : Prop :=
  (hd r ≠ 101 ∧ hd r ≠ 69 ∧ raw = [] ∧ rest = r) ∨
  (∃ m p, (m = 101 ∨ m = 69) ∧ (∀ c ∈ p, isDec c = true) ∧ p ≠ [] ∧ hdIs isDec rest = false ∧ ((r = m :: (p ++ rest) ∧ raw = m :: p) ∨ (∃ s, (s = 45 ∨ s = 43) ∧ r = m :: s :: (p ++ rest) ∧ raw = m :: s :: p)))
def MidOk (r raw rest : Bs) : Prop :=
  (hd r ≠ 46 ∧ TailOk r raw rest) ∨ (∃ f r2 raw2, r = 46 :: (f ++ r2) ∧ (∀ c ∈ f, isDec c = true) ∧ hdIs isDec r2 = false ∧ raw = 46 :: (f ++ raw2) ∧ TailOk r2 raw2 rest)
def NumPost (w : World) (b : Bl) (L : Int) (g : Nat) (l rest : Bs) (e : Ending) (w' : World) : Prop :=
  e = .returned .nilIface ∧ Sb w' b rest L g l ∧ Ch (Ub b g) w w'
/-- From a later world on. -/
theorem NumPost.from {w w1 : World} {b : Bl} {L : Int} {g : Nat} {l rest : Bs} {e : Ending} {w' : World} (hc : Ch (Ub b g) w w1) (h : NumPost w1 b L g l rest e w') : NumPost w b L g l rest e w' := ⟨h.1, h.2.1, hc.trans h.2.2⟩

set_option maxRecDepth 100000 in
set_option maxHeartbeats 4000000 in
theorem num_m0_0_0 {w w0 : World} {b : Bl} {d : UInt8} {f p rest l' : Bs} {L : Int} {g : Nat} {l : Bs} {u1 u3 u4 u5 u6 u7 u8 u9 u10 u11 u12 u13 u14 u15 u16 u17 u18 u19 u20 u21 u22 u23 u24 u25 u26 u27 u28 u29 u30 u31 u32 u33 u34 u35 u36 u37 u38 u39 u40 u41 u42 u43 u44 u45 u46 u47 u48 u49 u50 u51 u52 u53 u54 u55 u56 u57 u58 u59 u60 u61 u62 u63 u64 u65 u66 u67 u68 u69 u70 u71 u72 u73 u74 u75 u76 u77 u78 u79 u80 u81 u82 u83 u84 u85 u86 u87 u88 u89 : Value} (HS0 : Hid (Sb w b (rest) L g l)) (HC0 : Hid (Ch (Ub b g) w0 w)) (h1 : hd rest ≠ 101) (h2 : hd rest ≠ 69) (h3 : hd rest ≠ 46) (h13 : NoCr ((rest))) (hl' : l' = l) (hl : l.length + 9 + ((rest) : Bs).length < 100000) :
    rest20.wp Tryz.prog (bodyPost Tryz.prog Tryz.f33 (NumPost w0 b L g l' rest)) { tmps := #[ptr b.Z, u1, ptr g, u3, u4, u5, u6, u7, u8, u9, u10, u11, u12, u13, u14, u15, u16, u17, u18, u19, u20, u21, u22, u23, u24, u25, u26, u27, u28, u29, u30, u31, u32, u33, u34, u35, u36, u37, u38, u39, u40, u41, u42, u43, u44, u45, u46, u47, u48, u49, u50, u51, u52, u53, u54, u55, u56, u57, u58, u59, u60, u61, u62, u63, u64, u65, u66, u67, u68, u69, u70, u71, u72, u73, u74, u75, u76, u77, u78, u79, u80, u81, u82, u83, u84, u85, u86, u87, u88, u89], defers := [] } w := by
  subst hl'
  have H13 := Lib.hid h13
  clear h13
  have e46 : ((UInt8.toNat 46 : Nat) : Int) = 46 := rfl
  have g1 : (hd rest == 101) = false := by simpa using h1
  have g2 : (hd rest == 69) = false := by simpa using h2
  clear h1 h2
  have g3 : (hd rest == 46) = false := by simpa using h3
  clear h3
  conv => arg 2; whnf
  go_wp2_with fail
  refine (sb_peek HS0).mono ?_
  rintro e w1 ⟨rfl, hs, hc⟩
  have HS1 := Lib.hid hs
  have HC1 := Lib.hid (HC0.out.trans hc)
  clear hs hc HC0 HS0
  simp only []
  go_wp2_with fail
  refine (sb_peek HS1).mono ?_
  rintro e w2 ⟨rfl, hs, hc⟩
  have HS2 := Lib.hid hs
  have HC2 := Lib.hid (HC1.out.trans hc)
  clear hs hc HC1 HS1
  simp only []
  go_wp2_with fail
  go_ret
  exact ⟨rfl, HS2.out, HC2.out⟩

set_option maxRecDepth 100000 in
set_option maxHeartbeats 4000000 in
theorem num_m0_101_0 {w w0 : World} {b : Bl} {d : UInt8} {f p rest l' : Bs} {L : Int} {g : Nat} {l : Bs} {u1 u3 u4 u5 u6 u7 u8 u9 u10 u11 u12 u13 u14 u15 u16 u17 u18 u19 u20 u21 u22 u23 u24 u25 u26 u27 u28 u29 u30 u31 u32 u33 u34 u35 u36 u37 u38 u39 u40 u41 u42 u43 u44 u45 u46 u47 u48 u49 u50 u51 u52 u53 u54 u55 u56 u57 u58 u59 u60 u61 u62 u63 u64 u65 u66 u67 u68 u69 u70 u71 u72 u73 u74 u75 u76 u77 u78 u79 u80 u81 u82 u83 u84 u85 u86 u87 u88 u89 : Value} (HS0 : Hid (Sb w b (101 :: d :: (p ++ rest)) L g l)) (HC0 : Hid (Ch (Ub b g) w0 w)) (hdd : isDec d = true) (hp : ∀ c ∈ p, isDec c = true) (hr : hdIs isDec rest = false) (h13 : NoCr ((101 : UInt8) :: d :: (p ++ rest))) (hl' : l' = l ++ [101] ++ [d] ++ p) (hl : l.length + 9 + ((101 :: d :: (p ++ rest)) : Bs).length < 100000) :
    rest20.wp Tryz.prog (bodyPost Tryz.prog Tryz.f33 (NumPost w0 b L g l' rest)) { tmps := #[ptr b.Z, u1, ptr g, u3, u4, u5, u6, u7, u8, u9, u10, u11, u12, u13, u14, u15, u16, u17, u18, u19, u20, u21, u22, u23, u24, u25, u26, u27, u28, u29, u30, u31, u32, u33, u34, u35, u36, u37, u38, u39, u40, u41, u42, u43, u44, u45, u46, u47, u48, u49, u50, u51, u52, u53, u54, u55, u56, u57, u58, u59, u60, u61, u62, u63, u64, u65, u66, u67, u68, u69, u70, u71, u72, u73, u74, u75, u76, u77, u78, u79, u80, u81, u82, u83, u84, u85, u86, u87, u88, u89], defers := [] } w := by
  subst hl'
  have H13 := Lib.hid h13
  clear h13
  have e46 : ((UInt8.toNat 46 : Nat) : Int) = 46 := rfl
  have e101 : ((UInt8.toNat 101 : Nat) : Int) = 101 := rfl
  have HD := Lib.hid hdd
  obtain ⟨a1, a2⟩ := take_all hp hr
  have EP1 := Lib.hid a1
  have EP2 := Lib.hid a2
  have hd2 : 48 ≤ d.toNat ∧ d.toNat ≤ 57 := by simpa [isDec] using hdd
  have g1 : ((d.toNat : Int) == 45) = false := by simp <;> omega
  have g2 : ((d.toNat : Int) == 43) = false := by simp <;> omega
  clear a1 a2 hp hr hdd
  conv => arg 2; whnf
  go_wp2_with fail
  refine (sb_peek HS0).mono ?_
  rintro e w1 ⟨rfl, hs, hc⟩
  have HS1 := Lib.hid hs
  have HC1 := Lib.hid (HC0.out.trans hc)
  clear hs hc HC0 HS0
  simp only [hd, e101]
  go_wp2_with fail
  refine (sb_peek HS1).mono ?_
  rintro e w2 ⟨rfl, hs, hc⟩
  have HS2 := Lib.hid hs
  have HC2 := Lib.hid (HC1.out.trans hc)
  clear hs hc HC1 HS1
  simp only [hd, e101]
  go_wp2_with fail
  refine (sb_next HS2 H13.out).mono ?_
  rintro e w3 ⟨rfl, hs, hc⟩
  have HS3 := Lib.hid hs
  have HC3 := Lib.hid (HC2.out.trans hc)
  clear hs hc HC2 HS2
  rw [show tl1 ((101 : UInt8) :: d :: (p ++ rest)) = d :: (p ++ rest) from rfl, ln1_of (c := 101) (t := d :: (p ++ rest)) rfl (by decide)] at HS3
  simp only [hd, e101]
  go_wp2_with fail
  refine (sb_write (c := 101) HS3 (by simp at hl ⊢; omega)).mono ?_
  rintro e w4 ⟨rfl, hs, hc⟩
  have HS4 := Lib.hid hs
  have HC4 := Lib.hid (HC3.out.trans hc)
  clear hs hc HC3 HS3
  simp only []
  go_wp2_with fail
  refine (sb_peek HS4).mono ?_
  rintro e w5 ⟨rfl, hs, hc⟩
  have HS5 := Lib.hid hs
  have HC5 := Lib.hid (HC4.out.trans hc)
  clear hs hc HC4 HS4
  simp only [hd]
  go_wp2_with fail
  refine (sb_next HS5 H13.out.tail).mono ?_
  rintro e w6 ⟨rfl, hs, hc⟩
  have HS6 := Lib.hid hs
  have HC6 := Lib.hid (HC5.out.trans hc)
  clear hs hc HC5 HS5
  rw [show tl1 ((d : UInt8) :: (p ++ rest)) = (p ++ rest) from rfl, ln1_of (c := d) (t := (p ++ rest)) rfl (by rintro rfl; exact absurd HD.out (by decide))] at HS6
  simp only [hd]
  go_wp2_with fail
  refine (scanDecimal_calls (c := d) HS6 H13.out.tail.tail (by simp at hl ⊢; omega)).mono ?_
  rintro e w7 ⟨rfl, hs, hc⟩
  rw [EP1.out, EP2.out] at hs
  have HS7 := Lib.hid hs
  have HC7 := Lib.hid (HC6.out.trans hc)
  clear hs hc HS6 HC6
  simp only []
  go_wp2_with fail
  go_ret
  exact ⟨rfl, HS7.out, HC7.out⟩

set_option maxRecDepth 100000 in
set_option maxHeartbeats 4000000 in
theorem num_m0_101_45 {w w0 : World} {b : Bl} {d : UInt8} {f p rest l' : Bs} {L : Int} {g : Nat} {l : Bs} {u1 u3 u4 u5 u6 u7 u8 u9 u10 u11 u12 u13 u14 u15 u16 u17 u18 u19 u20 u21 u22 u23 u24 u25 u26 u27 u28 u29 u30 u31 u32 u33 u34 u35 u36 u37 u38 u39 u40 u41 u42 u43 u44 u45 u46 u47 u48 u49 u50 u51 u52 u53 u54 u55 u56 u57 u58 u59 u60 u61 u62 u63 u64 u65 u66 u67 u68 u69 u70 u71 u72 u73 u74 u75 u76 u77 u78 u79 u80 u81 u82 u83 u84 u85 u86 u87 u88 u89 : Value} (HS0 : Hid (Sb w b (101 :: 45 :: d :: (p ++ rest)) L g l)) (HC0 : Hid (Ch (Ub b g) w0 w)) (hdd : isDec d = true) (hp : ∀ c ∈ p, isDec c = true) (hr : hdIs isDec rest = false) (h13 : NoCr ((101 : UInt8) :: 45 :: d :: (p ++ rest))) (hl' : l' = l ++ [101] ++ [45] ++ [d] ++ p) (hl : l.length + 9 + ((101 :: 45 :: d :: (p ++ rest)) : Bs).length < 100000) :
    rest20.wp Tryz.prog (bodyPost Tryz.prog Tryz.f33 (NumPost w0 b L g l' rest)) { tmps := #[ptr b.Z, u1, ptr g, u3, u4, u5, u6, u7, u8, u9, u10, u11, u12, u13, u14, u15, u16, u17, u18, u19, u20, u21, u22, u23, u24, u25, u26, u27, u28, u29, u30, u31, u32, u33, u34, u35, u36, u37, u38, u39, u40, u41, u42, u43, u44, u45, u46, u47, u48, u49, u50, u51, u52, u53, u54, u55, u56, u57, u58, u59, u60, u61, u62, u63, u64, u65, u66, u67, u68, u69, u70, u71, u72, u73, u74, u75, u76, u77, u78, u79, u80, u81, u82, u83, u84, u85, u86, u87, u88, u89], defers := [] } w := by
  subst hl'
  have H13 := Lib.hid h13
  clear h13
  have e46 : ((UInt8.toNat 46 : Nat) : Int) = 46 := rfl
  have e101 : ((UInt8.toNat 101 : Nat) : Int) = 101 := rfl
  have e45 : ((UInt8.toNat 45 : Nat) : Int) = 45 := rfl
  have HD := Lib.hid hdd
  obtain ⟨a1, a2⟩ := take_all hp hr
  have EP1 := Lib.hid a1
  have EP2 := Lib.hid a2
  have hd2 : 48 ≤ d.toNat ∧ d.toNat ≤ 57 := by simpa [isDec] using hdd
  have g1 : ((d.toNat : Int) == 45) = false := by simp <;> omega
  have g2 : ((d.toNat : Int) == 43) = false := by simp <;> omega
  clear a1 a2 hp hr hdd
  conv => arg 2; whnf
  go_wp2_with fail
  refine (sb_peek HS0).mono ?_
  rintro e w1 ⟨rfl, hs, hc⟩
  have HS1 := Lib.hid hs
  have HC1 := Lib.hid (HC0.out.trans hc)
  clear hs hc HC0 HS0
  simp only [hd, e101]
  go_wp2_with fail
  refine (sb_peek HS1).mono ?_
  rintro e w2 ⟨rfl, hs, hc⟩
  have HS2 := Lib.hid hs
  have HC2 := Lib.hid (HC1.out.trans hc)
  clear hs hc HC1 HS1
  simp only [hd, e101]
  go_wp2_with fail
  refine (sb_next HS2 H13.out).mono ?_
  rintro e w3 ⟨rfl, hs, hc⟩
  have HS3 := Lib.hid hs
  have HC3 := Lib.hid (HC2.out.trans hc)
  clear hs hc HC2 HS2
  rw [show tl1 ((101 : UInt8) :: 45 :: d :: (p ++ rest)) = 45 :: d :: (p ++ rest) from rfl, ln1_of (c := 101) (t := 45 :: d :: (p ++ rest)) rfl (by decide)] at HS3
  simp only [hd, e101]
  go_wp2_with fail
  refine (sb_write (c := 101) HS3 (by simp at hl ⊢; omega)).mono ?_
  rintro e w4 ⟨rfl, hs, hc⟩
  have HS4 := Lib.hid hs
  have HC4 := Lib.hid (HC3.out.trans hc)
  clear hs hc HC3 HS3
  simp only []
  go_wp2_with fail
  refine (sb_peek HS4).mono ?_
  rintro e w5 ⟨rfl, hs, hc⟩
  have HS5 := Lib.hid hs
  have HC5 := Lib.hid (HC4.out.trans hc)
  clear hs hc HC4 HS4
  simp only [hd, e45]
  go_wp2_with fail
  refine (sb_next HS5 H13.out.tail).mono ?_
  rintro e w6 ⟨rfl, hs, hc⟩
  have HS6 := Lib.hid hs
  have HC6 := Lib.hid (HC5.out.trans hc)
  clear hs hc HC5 HS5
  rw [show tl1 ((45 : UInt8) :: d :: (p ++ rest)) = d :: (p ++ rest) from rfl, ln1_of (c := 45) (t := d :: (p ++ rest)) rfl (by decide)] at HS6
  simp only [hd, e45]
  go_wp2_with fail
  refine (sb_write (c := 45) HS6 (by simp at hl ⊢; omega)).mono ?_
  rintro e w7 ⟨rfl, hs, hc⟩
  have HS7 := Lib.hid hs
  have HC7 := Lib.hid (HC6.out.trans hc)
  clear hs hc HC6 HS6
  simp only []
  go_wp2_with fail
  refine (sb_next HS7 H13.out.tail.tail).mono ?_
  rintro e w8 ⟨rfl, hs, hc⟩
  have HS8 := Lib.hid hs
  have HC8 := Lib.hid (HC7.out.trans hc)
  clear hs hc HC7 HS7
  rw [show tl1 ((d : UInt8) :: (p ++ rest)) = (p ++ rest) from rfl, ln1_of (c := d) (t := (p ++ rest)) rfl (by rintro rfl; exact absurd HD.out (by decide))] at HS8
  simp only [hd]
  go_wp2_with fail
  refine (scanDecimal_calls (c := d) HS8 H13.out.tail.tail.tail (by simp at hl ⊢; omega)).mono ?_
  rintro e w9 ⟨rfl, hs, hc⟩
  rw [EP1.out, EP2.out] at hs
  have HS9 := Lib.hid hs
  have HC9 := Lib.hid (HC8.out.trans hc)
  clear hs hc HS8 HC8
  simp only []
  go_wp2_with fail
  go_ret
  exact ⟨rfl, HS9.out, HC9.out⟩

set_option maxRecDepth 100000 in
set_option maxHeartbeats 4000000 in
theorem num_m0_101_43 {w w0 : World} {b : Bl} {d : UInt8} {f p rest l' : Bs} {L : Int} {g : Nat} {l : Bs} {u1 u3 u4 u5 u6 u7 u8 u9 u10 u11 u12 u13 u14 u15 u16 u17 u18 u19 u20 u21 u22 u23 u24 u25 u26 u27 u28 u29 u30 u31 u32 u33 u34 u35 u36 u37 u38 u39 u40 u41 u42 u43 u44 u45 u46 u47 u48 u49 u50 u51 u52 u53 u54 u55 u56 u57 u58 u59 u60 u61 u62 u63 u64 u65 u66 u67 u68 u69 u70 u71 u72 u73 u74 u75 u76 u77 u78 u79 u80 u81 u82 u83 u84 u85 u86 u87 u88 u89 : Value} (HS0 : Hid (Sb w b (101 :: 43 :: d :: (p ++ rest)) L g l)) (HC0 : Hid (Ch (Ub b g) w0 w)) (hdd : isDec d = true) (hp : ∀ c ∈ p, isDec c = true) (hr : hdIs isDec rest = false) (h13 : NoCr ((101 : UInt8) :: 43 :: d :: (p ++ rest))) (hl' : l' = l ++ [101] ++ [43] ++ [d] ++ p) (hl : l.length + 9 + ((101 :: 43 :: d :: (p ++ rest)) : Bs).length < 100000) :
    rest20.wp Tryz.prog (bodyPost Tryz.prog Tryz.f33 (NumPost w0 b L g l' rest)) { tmps := #[ptr b.Z, u1, ptr g, u3, u4, u5, u6, u7, u8, u9, u10, u11, u12, u13, u14, u15, u16, u17, u18, u19, u20, u21, u22, u23, u24, u25, u26, u27, u28, u29, u30, u31, u32, u33, u34, u35, u36, u37, u38, u39, u40, u41, u42, u43, u44, u45, u46, u47, u48, u49, u50, u51, u52, u53, u54, u55, u56, u57, u58, u59, u60, u61, u62, u63, u64, u65, u66, u67, u68, u69, u70, u71, u72, u73, u74, u75, u76, u77, u78, u79, u80, u81, u82, u83, u84, u85, u86, u87, u88, u89], defers := [] } w := by
  subst hl'
  have H13 := Lib.hid h13
  clear h13
  have e46 : ((UInt8.toNat 46 : Nat) : Int) = 46 := rfl
  have e101 : ((UInt8.toNat 101 : Nat) : Int) = 101 := rfl
  have e43 : ((UInt8.toNat 43 : Nat) : Int) = 43 := rfl
  have HD := Lib.hid hdd
  obtain ⟨a1, a2⟩ := take_all hp hr
  have EP1 := Lib.hid a1
  have EP2 := Lib.hid a2
  have hd2 : 48 ≤ d.toNat ∧ d.toNat ≤ 57 := by simpa [isDec] using hdd
  have g1 : ((d.toNat : Int) == 45) = false := by simp <;> omega
  have g2 : ((d.toNat : Int) == 43) = false := by simp <;> omega
  clear a1 a2 hp hr hdd
  conv => arg 2; whnf
  go_wp2_with fail
  refine (sb_peek HS0).mono ?_
  rintro e w1 ⟨rfl, hs, hc⟩
  have HS1 := Lib.hid hs
  have HC1 := Lib.hid (HC0.out.trans hc)
  clear hs hc HC0 HS0
  simp only [hd, e101]
  go_wp2_with fail
  refine (sb_peek HS1).mono ?_
  rintro e w2 ⟨rfl, hs, hc⟩
  have HS2 := Lib.hid hs
  have HC2 := Lib.hid (HC1.out.trans hc)
  clear hs hc HC1 HS1
  simp only [hd, e101]
  go_wp2_with fail
  refine (sb_next HS2 H13.out).mono ?_
  rintro e w3 ⟨rfl, hs, hc⟩
  have HS3 := Lib.hid hs
  have HC3 := Lib.hid (HC2.out.trans hc)
  clear hs hc HC2 HS2
  rw [show tl1 ((101 : UInt8) :: 43 :: d :: (p ++ rest)) = 43 :: d :: (p ++ rest) from rfl, ln1_of (c := 101) (t := 43 :: d :: (p ++ rest)) rfl (by decide)] at HS3
  simp only [hd, e101]
  go_wp2_with fail
  refine (sb_write (c := 101) HS3 (by simp at hl ⊢; omega)).mono ?_
  rintro e w4 ⟨rfl, hs, hc⟩
  have HS4 := Lib.hid hs
  have HC4 := Lib.hid (HC3.out.trans hc)
  clear hs hc HC3 HS3
  simp only []
  go_wp2_with fail
  refine (sb_peek HS4).mono ?_
  rintro e w5 ⟨rfl, hs, hc⟩
  have HS5 := Lib.hid hs
  have HC5 := Lib.hid (HC4.out.trans hc)
  clear hs hc HC4 HS4
  simp only [hd, e43]
  go_wp2_with fail
  refine (sb_next HS5 H13.out.tail).mono ?_
  rintro e w6 ⟨rfl, hs, hc⟩
  have HS6 := Lib.hid hs
  have HC6 := Lib.hid (HC5.out.trans hc)
  clear hs hc HC5 HS5
  rw [show tl1 ((43 : UInt8) :: d :: (p ++ rest)) = d :: (p ++ rest) from rfl, ln1_of (c := 43) (t := d :: (p ++ rest)) rfl (by decide)] at HS6
  simp only [hd, e43]
  go_wp2_with fail
  refine (sb_write (c := 43) HS6 (by simp at hl ⊢; omega)).mono ?_
  rintro e w7 ⟨rfl, hs, hc⟩
  have HS7 := Lib.hid hs
  have HC7 := Lib.hid (HC6.out.trans hc)
  clear hs hc HC6 HS6
  simp only []
  go_wp2_with fail
  refine (sb_next HS7 H13.out.tail.tail).mono ?_
  rintro e w8 ⟨rfl, hs, hc⟩
  have HS8 := Lib.hid hs
  have HC8 := Lib.hid (HC7.out.trans hc)
  clear hs hc HC7 HS7
  rw [show tl1 ((d : UInt8) :: (p ++ rest)) = (p ++ rest) from rfl, ln1_of (c := d) (t := (p ++ rest)) rfl (by rintro rfl; exact absurd HD.out (by decide))] at HS8
  simp only [hd]
  go_wp2_with fail
  refine (scanDecimal_calls (c := d) HS8 H13.out.tail.tail.tail (by simp at hl ⊢; omega)).mono ?_
  rintro e w9 ⟨rfl, hs, hc⟩
  rw [EP1.out, EP2.out] at hs
  have HS9 := Lib.hid hs
  have HC9 := Lib.hid (HC8.out.trans hc)
  clear hs hc HS8 HC8
  simp only []
  go_wp2_with fail
  go_ret
  exact ⟨rfl, HS9.out, HC9.out⟩

set_option maxRecDepth 100000 in
set_option maxHeartbeats 4000000 in
theorem num_m0_69_0 {w w0 : World} {b : Bl} {d : UInt8} {f p rest l' : Bs} {L : Int} {g : Nat} {l : Bs} {u1 u3 u4 u5 u6 u7 u8 u9 u10 u11 u12 u13 u14 u15 u16 u17 u18 u19 u20 u21 u22 u23 u24 u25 u26 u27 u28 u29 u30 u31 u32 u33 u34 u35 u36 u37 u38 u39 u40 u41 u42 u43 u44 u45 u46 u47 u48 u49 u50 u51 u52 u53 u54 u55 u56 u57 u58 u59 u60 u61 u62 u63 u64 u65 u66 u67 u68 u69 u70 u71 u72 u73 u74 u75 u76 u77 u78 u79 u80 u81 u82 u83 u84 u85 u86 u87 u88 u89 : Value} (HS0 : Hid (Sb w b (69 :: d :: (p ++ rest)) L g l)) (HC0 : Hid (Ch (Ub b g) w0 w)) (hdd : isDec d = true) (hp : ∀ c ∈ p, isDec c = true) (hr : hdIs isDec rest = false) (h13 : NoCr ((69 : UInt8) :: d :: (p ++ rest))) (hl' : l' = l ++ [69] ++ [d] ++ p) (hl : l.length + 9 + ((69 :: d :: (p ++ rest)) : Bs).length < 100000) :
    rest20.wp Tryz.prog (bodyPost Tryz.prog Tryz.f33 (NumPost w0 b L g l' rest)) { tmps := #[ptr b.Z, u1, ptr g, u3, u4, u5, u6, u7, u8, u9, u10, u11, u12, u13, u14, u15, u16, u17, u18, u19, u20, u21, u22, u23, u24, u25, u26, u27, u28, u29, u30, u31, u32, u33, u34, u35, u36, u37, u38, u39, u40, u41, u42, u43, u44, u45, u46, u47, u48, u49, u50, u51, u52, u53, u54, u55, u56, u57, u58, u59, u60, u61, u62, u63, u64, u65, u66, u67, u68, u69, u70, u71, u72, u73, u74, u75, u76, u77, u78, u79, u80, u81, u82, u83, u84, u85, u86, u87, u88, u89], defers := [] } w := by
  subst hl'
  have H13 := Lib.hid h13
  clear h13
  have e46 : ((UInt8.toNat 46 : Nat) : Int) = 46 := rfl
  have e69 : ((UInt8.toNat 69 : Nat) : Int) = 69 := rfl
  have HD := Lib.hid hdd
  obtain ⟨a1, a2⟩ := take_all hp hr
  have EP1 := Lib.hid a1
  have EP2 := Lib.hid a2
  have hd2 : 48 ≤ d.toNat ∧ d.toNat ≤ 57 := by simpa [isDec] using hdd
  have g1 : ((d.toNat : Int) == 45) = false := by simp <;> omega
  have g2 : ((d.toNat : Int) == 43) = false := by simp <;> omega
  clear a1 a2 hp hr hdd
  conv => arg 2; whnf
  go_wp2_with fail
  refine (sb_peek HS0).mono ?_
  rintro e w1 ⟨rfl, hs, hc⟩
  have HS1 := Lib.hid hs
  have HC1 := Lib.hid (HC0.out.trans hc)
  clear hs hc HC0 HS0
  simp only [hd, e69]
  go_wp2_with fail
  refine (sb_peek HS1).mono ?_
  rintro e w2 ⟨rfl, hs, hc⟩
  have HS2 := Lib.hid hs
  have HC2 := Lib.hid (HC1.out.trans hc)
  clear hs hc HC1 HS1
  simp only [hd, e69]
  go_wp2_with fail
  refine (sb_next HS2 H13.out).mono ?_
  rintro e w3 ⟨rfl, hs, hc⟩
  have HS3 := Lib.hid hs
  have HC3 := Lib.hid (HC2.out.trans hc)
  clear hs hc HC2 HS2
  rw [show tl1 ((69 : UInt8) :: d :: (p ++ rest)) = d :: (p ++ rest) from rfl, ln1_of (c := 69) (t := d :: (p ++ rest)) rfl (by decide)] at HS3
  simp only [hd, e69]
  go_wp2_with fail
  refine (sb_write (c := 69) HS3 (by simp at hl ⊢; omega)).mono ?_
  rintro e w4 ⟨rfl, hs, hc⟩
  have HS4 := Lib.hid hs
  have HC4 := Lib.hid (HC3.out.trans hc)
  clear hs hc HC3 HS3
  simp only []
  go_wp2_with fail
  refine (sb_peek HS4).mono ?_
  rintro e w5 ⟨rfl, hs, hc⟩
  have HS5 := Lib.hid hs
  have HC5 := Lib.hid (HC4.out.trans hc)
  clear hs hc HC4 HS4
  simp only [hd]
  go_wp2_with fail
  refine (sb_next HS5 H13.out.tail).mono ?_
  rintro e w6 ⟨rfl, hs, hc⟩
  have HS6 := Lib.hid hs
  have HC6 := Lib.hid (HC5.out.trans hc)
  clear hs hc HC5 HS5
  rw [show tl1 ((d : UInt8) :: (p ++ rest)) = (p ++ rest) from rfl, ln1_of (c := d) (t := (p ++ rest)) rfl (by rintro rfl; exact absurd HD.out (by decide))] at HS6
  simp only [hd]
  go_wp2_with fail
  refine (scanDecimal_calls (c := d) HS6 H13.out.tail.tail (by simp at hl ⊢; omega)).mono ?_
  rintro e w7 ⟨rfl, hs, hc⟩
  rw [EP1.out, EP2.out] at hs
  have HS7 := Lib.hid hs
  have HC7 := Lib.hid (HC6.out.trans hc)
  clear hs hc HS6 HC6
  simp only []
  go_wp2_with fail
  go_ret
  exact ⟨rfl, HS7.out, HC7.out⟩

set_option maxRecDepth 100000 in
set_option maxHeartbeats 4000000 in
theorem num_m0_69_45 {w w0 : World} {b : Bl} {d : UInt8} {f p rest l' : Bs} {L : Int} {g : Nat} {l : Bs} {u1 u3 u4 u5 u6 u7 u8 u9 u10 u11 u12 u13 u14 u15 u16 u17 u18 u19 u20 u21 u22 u23 u24 u25 u26 u27 u28 u29 u30 u31 u32 u33 u34 u35 u36 u37 u38 u39 u40 u41 u42 u43 u44 u45 u46 u47 u48 u49 u50 u51 u52 u53 u54 u55 u56 u57 u58 u59 u60 u61 u62 u63 u64 u65 u66 u67 u68 u69 u70 u71 u72 u73 u74 u75 u76 u77 u78 u79 u80 u81 u82 u83 u84 u85 u86 u87 u88 u89 : Value} (HS0 : Hid (Sb w b (69 :: 45 :: d :: (p ++ rest)) L g l)) (HC0 : Hid (Ch (Ub b g) w0 w)) (hdd : isDec d = true) (hp : ∀ c ∈ p, isDec c = true) (hr : hdIs isDec rest = false) (h13 : NoCr ((69 : UInt8) :: 45 :: d :: (p ++ rest))) (hl' : l' = l ++ [69] ++ [45] ++ [d] ++ p) (hl : l.length + 9 + ((69 :: 45 :: d :: (p ++ rest)) : Bs).length < 100000) :
    rest20.wp Tryz.prog (bodyPost Tryz.prog Tryz.f33 (NumPost w0 b L g l' rest)) { tmps := #[ptr b.Z, u1, ptr g, u3, u4, u5, u6, u7, u8, u9, u10, u11, u12, u13, u14, u15, u16, u17, u18, u19, u20, u21, u22, u23, u24, u25, u26, u27, u28, u29, u30, u31, u32, u33, u34, u35, u36, u37, u38, u39, u40, u41, u42, u43, u44, u45, u46, u47, u48, u49, u50, u51, u52, u53, u54, u55, u56, u57, u58, u59, u60, u61, u62, u63, u64, u65, u66, u67, u68, u69, u70, u71, u72, u73, u74, u75, u76, u77, u78, u79, u80, u81, u82, u83, u84, u85, u86, u87, u88, u89], defers := [] } w := by
  subst hl'
  have H13 := Lib.hid h13
  clear h13
  have e46 : ((UInt8.toNat 46 : Nat) : Int) = 46 := rfl
  have e69 : ((UInt8.toNat 69 : Nat) : Int) = 69 := rfl
  have e45 : ((UInt8.toNat 45 : Nat) : Int) = 45 := rfl
  have HD := Lib.hid hdd
  obtain ⟨a1, a2⟩ := take_all hp hr
  have EP1 := Lib.hid a1
  have EP2 := Lib.hid a2
  have hd2 : 48 ≤ d.toNat ∧ d.toNat ≤ 57 := by simpa [isDec] using hdd
  have g1 : ((d.toNat : Int) == 45) = false := by simp <;> omega
  have g2 : ((d.toNat : Int) == 43) = false := by simp <;> omega
  clear a1 a2 hp hr hdd
  conv => arg 2; whnf
  go_wp2_with fail
  refine (sb_peek HS0).mono ?_
  rintro e w1 ⟨rfl, hs, hc⟩
  have HS1 := Lib.hid hs
  have HC1 := Lib.hid (HC0.out.trans hc)
  clear hs hc HC0 HS0
  simp only [hd, e69]
  go_wp2_with fail
  refine (sb_peek HS1).mono ?_
  rintro e w2 ⟨rfl, hs, hc⟩
  have HS2 := Lib.hid hs
  have HC2 := Lib.hid (HC1.out.trans hc)
  clear hs hc HC1 HS1
  simp only [hd, e69]
  go_wp2_with fail
  refine (sb_next HS2 H13.out).mono ?_
  rintro e w3 ⟨rfl, hs, hc⟩
  have HS3 := Lib.hid hs
  have HC3 := Lib.hid (HC2.out.trans hc)
  clear hs hc HC2 HS2
  rw [show tl1 ((69 : UInt8) :: 45 :: d :: (p ++ rest)) = 45 :: d :: (p ++ rest) from rfl, ln1_of (c := 69) (t := 45 :: d :: (p ++ rest)) rfl (by decide)] at HS3
  simp only [hd, e69]
  go_wp2_with fail
  refine (sb_write (c := 69) HS3 (by simp at hl ⊢; omega)).mono ?_
  rintro e w4 ⟨rfl, hs, hc⟩
  have HS4 := Lib.hid hs
  have HC4 := Lib.hid (HC3.out.trans hc)
  clear hs hc HC3 HS3
  simp only []
  go_wp2_with fail
  refine (sb_peek HS4).mono ?_
  rintro e w5 ⟨rfl, hs, hc⟩
  have HS5 := Lib.hid hs
  have HC5 := Lib.hid (HC4.out.trans hc)
  clear hs hc HC4 HS4
  simp only [hd, e45]
  go_wp2_with fail
  refine (sb_next HS5 H13.out.tail).mono ?_
  rintro e w6 ⟨rfl, hs, hc⟩
  have HS6 := Lib.hid hs
  have HC6 := Lib.hid (HC5.out.trans hc)
  clear hs hc HC5 HS5
  rw [show tl1 ((45 : UInt8) :: d :: (p ++ rest)) = d :: (p ++ rest) from rfl, ln1_of (c := 45) (t := d :: (p ++ rest)) rfl (by decide)] at HS6
  simp only [hd, e45]
  go_wp2_with fail
  refine (sb_write (c := 45) HS6 (by simp at hl ⊢; omega)).mono ?_
  rintro e w7 ⟨rfl, hs, hc⟩
  have HS7 := Lib.hid hs
  have HC7 := Lib.hid (HC6.out.trans hc)
  clear hs hc HC6 HS6
  simp only []
  go_wp2_with fail
  refine (sb_next HS7 H13.out.tail.tail).mono ?_
  rintro e w8 ⟨rfl, hs, hc⟩
  have HS8 := Lib.hid hs
  have HC8 := Lib.hid (HC7.out.trans hc)
  clear hs hc HC7 HS7
  rw [show tl1 ((d : UInt8) :: (p ++ rest)) = (p ++ rest) from rfl, ln1_of (c := d) (t := (p ++ rest)) rfl (by rintro rfl; exact absurd HD.out (by decide))] at HS8
  simp only [hd]
  go_wp2_with fail
  refine (scanDecimal_calls (c := d) HS8 H13.out.tail.tail.tail (by simp at hl ⊢; omega)).mono ?_
  rintro e w9 ⟨rfl, hs, hc⟩
  rw [EP1.out, EP2.out] at hs
  have HS9 := Lib.hid hs
  have HC9 := Lib.hid (HC8.out.trans hc)
  clear hs hc HS8 HC8
  simp only []
  go_wp2_with fail
  go_ret
  exact ⟨rfl, HS9.out, HC9.out⟩

set_option maxRecDepth 100000 in
set_option maxHeartbeats 4000000 in
theorem num_m0_69_43 {w w0 : World} {b : Bl} {d : UInt8} {f p rest l' : Bs} {L : Int} {g : Nat} {l : Bs} {u1 u3 u4 u5 u6 u7 u8 u9 u10 u11 u12 u13 u14 u15 u16 u17 u18 u19 u20 u21 u22 u23 u24 u25 u26 u27 u28 u29 u30 u31 u32 u33 u34 u35 u36 u37 u38 u39 u40 u41 u42 u43 u44 u45 u46 u47 u48 u49 u50 u51 u52 u53 u54 u55 u56 u57 u58 u59 u60 u61 u62 u63 u64 u65 u66 u67 u68 u69 u70 u71 u72 u73 u74 u75 u76 u77 u78 u79 u80 u81 u82 u83 u84 u85 u86 u87 u88 u89 : Value} (HS0 : Hid (Sb w b (69 :: 43 :: d :: (p ++ rest)) L g l)) (HC0 : Hid (Ch (Ub b g) w0 w)) (hdd : isDec d = true) (hp : ∀ c ∈ p, isDec c = true) (hr : hdIs isDec rest = false) (h13 : NoCr ((69 : UInt8) :: 43 :: d :: (p ++ rest))) (hl' : l' = l ++ [69] ++ [43] ++ [d] ++ p) (hl : l.length + 9 + ((69 :: 43 :: d :: (p ++ rest)) : Bs).length < 100000) :
    rest20.wp Tryz.prog (bodyPost Tryz.prog Tryz.f33 (NumPost w0 b L g l' rest)) { tmps := #[ptr b.Z, u1, ptr g, u3, u4, u5, u6, u7, u8, u9, u10, u11, u12, u13, u14, u15, u16, u17, u18, u19, u20, u21, u22, u23, u24, u25, u26, u27, u28, u29, u30, u31, u32, u33, u34, u35, u36, u37, u38, u39, u40, u41, u42, u43, u44, u45, u46, u47, u48, u49, u50, u51, u52, u53, u54, u55, u56, u57, u58, u59, u60, u61, u62, u63, u64, u65, u66, u67, u68, u69, u70, u71, u72, u73, u74, u75, u76, u77, u78, u79, u80, u81, u82, u83, u84, u85, u86, u87, u88, u89], defers := [] } w := by
  subst hl'
  have H13 := Lib.hid h13
  clear h13
  have e46 : ((UInt8.toNat 46 : Nat) : Int) = 46 := rfl
  have e69 : ((UInt8.toNat 69 : Nat) : Int) = 69 := rfl
  have e43 : ((UInt8.toNat 43 : Nat) : Int) = 43 := rfl
  have HD := Lib.hid hdd
  obtain ⟨a1, a2⟩ := take_all hp hr
  have EP1 := Lib.hid a1
  have EP2 := Lib.hid a2
  have hd2 : 48 ≤ d.toNat ∧ d.toNat ≤ 57 := by simpa [isDec] using hdd
  have g1 : ((d.toNat : Int) == 45) = false := by simp <;> omega
  have g2 : ((d.toNat : Int) == 43) = false := by simp <;> omega
  clear a1 a2 hp hr hdd
  conv => arg 2; whnf
  go_wp2_with fail
  refine (sb_peek HS0).mono ?_
  rintro e w1 ⟨rfl, hs, hc⟩
  have HS1 := Lib.hid hs
  have HC1 := Lib.hid (HC0.out.trans hc)
  clear hs hc HC0 HS0
  simp only [hd, e69]
  go_wp2_with fail
  refine (sb_peek HS1).mono ?_
  rintro e w2 ⟨rfl, hs, hc⟩
  have HS2 := Lib.hid hs
  have HC2 := Lib.hid (HC1.out.trans hc)
  clear hs hc HC1 HS1
  simp only [hd, e69]
  go_wp2_with fail
  refine (sb_next HS2 H13.out).mono ?_
  rintro e w3 ⟨rfl, hs, hc⟩
  have HS3 := Lib.hid hs
  have HC3 := Lib.hid (HC2.out.trans hc)
  clear hs hc HC2 HS2
  rw [show tl1 ((69 : UInt8) :: 43 :: d :: (p ++ rest)) = 43 :: d :: (p ++ rest) from rfl, ln1_of (c := 69) (t := 43 :: d :: (p ++ rest)) rfl (by decide)] at HS3
  simp only [hd, e69]
  go_wp2_with fail
  refine (sb_write (c := 69) HS3 (by simp at hl ⊢; omega)).mono ?_
  rintro e w4 ⟨rfl, hs, hc⟩
  have HS4 := Lib.hid hs
  have HC4 := Lib.hid (HC3.out.trans hc)
  clear hs hc HC3 HS3
  simp only []
  go_wp2_with fail
  refine (sb_peek HS4).mono ?_
  rintro e w5 ⟨rfl, hs, hc⟩
  have HS5 := Lib.hid hs
  have HC5 := Lib.hid (HC4.out.trans hc)
  clear hs hc HC4 HS4
  simp only [hd, e43]
  go_wp2_with fail
  refine (sb_next HS5 H13.out.tail).mono ?_
  rintro e w6 ⟨rfl, hs, hc⟩
  have HS6 := Lib.hid hs
  have HC6 := Lib.hid (HC5.out.trans hc)
  clear hs hc HC5 HS5
  rw [show tl1 ((43 : UInt8) :: d :: (p ++ rest)) = d :: (p ++ rest) from rfl, ln1_of (c := 43) (t := d :: (p ++ rest)) rfl (by decide)] at HS6
  simp only [hd, e43]
  go_wp2_with fail
  refine (sb_write (c := 43) HS6 (by simp at hl ⊢; omega)).mono ?_
  rintro e w7 ⟨rfl, hs, hc⟩
  have HS7 := Lib.hid hs
  have HC7 := Lib.hid (HC6.out.trans hc)
  clear hs hc HC6 HS6
  simp only []
  go_wp2_with fail
  refine (sb_next HS7 H13.out.tail.tail).mono ?_
  rintro e w8 ⟨rfl, hs, hc⟩
  have HS8 := Lib.hid hs
  have HC8 := Lib.hid (HC7.out.trans hc)
  clear hs hc HC7 HS7
  rw [show tl1 ((d : UInt8) :: (p ++ rest)) = (p ++ rest) from rfl, ln1_of (c := d) (t := (p ++ rest)) rfl (by rintro rfl; exact absurd HD.out (by decide))] at HS8
  simp only [hd]
  go_wp2_with fail
  refine (scanDecimal_calls (c := d) HS8 H13.out.tail.tail.tail (by simp at hl ⊢; omega)).mono ?_
  rintro e w9 ⟨rfl, hs, hc⟩
  rw [EP1.out, EP2.out] at hs
  have HS9 := Lib.hid hs
  have HC9 := Lib.hid (HC8.out.trans hc)
  clear hs hc HS8 HC8
  simp only []
  go_wp2_with fail
  go_ret
  exact ⟨rfl, HS9.out, HC9.out⟩

set_option maxRecDepth 100000 in
set_option maxHeartbeats 4000000 in
theorem num_m1_0_0 {w w0 : World} {b : Bl} {d : UInt8} {f p rest l' : Bs} {L : Int} {g : Nat} {l : Bs} {u1 u3 u4 u5 u6 u7 u8 u9 u10 u11 u12 u13 u14 u15 u16 u17 u18 u19 u20 u21 u22 u23 u24 u25 u26 u27 u28 u29 u30 u31 u32 u33 u34 u35 u36 u37 u38 u39 u40 u41 u42 u43 u44 u45 u46 u47 u48 u49 u50 u51 u52 u53 u54 u55 u56 u57 u58 u59 u60 u61 u62 u63 u64 u65 u66 u67 u68 u69 u70 u71 u72 u73 u74 u75 u76 u77 u78 u79 u80 u81 u82 u83 u84 u85 u86 u87 u88 u89 : Value} (HS0 : Hid (Sb w b (46 :: (f ++ (rest))) L g l)) (HC0 : Hid (Ch (Ub b g) w0 w)) (hf : ∀ c ∈ f, isDec c = true) (hr2 : hdIs isDec (rest) = false) (h1 : hd rest ≠ 101) (h2 : hd rest ≠ 69) (h13 : NoCr ((46 : UInt8) :: (f ++ (rest)))) (hl' : l' = l ++ [46] ++ f) (hl : l.length + 9 + ((46 :: (f ++ (rest))) : Bs).length < 100000) :
    rest20.wp Tryz.prog (bodyPost Tryz.prog Tryz.f33 (NumPost w0 b L g l' rest)) { tmps := #[ptr b.Z, u1, ptr g, u3, u4, u5, u6, u7, u8, u9, u10, u11, u12, u13, u14, u15, u16, u17, u18, u19, u20, u21, u22, u23, u24, u25, u26, u27, u28, u29, u30, u31, u32, u33, u34, u35, u36, u37, u38, u39, u40, u41, u42, u43, u44, u45, u46, u47, u48, u49, u50, u51, u52, u53, u54, u55, u56, u57, u58, u59, u60, u61, u62, u63, u64, u65, u66, u67, u68, u69, u70, u71, u72, u73, u74, u75, u76, u77, u78, u79, u80, u81, u82, u83, u84, u85, u86, u87, u88, u89], defers := [] } w := by
  subst hl'
  have H13 := Lib.hid h13
  clear h13
  have e46 : ((UInt8.toNat 46 : Nat) : Int) = 46 := rfl
  have g1 : (hd rest == 101) = false := by simpa using h1
  have g2 : (hd rest == 69) = false := by simpa using h2
  clear h1 h2
  obtain ⟨b1, b2⟩ := take_all hf hr2
  have EF1 := Lib.hid b1
  have EF2 := Lib.hid b2
  clear b1 b2 hf hr2
  conv => arg 2; whnf
  go_wp2_with fail
  refine (sb_peek HS0).mono ?_
  rintro e w1 ⟨rfl, hs, hc⟩
  have HS1 := Lib.hid hs
  have HC1 := Lib.hid (HC0.out.trans hc)
  clear hs hc HC0 HS0
  simp only [hd, e46]
  go_wp2_with fail
  refine (sb_next HS1 H13.out).mono ?_
  rintro e w2 ⟨rfl, hs, hc⟩
  have HS2 := Lib.hid hs
  have HC2 := Lib.hid (HC1.out.trans hc)
  clear hs hc HC1 HS1
  rw [show tl1 ((46 : UInt8) :: (f ++ (rest))) = (f ++ (rest)) from rfl, ln1_of (c := 46) (t := (f ++ (rest))) rfl (by decide)] at HS2
  simp only []
  go_wp2_with fail
  refine (scanDecimal_calls (c := 46) HS2 H13.out.tail (by simp at hl ⊢; omega)).mono ?_
  rintro e w3 ⟨rfl, hs, hc⟩
  rw [EF1.out, EF2.out] at hs
  have HS3 := Lib.hid hs
  have HC3 := Lib.hid (HC2.out.trans hc)
  clear hs hc HS2 HC2
  simp only []
  go_wp2_with fail
  refine (sb_peek HS3).mono ?_
  rintro e w4 ⟨rfl, hs, hc⟩
  have HS4 := Lib.hid hs
  have HC4 := Lib.hid (HC3.out.trans hc)
  clear hs hc HC3 HS3
  simp only []
  go_wp2_with fail
  go_ret
  exact ⟨rfl, HS4.out, HC4.out⟩

set_option maxRecDepth 100000 in
set_option maxHeartbeats 4000000 in
theorem num_m1_101_0 {w w0 : World} {b : Bl} {d : UInt8} {f p rest l' : Bs} {L : Int} {g : Nat} {l : Bs} {u1 u3 u4 u5 u6 u7 u8 u9 u10 u11 u12 u13 u14 u15 u16 u17 u18 u19 u20 u21 u22 u23 u24 u25 u26 u27 u28 u29 u30 u31 u32 u33 u34 u35 u36 u37 u38 u39 u40 u41 u42 u43 u44 u45 u46 u47 u48 u49 u50 u51 u52 u53 u54 u55 u56 u57 u58 u59 u60 u61 u62 u63 u64 u65 u66 u67 u68 u69 u70 u71 u72 u73 u74 u75 u76 u77 u78 u79 u80 u81 u82 u83 u84 u85 u86 u87 u88 u89 : Value} (HS0 : Hid (Sb w b (46 :: (f ++ (101 :: d :: (p ++ rest)))) L g l)) (HC0 : Hid (Ch (Ub b g) w0 w)) (hf : ∀ c ∈ f, isDec c = true) (hr2 : hdIs isDec (101 :: d :: (p ++ rest)) = false) (hdd : isDec d = true) (hp : ∀ c ∈ p, isDec c = true) (hr : hdIs isDec rest = false) (h13 : NoCr ((46 : UInt8) :: (f ++ (101 :: d :: (p ++ rest))))) (hl' : l' = l ++ [46] ++ f ++ [101] ++ [d] ++ p) (hl : l.length + 9 + ((46 :: (f ++ (101 :: d :: (p ++ rest)))) : Bs).length < 100000) :
    rest20.wp Tryz.prog (bodyPost Tryz.prog Tryz.f33 (NumPost w0 b L g l' rest)) { tmps := #[ptr b.Z, u1, ptr g, u3, u4, u5, u6, u7, u8, u9, u10, u11, u12, u13, u14, u15, u16, u17, u18, u19, u20, u21, u22, u23, u24, u25, u26, u27, u28, u29, u30, u31, u32, u33, u34, u35, u36, u37, u38, u39, u40, u41, u42, u43, u44, u45, u46, u47, u48, u49, u50, u51, u52, u53, u54, u55, u56, u57, u58, u59, u60, u61, u62, u63, u64, u65, u66, u67, u68, u69, u70, u71, u72, u73, u74, u75, u76, u77, u78, u79, u80, u81, u82, u83, u84, u85, u86, u87, u88, u89], defers := [] } w := by
  subst hl'
  have H13 := Lib.hid h13
  clear h13
  have e46 : ((UInt8.toNat 46 : Nat) : Int) = 46 := rfl
  have e101 : ((UInt8.toNat 101 : Nat) : Int) = 101 := rfl
  have HD := Lib.hid hdd
  obtain ⟨a1, a2⟩ := take_all hp hr
  have EP1 := Lib.hid a1
  have EP2 := Lib.hid a2
  have hd2 : 48 ≤ d.toNat ∧ d.toNat ≤ 57 := by simpa [isDec] using hdd
  have g1 : ((d.toNat : Int) == 45) = false := by simp <;> omega
  have g2 : ((d.toNat : Int) == 43) = false := by simp <;> omega
  clear a1 a2 hp hr hdd
  obtain ⟨b1, b2⟩ := take_all hf hr2
  have EF1 := Lib.hid b1
  have EF2 := Lib.hid b2
  clear b1 b2 hf hr2
  conv => arg 2; whnf
  go_wp2_with fail
  refine (sb_peek HS0).mono ?_
  rintro e w1 ⟨rfl, hs, hc⟩
  have HS1 := Lib.hid hs
  have HC1 := Lib.hid (HC0.out.trans hc)
  clear hs hc HC0 HS0
  simp only [hd, e46]
  go_wp2_with fail
  refine (sb_next HS1 H13.out).mono ?_
  rintro e w2 ⟨rfl, hs, hc⟩
  have HS2 := Lib.hid hs
  have HC2 := Lib.hid (HC1.out.trans hc)
  clear hs hc HC1 HS1
  rw [show tl1 ((46 : UInt8) :: (f ++ (101 :: d :: (p ++ rest)))) = (f ++ (101 :: d :: (p ++ rest))) from rfl, ln1_of (c := 46) (t := (f ++ (101 :: d :: (p ++ rest)))) rfl (by decide)] at HS2
  simp only []
  go_wp2_with fail
  refine (scanDecimal_calls (c := 46) HS2 H13.out.tail (by simp at hl ⊢; omega)).mono ?_
  rintro e w3 ⟨rfl, hs, hc⟩
  rw [EF1.out, EF2.out] at hs
  have HS3 := Lib.hid hs
  have HC3 := Lib.hid (HC2.out.trans hc)
  clear hs hc HS2 HC2
  simp only []
  go_wp2_with fail
  refine (sb_peek HS3).mono ?_
  rintro e w4 ⟨rfl, hs, hc⟩
  have HS4 := Lib.hid hs
  have HC4 := Lib.hid (HC3.out.trans hc)
  clear hs hc HC3 HS3
  simp only [hd, e101]
  go_wp2_with fail
  refine (sb_next HS4 H13.out.tail.app).mono ?_
  rintro e w5 ⟨rfl, hs, hc⟩
  have HS5 := Lib.hid hs
  have HC5 := Lib.hid (HC4.out.trans hc)
  clear hs hc HC4 HS4
  rw [show tl1 ((101 : UInt8) :: d :: (p ++ rest)) = d :: (p ++ rest) from rfl, ln1_of (c := 101) (t := d :: (p ++ rest)) rfl (by decide)] at HS5
  simp only [hd, e101]
  go_wp2_with fail
  refine (sb_write (c := 101) HS5 (by simp at hl ⊢; omega)).mono ?_
  rintro e w6 ⟨rfl, hs, hc⟩
  have HS6 := Lib.hid hs
  have HC6 := Lib.hid (HC5.out.trans hc)
  clear hs hc HC5 HS5
  simp only []
  go_wp2_with fail
  refine (sb_peek HS6).mono ?_
  rintro e w7 ⟨rfl, hs, hc⟩
  have HS7 := Lib.hid hs
  have HC7 := Lib.hid (HC6.out.trans hc)
  clear hs hc HC6 HS6
  simp only [hd]
  go_wp2_with fail
  refine (sb_next HS7 H13.out.tail.app.tail).mono ?_
  rintro e w8 ⟨rfl, hs, hc⟩
  have HS8 := Lib.hid hs
  have HC8 := Lib.hid (HC7.out.trans hc)
  clear hs hc HC7 HS7
  rw [show tl1 ((d : UInt8) :: (p ++ rest)) = (p ++ rest) from rfl, ln1_of (c := d) (t := (p ++ rest)) rfl (by rintro rfl; exact absurd HD.out (by decide))] at HS8
  simp only [hd]
  go_wp2_with fail
  refine (scanDecimal_calls (c := d) HS8 H13.out.tail.app.tail.tail (by simp at hl ⊢; omega)).mono ?_
  rintro e w9 ⟨rfl, hs, hc⟩
  rw [EP1.out, EP2.out] at hs
  have HS9 := Lib.hid hs
  have HC9 := Lib.hid (HC8.out.trans hc)
  clear hs hc HS8 HC8
  simp only []
  go_wp2_with fail
  go_ret
  exact ⟨rfl, HS9.out, HC9.out⟩

set_option maxRecDepth 100000 in
set_option maxHeartbeats 4000000 in
theorem num_m1_101_45 {w w0 : World} {b : Bl} {d : UInt8} {f p rest l' : Bs} {L : Int} {g : Nat} {l : Bs} {u1 u3 u4 u5 u6 u7 u8 u9 u10 u11 u12 u13 u14 u15 u16 u17 u18 u19 u20 u21 u22 u23 u24 u25 u26 u27 u28 u29 u30 u31 u32 u33 u34 u35 u36 u37 u38 u39 u40 u41 u42 u43 u44 u45 u46 u47 u48 u49 u50 u51 u52 u53 u54 u55 u56 u57 u58 u59 u60 u61 u62 u63 u64 u65 u66 u67 u68 u69 u70 u71 u72 u73 u74 u75 u76 u77 u78 u79 u80 u81 u82 u83 u84 u85 u86 u87 u88 u89 : Value} (HS0 : Hid (Sb w b (46 :: (f ++ (101 :: 45 :: d :: (p ++ rest)))) L g l)) (HC0 : Hid (Ch (Ub b g) w0 w)) (hf : ∀ c ∈ f, isDec c = true) (hr2 : hdIs isDec (101 :: 45 :: d :: (p ++ rest)) = false) (hdd : isDec d = true) (hp : ∀ c ∈ p, isDec c = true) (hr : hdIs isDec rest = false) (h13 : NoCr ((46 : UInt8) :: (f ++ (101 :: 45 :: d :: (p ++ rest))))) (hl' : l' = l ++ [46] ++ f ++ [101] ++ [45] ++ [d] ++ p) (hl : l.length + 9 + ((46 :: (f ++ (101 :: 45 :: d :: (p ++ rest)))) : Bs).length < 100000) :
    rest20.wp Tryz.prog (bodyPost Tryz.prog Tryz.f33 (NumPost w0 b L g l' rest)) { tmps := #[ptr b.Z, u1, ptr g, u3, u4, u5, u6, u7, u8, u9, u10, u11, u12, u13, u14, u15, u16, u17, u18, u19, u20, u21, u22, u23, u24, u25, u26, u27, u28, u29, u30, u31, u32, u33, u34, u35, u36, u37, u38, u39, u40, u41, u42, u43, u44, u45, u46, u47, u48, u49, u50, u51, u52, u53, u54, u55, u56, u57, u58, u59, u60, u61, u62, u63, u64, u65, u66, u67, u68, u69, u70, u71, u72, u73, u74, u75, u76, u77, u78, u79, u80, u81, u82, u83, u84, u85, u86, u87, u88, u89], defers := [] } w := by
  subst hl'
  have H13 := Lib.hid h13
  clear h13
  have e46 : ((UInt8.toNat 46 : Nat) : Int) = 46 := rfl
  have e101 : ((UInt8.toNat 101 : Nat) : Int) = 101 := rfl
  have e45 : ((UInt8.toNat 45 : Nat) : Int) = 45 := rfl
  have HD := Lib.hid hdd
  obtain ⟨a1, a2⟩ := take_all hp hr
  have EP1 := Lib.hid a1
  have EP2 := Lib.hid a2
  have hd2 : 48 ≤ d.toNat ∧ d.toNat ≤ 57 := by simpa [isDec] using hdd
  have g1 : ((d.toNat : Int) == 45) = false := by simp <;> omega
  have g2 : ((d.toNat : Int) == 43) = false := by simp <;> omega
  clear a1 a2 hp hr hdd
  obtain ⟨b1, b2⟩ := take_all hf hr2
  have EF1 := Lib.hid b1
  have EF2 := Lib.hid b2
  clear b1 b2 hf hr2
  conv => arg 2; whnf
  go_wp2_with fail
  refine (sb_peek HS0).mono ?_
  rintro e w1 ⟨rfl, hs, hc⟩
  have HS1 := Lib.hid hs
  have HC1 := Lib.hid (HC0.out.trans hc)
  clear hs hc HC0 HS0
  simp only [hd, e46]
  go_wp2_with fail
  refine (sb_next HS1 H13.out).mono ?_
  rintro e w2 ⟨rfl, hs, hc⟩
  have HS2 := Lib.hid hs
  have HC2 := Lib.hid (HC1.out.trans hc)
  clear hs hc HC1 HS1
  rw [show tl1 ((46 : UInt8) :: (f ++ (101 :: 45 :: d :: (p ++ rest)))) = (f ++ (101 :: 45 :: d :: (p ++ rest))) from rfl, ln1_of (c := 46) (t := (f ++ (101 :: 45 :: d :: (p ++ rest)))) rfl (by decide)] at HS2
  simp only []
  go_wp2_with fail
  refine (scanDecimal_calls (c := 46) HS2 H13.out.tail (by simp at hl ⊢; omega)).mono ?_
  rintro e w3 ⟨rfl, hs, hc⟩
  rw [EF1.out, EF2.out] at hs
  have HS3 := Lib.hid hs
  have HC3 := Lib.hid (HC2.out.trans hc)
  clear hs hc HS2 HC2
  simp only []
  go_wp2_with fail
  refine (sb_peek HS3).mono ?_
  rintro e w4 ⟨rfl, hs, hc⟩
  have HS4 := Lib.hid hs
  have HC4 := Lib.hid (HC3.out.trans hc)
  clear hs hc HC3 HS3
  simp only [hd, e101]
  go_wp2_with fail
  refine (sb_next HS4 H13.out.tail.app).mono ?_
  rintro e w5 ⟨rfl, hs, hc⟩
  have HS5 := Lib.hid hs
  have HC5 := Lib.hid (HC4.out.trans hc)
  clear hs hc HC4 HS4
  rw [show tl1 ((101 : UInt8) :: 45 :: d :: (p ++ rest)) = 45 :: d :: (p ++ rest) from rfl, ln1_of (c := 101) (t := 45 :: d :: (p ++ rest)) rfl (by decide)] at HS5
  simp only [hd, e101]
  go_wp2_with fail
  refine (sb_write (c := 101) HS5 (by simp at hl ⊢; omega)).mono ?_
  rintro e w6 ⟨rfl, hs, hc⟩
  have HS6 := Lib.hid hs
  have HC6 := Lib.hid (HC5.out.trans hc)
  clear hs hc HC5 HS5
  simp only []
  go_wp2_with fail
  refine (sb_peek HS6).mono ?_
  rintro e w7 ⟨rfl, hs, hc⟩
  have HS7 := Lib.hid hs
  have HC7 := Lib.hid (HC6.out.trans hc)
  clear hs hc HC6 HS6
  simp only [hd, e45]
  go_wp2_with fail
  refine (sb_next HS7 H13.out.tail.app.tail).mono ?_
  rintro e w8 ⟨rfl, hs, hc⟩
  have HS8 := Lib.hid hs
  have HC8 := Lib.hid (HC7.out.trans hc)
  clear hs hc HC7 HS7
  rw [show tl1 ((45 : UInt8) :: d :: (p ++ rest)) = d :: (p ++ rest) from rfl, ln1_of (c := 45) (t := d :: (p ++ rest)) rfl (by decide)] at HS8
  simp only [hd, e45]
  go_wp2_with fail
  refine (sb_write (c := 45) HS8 (by simp at hl ⊢; omega)).mono ?_
  rintro e w9 ⟨rfl, hs, hc⟩
  have HS9 := Lib.hid hs
  have HC9 := Lib.hid (HC8.out.trans hc)
  clear hs hc HC8 HS8
  simp only []
  go_wp2_with fail
  refine (sb_next HS9 H13.out.tail.app.tail.tail).mono ?_
  rintro e w10 ⟨rfl, hs, hc⟩
  have HS10 := Lib.hid hs
  have HC10 := Lib.hid (HC9.out.trans hc)
  clear hs hc HC9 HS9
  rw [show tl1 ((d : UInt8) :: (p ++ rest)) = (p ++ rest) from rfl, ln1_of (c := d) (t := (p ++ rest)) rfl (by rintro rfl; exact absurd HD.out (by decide))] at HS10
  simp only [hd]
  go_wp2_with fail
  refine (scanDecimal_calls (c := d) HS10 H13.out.tail.app.tail.tail.tail (by simp at hl ⊢; omega)).mono ?_
  rintro e w11 ⟨rfl, hs, hc⟩
  rw [EP1.out, EP2.out] at hs
  have HS11 := Lib.hid hs
  have HC11 := Lib.hid (HC10.out.trans hc)
  clear hs hc HS10 HC10
  simp only []
  go_wp2_with fail
  go_ret
  exact ⟨rfl, HS11.out, HC11.out⟩

set_option maxRecDepth 100000 in
set_option maxHeartbeats 4000000 in
theorem num_m1_101_43 {w w0 : World} {b : Bl} {d : UInt8} {f p rest l' : Bs} {L : Int} {g : Nat} {l : Bs} {u1 u3 u4 u5 u6 u7 u8 u9 u10 u11 u12 u13 u14 u15 u16 u17 u18 u19 u20 u21 u22 u23 u24 u25 u26 u27 u28 u29 u30 u31 u32 u33 u34 u35 u36 u37 u38 u39 u40 u41 u42 u43 u44 u45 u46 u47 u48 u49 u50 u51 u52 u53 u54 u55 u56 u57 u58 u59 u60 u61 u62 u63 u64 u65 u66 u67 u68 u69 u70 u71 u72 u73 u74 u75 u76 u77 u78 u79 u80 u81 u82 u83 u84 u85 u86 u87 u88 u89 : Value} (HS0 : Hid (Sb w b (46 :: (f ++ (101 :: 43 :: d :: (p ++ rest)))) L g l)) (HC0 : Hid (Ch (Ub b g) w0 w)) (hf : ∀ c ∈ f, isDec c = true) (hr2 : hdIs isDec (101 :: 43 :: d :: (p ++ rest)) = false) (hdd : isDec d = true) (hp : ∀ c ∈ p, isDec c = true) (hr : hdIs isDec rest = false) (h13 : NoCr ((46 : UInt8) :: (f ++ (101 :: 43 :: d :: (p ++ rest))))) (hl' : l' = l ++ [46] ++ f ++ [101] ++ [43] ++ [d] ++ p) (hl : l.length + 9 + ((46 :: (f ++ (101 :: 43 :: d :: (p ++ rest)))) : Bs).length < 100000) :
    rest20.wp Tryz.prog (bodyPost Tryz.prog Tryz.f33 (NumPost w0 b L g l' rest)) { tmps := #[ptr b.Z, u1, ptr g, u3, u4, u5, u6, u7, u8, u9, u10, u11, u12, u13, u14, u15, u16, u17, u18, u19, u20, u21, u22, u23, u24, u25, u26, u27, u28, u29, u30, u31, u32, u33, u34, u35, u36, u37, u38, u39, u40, u41, u42, u43, u44, u45, u46, u47, u48, u49, u50, u51, u52, u53, u54, u55, u56, u57, u58, u59, u60, u61, u62, u63, u64, u65, u66, u67, u68, u69, u70, u71, u72, u73, u74, u75, u76, u77, u78, u79, u80, u81, u82, u83, u84, u85, u86, u87, u88, u89], defers := [] } w := by
  subst hl'
  have H13 := Lib.hid h13
  clear h13
  have e46 : ((UInt8.toNat 46 : Nat) : Int) = 46 := rfl
  have e101 : ((UInt8.toNat 101 : Nat) : Int) = 101 := rfl
  have e43 : ((UInt8.toNat 43 : Nat) : Int) = 43 := rfl
  have HD := Lib.hid hdd
  obtain ⟨a1, a2⟩ := take_all hp hr
  have EP1 := Lib.hid a1
  have EP2 := Lib.hid a2
  have hd2 : 48 ≤ d.toNat ∧ d.toNat ≤ 57 := by simpa [isDec] using hdd
  have g1 : ((d.toNat : Int) == 45) = false := by simp <;> omega
  have g2 : ((d.toNat : Int) == 43) = false := by simp <;> omega
  clear a1 a2 hp hr hdd
  obtain ⟨b1, b2⟩ := take_all hf hr2
  have EF1 := Lib.hid b1
  have EF2 := Lib.hid b2
  clear b1 b2 hf hr2
  conv => arg 2; whnf
  go_wp2_with fail
  refine (sb_peek HS0).mono ?_
  rintro e w1 ⟨rfl, hs, hc⟩
  have HS1 := Lib.hid hs
  have HC1 := Lib.hid (HC0.out.trans hc)
  clear hs hc HC0 HS0
  simp only [hd, e46]
  go_wp2_with fail
  refine (sb_next HS1 H13.out).mono ?_
  rintro e w2 ⟨rfl, hs, hc⟩
  have HS2 := Lib.hid hs
  have HC2 := Lib.hid (HC1.out.trans hc)
  clear hs hc HC1 HS1
  rw [show tl1 ((46 : UInt8) :: (f ++ (101 :: 43 :: d :: (p ++ rest)))) = (f ++ (101 :: 43 :: d :: (p ++ rest))) from rfl, ln1_of (c := 46) (t := (f ++ (101 :: 43 :: d :: (p ++ rest)))) rfl (by decide)] at HS2
  simp only []
  go_wp2_with fail
  refine (scanDecimal_calls (c := 46) HS2 H13.out.tail (by simp at hl ⊢; omega)).mono ?_
  rintro e w3 ⟨rfl, hs, hc⟩
  rw [EF1.out, EF2.out] at hs
  have HS3 := Lib.hid hs
  have HC3 := Lib.hid (HC2.out.trans hc)
  clear hs hc HS2 HC2
  simp only []
  go_wp2_with fail
  refine (sb_peek HS3).mono ?_
  rintro e w4 ⟨rfl, hs, hc⟩
  have HS4 := Lib.hid hs
  have HC4 := Lib.hid (HC3.out.trans hc)
  clear hs hc HC3 HS3
  simp only [hd, e101]
  go_wp2_with fail
  refine (sb_next HS4 H13.out.tail.app).mono ?_
  rintro e w5 ⟨rfl, hs, hc⟩
  have HS5 := Lib.hid hs
  have HC5 := Lib.hid (HC4.out.trans hc)
  clear hs hc HC4 HS4
  rw [show tl1 ((101 : UInt8) :: 43 :: d :: (p ++ rest)) = 43 :: d :: (p ++ rest) from rfl, ln1_of (c := 101) (t := 43 :: d :: (p ++ rest)) rfl (by decide)] at HS5
  simp only [hd, e101]
  go_wp2_with fail
  refine (sb_write (c := 101) HS5 (by simp at hl ⊢; omega)).mono ?_
  rintro e w6 ⟨rfl, hs, hc⟩
  have HS6 := Lib.hid hs
  have HC6 := Lib.hid (HC5.out.trans hc)
  clear hs hc HC5 HS5
  simp only []
  go_wp2_with fail
  refine (sb_peek HS6).mono ?_
  rintro e w7 ⟨rfl, hs, hc⟩
  have HS7 := Lib.hid hs
  have HC7 := Lib.hid (HC6.out.trans hc)
  clear hs hc HC6 HS6
  simp only [hd, e43]
  go_wp2_with fail
  refine (sb_next HS7 H13.out.tail.app.tail).mono ?_
  rintro e w8 ⟨rfl, hs, hc⟩
  have HS8 := Lib.hid hs
  have HC8 := Lib.hid (HC7.out.trans hc)
  clear hs hc HC7 HS7
  rw [show tl1 ((43 : UInt8) :: d :: (p ++ rest)) = d :: (p ++ rest) from rfl, ln1_of (c := 43) (t := d :: (p ++ rest)) rfl (by decide)] at HS8
  simp only [hd, e43]
  go_wp2_with fail
  refine (sb_write (c := 43) HS8 (by simp at hl ⊢; omega)).mono ?_
  rintro e w9 ⟨rfl, hs, hc⟩
  have HS9 := Lib.hid hs
  have HC9 := Lib.hid (HC8.out.trans hc)
  clear hs hc HC8 HS8
  simp only []
  go_wp2_with fail
  refine (sb_next HS9 H13.out.tail.app.tail.tail).mono ?_
  rintro e w10 ⟨rfl, hs, hc⟩
  have HS10 := Lib.hid hs
  have HC10 := Lib.hid (HC9.out.trans hc)
  clear hs hc HC9 HS9
  rw [show tl1 ((d : UInt8) :: (p ++ rest)) = (p ++ rest) from rfl, ln1_of (c := d) (t := (p ++ rest)) rfl (by rintro rfl; exact absurd HD.out (by decide))] at HS10
  simp only [hd]
  go_wp2_with fail
  refine (scanDecimal_calls (c := d) HS10 H13.out.tail.app.tail.tail.tail (by simp at hl ⊢; omega)).mono ?_
  rintro e w11 ⟨rfl, hs, hc⟩
  rw [EP1.out, EP2.out] at hs
  have HS11 := Lib.hid hs
  have HC11 := Lib.hid (HC10.out.trans hc)
  clear hs hc HS10 HC10
  simp only []
  go_wp2_with fail
  go_ret
  exact ⟨rfl, HS11.out, HC11.out⟩

set_option maxRecDepth 100000 in
set_option maxHeartbeats 4000000 in
theorem num_m1_69_0 {w w0 : World} {b : Bl} {d : UInt8} {f p rest l' : Bs} {L : Int} {g : Nat} {l : Bs} {u1 u3 u4 u5 u6 u7 u8 u9 u10 u11 u12 u13 u14 u15 u16 u17 u18 u19 u20 u21 u22 u23 u24 u25 u26 u27 u28 u29 u30 u31 u32 u33 u34 u35 u36 u37 u38 u39 u40 u41 u42 u43 u44 u45 u46 u47 u48 u49 u50 u51 u52 u53 u54 u55 u56 u57 u58 u59 u60 u61 u62 u63 u64 u65 u66 u67 u68 u69 u70 u71 u72 u73 u74 u75 u76 u77 u78 u79 u80 u81 u82 u83 u84 u85 u86 u87 u88 u89 : Value} (HS0 : Hid (Sb w b (46 :: (f ++ (69 :: d :: (p ++ rest)))) L g l)) (HC0 : Hid (Ch (Ub b g) w0 w)) (hf : ∀ c ∈ f, isDec c = true) (hr2 : hdIs isDec (69 :: d :: (p ++ rest)) = false) (hdd : isDec d = true) (hp : ∀ c ∈ p, isDec c = true) (hr : hdIs isDec rest = false) (h13 : NoCr ((46 : UInt8) :: (f ++ (69 :: d :: (p ++ rest))))) (hl' : l' = l ++ [46] ++ f ++ [69] ++ [d] ++ p) (hl : l.length + 9 + ((46 :: (f ++ (69 :: d :: (p ++ rest)))) : Bs).length < 100000) :
    rest20.wp Tryz.prog (bodyPost Tryz.prog Tryz.f33 (NumPost w0 b L g l' rest)) { tmps := #[ptr b.Z, u1, ptr g, u3, u4, u5, u6, u7, u8, u9, u10, u11, u12, u13, u14, u15, u16, u17, u18, u19, u20, u21, u22, u23, u24, u25, u26, u27, u28, u29, u30, u31, u32, u33, u34, u35, u36, u37, u38, u39, u40, u41, u42, u43, u44, u45, u46, u47, u48, u49, u50, u51, u52, u53, u54, u55, u56, u57, u58, u59, u60, u61, u62, u63, u64, u65, u66, u67, u68, u69, u70, u71, u72, u73, u74, u75, u76, u77, u78, u79, u80, u81, u82, u83, u84, u85, u86, u87, u88, u89], defers := [] } w := by
  subst hl'
  have H13 := Lib.hid h13
  clear h13
  have e46 : ((UInt8.toNat 46 : Nat) : Int) = 46 := rfl
  have e69 : ((UInt8.toNat 69 : Nat) : Int) = 69 := rfl
  have HD := Lib.hid hdd
  obtain ⟨a1, a2⟩ := take_all hp hr
  have EP1 := Lib.hid a1
  have EP2 := Lib.hid a2
  have hd2 : 48 ≤ d.toNat ∧ d.toNat ≤ 57 := by simpa [isDec] using hdd
  have g1 : ((d.toNat : Int) == 45) = false := by simp <;> omega
  have g2 : ((d.toNat : Int) == 43) = false := by simp <;> omega
  clear a1 a2 hp hr hdd
  obtain ⟨b1, b2⟩ := take_all hf hr2
  have EF1 := Lib.hid b1
  have EF2 := Lib.hid b2
  clear b1 b2 hf hr2
  conv => arg 2; whnf
  go_wp2_with fail
  refine (sb_peek HS0).mono ?_
  rintro e w1 ⟨rfl, hs, hc⟩
  have HS1 := Lib.hid hs
  have HC1 := Lib.hid (HC0.out.trans hc)
  clear hs hc HC0 HS0
  simp only [hd, e46]
  go_wp2_with fail
  refine (sb_next HS1 H13.out).mono ?_
  rintro e w2 ⟨rfl, hs, hc⟩
  have HS2 := Lib.hid hs
  have HC2 := Lib.hid (HC1.out.trans hc)
  clear hs hc HC1 HS1
  rw [show tl1 ((46 : UInt8) :: (f ++ (69 :: d :: (p ++ rest)))) = (f ++ (69 :: d :: (p ++ rest))) from rfl, ln1_of (c := 46) (t := (f ++ (69 :: d :: (p ++ rest)))) rfl (by decide)] at HS2
  simp only []
  go_wp2_with fail
  refine (scanDecimal_calls (c := 46) HS2 H13.out.tail (by simp at hl ⊢; omega)).mono ?_
  rintro e w3 ⟨rfl, hs, hc⟩
  rw [EF1.out, EF2.out] at hs
  have HS3 := Lib.hid hs
  have HC3 := Lib.hid (HC2.out.trans hc)
  clear hs hc HS2 HC2
  simp only []
  go_wp2_with fail
  refine (sb_peek HS3).mono ?_
  rintro e w4 ⟨rfl, hs, hc⟩
  have HS4 := Lib.hid hs
  have HC4 := Lib.hid (HC3.out.trans hc)
  clear hs hc HC3 HS3
  simp only [hd, e69]
  go_wp2_with fail
  refine (sb_next HS4 H13.out.tail.app).mono ?_
  rintro e w5 ⟨rfl, hs, hc⟩
  have HS5 := Lib.hid hs
  have HC5 := Lib.hid (HC4.out.trans hc)
  clear hs hc HC4 HS4
  rw [show tl1 ((69 : UInt8) :: d :: (p ++ rest)) = d :: (p ++ rest) from rfl, ln1_of (c := 69) (t := d :: (p ++ rest)) rfl (by decide)] at HS5
  simp only [hd, e69]
  go_wp2_with fail
  refine (sb_write (c := 69) HS5 (by simp at hl ⊢; omega)).mono ?_
  rintro e w6 ⟨rfl, hs, hc⟩
  have HS6 := Lib.hid hs
  have HC6 := Lib.hid (HC5.out.trans hc)
  clear hs hc HC5 HS5
  simp only []
  go_wp2_with fail
  refine (sb_peek HS6).mono ?_
  rintro e w7 ⟨rfl, hs, hc⟩
  have HS7 := Lib.hid hs
  have HC7 := Lib.hid (HC6.out.trans hc)
  clear hs hc HC6 HS6
  simp only [hd]
  go_wp2_with fail
  refine (sb_next HS7 H13.out.tail.app.tail).mono ?_
  rintro e w8 ⟨rfl, hs, hc⟩
  have HS8 := Lib.hid hs
  have HC8 := Lib.hid (HC7.out.trans hc)
  clear hs hc HC7 HS7
  rw [show tl1 ((d : UInt8) :: (p ++ rest)) = (p ++ rest) from rfl, ln1_of (c := d) (t := (p ++ rest)) rfl (by rintro rfl; exact absurd HD.out (by decide))] at HS8
  simp only [hd]
  go_wp2_with fail
  refine (scanDecimal_calls (c := d) HS8 H13.out.tail.app.tail.tail (by simp at hl ⊢; omega)).mono ?_
  rintro e w9 ⟨rfl, hs, hc⟩
  rw [EP1.out, EP2.out] at hs
  have HS9 := Lib.hid hs
  have HC9 := Lib.hid (HC8.out.trans hc)
  clear hs hc HS8 HC8
  simp only []
  go_wp2_with fail
  go_ret
  exact ⟨rfl, HS9.out, HC9.out⟩

set_option maxRecDepth 100000 in
set_option maxHeartbeats 4000000 in
theorem num_m1_69_45 {w w0 : World} {b : Bl} {d : UInt8} {f p rest l' : Bs} {L : Int} {g : Nat} {l : Bs} {u1 u3 u4 u5 u6 u7 u8 u9 u10 u11 u12 u13 u14 u15 u16 u17 u18 u19 u20 u21 u22 u23 u24 u25 u26 u27 u28 u29 u30 u31 u32 u33 u34 u35 u36 u37 u38 u39 u40 u41 u42 u43 u44 u45 u46 u47 u48 u49 u50 u51 u52 u53 u54 u55 u56 u57 u58 u59 u60 u61 u62 u63 u64 u65 u66 u67 u68 u69 u70 u71 u72 u73 u74 u75 u76 u77 u78 u79 u80 u81 u82 u83 u84 u85 u86 u87 u88 u89 : Value} (HS0 : Hid (Sb w b (46 :: (f ++ (69 :: 45 :: d :: (p ++ rest)))) L g l)) (HC0 : Hid (Ch (Ub b g) w0 w)) (hf : ∀ c ∈ f, isDec c = true) (hr2 : hdIs isDec (69 :: 45 :: d :: (p ++ rest)) = false) (hdd : isDec d = true) (hp : ∀ c ∈ p, isDec c = true) (hr : hdIs isDec rest = false) (h13 : NoCr ((46 : UInt8) :: (f ++ (69 :: 45 :: d :: (p ++ rest))))) (hl' : l' = l ++ [46] ++ f ++ [69] ++ [45] ++ [d] ++ p) (hl : l.length + 9 + ((46 :: (f ++ (69 :: 45 :: d :: (p ++ rest)))) : Bs).length < 100000) :
    rest20.wp Tryz.prog (bodyPost Tryz.prog Tryz.f33 (NumPost w0 b L g l' rest)) { tmps := #[ptr b.Z, u1, ptr g, u3, u4, u5, u6, u7, u8, u9, u10, u11, u12, u13, u14, u15, u16, u17, u18, u19, u20, u21, u22, u23, u24, u25, u26, u27, u28, u29, u30, u31, u32, u33, u34, u35, u36, u37, u38, u39, u40, u41, u42, u43, u44, u45, u46, u47, u48, u49, u50, u51, u52, u53, u54, u55, u56, u57, u58, u59, u60, u61, u62, u63, u64, u65, u66, u67, u68, u69, u70, u71, u72, u73, u74, u75, u76, u77, u78, u79, u80, u81, u82, u83, u84, u85, u86, u87, u88, u89], defers := [] } w := by
  subst hl'
  have H13 := Lib.hid h13
  clear h13
  have e46 : ((UInt8.toNat 46 : Nat) : Int) = 46 := rfl
  have e69 : ((UInt8.toNat 69 : Nat) : Int) = 69 := rfl
  have e45 : ((UInt8.toNat 45 : Nat) : Int) = 45 := rfl
  have HD := Lib.hid hdd
  obtain ⟨a1, a2⟩ := take_all hp hr
  have EP1 := Lib.hid a1
  have EP2 := Lib.hid a2
  have hd2 : 48 ≤ d.toNat ∧ d.toNat ≤ 57 := by simpa [isDec] using hdd
  have g1 : ((d.toNat : Int) == 45) = false := by simp <;> omega
  have g2 : ((d.toNat : Int) == 43) = false := by simp <;> omega
  clear a1 a2 hp hr hdd
  obtain ⟨b1, b2⟩ := take_all hf hr2
  have EF1 := Lib.hid b1
  have EF2 := Lib.hid b2
  clear b1 b2 hf hr2
  conv => arg 2; whnf
  go_wp2_with fail
  refine (sb_peek HS0).mono ?_
  rintro e w1 ⟨rfl, hs, hc⟩
  have HS1 := Lib.hid hs
  have HC1 := Lib.hid (HC0.out.trans hc)
  clear hs hc HC0 HS0
  simp only [hd, e46]
  go_wp2_with fail
  refine (sb_next HS1 H13.out).mono ?_
  rintro e w2 ⟨rfl, hs, hc⟩
  have HS2 := Lib.hid hs
  have HC2 := Lib.hid (HC1.out.trans hc)
  clear hs hc HC1 HS1
  rw [show tl1 ((46 : UInt8) :: (f ++ (69 :: 45 :: d :: (p ++ rest)))) = (f ++ (69 :: 45 :: d :: (p ++ rest))) from rfl, ln1_of (c := 46) (t := (f ++ (69 :: 45 :: d :: (p ++ rest)))) rfl (by decide)] at HS2
  simp only []
  go_wp2_with fail
  refine (scanDecimal_calls (c := 46) HS2 H13.out.tail (by simp at hl ⊢; omega)).mono ?_
  rintro e w3 ⟨rfl, hs, hc⟩
  rw [EF1.out, EF2.out] at hs
  have HS3 := Lib.hid hs
  have HC3 := Lib.hid (HC2.out.trans hc)
  clear hs hc HS2 HC2
  simp only []
  go_wp2_with fail
  refine (sb_peek HS3).mono ?_
  rintro e w4 ⟨rfl, hs, hc⟩
  have HS4 := Lib.hid hs
  have HC4 := Lib.hid (HC3.out.trans hc)
  clear hs hc HC3 HS3
  simp only [hd, e69]
  go_wp2_with fail
  refine (sb_next HS4 H13.out.tail.app).mono ?_
  rintro e w5 ⟨rfl, hs, hc⟩
  have HS5 := Lib.hid hs
  have HC5 := Lib.hid (HC4.out.trans hc)
  clear hs hc HC4 HS4
  rw [show tl1 ((69 : UInt8) :: 45 :: d :: (p ++ rest)) = 45 :: d :: (p ++ rest) from rfl, ln1_of (c := 69) (t := 45 :: d :: (p ++ rest)) rfl (by decide)] at HS5
  simp only [hd, e69]
  go_wp2_with fail
  refine (sb_write (c := 69) HS5 (by simp at hl ⊢; omega)).mono ?_
  rintro e w6 ⟨rfl, hs, hc⟩
  have HS6 := Lib.hid hs
  have HC6 := Lib.hid (HC5.out.trans hc)
  clear hs hc HC5 HS5
  simp only []
  go_wp2_with fail
  refine (sb_peek HS6).mono ?_
  rintro e w7 ⟨rfl, hs, hc⟩
  have HS7 := Lib.hid hs
  have HC7 := Lib.hid (HC6.out.trans hc)
  clear hs hc HC6 HS6
  simp only [hd, e45]
  go_wp2_with fail
  refine (sb_next HS7 H13.out.tail.app.tail).mono ?_
  rintro e w8 ⟨rfl, hs, hc⟩
  have HS8 := Lib.hid hs
  have HC8 := Lib.hid (HC7.out.trans hc)
  clear hs hc HC7 HS7
  rw [show tl1 ((45 : UInt8) :: d :: (p ++ rest)) = d :: (p ++ rest) from rfl, ln1_of (c := 45) (t := d :: (p ++ rest)) rfl (by decide)] at HS8
  simp only [hd, e45]
  go_wp2_with fail
  refine (sb_write (c := 45) HS8 (by simp at hl ⊢; omega)).mono ?_
  rintro e w9 ⟨rfl, hs, hc⟩
  have HS9 := Lib.hid hs
  have HC9 := Lib.hid (HC8.out.trans hc)
  clear hs hc HC8 HS8
  simp only []
  go_wp2_with fail
  refine (sb_next HS9 H13.out.tail.app.tail.tail).mono ?_
  rintro e w10 ⟨rfl, hs, hc⟩
  have HS10 := Lib.hid hs
  have HC10 := Lib.hid (HC9.out.trans hc)
  clear hs hc HC9 HS9
  rw [show tl1 ((d : UInt8) :: (p ++ rest)) = (p ++ rest) from rfl, ln1_of (c := d) (t := (p ++ rest)) rfl (by rintro rfl; exact absurd HD.out (by decide))] at HS10
  simp only [hd]
  go_wp2_with fail
  refine (scanDecimal_calls (c := d) HS10 H13.out.tail.app.tail.tail.tail (by simp at hl ⊢; omega)).mono ?_
  rintro e w11 ⟨rfl, hs, hc⟩
  rw [EP1.out, EP2.out] at hs
  have HS11 := Lib.hid hs
  have HC11 := Lib.hid (HC10.out.trans hc)
  clear hs hc HS10 HC10
  simp only []
  go_wp2_with fail
  go_ret
  exact ⟨rfl, HS11.out, HC11.out⟩

set_option maxRecDepth 100000 in
set_option maxHeartbeats 4000000 in
theorem num_m1_69_43 {w w0 : World} {b : Bl} {d : UInt8} {f p rest l' : Bs} {L : Int} {g : Nat} {l : Bs} {u1 u3 u4 u5 u6 u7 u8 u9 u10 u11 u12 u13 u14 u15 u16 u17 u18 u19 u20 u21 u22 u23 u24 u25 u26 u27 u28 u29 u30 u31 u32 u33 u34 u35 u36 u37 u38 u39 u40 u41 u42 u43 u44 u45 u46 u47 u48 u49 u50 u51 u52 u53 u54 u55 u56 u57 u58 u59 u60 u61 u62 u63 u64 u65 u66 u67 u68 u69 u70 u71 u72 u73 u74 u75 u76 u77 u78 u79 u80 u81 u82 u83 u84 u85 u86 u87 u88 u89 : Value} (HS0 : Hid (Sb w b (46 :: (f ++ (69 :: 43 :: d :: (p ++ rest)))) L g l)) (HC0 : Hid (Ch (Ub b g) w0 w)) (hf : ∀ c ∈ f, isDec c = true) (hr2 : hdIs isDec (69 :: 43 :: d :: (p ++ rest)) = false) (hdd : isDec d = true) (hp : ∀ c ∈ p, isDec c = true) (hr : hdIs isDec rest = false) (h13 : NoCr ((46 : UInt8) :: (f ++ (69 :: 43 :: d :: (p ++ rest))))) (hl' : l' = l ++ [46] ++ f ++ [69] ++ [43] ++ [d] ++ p) (hl : l.length + 9 + ((46 :: (f ++ (69 :: 43 :: d :: (p ++ rest)))) : Bs).length < 100000) :
    rest20.wp Tryz.prog (bodyPost Tryz.prog Tryz.f33 (NumPost w0 b L g l' rest)) { tmps := #[ptr b.Z, u1, ptr g, u3, u4, u5, u6, u7, u8, u9, u10, u11, u12, u13, u14, u15, u16, u17, u18, u19, u20, u21, u22, u23, u24, u25, u26, u27, u28, u29, u30, u31, u32, u33, u34, u35, u36, u37, u38, u39, u40, u41, u42, u43, u44, u45, u46, u47, u48, u49, u50, u51, u52, u53, u54, u55, u56, u57, u58, u59, u60, u61, u62, u63, u64, u65, u66, u67, u68, u69, u70, u71, u72, u73, u74, u75, u76, u77, u78, u79, u80, u81, u82, u83, u84, u85, u86, u87, u88, u89], defers := [] } w := by
  subst hl'
  have H13 := Lib.hid h13
  clear h13
  have e46 : ((UInt8.toNat 46 : Nat) : Int) = 46 := rfl
  have e69 : ((UInt8.toNat 69 : Nat) : Int) = 69 := rfl
  have e43 : ((UInt8.toNat 43 : Nat) : Int) = 43 := rfl
  have HD := Lib.hid hdd
  obtain ⟨a1, a2⟩ := take_all hp hr
  have EP1 := Lib.hid a1
  have EP2 := Lib.hid a2
  have hd2 : 48 ≤ d.toNat ∧ d.toNat ≤ 57 := by simpa [isDec] using hdd
  have g1 : ((d.toNat : Int) == 45) = false := by simp <;> omega
  have g2 : ((d.toNat : Int) == 43) = false := by simp <;> omega
  clear a1 a2 hp hr hdd
  obtain ⟨b1, b2⟩ := take_all hf hr2
  have EF1 := Lib.hid b1
  have EF2 := Lib.hid b2
  clear b1 b2 hf hr2
  conv => arg 2; whnf
  go_wp2_with fail
  refine (sb_peek HS0).mono ?_
  rintro e w1 ⟨rfl, hs, hc⟩
  have HS1 := Lib.hid hs
  have HC1 := Lib.hid (HC0.out.trans hc)
  clear hs hc HC0 HS0
  simp only [hd, e46]
  go_wp2_with fail
  refine (sb_next HS1 H13.out).mono ?_
  rintro e w2 ⟨rfl, hs, hc⟩
  have HS2 := Lib.hid hs
  have HC2 := Lib.hid (HC1.out.trans hc)
  clear hs hc HC1 HS1
  rw [show tl1 ((46 : UInt8) :: (f ++ (69 :: 43 :: d :: (p ++ rest)))) = (f ++ (69 :: 43 :: d :: (p ++ rest))) from rfl, ln1_of (c := 46) (t := (f ++ (69 :: 43 :: d :: (p ++ rest)))) rfl (by decide)] at HS2
  simp only []
  go_wp2_with fail
  refine (scanDecimal_calls (c := 46) HS2 H13.out.tail (by simp at hl ⊢; omega)).mono ?_
  rintro e w3 ⟨rfl, hs, hc⟩
  rw [EF1.out, EF2.out] at hs
  have HS3 := Lib.hid hs
  have HC3 := Lib.hid (HC2.out.trans hc)
  clear hs hc HS2 HC2
  simp only []
  go_wp2_with fail
  refine (sb_peek HS3).mono ?_
  rintro e w4 ⟨rfl, hs, hc⟩
  have HS4 := Lib.hid hs
  have HC4 := Lib.hid (HC3.out.trans hc)
  clear hs hc HC3 HS3
  simp only [hd, e69]
  go_wp2_with fail
  refine (sb_next HS4 H13.out.tail.app).mono ?_
  rintro e w5 ⟨rfl, hs, hc⟩
  have HS5 := Lib.hid hs
  have HC5 := Lib.hid (HC4.out.trans hc)
  clear hs hc HC4 HS4
  rw [show tl1 ((69 : UInt8) :: 43 :: d :: (p ++ rest)) = 43 :: d :: (p ++ rest) from rfl, ln1_of (c := 69) (t := 43 :: d :: (p ++ rest)) rfl (by decide)] at HS5
  simp only [hd, e69]
  go_wp2_with fail
  refine (sb_write (c := 69) HS5 (by simp at hl ⊢; omega)).mono ?_
  rintro e w6 ⟨rfl, hs, hc⟩
  have HS6 := Lib.hid hs
  have HC6 := Lib.hid (HC5.out.trans hc)
  clear hs hc HC5 HS5
  simp only []
  go_wp2_with fail
  refine (sb_peek HS6).mono ?_
  rintro e w7 ⟨rfl, hs, hc⟩
  have HS7 := Lib.hid hs
  have HC7 := Lib.hid (HC6.out.trans hc)
  clear hs hc HC6 HS6
  simp only [hd, e43]
  go_wp2_with fail
  refine (sb_next HS7 H13.out.tail.app.tail).mono ?_
  rintro e w8 ⟨rfl, hs, hc⟩
  have HS8 := Lib.hid hs
  have HC8 := Lib.hid (HC7.out.trans hc)
  clear hs hc HC7 HS7
  rw [show tl1 ((43 : UInt8) :: d :: (p ++ rest)) = d :: (p ++ rest) from rfl, ln1_of (c := 43) (t := d :: (p ++ rest)) rfl (by decide)] at HS8
  simp only [hd, e43]
  go_wp2_with fail
  refine (sb_write (c := 43) HS8 (by simp at hl ⊢; omega)).mono ?_
  rintro e w9 ⟨rfl, hs, hc⟩
  have HS9 := Lib.hid hs
  have HC9 := Lib.hid (HC8.out.trans hc)
  clear hs hc HC8 HS8
  simp only []
  go_wp2_with fail
  refine (sb_next HS9 H13.out.tail.app.tail.tail).mono ?_
  rintro e w10 ⟨rfl, hs, hc⟩
  have HS10 := Lib.hid hs
  have HC10 := Lib.hid (HC9.out.trans hc)
  clear hs hc HC9 HS9
  rw [show tl1 ((d : UInt8) :: (p ++ rest)) = (p ++ rest) from rfl, ln1_of (c := d) (t := (p ++ rest)) rfl (by rintro rfl; exact absurd HD.out (by decide))] at HS10
  simp only [hd]
  go_wp2_with fail
  refine (scanDecimal_calls (c := d) HS10 H13.out.tail.app.tail.tail.tail (by simp at hl ⊢; omega)).mono ?_
  rintro e w11 ⟨rfl, hs, hc⟩
  rw [EP1.out, EP2.out] at hs
  have HS11 := Lib.hid hs
  have HC11 := Lib.hid (HC10.out.trans hc)
  clear hs hc HS10 HC10
  simp only []
  go_wp2_with fail
  go_ret
  exact ⟨rfl, HS11.out, HC11.out⟩

theorem num_rest {w w0 : World} {b : Bl} {r raw rest : Bs} {L : Int} {g : Nat} {l : Bs} {u1 u3 u4 u5 u6 u7 u8 u9 u10 u11 u12 u13 u14 u15 u16 u17 u18 u19 u20 u21 u22 u23 u24 u25 u26 u27 u28 u29 u30 u31 u32 u33 u34 u35 u36 u37 u38 u39 u40 u41 u42 u43 u44 u45 u46 u47 u48 u49 u50 u51 u52 u53 u54 u55 u56 u57 u58 u59 u60 u61 u62 u63 u64 u65 u66 u67 u68 u69 u70 u71 u72 u73 u74 u75 u76 u77 u78 u79 u80 u81 u82 u83 u84 u85 u86 u87 u88 u89 : Value} (HS0 : Hid (Sb w b r L g l)) (HC0 : Hid (Ch (Ub b g) w0 w)) (h : MidOk r raw rest) (h13 : NoCr r) (hl : l.length + 9 + r.length < 100000) :
    rest20.wp Tryz.prog (bodyPost Tryz.prog Tryz.f33 (NumPost w0 b L g (l ++ raw) rest)) { tmps := #[ptr b.Z, u1, ptr g, u3, u4, u5, u6, u7, u8, u9, u10, u11, u12, u13, u14, u15, u16, u17, u18, u19, u20, u21, u22, u23, u24, u25, u26, u27, u28, u29, u30, u31, u32, u33, u34, u35, u36, u37, u38, u39, u40, u41, u42, u43, u44, u45, u46, u47, u48, u49, u50, u51, u52, u53, u54, u55, u56, u57, u58, u59, u60, u61, u62, u63, u64, u65, u66, u67, u68, u69, u70, u71, u72, u73, u74, u75, u76, u77, u78, u79, u80, u81, u82, u83, u84, u85, u86, u87, u88, u89], defers := [] } w := by
  rcases h with ⟨h46, ht⟩ | ⟨f, r2, raw2, rfl, hf, hr2, rfl, ht⟩
  · rcases ht with ⟨h1, h2, rfl, rfl⟩ | ⟨m, p, hm, hp, hne, hr, h⟩
    · exact num_m0_0_0 (f := []) (d := 0) (p := []) HS0 HC0 h1 h2 h46 h13 (by simp) (by first | omega | (simp at hl ⊢; omega))
    · obtain ⟨d, p', rfl⟩ : ∃ d p', p = d :: p' := by
        cases p with
        | nil => exact absurd rfl hne
        | cons d p' => exact ⟨d, p', rfl⟩
      have hdd := hp d (by simp)
      have hp' : ∀ c ∈ p', isDec c = true := fun c hc => hp c (by simp [hc])
      rcases h with ⟨rfl, rfl⟩ | ⟨s, hs, rfl, rfl⟩
      · rcases hm with rfl | rfl
        · exact num_m0_101_0 (f := []) HS0 HC0 hdd hp' hr h13 (by simp) (by first | omega | (simp at hl ⊢; omega))
        · exact num_m0_69_0 (f := []) HS0 HC0 hdd hp' hr h13 (by simp) (by first | omega | (simp at hl ⊢; omega))
      · rcases hm with rfl | rfl <;> rcases hs with rfl | rfl
        · exact num_m0_101_45 (f := []) HS0 HC0 hdd hp' hr h13 (by simp) (by first | omega | (simp at hl ⊢; omega))
        · exact num_m0_101_43 (f := []) HS0 HC0 hdd hp' hr h13 (by simp) (by first | omega | (simp at hl ⊢; omega))
        · exact num_m0_69_45 (f := []) HS0 HC0 hdd hp' hr h13 (by simp) (by first | omega | (simp at hl ⊢; omega))
        · exact num_m0_69_43 (f := []) HS0 HC0 hdd hp' hr h13 (by simp) (by first | omega | (simp at hl ⊢; omega))
  · rcases ht with ⟨h1, h2, rfl, rfl⟩ | ⟨m, p, hm, hp, hne, hr, h⟩
    · exact num_m1_0_0 (d := 0) (p := []) HS0 HC0 hf hr2 h1 h2 h13 (by simp) (by first | omega | (simp at hl ⊢; omega))
    · obtain ⟨d, p', rfl⟩ : ∃ d p', p = d :: p' := by
        cases p with
        | nil => exact absurd rfl hne
        | cons d p' => exact ⟨d, p', rfl⟩
      have hdd := hp d (by simp)
      have hp' : ∀ c ∈ p', isDec c = true := fun c hc => hp c (by simp [hc])
      rcases h with ⟨rfl, rfl⟩ | ⟨s, hs, rfl, rfl⟩
      · rcases hm with rfl | rfl
        · exact num_m1_101_0 HS0 HC0 hf hr2 hdd hp' hr h13 (by simp) (by first | omega | (simp at hl ⊢; omega))
        · exact num_m1_69_0 HS0 HC0 hf hr2 hdd hp' hr h13 (by simp) (by first | omega | (simp at hl ⊢; omega))
      · rcases hm with rfl | rfl <;> rcases hs with rfl | rfl
        · exact num_m1_101_45 HS0 HC0 hf hr2 hdd hp' hr h13 (by simp) (by first | omega | (simp at hl ⊢; omega))
        · exact num_m1_101_43 HS0 HC0 hf hr2 hdd hp' hr h13 (by simp) (by first | omega | (simp at hl ⊢; omega))
        · exact num_m1_69_45 HS0 HC0 hf hr2 hdd hp' hr h13 (by simp) (by first | omega | (simp at hl ⊢; omega))
        · exact num_m1_69_43 HS0 HC0 hf hr2 hdd hp' hr h13 (by simp) (by first | omega | (simp at hl ⊢; omega))

set_option maxRecDepth 100000 in
set_option maxHeartbeats 4000000 in
theorem num_dec {w : World} {b : Bl} {c : UInt8} {a r1 raw rest : Bs} {L : Int} {g : Nat} {l : Bs} (HS0 : Hid (Sb w b (a ++ r1) L g l)) (hc : isDec c = true) (h48 : c ≠ 48) (ha : ∀ c ∈ a, isDec c = true) (hr1 : hdIs isDec r1 = false) (h : MidOk r1 raw rest) (h13 : NoCr (a ++ r1)) (hl : l.length + 19 + (a ++ r1).length < 100000) :
    Calls Tryz.prog 33 #[ptr b.Z, .int .i64 (c.toNat : Int), ptr g] w (NumPost w b L g (l ++ [c] ++ a ++ raw) rest) := by
  have g1 : ((c.toNat : Int) == 48) = false := by
    simp
    intro e
    exact h48 (UInt8.toNat_inj.1 (by show c.toNat = 48; omega))
  have HA := Lib.hid ha
  have HR := Lib.hid hr1
  have HM := Lib.hid h
  have H13 := Lib.hid h13
  clear ha hr1 h h13 hc h48
  go_enter Tryz.func33, Tryz.ntmps33
  go_wp2_with fail
  obtain ⟨e1, e2⟩ := take_all HA.out HR.out
  refine (scanDecimal_calls (c := c) HS0 H13.out (by omega)).mono ?_
  rintro e w1 ⟨rfl, hs, hc⟩
  rw [e1, e2] at hs
  simp only []
  go_step
  go_step
  go_step
  go_step
  exact num_rest (Lib.hid hs) (Lib.hid hc) HM.out H13.out.app (by first | omega | (simp at hl ⊢; omega))

set_option maxRecDepth 100000 in
set_option maxHeartbeats 4000000 in
theorem num_dec0 {w : World} {b : Bl} {r1 raw rest : Bs} {L : Int} {g : Nat} {l : Bs} (HS0 : Hid (Sb w b r1 L g l)) (hr1 : hdIs isDec r1 = false) (hx : hd r1 ≠ 120) (hX : hd r1 ≠ 88) (h : MidOk r1 raw rest) (h13 : NoCr r1) (hl : l.length + 19 + r1.length < 100000) :
    Calls Tryz.prog 33 #[ptr b.Z, .int .i64 48, ptr g] w (NumPost w b L g (l ++ [48] ++ raw) rest) := by
  have g1 : (hd r1 == 120) = false := by simpa using hx
  have g2 : (hd r1 == 88) = false := by simpa using hX
  have HR := Lib.hid hr1
  have HM := Lib.hid h
  have H13 := Lib.hid h13
  clear hr1 h h13 hx hX
  go_enter Tryz.func33, Tryz.ntmps33
  go_wp2_with fail
  refine (sb_peek HS0).mono ?_
  rintro e w1 ⟨rfl, hs, hc⟩
  have HS1 := Lib.hid hs
  have HC1 := Lib.hid hc
  clear hs hc HS0
  simp only []
  go_wp2_with fail
  refine (sb_peek HS1).mono ?_
  rintro e w2 ⟨rfl, hs, hc⟩
  have HS2 := Lib.hid hs
  have HC2 := Lib.hid (HC1.out.trans hc)
  clear hs hc HS1 HC1
  simp only []
  go_wp2_with fail
  refine (sb_peek HS2).mono ?_
  rintro e w3 ⟨rfl, hs, hc⟩
  have HS3 := Lib.hid hs
  have HC3 := Lib.hid (HC2.out.trans hc)
  clear hs hc HS2 HC2
  by_cases h46 : hd r1 = 46
  · have g3 : (hd r1 != 46) = false := by simpa using h46
    have H46 := Lib.hid h46
    clear h46
    simp only []
    go_wp2_with fail
    obtain ⟨e1, e2⟩ := take_all (a := []) (by simp) HR.out
    rw [List.nil_append] at e1 e2
    refine (scanDecimal_calls (c := 48) HS3 H13.out (by omega)).mono ?_
    rintro e w6 ⟨rfl, hs, hc⟩
    rw [e1, e2, List.append_nil] at hs
    simp only []
    go_step
    go_step
    go_step
    go_step
    exact num_rest (Lib.hid hs) (Lib.hid (HC3.out.trans hc)) HM.out H13.out (by first | omega | (simp at hl ⊢; omega))
  · have g3 : (hd r1 != 46) = true := by simpa using h46
    clear h46
    simp only []
    go_wp2_with fail
    refine (sb_peek HS3).mono ?_
    rintro e w4 ⟨rfl, hs, hc⟩
    have HS4 := Lib.hid hs
    have HC4 := Lib.hid (HC3.out.trans hc)
    clear hs hc HS3 HC3
    simp only []
    go_wp2_with fail
    refine (isDec_calls HR.out).mono ?_
    rintro e w5 ⟨rfl, rfl⟩
    simp only []
    go_wp2_with fail
    obtain ⟨e1, e2⟩ := take_all (a := []) (by simp) HR.out
    rw [List.nil_append] at e1 e2
    refine (scanDecimal_calls (c := 48) HS4 H13.out (by omega)).mono ?_
    rintro e w6 ⟨rfl, hs, hc⟩
    rw [e1, e2, List.append_nil] at hs
    simp only []
    go_step
    go_step
    go_step
    go_step
    exact num_rest (Lib.hid hs) (Lib.hid (HC4.out.trans hc)) HM.out H13.out (by first | omega | (simp at hl ⊢; omega))

def HexRel (w : World) (b : Bl) (r : Bs) (L : Int) (g : Nat) (l : Bs) (k : Nat) (v : Value) (wr : World) : Prop :=
  ∃ a r', r = a ++ r' ∧ (∀ c ∈ a, isHex c = true) ∧ Sb wr b r' L g (l ++ a) ∧ Ch (Ub b g) w wr ∧ k = r'.length ∧ v = .bool (!a.isEmpty)

set_option maxRecDepth 100000 in
set_option maxHeartbeats 4000000 in
theorem num_hex {w : World} {b : Bl} {h0 r : Bs} {L : Int} {g : Nat} {l : Bs} (HS0 : Hid (Sb w b (120 :: (h0 ++ r)) L g l)) (hh : ∀ c ∈ h0, isHex c = true) (hne : h0 ≠ []) (hr : hdIs isHex r = false) (h13 : NoCr ((120 : UInt8) :: (h0 ++ r))) (hl : l.length + 19 + (h0 ++ r).length < 100000) :
    Calls Tryz.prog 33 #[ptr b.Z, .int .i64 48, ptr g] w (NumPost w b L g (l ++ [48] ++ [120] ++ h0) r) := by
  have H13 := Lib.hid h13
  have HH := Lib.hid hh
  have HNE := Lib.hid hne
  have HR := Lib.hid hr
  have e120 : ((UInt8.toNat 120 : Nat) : Int) = 120 := rfl
  clear h13 hh hne hr
  go_enter Tryz.func33, Tryz.ntmps33
  go_wp2_with fail
  refine (sb_peek HS0).mono ?_
  rintro e w1 ⟨rfl, hs, hc⟩
  have HS1 := Lib.hid hs
  have HC1 := Lib.hid hc
  clear hs hc HS0
  simp only [hd, e120]
  go_wp2_with fail
  refine (sb_write (c := 48) HS1 (by omega)).mono ?_
  rintro e w2 ⟨rfl, hs, hc⟩
  have HS2 := Lib.hid hs
  have HC2 := Lib.hid (HC1.out.trans hc)
  clear hs hc HS1 HC1
  simp only []
  go_wp2_with fail
  refine (sb_next HS2 H13.out).mono ?_
  rintro e w3 ⟨rfl, hs, hc⟩
  rw [show tl1 ((120 : UInt8) :: (h0 ++ r)) = h0 ++ r from rfl, ln1_of (c := 120) (t := h0 ++ r) rfl (by decide)] at hs
  have HS3 := Lib.hid hs
  have HC3 := Lib.hid (HC2.out.trans hc)
  clear hs hc HS2 HC2
  simp only [hd]
  go_wp2_with fail
  refine (sb_write (c := 120) HS3 (by simp; omega)).mono ?_
  rintro e w4 ⟨rfl, hs, hc⟩
  have HS4 := Lib.hid hs
  have HC4 := Lib.hid (HC3.out.trans hc)
  clear hs hc HS3 HC3
  simp only []
  go_wp2_with fail
  go_loopg [7] (h0 ++ r).length (fun k v wr => HexRel w b (h0 ++ r) L g (l ++ [48] ++ [120]) k v wr)
  case atStart => exact ⟨[], h0 ++ r, rfl, by simp, by rw [List.append_nil]; exact HS4.out, HC4.out, rfl, rfl⟩
  case round =>
    obtain ⟨a, r', hr, ha, hs, hc, hk, rfl⟩ := hrel
    have HR5 := Lib.hid hr
    have HA := Lib.hid ha
    have HS5 := Lib.hid hs
    have HC5 := Lib.hid hc
    have HK := Lib.hid hk
    clear hr ha hs hc hk HS4 HC4
    have hcr : NoCr r' := by have := H13.out.tail; rw [HR5.out] at this; exact this.app
    have HCR := Lib.hid hcr
    clear hcr
    go_wp2_with fail
    refine (sb_peek HS5).mono ?_
    rintro e w6 ⟨rfl, hs, hc⟩
    have HS6 := Lib.hid hs
    have HC6 := Lib.hid (HC5.out.trans hc)
    clear hs hc HS5 HC5
    simp only []
    go_wp2_with fail
    cases hv : hdIs isHex r' with
    | false =>
      have HV := Lib.hid hv
      refine (isHex_calls hv).mono ?_
      rintro e w7 ⟨rfl, rfl⟩
      clear hv
      obtain ⟨e1, e2⟩ := take_all HH.out HR.out
      obtain ⟨f1, f2⟩ := take_all HA.out HV.out
      rw [← HR5.out, e1] at f1
      rw [← HR5.out, e2] at f2
      subst f1
      subst f2
      clear e1 e2
      have hne : h0.isEmpty = false := by
        have := HNE.out
        cases h0 with
        | nil => exact absurd rfl this
        | cons _ _ => rfl
      rw [hne]
      simp only []
      go_wp2_with fail
      go_ret
      have h := HS6.out
      rw [show l ++ [48] ++ [120] ++ h0 = l ++ 48 :: 120 :: h0 by simp] at h
      exact ⟨rfl, h, HC6.out⟩
    | true =>
      have HV := Lib.hid hv
      refine (isHex_calls hv).mono ?_
      rintro e w7 ⟨rfl, rfl⟩
      cases r' with
      | nil => simp [hdIs] at hv
      | cons x t =>
        clear hv
        have hx : x ≠ 10 := by
          rintro rfl
          exact absurd (show isHex 10 = true from HV.out) (by decide)
        have hlen : (l ++ [48] ++ [120] ++ a).length < 100000 := by
          have := congrArg List.length HR5.out
          simp at this hl ⊢
          omega
        simp only []
        go_wp2_with fail
        refine (sb_next HS6 HCR.out).mono ?_
        rintro e w8 ⟨rfl, hs, hc⟩
        have HS8 := Lib.hid hs
        have HC8 := Lib.hid (HC6.out.trans hc)
        clear hs hc HS6 HC6
        simp only [hd]
        go_wp2_with fail
        refine (sb_write HS8 hlen).mono ?_
        rintro e w9 ⟨rfl, hs, hc⟩
        have HS9 := Lib.hid hs
        have HC9 := Lib.hid (HC8.out.trans hc)
        clear hs hc HS8 HC8
        simp only []
        go_wp2_with fail
        go_roundg (gk - 1)
        case rel =>
          refine ⟨a ++ [x], t, by rw [HR5.out]; simp, run_more HA.out HV.out, ?_, HC9.out, ?_, by simp⟩
          · have := HS9.out
            rw [ln1_of rfl hx] at this
            simpa [tl1] using this
          · have := HK.out
            simp only [List.length_cons] at this
            omega
        case measure =>
          have := HK.out
          simp only [List.length_cons] at this
          omega

end Go.Proofs.YtbgjjbffpckimaaGreatDoor
