/-
  The tokens of a text: the manual: strings, digits, words.
-/
import Derived.Test.YtbgjjbffpckimaaGreatDoorQi
import Derived.Test.YtbgjjbffpckimaaGreatDoorQd
import Derived.Laws.FloatArith
namespace Go.Proofs.YtbgjjbffpckimaaGreatDoor
set_option linter.all false
open Go.RowKit

def DzPost (p : Nat) (s : ByteArray) (z : Nat × Bs) (cd : Int) (w : World) (e : Ending) (w' : World) : Prop :=
  e = .returned (.int .u8 ((z.1 % 256 : Nat) : Int)) ∧ Ls w' p s z.2 (if 255 < z.1 then tl cd 2 else cd) ∧ Ch (· = p) w w'
def DzRel (p : Nat) (s : ByteArray) (r : Bs) (cd : Int) (n : Nat) (v3 v4 : Value) (w0 wr : World) : Prop :=
  ∃ k v r1, v3 = .int .i64 ((v : Nat) : Int) ∧ v4 = .int .i64 ((k : Nat) : Int) ∧ k ≤ 3 ∧ dig3 (3 - k) v r1 = dig3 3 0 r ∧ v < 10 ^ k ∧ Ls wr p s r1 cd ∧ Ch (· = p) w0 wr ∧ n = 3 - k

theorem dig3_stop {m v : Nat} {r : Bs} (h : hdIs isDec r = false) : dig3 (m + 1) v r = (v, r) := by
  cases r with
  | nil => rfl
  | cons c t =>
    rw [dig3, if_neg]
    have : isDec c = false := h
    rw [this]
    decide

set_option maxRecDepth 100000 in
set_option maxHeartbeats 4000000 in
theorem digits_calls {w : World} {p : Nat} {s : ByteArray} {r : Bs} {cd : Int} (H : Hid (Ls w p s r cd)) :
    Calls Tryz.prog 101 #[ptr p] w (DzPost p s (dig3 3 0 r) cd w) := by
  have hpl := H.out.lt
  go_enter Tryz.func101, Tryz.ntmps101
  go_wp2_with fail
  go_loopg [3, 4] 3 (fun n v3 v4 wr => DzRel p s r cd n v3 v4 w wr)
  case atStart => exact ⟨0, 0, r, rfl, rfl, by omega, rfl, by omega, H.out, Ch.refl _ _, rfl⟩
  case round =>
    obtain ⟨k, v, r1, rfl, rfl, hk, hd3, hv, hls, hc, hn⟩ := hrel
    have HD := Lib.hid hd3
    have HL := Lib.hid hls
    have HC := Lib.hid hc
    have HN := Lib.hid hn
    clear hd3 hls hc hn
    have hv3 : v < 1000 := Nat.lt_of_lt_of_le hv (Nat.pow_le_pow_right (by omega) hk)
    by_cases hk3 : k = 3
    · subst hk3
      have HZ : Hid (dig3 3 0 r = (v, r1)) := Lib.hid (by rw [← HD.out]; rfl)
      clear HD
      have hu : IntKind.u8.wrap ((v : Int) % 256) = ((v % 256 : Nat) : Int) := by rw [IntKind.wrap_u8]; omega
      have hu2 : IntKind.u8.wrap (Int.tmod (v : Int) 256) = ((v % 256 : Nat) : Int) := by rw [Int.tmod_eq_emod_of_nonneg (by omega)]; exact hu
      by_cases h255 : 255 < v
      · have g255 : (255 : Int) < (v : Int) := by omega
        go_wp2_with fail
        refine (tell_calls (v := 2) HL).mono ?_
        rintro e wq1 ⟨rfl, hl1, hq1⟩
        have HL1 := Lib.hid hl1
        have HC1 := Lib.hid (HC.out.trans hq1)
        clear hq1 HL HC hl1
        simp only []
        go_wp2_with fail
        go_ret
        unfold DzPost
        rw [HZ.out]
        refine ⟨?_, by rw [if_pos h255]; exact HL1.out, HC1.out⟩
        exact congrArg (fun x => Ending.returned (.int .u8 x)) (show (v : Int) % 256 = ((v % 256 : Nat) : Int) by omega)
      · have g255 : ¬ (255 : Int) < (v : Int) := by omega
        go_wp2_with fail
        go_ret
        unfold DzPost
        rw [HZ.out]
        refine ⟨?_, by rw [if_neg h255]; exact HL.out, HC.out⟩
        exact congrArg (fun x => Ending.returned (.int .u8 x)) (show (v : Int) % 256 = ((v % 256 : Nat) : Int) by omega)
    · have gkk : (k : Int) < 3 := by omega
      have hk1 : 3 - k = (3 - (k + 1)) + 1 := by omega
      go_wp2_with fail
      refine (byteAt_at HL 0 (rfl) (by omega) (show ((hb r1 : Nat) : Int) = _ from rfl)).mono ?_
      rintro e wq21 ⟨rfl, hq21⟩
      have HL21 := Lib.hid (HL.out.moved hq21)
      have HC21 := Lib.hid (HC.out.trans (hq21.mono fun _ _ h => h.elim))
      clear hq21 HL HC
      simp only []
      go_wp2_with fail
      refine (digit_calls (b := hb r1)).mono ?_
      rintro e wd ⟨rfl, rfl⟩
      rw [nDec_hb]
      simp only []
      cases hd : hdIs isDec r1 with
      | false =>
        have HZ : Hid (dig3 3 0 r = (v, r1)) := Lib.hid (by rw [← HD.out, hk1]; exact dig3_stop hd)
        clear HD hd
        have hu : IntKind.u8.wrap ((v : Int) % 256) = ((v % 256 : Nat) : Int) := by rw [IntKind.wrap_u8]; omega
        have hu2 : IntKind.u8.wrap (Int.tmod (v : Int) 256) = ((v % 256 : Nat) : Int) := by rw [Int.tmod_eq_emod_of_nonneg (by omega)]; exact hu
        by_cases h255 : 255 < v
        · have g255 : (255 : Int) < (v : Int) := by omega
          go_wp2_with fail
          refine (tell_calls (v := 2) HL21).mono ?_
          rintro e wq22 ⟨rfl, hl22, hq22⟩
          have HL22 := Lib.hid hl22
          have HC22 := Lib.hid (HC21.out.trans hq22)
          clear hq22 HL21 HC21 hl22
          simp only []
          go_wp2_with fail
          go_ret
          unfold DzPost
          rw [HZ.out]
          refine ⟨?_, by rw [if_pos h255]; exact HL22.out, HC22.out⟩
          exact congrArg (fun x => Ending.returned (.int .u8 x)) (show (v : Int) % 256 = ((v % 256 : Nat) : Int) by omega)
        · have g255 : ¬ (255 : Int) < (v : Int) := by omega
          go_wp2_with fail
          go_ret
          unfold DzPost
          rw [HZ.out]
          refine ⟨?_, by rw [if_neg h255]; exact HL21.out, HC21.out⟩
          exact congrArg (fun x => Ending.returned (.int .u8 x)) (show (v : Int) % 256 = ((v % 256 : Nat) : Int) by omega)
      | true =>
        cases r1 with
        | nil => cases hd
        | cons c t =>
          have hcd : 48 ≤ c.toNat ∧ c.toNat ≤ 57 := by
            have : isDec c = true := hd
            simpa [isDec] using this
          have HZ : Hid (dig3 (3 - (k + 1)) (10 * v + (c.toNat - 48)) t = dig3 3 0 r) := Lib.hid (by rw [← HD.out, hk1, dig3, if_pos (show isDec c = true from hd)])
          have hw1 : IntKind.i64.wrap (10 * (v : Int)) = 10 * (v : Int) := by rw [IntKind.wrap_i64]; omega
          have hw2 : IntKind.u8.wrap ((c.toNat : Int) - 48) = (c.toNat : Int) - 48 := by rw [IntKind.wrap_u8]; omega
          have hw3 : IntKind.i64.wrap ((c.toNat : Int) - 48) = (c.toNat : Int) - 48 := by rw [IntKind.wrap_i64]; omega
          have hw4 : IntKind.i64.wrap (10 * (v : Int) + ((c.toNat : Int) - 48)) = 10 * (v : Int) + ((c.toNat : Int) - 48) := by rw [IntKind.wrap_i64]; omega
          have hw5 : IntKind.i64.wrap ((k : Int) + 1) = (k : Int) + 1 := by rw [IntKind.wrap_i64]; omega
          clear HD hd
          go_wp2_with fail
          refine (byteAt_at HL21 0 (rfl) (by omega) (show ((hb (c :: t) : Nat) : Int) = (c.toNat : Int) from rfl)).mono ?_
          rintro e wq22 ⟨rfl, hq22⟩
          have HL22 := Lib.hid (HL21.out.moved hq22)
          have HC22 := Lib.hid (HC21.out.trans (hq22.mono fun _ _ h => h.elim))
          clear hq22 HL21 HC21
          simp only []
          go_wp2_with fail
          refine (step_calls HL22).mono ?_
          rintro e wq23 ⟨rfl, hl23, hq23⟩
          have HL23 := Lib.hid hl23
          have HC23 := Lib.hid (HC22.out.trans hq23)
          clear hq23 HL22 HC22 hl23
          simp only []
          go_wp2_with fail
          have hgk : 3 - (k + 1) < gk := by (have := HN.out; omega)
          go_roundg (3 - (k + 1))
          case measure => omega
          case rel =>
            refine ⟨k + 1, 10 * v + (c.toNat - 48), t, ?_, rfl, by omega, HZ.out, ?_, HL23.out, HC23.out, rfl⟩
            · exact congrArg (Value.int .i64) (by omega)
            · rw [Nat.pow_succ]; omega
end Go.Proofs.YtbgjjbffpckimaaGreatDoor

namespace Go.Proofs.YtbgjjbffpckimaaGreatDoor
set_option linter.all false
open Go.RowKit

/-- What 'escape' leaves. -/
def EzPost (p : Nat) (s : ByteArray) (d : UInt8) (u : Bs) (cd : Int) (w : World) (e : Ending) (w' : World) : Prop :=
  Ch (· = p) w w' ∧ ((isDec d = true ∧ e = .returned (.int .u8 (((dig3 3 0 (d :: u)).1 % 256 : Nat) : Int)) ∧ Ls w' p s (dig3 3 0 (d :: u)).2 (if 255 < (dig3 3 0 (d :: u)).1 then tl cd 2 else cd)) ∨
    (isDec d = false ∧ ∃ x, esc d = some x ∧ e = .returned (.int .u8 (x.toNat : Int)) ∧ Ls w' p s u cd) ∨ (isDec d = false ∧ esc d = none ∧ e = .returned (.int .u8 (d.toNat : Int)) ∧ Ls w' p s u (tl cd 2)))

set_option maxRecDepth 100000 in
set_option maxHeartbeats 4000000 in
theorem escape_calls {w : World} {p : Nat} {s : ByteArray} {d : UInt8} {u : Bs} {cd : Int} (H : Hid (Ls w p s ((92 : UInt8) :: d :: u) cd)) :
    Calls Tryz.prog 86 #[ptr p] w (EzPost p s d u cd w) := by
  have hpl := H.out.lt
  have HC : Hid (Ch (· = p) w w) := Lib.hid (Ch.refl _ _)
  go_enter Tryz.func86, Tryz.ntmps86
  go_wp2_with fail
  refine (step_calls H).mono ?_
  rintro e wq1 ⟨rfl, hl1, hq1⟩
  have HL1 := Lib.hid hl1
  have HC1 := Lib.hid (HC.out.trans hq1)
  clear hq1 H HC hl1
  simp only []
  go_wp2_with fail
  by_cases hd : isDec d = true
  · have HD := Lib.hid hd
    have hnd : nDec d.toNat = true := hd
    clear hd
    refine (byteAt_at HL1 0 (rfl) (by omega) (show ((hb (d :: u) : Nat) : Int) = (d.toNat : Int) from rfl)).mono ?_
    rintro e wq2 ⟨rfl, hq2⟩
    have HL2 := Lib.hid (HL1.out.moved hq2)
    have HC2 := Lib.hid (HC1.out.trans (hq2.mono fun _ _ h => h.elim))
    clear hq2 HL1 HC1
    simp only []
    go_wp2_with fail
    refine (digit_calls (b := d.toNat)).mono ?_
    rintro e wd ⟨rfl, rfl⟩
    rw [hnd]
    clear hnd
    simp only []
    go_wp2_with fail
    refine (digits_calls HL2).mono ?_
    rintro e wq3 ⟨rfl, hl3, hq3⟩
    have HL3 := Lib.hid hl3
    have HC3 := Lib.hid (HC2.out.trans hq3)
    clear hq3 HL2 HC2 hl3
    simp only []
    go_wp2_with fail
    go_ret
    exact ⟨HC3.out, .inl ⟨HD.out, rfl, HL3.out⟩⟩
  · have hdf : isDec d = false := by simpa using hd
    clear hd
    by_cases h97 : d = 97
    · subst h97
      clear hdf
      refine (byteAt_at HL1 0 (rfl) (by omega) (show ((hb ((97 : UInt8) :: u) : Nat) : Int) = (97 : Int) from rfl)).mono ?_
      rintro e wq2 ⟨rfl, hq2⟩
      have HL2 := Lib.hid (HL1.out.moved hq2)
      have HC2 := Lib.hid (HC1.out.trans (hq2.mono fun _ _ h => h.elim))
      clear hq2 HL1 HC1
      simp only []
      go_wp2_with fail
      refine (digit_calls (b := 97)).mono ?_
      rintro e wd ⟨rfl, rfl⟩
      rw [show nDec 97 = false from rfl]
      simp only []
      go_wp2_with fail
      refine (step_calls HL2).mono ?_
      rintro e wq3 ⟨rfl, hl3, hq3⟩
      have HL3 := Lib.hid hl3
      have HC3 := Lib.hid (HC2.out.trans hq3)
      clear hq3 HL2 HC2 hl3
      simp only []
      go_wp2_with fail
      go_ret
      exact ⟨HC3.out, .inr (.inl ⟨rfl, 7, rfl, rfl, HL3.out⟩)⟩
    by_cases h98 : d = 98
    · subst h98
      clear hdf
      refine (byteAt_at HL1 0 (rfl) (by omega) (show ((hb ((98 : UInt8) :: u) : Nat) : Int) = (98 : Int) from rfl)).mono ?_
      rintro e wq2 ⟨rfl, hq2⟩
      have HL2 := Lib.hid (HL1.out.moved hq2)
      have HC2 := Lib.hid (HC1.out.trans (hq2.mono fun _ _ h => h.elim))
      clear hq2 HL1 HC1
      simp only []
      go_wp2_with fail
      refine (digit_calls (b := 98)).mono ?_
      rintro e wd ⟨rfl, rfl⟩
      rw [show nDec 98 = false from rfl]
      simp only []
      go_wp2_with fail
      refine (step_calls HL2).mono ?_
      rintro e wq3 ⟨rfl, hl3, hq3⟩
      have HL3 := Lib.hid hl3
      have HC3 := Lib.hid (HC2.out.trans hq3)
      clear hq3 HL2 HC2 hl3
      simp only []
      go_wp2_with fail
      go_ret
      exact ⟨HC3.out, .inr (.inl ⟨rfl, 8, rfl, rfl, HL3.out⟩)⟩
    by_cases h102 : d = 102
    · subst h102
      clear hdf
      refine (byteAt_at HL1 0 (rfl) (by omega) (show ((hb ((102 : UInt8) :: u) : Nat) : Int) = (102 : Int) from rfl)).mono ?_
      rintro e wq2 ⟨rfl, hq2⟩
      have HL2 := Lib.hid (HL1.out.moved hq2)
      have HC2 := Lib.hid (HC1.out.trans (hq2.mono fun _ _ h => h.elim))
      clear hq2 HL1 HC1
      simp only []
      go_wp2_with fail
      refine (digit_calls (b := 102)).mono ?_
      rintro e wd ⟨rfl, rfl⟩
      rw [show nDec 102 = false from rfl]
      simp only []
      go_wp2_with fail
      refine (step_calls HL2).mono ?_
      rintro e wq3 ⟨rfl, hl3, hq3⟩
      have HL3 := Lib.hid hl3
      have HC3 := Lib.hid (HC2.out.trans hq3)
      clear hq3 HL2 HC2 hl3
      simp only []
      go_wp2_with fail
      go_ret
      exact ⟨HC3.out, .inr (.inl ⟨rfl, 12, rfl, rfl, HL3.out⟩)⟩
    by_cases h110 : d = 110
    · subst h110
      clear hdf
      refine (byteAt_at HL1 0 (rfl) (by omega) (show ((hb ((110 : UInt8) :: u) : Nat) : Int) = (110 : Int) from rfl)).mono ?_
      rintro e wq2 ⟨rfl, hq2⟩
      have HL2 := Lib.hid (HL1.out.moved hq2)
      have HC2 := Lib.hid (HC1.out.trans (hq2.mono fun _ _ h => h.elim))
      clear hq2 HL1 HC1
      simp only []
      go_wp2_with fail
      refine (digit_calls (b := 110)).mono ?_
      rintro e wd ⟨rfl, rfl⟩
      rw [show nDec 110 = false from rfl]
      simp only []
      go_wp2_with fail
      refine (step_calls HL2).mono ?_
      rintro e wq3 ⟨rfl, hl3, hq3⟩
      have HL3 := Lib.hid hl3
      have HC3 := Lib.hid (HC2.out.trans hq3)
      clear hq3 HL2 HC2 hl3
      simp only []
      go_wp2_with fail
      go_ret
      exact ⟨HC3.out, .inr (.inl ⟨rfl, 10, rfl, rfl, HL3.out⟩)⟩
    by_cases h10 : d = 10
    · subst h10
      clear hdf
      refine (byteAt_at HL1 0 (rfl) (by omega) (show ((hb ((10 : UInt8) :: u) : Nat) : Int) = (10 : Int) from rfl)).mono ?_
      rintro e wq2 ⟨rfl, hq2⟩
      have HL2 := Lib.hid (HL1.out.moved hq2)
      have HC2 := Lib.hid (HC1.out.trans (hq2.mono fun _ _ h => h.elim))
      clear hq2 HL1 HC1
      simp only []
      go_wp2_with fail
      refine (digit_calls (b := 10)).mono ?_
      rintro e wd ⟨rfl, rfl⟩
      rw [show nDec 10 = false from rfl]
      simp only []
      go_wp2_with fail
      refine (step_calls HL2).mono ?_
      rintro e wq3 ⟨rfl, hl3, hq3⟩
      have HL3 := Lib.hid hl3
      have HC3 := Lib.hid (HC2.out.trans hq3)
      clear hq3 HL2 HC2 hl3
      simp only []
      go_wp2_with fail
      go_ret
      exact ⟨HC3.out, .inr (.inl ⟨rfl, 10, rfl, rfl, HL3.out⟩)⟩
    by_cases h114 : d = 114
    · subst h114
      clear hdf
      refine (byteAt_at HL1 0 (rfl) (by omega) (show ((hb ((114 : UInt8) :: u) : Nat) : Int) = (114 : Int) from rfl)).mono ?_
      rintro e wq2 ⟨rfl, hq2⟩
      have HL2 := Lib.hid (HL1.out.moved hq2)
      have HC2 := Lib.hid (HC1.out.trans (hq2.mono fun _ _ h => h.elim))
      clear hq2 HL1 HC1
      simp only []
      go_wp2_with fail
      refine (digit_calls (b := 114)).mono ?_
      rintro e wd ⟨rfl, rfl⟩
      rw [show nDec 114 = false from rfl]
      simp only []
      go_wp2_with fail
      refine (step_calls HL2).mono ?_
      rintro e wq3 ⟨rfl, hl3, hq3⟩
      have HL3 := Lib.hid hl3
      have HC3 := Lib.hid (HC2.out.trans hq3)
      clear hq3 HL2 HC2 hl3
      simp only []
      go_wp2_with fail
      go_ret
      exact ⟨HC3.out, .inr (.inl ⟨rfl, 13, rfl, rfl, HL3.out⟩)⟩
    by_cases h116 : d = 116
    · subst h116
      clear hdf
      refine (byteAt_at HL1 0 (rfl) (by omega) (show ((hb ((116 : UInt8) :: u) : Nat) : Int) = (116 : Int) from rfl)).mono ?_
      rintro e wq2 ⟨rfl, hq2⟩
      have HL2 := Lib.hid (HL1.out.moved hq2)
      have HC2 := Lib.hid (HC1.out.trans (hq2.mono fun _ _ h => h.elim))
      clear hq2 HL1 HC1
      simp only []
      go_wp2_with fail
      refine (digit_calls (b := 116)).mono ?_
      rintro e wd ⟨rfl, rfl⟩
      rw [show nDec 116 = false from rfl]
      simp only []
      go_wp2_with fail
      refine (step_calls HL2).mono ?_
      rintro e wq3 ⟨rfl, hl3, hq3⟩
      have HL3 := Lib.hid hl3
      have HC3 := Lib.hid (HC2.out.trans hq3)
      clear hq3 HL2 HC2 hl3
      simp only []
      go_wp2_with fail
      go_ret
      exact ⟨HC3.out, .inr (.inl ⟨rfl, 9, rfl, rfl, HL3.out⟩)⟩
    by_cases h118 : d = 118
    · subst h118
      clear hdf
      refine (byteAt_at HL1 0 (rfl) (by omega) (show ((hb ((118 : UInt8) :: u) : Nat) : Int) = (118 : Int) from rfl)).mono ?_
      rintro e wq2 ⟨rfl, hq2⟩
      have HL2 := Lib.hid (HL1.out.moved hq2)
      have HC2 := Lib.hid (HC1.out.trans (hq2.mono fun _ _ h => h.elim))
      clear hq2 HL1 HC1
      simp only []
      go_wp2_with fail
      refine (digit_calls (b := 118)).mono ?_
      rintro e wd ⟨rfl, rfl⟩
      rw [show nDec 118 = false from rfl]
      simp only []
      go_wp2_with fail
      refine (step_calls HL2).mono ?_
      rintro e wq3 ⟨rfl, hl3, hq3⟩
      have HL3 := Lib.hid hl3
      have HC3 := Lib.hid (HC2.out.trans hq3)
      clear hq3 HL2 HC2 hl3
      simp only []
      go_wp2_with fail
      go_ret
      exact ⟨HC3.out, .inr (.inl ⟨rfl, 11, rfl, rfl, HL3.out⟩)⟩
    by_cases h92 : d = 92
    · subst h92
      clear hdf
      refine (byteAt_at HL1 0 (rfl) (by omega) (show ((hb ((92 : UInt8) :: u) : Nat) : Int) = (92 : Int) from rfl)).mono ?_
      rintro e wq2 ⟨rfl, hq2⟩
      have HL2 := Lib.hid (HL1.out.moved hq2)
      have HC2 := Lib.hid (HC1.out.trans (hq2.mono fun _ _ h => h.elim))
      clear hq2 HL1 HC1
      simp only []
      go_wp2_with fail
      refine (digit_calls (b := 92)).mono ?_
      rintro e wd ⟨rfl, rfl⟩
      rw [show nDec 92 = false from rfl]
      simp only []
      go_wp2_with fail
      refine (step_calls HL2).mono ?_
      rintro e wq3 ⟨rfl, hl3, hq3⟩
      have HL3 := Lib.hid hl3
      have HC3 := Lib.hid (HC2.out.trans hq3)
      clear hq3 HL2 HC2 hl3
      simp only []
      go_wp2_with fail
      go_ret
      exact ⟨HC3.out, .inr (.inl ⟨rfl, 92, rfl, rfl, HL3.out⟩)⟩
    by_cases h34 : d = 34
    · subst h34
      clear hdf
      refine (byteAt_at HL1 0 (rfl) (by omega) (show ((hb ((34 : UInt8) :: u) : Nat) : Int) = (34 : Int) from rfl)).mono ?_
      rintro e wq2 ⟨rfl, hq2⟩
      have HL2 := Lib.hid (HL1.out.moved hq2)
      have HC2 := Lib.hid (HC1.out.trans (hq2.mono fun _ _ h => h.elim))
      clear hq2 HL1 HC1
      simp only []
      go_wp2_with fail
      refine (digit_calls (b := 34)).mono ?_
      rintro e wd ⟨rfl, rfl⟩
      rw [show nDec 34 = false from rfl]
      simp only []
      go_wp2_with fail
      refine (step_calls HL2).mono ?_
      rintro e wq3 ⟨rfl, hl3, hq3⟩
      have HL3 := Lib.hid hl3
      have HC3 := Lib.hid (HC2.out.trans hq3)
      clear hq3 HL2 HC2 hl3
      simp only []
      go_wp2_with fail
      go_ret
      exact ⟨HC3.out, .inr (.inl ⟨rfl, 34, rfl, rfl, HL3.out⟩)⟩
    by_cases h39 : d = 39
    · subst h39
      clear hdf
      refine (byteAt_at HL1 0 (rfl) (by omega) (show ((hb ((39 : UInt8) :: u) : Nat) : Int) = (39 : Int) from rfl)).mono ?_
      rintro e wq2 ⟨rfl, hq2⟩
      have HL2 := Lib.hid (HL1.out.moved hq2)
      have HC2 := Lib.hid (HC1.out.trans (hq2.mono fun _ _ h => h.elim))
      clear hq2 HL1 HC1
      simp only []
      go_wp2_with fail
      refine (digit_calls (b := 39)).mono ?_
      rintro e wd ⟨rfl, rfl⟩
      rw [show nDec 39 = false from rfl]
      simp only []
      go_wp2_with fail
      refine (step_calls HL2).mono ?_
      rintro e wq3 ⟨rfl, hl3, hq3⟩
      have HL3 := Lib.hid hl3
      have HC3 := Lib.hid (HC2.out.trans hq3)
      clear hq3 HL2 HC2 hl3
      simp only []
      go_wp2_with fail
      go_ret
      exact ⟨HC3.out, .inr (.inl ⟨rfl, 39, rfl, rfl, HL3.out⟩)⟩
    have hes : esc d = none := by
      unfold esc
      rw [if_neg h97, if_neg h98, if_neg h102, if_neg h110, if_neg h10, if_neg h114, if_neg h116, if_neg h118, if_neg (fun h => h.elim h92 fun h => h.elim h34 h39)]
    have g97 : ((d.toNat : Int) == 97) = false := by
      have : d.toNat ≠ 97 := fun e => h97 (UInt8.toNat_inj.1 (by rw [e]; rfl))
      simp only [beq_eq_false_iff_ne, ne_eq]
      omega
    have g98 : ((d.toNat : Int) == 98) = false := by
      have : d.toNat ≠ 98 := fun e => h98 (UInt8.toNat_inj.1 (by rw [e]; rfl))
      simp only [beq_eq_false_iff_ne, ne_eq]
      omega
    have g102 : ((d.toNat : Int) == 102) = false := by
      have : d.toNat ≠ 102 := fun e => h102 (UInt8.toNat_inj.1 (by rw [e]; rfl))
      simp only [beq_eq_false_iff_ne, ne_eq]
      omega
    have g110 : ((d.toNat : Int) == 110) = false := by
      have : d.toNat ≠ 110 := fun e => h110 (UInt8.toNat_inj.1 (by rw [e]; rfl))
      simp only [beq_eq_false_iff_ne, ne_eq]
      omega
    have g10 : ((d.toNat : Int) == 10) = false := by
      have : d.toNat ≠ 10 := fun e => h10 (UInt8.toNat_inj.1 (by rw [e]; rfl))
      simp only [beq_eq_false_iff_ne, ne_eq]
      omega
    have g114 : ((d.toNat : Int) == 114) = false := by
      have : d.toNat ≠ 114 := fun e => h114 (UInt8.toNat_inj.1 (by rw [e]; rfl))
      simp only [beq_eq_false_iff_ne, ne_eq]
      omega
    have g116 : ((d.toNat : Int) == 116) = false := by
      have : d.toNat ≠ 116 := fun e => h116 (UInt8.toNat_inj.1 (by rw [e]; rfl))
      simp only [beq_eq_false_iff_ne, ne_eq]
      omega
    have g118 : ((d.toNat : Int) == 118) = false := by
      have : d.toNat ≠ 118 := fun e => h118 (UInt8.toNat_inj.1 (by rw [e]; rfl))
      simp only [beq_eq_false_iff_ne, ne_eq]
      omega
    have g92 : ((d.toNat : Int) == 92) = false := by
      have : d.toNat ≠ 92 := fun e => h92 (UInt8.toNat_inj.1 (by rw [e]; rfl))
      simp only [beq_eq_false_iff_ne, ne_eq]
      omega
    have g34 : ((d.toNat : Int) == 34) = false := by
      have : d.toNat ≠ 34 := fun e => h34 (UInt8.toNat_inj.1 (by rw [e]; rfl))
      simp only [beq_eq_false_iff_ne, ne_eq]
      omega
    have g39 : ((d.toNat : Int) == 39) = false := by
      have : d.toNat ≠ 39 := fun e => h39 (UInt8.toNat_inj.1 (by rw [e]; rfl))
      simp only [beq_eq_false_iff_ne, ne_eq]
      omega
    have HDF := Lib.hid hdf
    have HES := Lib.hid hes
    have hnd : nDec d.toNat = false := hdf
    clear hdf hes h97 h98 h102 h110 h10 h114 h116 h118 h92 h34 h39
    refine (byteAt_at HL1 0 (rfl) (by omega) (show ((hb (d :: u) : Nat) : Int) = (d.toNat : Int) from rfl)).mono ?_
    rintro e wq2 ⟨rfl, hq2⟩
    have HL2 := Lib.hid (HL1.out.moved hq2)
    have HC2 := Lib.hid (HC1.out.trans (hq2.mono fun _ _ h => h.elim))
    clear hq2 HL1 HC1
    simp only []
    go_wp2_with fail
    refine (digit_calls (b := d.toNat)).mono ?_
    rintro e wd ⟨rfl, rfl⟩
    rw [hnd]
    clear hnd
    simp only []
    go_wp2_with fail
    refine (step_calls HL2).mono ?_
    rintro e wq3 ⟨rfl, hl3, hq3⟩
    have HL3 := Lib.hid hl3
    have HC3 := Lib.hid (HC2.out.trans hq3)
    clear hq3 HL2 HC2 hl3
    simp only []
    go_wp2_with fail
    refine (tell_calls (v := 2) HL3).mono ?_
    rintro e wq4 ⟨rfl, hl4, hq4⟩
    have HL4 := Lib.hid hl4
    have HC4 := Lib.hid (HC3.out.trans hq4)
    clear hq4 HL3 HC3 hl4
    simp only []
    go_wp2_with fail
    go_ret
    exact ⟨HC4.out, .inr (.inr ⟨HDF.out, HES.out, rfl, HL4.out⟩)⟩
end Go.Proofs.YtbgjjbffpckimaaGreatDoor

namespace Go.Proofs.YtbgjjbffpckimaaGreatDoor
set_option linter.all false
open Go.RowKit

/-- The loop of 'quoted': what is read so far, and what is told. -/
def QInv (q : UInt8) (R0 acc r : Bs) (cd : Int) : Prop :=
  (cd = 0 ∧ strB q R0 = (strB q r).map (acc ++ ·)) ∨ (cd = 2 ∧ strB q R0 = .no 2)
theorem QInv.start (q : UInt8) (R0 : Bs) : QInv q R0 [] R0 0 := .inl ⟨rfl, by cases strB q R0 <;> rfl⟩
theorem QInv.chr {q c : UInt8} {R0 acc t : Bs} {cd : Int} (h : QInv q R0 acc (c :: t) cd) (h1 : c ≠ 10) (h2 : c ≠ q) (h3 : c ≠ 92) : QInv q R0 (acc ++ [c]) t cd := by
  rcases h with ⟨h0, h⟩ | h
  · refine .inl ⟨h0, ?_⟩
    rw [h, strB_chr q c t h1 h2 h3, map_map]
    simp
  · exact .inr h
theorem QInv.esc {p : Nat} {s : ByteArray} {q d : UInt8} {R0 acc u : Bs} {cd : Int} {w w' : World} {e : Ending} (h : QInv q R0 acc (92 :: d :: u) cd) (hq : q ≠ 92) (hp : EzPost p s d u cd w e w') :
    ∃ (b : UInt8) (r' : Bs) (cd' : Int), e = .returned (.int .u8 (b.toNat : Int)) ∧ Ls w' p s r' cd' ∧ QInv q R0 (acc ++ [b]) r' cd' ∧ r'.length ≤ u.length := by
  rcases hp.2 with ⟨hd, he, hl⟩ | ⟨hd, x, hx, he, hl⟩ | ⟨hd, hx, he, hl⟩
  · refine ⟨UInt8.ofNat (dig3 3 0 (d :: u)).1, _, _, by rw [he]; simp, hl, ?_, dig3_lt 0 d u hd⟩
    by_cases h255 : 255 < (dig3 3 0 (d :: u)).1
    · rw [if_pos h255]
      refine .inr ?_
      rcases h with ⟨h0, h⟩ | ⟨h0, h⟩
      · exact ⟨by rw [h0]; rfl, by rw [h, strB_dig q d u hq hd, if_neg (by omega)]; rfl⟩
      · exact ⟨by rw [h0]; rfl, h⟩
    · rw [if_neg h255]
      rcases h with ⟨h0, h⟩ | h
      · refine .inl ⟨h0, ?_⟩
        rw [h, strB_dig q d u hq hd, if_pos (by omega), map_map]
        simp
      · exact .inr h
  · refine ⟨x, u, cd, he, hl, ?_, Nat.le_refl _⟩
    rcases h with ⟨h0, h⟩ | h
    · refine .inl ⟨h0, ?_⟩
      rw [h, strB_esc q d x u hq hd hx, map_map]
      simp
    · exact .inr h
  · refine ⟨d, u, tl cd 2, he, hl, .inr ?_, Nat.le_refl _⟩
    rcases h with ⟨h0, h⟩ | ⟨h0, h⟩
    · exact ⟨by rw [h0]; rfl, by rw [h, strB_none q d u hq hd hx]; rfl⟩
    · exact ⟨by rw [h0]; rfl, h⟩
/-- What 'quoted' leaves. -/
def SzPost (p : Nat) (s : ByteArray) (z : Rz Bs) (w : World) (e : Ending) (w' : World) : Prop :=
  Ch (· = p) w w' ∧ ((∃ x r', z = .ok x r' ∧ e = .returned (.string ⟨x.toArray⟩) ∧ Ls w' p s r' 0) ∨ (∃ (kk : Nat) (v : ByteArray) (r' : Bs), z = .no kk ∧ (kk = 1 ∨ kk = 2) ∧ e = .returned (.string v) ∧ Ls w' p s r' (kk : Int)))
theorem QInv.bad {p : Nat} {s : ByteArray} {q : UInt8} {R0 acc r r' : Bs} {cd : Int} {w w' : World} (h : QInv q R0 acc r cd) (hr : strB q r = .no 1) (hl : Ls w' p s r' (tl cd 1)) (hc : Ch (· = p) w w') (v : ByteArray) : SzPost p s (strB q R0) w (.returned (.string v)) w' := by
  refine ⟨hc, .inr ?_⟩
  rcases h with ⟨rfl, h⟩ | ⟨rfl, h⟩
  · exact ⟨1, v, r', by rw [h, hr]; rfl, .inl rfl, rfl, hl⟩
  · exact ⟨2, v, r', h, .inr rfl, rfl, hl⟩
theorem QInv.close {p : Nat} {s : ByteArray} {q : UInt8} {R0 acc t : Bs} {cd : Int} {w w' : World} (h : QInv q R0 acc (q :: t) cd) (hq : q ≠ 10) (hl : Ls w' p s t cd) (hc : Ch (· = p) w w') : SzPost p s (strB q R0) w (.returned (.string ⟨acc.toArray⟩)) w' := by
  refine ⟨hc, ?_⟩
  rcases h with ⟨rfl, h⟩ | ⟨rfl, h⟩
  · refine .inl ⟨acc, _, ?_, rfl, hl⟩
    rw [h, strB_q q t hq]
    simp [Rz.map]
  · exact .inr ⟨2, _, _, h, .inr rfl, rfl, hl⟩
def QzRel (p : Nat) (s : ByteArray) (q : UInt8) (R0 : Bs) (n : Nat) (v4 : Value) (w0 wr : World) : Prop :=
  ∃ acc r cd, QInv q R0 acc r cd ∧ acc.length + r.length ≤ 2000 ∧ wr.ownsRow w0.heap.size 5 1 v4 acc.length (Lib.byteCells acc) ∧ Ls wr p s r cd ∧ Ch (· = p) w0 wr ∧ n = r.length

set_option maxRecDepth 100000 in
set_option maxHeartbeats 4000000 in
theorem quoted_calls {w : World} {p : Nat} {s : ByteArray} {q : UInt8} {r0 : Bs} (H : Hid (Ls w p s (q :: r0) 0)) (hq : q = 34 ∨ q = 39) :
    Calls Tryz.prog 70 #[ptr p] w (SzPost p s (strB q r0) w) := by
  obtain ⟨i0, hi0, hz0, hz1, hz2⟩ := info_parts Tryz.info5
  have I0 := Lib.hid hi0
  have Z0 := Lib.hid hz0
  have Z1 := Lib.hid hz1
  have Z2 := Lib.hid hz2
  clear hi0 hz0 hz1 hz2
  have hq10 : q ≠ 10 := by rcases hq with rfl | rfl <;> decide
  have hq92 : q ≠ 92 := by rcases hq with rfl | rfl <;> decide
  have HQ10 := Lib.hid hq10
  have HQ92 := Lib.hid hq92
  have hrl := H.out.nls
  have hpl := H.out.lt
  have HC : Hid (Ch (· = p) w w) := Lib.hid (Ch.refl _ _)
  clear hq hq10 hq92
  go_enter Tryz.func70, Tryz.ntmps70
  go_wp2_with fail
  refine (byteAt_at H 0 (rfl) (by omega) (show ((hb (q :: r0) : Nat) : Int) = (q.toNat : Int) from rfl)).mono ?_
  rintro e wq1 ⟨rfl, hq1⟩
  have HL1 := Lib.hid (H.out.moved hq1)
  have HC1 := Lib.hid (HC.out.trans (hq1.mono fun _ _ h => h.elim))
  clear hq1 H HC
  simp only []
  go_wp2_with fail
  have hO0 := World.ownsRow_lit (e := 5) (size := 1) (base := wq1.heap.size) wq1 #[] 0 (by simp) (by unfold maxLen; omega) rfl
  have HO0 := Lib.hid (hO0.mono HC1.out.size)
  have HLb := Lib.hid (HL1.out.moved ((Ch.refl _ _).alloc (.cells #[] 5)))
  have HCb := Lib.hid (HC1.out.alloc (.cells #[] 5))
  clear hO0 HL1 HC1
  refine (step_calls HLb).mono ?_
  rintro e wq2 ⟨rfl, hl2, hq2⟩
  have HL2 := Lib.hid hl2
  have HC2 := Lib.hid (HCb.out.trans hq2)
  have HO2 := Lib.hid (hq2.owns HO0.out fun k hk e => by have := HO0.out.lt k hk; omega)
  clear hq2 HLb HCb hl2 HO0
  simp only []
  go_wp2_with fail
  have hrl0 : r0.length < 2000 := by (have := hrl.2.2.2; simp at this; omega)
  go_loopg [4] r0.length (fun n v4 wr => QzRel p s q r0 n v4 w wr)
  case atStart => exact ⟨[], r0, 0, QInv.start q _, by simp; omega, HO2.out, HL2.out, HC2.out, rfl⟩
  case round =>
    obtain ⟨acc, r, cd, hinv, hlen, ho, hls, hc, hn⟩ := hrel
    have HI := Lib.hid hinv
    have HO := Lib.hid ho
    have HL := Lib.hid hls
    have HC := Lib.hid hc
    have HN := Lib.hid hn
    clear hinv ho hls hc hn HL2 HC2 HO2
    cases r with
    | nil =>
      go_wp2_with fail
      refine (isDone_at HL (v := true) (by simp)).mono ?_
      rintro e wq11 ⟨rfl, hq11⟩
      have HL11 := Lib.hid (HL.out.moved hq11)
      have HC11 := Lib.hid (HC.out.trans (hq11.mono fun _ _ h => h.elim))
      have HO11 := Lib.hid (hq11.owns HO.out fun _ _ h => h)
      clear hq11 HL HC HO
      simp only []
      go_wp2_with fail
      refine (tell_calls (v := 1) HL11).mono ?_
      rintro e wq12 ⟨rfl, hl12, hq12⟩
      have HL12 := Lib.hid hl12
      have HC12 := Lib.hid (HC11.out.trans hq12)
      have HO12 := Lib.hid (hq12.owns HO11.out fun k hk e => by have := HO11.out.lt k hk; omega)
      clear hq12 HL11 HC11 hl12 HO11
      simp only []
      go_wp2_with fail
      go_ret
      exact HI.out.bad (strB_nil q) HL12.out HC12.out _
    | cons c t =>
      have htl : t.length < 2000 := by simp at hlen; omega
      have hal : acc.length < 2000 := by simp at hlen; omega
      by_cases h10 : c = 10
      · subst h10
        go_wp2_with fail
        refine (isDone_at HL (v := false) (by simp)).mono ?_
        rintro e wq21 ⟨rfl, hq21⟩
        have HL21 := Lib.hid (HL.out.moved hq21)
        have HC21 := Lib.hid (HC.out.trans (hq21.mono fun _ _ h => h.elim))
        have HO21 := Lib.hid (hq21.owns HO.out fun _ _ h => h)
        clear hq21 HL HC HO
        simp only []
        go_wp2_with fail
        refine (byteAt_at HL21 0 (rfl) (by omega) (show ((hb ((10 : UInt8) :: t) : Nat) : Int) = 10 from rfl)).mono ?_
        rintro e wq22 ⟨rfl, hq22⟩
        have HL22 := Lib.hid (HL21.out.moved hq22)
        have HC22 := Lib.hid (HC21.out.trans (hq22.mono fun _ _ h => h.elim))
        have HO22 := Lib.hid (hq22.owns HO21.out fun _ _ h => h)
        clear hq22 HL21 HC21 HO21
        simp only []
        go_wp2_with fail
        refine (tell_calls (v := 1) HL22).mono ?_
        rintro e wq23 ⟨rfl, hl23, hq23⟩
        have HL23 := Lib.hid hl23
        have HC23 := Lib.hid (HC22.out.trans hq23)
        have HO23 := Lib.hid (hq23.owns HO22.out fun k hk e => by have := HO22.out.lt k hk; omega)
        clear hq23 HL22 HC22 hl23 HO22
        simp only []
        go_wp2_with fail
        go_ret
        exact HI.out.bad (strB_10 q t) HL23.out HC23.out _
      · have g10 : ((c.toNat : Int) == 10) = false := by
          have : c.toNat ≠ 10 := fun e => h10 (UInt8.toNat_inj.1 (by rw [e]; rfl))
          simp only [beq_eq_false_iff_ne, ne_eq]
          omega
        have H10 := Lib.hid h10
        clear h10
        go_wp2_with fail
        refine (isDone_at HL (v := false) (by simp)).mono ?_
        rintro e wq31 ⟨rfl, hq31⟩
        have HL31 := Lib.hid (HL.out.moved hq31)
        have HC31 := Lib.hid (HC.out.trans (hq31.mono fun _ _ h => h.elim))
        have HO31 := Lib.hid (hq31.owns HO.out fun _ _ h => h)
        clear hq31 HL HC HO
        simp only []
        go_wp2_with fail
        refine (byteAt_at HL31 0 (rfl) (by omega) (show ((hb (c :: t) : Nat) : Int) = (c.toNat : Int) from rfl)).mono ?_
        rintro e wq32 ⟨rfl, hq32⟩
        have HL32 := Lib.hid (HL31.out.moved hq32)
        have HC32 := Lib.hid (HC31.out.trans (hq32.mono fun _ _ h => h.elim))
        have HO32 := Lib.hid (hq32.owns HO31.out fun _ _ h => h)
        clear hq32 HL31 HC31 HO31
        simp only []
        go_wp2_with fail
        refine (byteAt_at HL32 0 (rfl) (by omega) (show ((hb (c :: t) : Nat) : Int) = (c.toNat : Int) from rfl)).mono ?_
        rintro e wq33 ⟨rfl, hq33⟩
        have HL33 := Lib.hid (HL32.out.moved hq33)
        have HC33 := Lib.hid (HC32.out.trans (hq33.mono fun _ _ h => h.elim))
        have HO33 := Lib.hid (hq33.owns HO32.out fun _ _ h => h)
        clear hq33 HL32 HC32 HO32
        simp only []
        by_cases hcq : c = q
        · subst hcq
          go_wp2_with fail
          refine (step_calls HL33).mono ?_
          rintro e wq34 ⟨rfl, hl34, hq34⟩
          have HL34 := Lib.hid hl34
          have HC34 := Lib.hid (HC33.out.trans hq34)
          have HO34 := Lib.hid (hq34.owns HO33.out fun k hk e => by have := HO33.out.lt k hk; omega)
          clear hq34 HL33 HC33 hl34 HO33
          have hcv := own_convert HO34.out
          simp only []
          go_wp2_with fail
          go_ret
          exact HI.out.close HQ10.out HL34.out HC34.out
        · have gq : ((c.toNat : Int) == (q.toNat : Int)) = false := by
            have : c.toNat ≠ q.toNat := fun e => hcq (UInt8.toNat_inj.1 e)
            simp only [beq_eq_false_iff_ne, ne_eq]
            omega
          have HCQ := Lib.hid hcq
          clear hcq
          by_cases h92 : c = 92
          · subst h92
            have e92 : ((UInt8.toNat 92 : Nat) : Int) = 92 := rfl
            have gq2 : ((92 : Int) == (q.toNat : Int)) = false := gq
            clear gq g10
            simp only [e92]
            have HLz := HL33
            obtain ⟨i, h1, h2, h3⟩ := HL33.out.c1
            have h0 := HL33.out.c0
            have hsz := HL33.out.sz
            have hdl := drop_len h2
            have hw : IntKind.i64.wrap ((i : Int) + 1) = (i : Int) + 1 := by rw [IntKind.wrap_i64]; omega
            clear h2
            cases t with
            | nil =>
              have g1 : (s.size : Int) ≤ (i : Int) + 1 := by simp at hdl; omega
              go_wp2_with fail
              refine wp_region_noPanic ?_
              go_region_law (fail)
              all_goals refine NoPanic.normal ?_
              all_goals go_wp2_with fail
              all_goals refine (tell_calls (v := 1) (Lib.hid (HL33.out.moved (by first | exact Ch.refl _ _ | exact (Ch.refl _ _).drew | exact (Ch.refl _ _).drew.drew)))).mono ?_
              all_goals rintro e wt ⟨rfl, hlt, hqt⟩
              all_goals have HLt := Lib.hid hlt
              all_goals have HCt := Lib.hid (HC33.out.trans (Ch.trans (by first | exact Ch.refl _ _ | exact (Ch.refl _ _).drew | exact (Ch.refl _ _).drew.drew) hqt))
              all_goals clear hlt hqt
              all_goals simp only []
              all_goals go_wp2_with fail
              all_goals go_ret
              all_goals exact HI.out.bad (strB_bs q HQ92.out) HLt.out HCt.out _
            | cons d u =>
              have g1 : ¬ (s.size : Int) ≤ (i : Int) + 1 := by simp at hdl; omega
              go_wp2_with fail
              refine wp_region_noPanic ?_
              go_region_law (fail)
              all_goals refine NoPanic.normal ?_
              all_goals go_wp2_with fail
              all_goals refine (escape_calls (Lib.hid (HL33.out.moved (by first | exact Ch.refl _ _ | exact (Ch.refl _ _).drew | exact (Ch.refl _ _).drew.drew)))).mono ?_
              all_goals rintro e we hez
              all_goals obtain ⟨bb, r9, cd9, rfl, hl9, hi9, hn9⟩ := HI.out.esc HQ92.out hez
              all_goals have hq9 : Ch (· = p) wq33 we := Ch.trans (by first | exact Ch.refl _ _ | exact (Ch.refl _ _).drew | exact (Ch.refl _ _).drew.drew) hez.1
              all_goals have HL9 := Lib.hid hl9
              all_goals have HC9 := Lib.hid (HC33.out.trans hq9)
              all_goals have HO9 := Lib.hid (hq9.owns HO33.out fun k hk e => by have := HO33.out.lt k hk; omega)
              all_goals have HI9 := Lib.hid hi9
              all_goals have HN9 := Lib.hid hn9
              all_goals clear hez hl9 hi9 hn9 hq9 h1 h0
              all_goals simp only []
              all_goals go_wp2_with (at_builtin; refine wpList_append_lies _ rfl (.tmp 41) (.tmp 44) 36 rfl w.heap.size 5 i0 _ 1 1 Tryz.underlying36 I0.out Z0.out Z1.out Z2.out rfl (by omega) _ _ _ rfl (HO9.out.alloc _) ⟨we.heap.size, 0, none⟩ 1 1 [.int .u8 (bb.toNat : Int)] rfl rfl (World.news_of_block (heap_alloc_new we _)) (by intro y hy; simp at hy; subst hy; rfl) (by omega) (by unfold maxLen; omega) (by omega) (by have := HC9.out.size; simp; omega) (we.heap.size + 1) (by simp) ?_; intro ga capa wa howna hgrowa hata hlta
                                     have hLa := Ls.keep (HL9.out.moved ((Ch.refl _ _).alloc _)) (T := fun i => w.heap.size ≤ i) (Ch.grown (Ch.refl _ _) hgrowa (fun i hi _ => by have := HO9.out.lt i hi; omega)) (by omega)
                                     have hCa : Ch (· = p) w wa := (HC9.out.alloc _).grown hgrowa (fun i hi hlt => by have := HO9.out.lt i hi; omega)
                                     have HLa := Lib.hid hLa
                                     have HCa := Lib.hid hCa
                                     have HOa := Lib.hid howna
                                     clear hLa hCa howna hgrowa hata hlta)
              all_goals have hgk : r9.length < gk := by (have h1 := HN.out; have h2 := HN9.out; simp at h1; omega)
              all_goals go_roundg r9.length
              all_goals first | (case measure => omega) | skip
              all_goals refine ⟨acc ++ [bb], r9, _, HI9.out, by have h2 := HN9.out; simp at hlen ⊢; omega, ?_, HLa.out, HCa.out, rfl⟩
              all_goals rw [bcs, List.length_append]
              all_goals exact HOa.out
          · have g92 : ((c.toNat : Int) == 92) = false := by
              have : c.toNat ≠ 92 := fun e => h92 (UInt8.toNat_inj.1 (by rw [e]; rfl))
              simp only [beq_eq_false_iff_ne, ne_eq]
              omega
            have H92 := Lib.hid h92
            clear h92
            go_wp2_with (at_builtin; refine wpList_append_lies _ rfl (.tmp 46) (.tmp 48) 36 rfl w.heap.size 5 i0 _ 1 1 Tryz.underlying36 I0.out Z0.out Z1.out Z2.out rfl (by omega) _ _ _ rfl (HO33.out.alloc _) ⟨wq33.heap.size, 0, none⟩ 1 1 [.int .u8 (c.toNat : Int)] rfl rfl (World.news_of_block (heap_alloc_new wq33 _)) (by intro y hy; simp at hy; subst hy; rfl) (by omega) (by unfold maxLen; omega) (by omega) (by have := HC33.out.size; simp; omega) (wq33.heap.size + 1) (by simp) ?_; intro ga capa wa howna hgrowa hata hlta
                         have hLa := Ls.keep (HL33.out.moved ((Ch.refl _ _).alloc _)) (T := fun i => w.heap.size ≤ i) (Ch.grown (Ch.refl _ _) hgrowa (fun i hi _ => by have := HO33.out.lt i hi; omega)) (by omega)
                         have hCa : Ch (· = p) w wa := (HC33.out.alloc _).grown hgrowa (fun i hi hlt => by have := HO33.out.lt i hi; omega)
                         have HLa := Lib.hid hLa
                         have HCa := Lib.hid hCa
                         have HOa := Lib.hid howna
                         clear hLa hCa howna hgrowa hata hlta)
            refine (step_calls HLa).mono ?_
            rintro e wq34 ⟨rfl, hl34, hq34⟩
            have HL34 := Lib.hid hl34
            have HC34 := Lib.hid (HCa.out.trans hq34)
            have HO34 := Lib.hid (hq34.owns HOa.out fun k hk e => by have := HOa.out.lt k hk; omega)
            clear hq34 HLa HCa hl34 HOa
            simp only []
            go_wp2_with fail
            have hgk : t.length < gk := by (have := HN.out; simp at this; omega)
            go_roundg t.length
            case measure => omega
            case rel =>
              refine ⟨acc ++ [c], t, _, HI.out.chr H10.out HCQ.out H92.out, by simp at hlen ⊢; omega, ?_, HL34.out, HC34.out, rfl⟩
              rw [bcs, List.length_append]
              exact HO34.out
end Go.Proofs.YtbgjjbffpckimaaGreatDoor

namespace Go.Proofs.YtbgjjbffpckimaaGreatDoor
set_option linter.all false
open Go.RowKit

theorem runv_cons (m : Nat) (c : UInt8) (l : Bs) : runv m (c :: l) = runv (if m < 1000000000000000 then 10 * m + (c.toNat - 48) else m) l := rfl
def RnRel (p : Nat) (s : ByteArray) (r : Bs) (m : Nat) (cd : Int) (n : Nat) (v1 v6 : Value) (w0 wr : World) : Prop :=
  ∃ m1 k r1, v1 = .int .i64 ((m1 : Nat) : Int) ∧ v6 = .int .i64 ((k : Nat) : Int) ∧ runv m1 (r1.takeWhile isDec) = runv m (r.takeWhile isDec) ∧ k + (r1.takeWhile isDec).length = (r.takeWhile isDec).length ∧ r1.dropWhile isDec = r.dropWhile isDec ∧
    m1 ≤ 9999999999999999 ∧ Ls wr p s r1 cd ∧ Ch (· = p) w0 wr ∧ n = r1.length

set_option maxRecDepth 100000 in
set_option maxHeartbeats 4000000 in
theorem run_calls {w : World} {p : Nat} {s : ByteArray} {r : Bs} {cd : Int} {m : Nat} (H : Hid (Ls w p s r cd)) (hm : m ≤ 9999999999999999) :
    Calls Tryz.prog 85 #[ptr p, .int .i64 (m : Int)] w fun e w' => e = .returned (.tuple #[.int .i64 (runv m (r.takeWhile isDec) : Int), .int .i64 ((r.takeWhile isDec).length : Int)]) ∧ Ls w' p s (r.dropWhile isDec) cd ∧ Ch (· = p) w w' := by
  have hpl := H.out.lt
  have hrl := H.out.nls
  have htl : (r.takeWhile isDec).length ≤ r.length := (List.takeWhile_sublist _).length_le
  generalize hT : (r.takeWhile isDec).length = T at htl
  have HT := Lib.hid hT
  clear hT
  go_enter Tryz.func85, Tryz.ntmps85
  go_wp2_with fail
  go_loopg [1, 6] r.length (fun n v1 v6 wr => RnRel p s r m cd n v1 v6 w wr)
  case atStart => exact ⟨m, 0, r, rfl, rfl, rfl, by simp, rfl, hm, H.out, Ch.refl _ _, rfl⟩
  case round =>
    obtain ⟨m1, k, r1, rfl, rfl, hrun, hcnt, hdr, hm1, hls, hc, hn⟩ := hrel
    have HR := Lib.hid hrun
    have HK := Lib.hid hcnt
    have HD := Lib.hid hdr
    have HL := Lib.hid hls
    have HC := Lib.hid hc
    have HN := Lib.hid hn
    have hkt : k ≤ T := by rw [← HT.out]; omega
    clear hrun hcnt hdr hls hc hn
    cases hd : hdIs isDec r1 with
    | false =>
      have htk : r1.takeWhile isDec = [] ∧ r1.dropWhile isDec = r1 := by
        cases r1 with
        | nil => exact ⟨rfl, rfl⟩
        | cons c t =>
          have hc : isDec c = false := hd
          rw [List.takeWhile_cons, List.dropWhile_cons, hc]
          exact ⟨rfl, rfl⟩
      have HTK := Lib.hid htk
      have hnd : nDec (hb r1) = false := by rw [nDec_hb]; exact hd
      clear htk hd
      go_wp2_with fail
      refine (byteAt_at HL 0 (rfl) (by omega) (show ((hb r1 : Nat) : Int) = _ from rfl)).mono ?_
      rintro e wq1 ⟨rfl, hq1⟩
      have HL1 := Lib.hid (HL.out.moved hq1)
      have HC1 := Lib.hid (HC.out.trans (hq1.mono fun _ _ h => h.elim))
      clear hq1 HL HC
      simp only []
      go_wp2_with fail
      refine (digit_calls (b := hb r1)).mono ?_
      rintro e wd ⟨rfl, rfl⟩
      rw [hnd]
      clear hnd
      simp only []
      go_wp2_with fail
      go_ret2
      refine ⟨?_, by rw [← HD.out, HTK.out.2]; exact HL1.out, HC1.out⟩
      have e1 : runv m (r.takeWhile isDec) = m1 := by rw [← HR.out, HTK.out.1]; rfl
      have e2 : T = k := by rw [← HT.out, ← HK.out, HTK.out.1]; rfl
      rw [e1, e2]
      rfl
    | true =>
      cases r1 with
      | nil => cases hd
      | cons c t =>
        have hcd : 48 ≤ c.toNat ∧ c.toNat ≤ 57 := by
          have : isDec c = true := hd
          simpa [isDec] using this
        have HCD := Lib.hid hcd
        have HDC : Hid (isDec c = true) := Lib.hid hd
        have hnd : nDec c.toNat = true := hd
        have htk : (c :: t).takeWhile isDec = c :: t.takeWhile isDec := by rw [List.takeWhile_cons, if_pos HDC.out]
        have hdk : (c :: t).dropWhile isDec = t.dropWhile isDec := by rw [List.dropWhile_cons, if_pos HDC.out]
        rw [htk] at HR HK
        rw [hdk] at HD
        rw [runv_cons] at HR
        rw [List.length_cons] at HK
        have hkt2 : k + 1 ≤ T := by (have h1 := HK.out; have h2 := HT.out; omega)
        clear hd htk hdk
        by_cases hb15 : m1 < 1000000000000000
        · rw [if_pos hb15] at HR
          have g15 : (m1 : Int) < 1000000000000000 := by omega
          have hw1 : IntKind.i64.wrap (10 * (m1 : Int)) = 10 * (m1 : Int) := by rw [IntKind.wrap_i64]; omega
          have hw2 : IntKind.u8.wrap ((c.toNat : Int) - 48) = (c.toNat : Int) - 48 := by rw [IntKind.wrap_u8]; omega
          have hw3 : IntKind.i64.wrap ((c.toNat : Int) - 48) = (c.toNat : Int) - 48 := by rw [IntKind.wrap_i64]; omega
          have hw4 : IntKind.i64.wrap (10 * (m1 : Int) + ((c.toNat : Int) - 48)) = 10 * (m1 : Int) + ((c.toNat : Int) - 48) := by rw [IntKind.wrap_i64]; omega
          have hw5 : IntKind.i64.wrap ((k : Int) + 1) = (k : Int) + 1 := by rw [IntKind.wrap_i64]; omega
          have HB15 := Lib.hid hb15
          have HM1 := Lib.hid hm1
          clear hb15 hm1 hm hcd
          go_wp2_with fail
          refine (byteAt_at HL 0 (rfl) (by omega) (show ((hb (c :: t) : Nat) : Int) = (c.toNat : Int) from rfl)).mono ?_
          rintro e wq31 ⟨rfl, hq31⟩
          have HL31 := Lib.hid (HL.out.moved hq31)
          have HC31 := Lib.hid (HC.out.trans (hq31.mono fun _ _ h => h.elim))
          clear hq31 HL HC
          simp only []
          go_wp2_with fail
          refine (digit_calls (b := c.toNat)).mono ?_
          rintro e wd ⟨rfl, rfl⟩
          rw [hnd]
          simp only []
          go_wp2_with fail
          refine (byteAt_at HL31 0 (rfl) (by omega) (show ((hb (c :: t) : Nat) : Int) = (c.toNat : Int) from rfl)).mono ?_
          rintro e wq32 ⟨rfl, hq32⟩
          have HL32 := Lib.hid (HL31.out.moved hq32)
          have HC32 := Lib.hid (HC31.out.trans (hq32.mono fun _ _ h => h.elim))
          clear hq32 HL31 HC31
          simp only []
          go_wp2_with fail
          refine (step_calls HL32).mono ?_
          rintro e wq33 ⟨rfl, hl33, hq33⟩
          have HL33 := Lib.hid hl33
          have HC33 := Lib.hid (HC32.out.trans hq33)
          clear hq33 HL32 HC32 hl33
          simp only []
          go_wp2_with fail
          have hgk : t.length < gk := by (have := HN.out; simp at this; omega)
          go_roundg t.length
          case measure => omega
          case rel =>
            refine ⟨10 * m1 + (c.toNat - 48), k + 1, t, ?_, rfl, HR.out, by have := HK.out; omega, HD.out, by have h1 := HB15.out; have h2 := HM1.out; have h3 := HCD.out; omega, HL33.out, HC33.out, rfl⟩
            exact congrArg (Value.int .i64) (by have h3 := HCD.out; omega)
        · rw [if_neg hb15] at HR
          have g15 : decide ((m1 : Int) < 1000000000000000) = false := decide_eq_false (by omega)
          have hw5 : IntKind.i64.wrap ((k : Int) + 1) = (k : Int) + 1 := by rw [IntKind.wrap_i64]; omega
          have HB15 := Lib.hid hb15
          have HM1 := Lib.hid hm1
          clear hb15 hm1 hm hcd
          go_wp2_with fail
          refine (byteAt_at HL 0 (rfl) (by omega) (show ((hb (c :: t) : Nat) : Int) = (c.toNat : Int) from rfl)).mono ?_
          rintro e wq21 ⟨rfl, hq21⟩
          have HL21 := Lib.hid (HL.out.moved hq21)
          have HC21 := Lib.hid (HC.out.trans (hq21.mono fun _ _ h => h.elim))
          clear hq21 HL HC
          simp only []
          go_wp2_with fail
          refine (digit_calls (b := c.toNat)).mono ?_
          rintro e wd ⟨rfl, rfl⟩
          rw [hnd]
          simp only []
          go_wp2_with fail
          refine (step_calls HL21).mono ?_
          rintro e wq22 ⟨rfl, hl22, hq22⟩
          have HL22 := Lib.hid hl22
          have HC22 := Lib.hid (HC21.out.trans hq22)
          clear hq22 HL21 HC21 hl22
          simp only []
          go_wp2_with fail
          have hgk : t.length < gk := by (have := HN.out; simp at this; omega)
          go_roundg t.length
          case measure => omega
          case rel =>
            refine ⟨m1, k + 1, t, ?_, rfl, HR.out, by have := HK.out; omega, HD.out, by have h1 := HB15.out; have h2 := HM1.out; have h3 := HCD.out; omega, HL22.out, HC22.out, rfl⟩
            exact congrArg (Value.int .i64) (by have h3 := HCD.out; omega)

/-- The value of a hexadecimal digit, -1 for another byte. -/
def nHex (b : Nat) : Int := if nDec b then (b : Int) - 48 else if 97 ≤ b ∧ b ≤ 102 then (b : Int) - 87 else if 65 ≤ b ∧ b ≤ 70 then (b : Int) - 55 else -1

set_option maxRecDepth 100000 in
set_option maxHeartbeats 4000000 in
theorem hex_calls {w : World} {b : Nat} (hb8 : b < 256) : Calls Tryz.prog 83 #[.int .u8 (b : Int)] w fun e w' => e = .returned (.int .i64 (nHex b)) ∧ w' = w := by
  by_cases h1 : 48 ≤ b ∧ b ≤ 57
  · have e : nHex b = (b : Int) - 48 := by unfold nHex nDec; rw [if_pos (by simp; omega)]
    have g1 : (48 : Int) ≤ (b : Int) := by omega
    have g2 : (b : Int) ≤ 57 := by omega
    have hw2 : IntKind.u8.wrap ((b : Int) - 48) = (b : Int) - 48 := by rw [IntKind.wrap_u8]; omega
    have hw3 : IntKind.i64.wrap ((b : Int) - 48) = (b : Int) - 48 := by rw [IntKind.wrap_i64]; omega
    rw [e]
    clear h1 e
    go_enter Tryz.func83, Tryz.ntmps83
    go_wp2_with fail
    go_ret
    exact ⟨rfl, rfl⟩
  · by_cases h2 : 97 ≤ b ∧ b ≤ 102
    · have e : nHex b = (b : Int) - 97 + 10 := by unfold nHex nDec; rw [if_neg (by simp; omega), if_pos h2]; omega
      have g1 : (48 : Int) ≤ (b : Int) := by omega
      have g2 : ¬ (b : Int) ≤ 57 := by omega
      have g3 : (97 : Int) ≤ (b : Int) := by omega
      have g4 : (b : Int) ≤ 102 := by omega
      have hw2 : IntKind.u8.wrap ((b : Int) - 97) = (b : Int) - 97 := by rw [IntKind.wrap_u8]; omega
      have hw3 : IntKind.i64.wrap ((b : Int) - 97) = (b : Int) - 97 := by rw [IntKind.wrap_i64]; omega
      have hw4 : IntKind.i64.wrap ((b : Int) - 97 + 10) = (b : Int) - 97 + 10 := by rw [IntKind.wrap_i64]; omega
      rw [e]
      clear h1 h2 e
      go_enter Tryz.func83, Tryz.ntmps83
      go_wp2_with fail
      go_ret
      exact ⟨rfl, rfl⟩
    · by_cases h3 : 65 ≤ b ∧ b ≤ 70
      · have e : nHex b = (b : Int) - 65 + 10 := by unfold nHex nDec; rw [if_neg (by simp; omega), if_neg h2, if_pos h3]; omega
        have g1 : (48 : Int) ≤ (b : Int) := by omega
        have g2 : ¬ (b : Int) ≤ 57 := by omega
        have g3 : ¬ (97 : Int) ≤ (b : Int) := by omega
        have g4 : (65 : Int) ≤ (b : Int) := by omega
        have g5 : (b : Int) ≤ 70 := by omega
        have hw2 : IntKind.u8.wrap ((b : Int) - 65) = (b : Int) - 65 := by rw [IntKind.wrap_u8]; omega
        have hw3 : IntKind.i64.wrap ((b : Int) - 65) = (b : Int) - 65 := by rw [IntKind.wrap_i64]; omega
        have hw4 : IntKind.i64.wrap ((b : Int) - 65 + 10) = (b : Int) - 65 + 10 := by rw [IntKind.wrap_i64]; omega
        rw [e]
        clear h1 h2 h3 e
        go_enter Tryz.func83, Tryz.ntmps83
        go_wp2_with fail
        go_ret
        exact ⟨rfl, rfl⟩
      · have e : nHex b = -1 := by unfold nHex nDec; rw [if_neg (by simp; omega), if_neg h2, if_neg h3]
        rw [e]
        have G1 := Lib.hid h1
        have G2 := Lib.hid h2
        have G3 := Lib.hid h3
        clear h1 h2 h3 e
        go_enter Tryz.func83, Tryz.ntmps83
        go_wp2_with fail
        all_goals first
          | (go_ret; exact ⟨rfl, rfl⟩)
          | (exfalso; have a1 := G1.out; have a2 := G2.out; have a3 := G3.out; simp at *; omega)
end Go.Proofs.YtbgjjbffpckimaaGreatDoor

namespace Go.Proofs.YtbgjjbffpckimaaGreatDoor
set_option linter.all false
open Go.RowKit

theorem conv_blk {w : World} {B : Nat} {c : UInt8} {v : Int} (hv : v = (c.toNat : Int)) (h : w.heap[B]? = some (.cells #[.int .u8 v] 5 (0, 0))) :
    (convert 36 9 (.slice (some ⟨B, 0, none⟩) 1 1)).run Tryz.prog w = .ok (.string ⟨#[c]⟩) w := by
  refine own_convert (l := [c]) (base := 0) ⟨rfl, .inr ⟨B, 1, _, rfl, Nat.zero_le _, h, Nat.le_refl _, by unfold maxLen; omega, rfl, ?_⟩⟩
  rw [hv]
  rfl
theorem digs_lt {n : Nat} (h : n < 10) : digs n = [UInt8.ofNat (48 + n)] := by rw [digs, dif_pos h]
theorem digs_ge {n : Nat} (h : ¬ n < 10) : digs n = digs (n / 10) ++ [UInt8.ofNat (48 + n % 10)] := by rw [digs, dif_neg h]
theorem ofNat_val {n : Nat} (h : n < 256) : ((UInt8.ofNat n).toNat : Int) = (n : Int) := by simp [UInt8.toNat_ofNat']; omega

theorem app_str (a b : Bs) : (⟨a.toArray⟩ : ByteArray) ++ ⟨b.toArray⟩ = ⟨(a ++ b).toArray⟩ := by
  apply ByteArray.ext
  simp [ByteArray.data_append]
theorem digs_len : ∀ (k n : Nat), n < 10 ^ (k + 1) → (digs n).length ≤ k + 1
  | 0, n, h => by rw [digs_lt (by simpa using h)]; simp
  | k + 1, n, h => by
    by_cases h10 : n < 10
    · rw [digs_lt h10]; simp
    · have := digs_len k (n / 10) (by rw [Nat.pow_succ] at h; omega)
      rw [digs_ge h10, List.length_append]
      simp
      omega

set_option maxRecDepth 100000 in
set_option maxHeartbeats 4000000 in
theorem lxDigits_calls : ∀ (n : Nat), n ≤ 9999999999999999 → ∀ (w : World) (a : Int), a = (n : Int) →
    Calls Tryz.prog 99 #[.int .i64 a] w fun e w' => e = .returned (.string ⟨(digs n).toArray⟩) ∧ Ch (fun _ => False) w w' := by
  intro n
  induction n using Nat.strongRecOn with
  | _ n ih =>
  intro hn w a ha
  subst ha
  by_cases h10 : n < 10
  · obtain ⟨c, hc1, hc2⟩ : ∃ c : UInt8, digs n = [c] ∧ 48 + (n : Int) = (c.toNat : Int) := ⟨_, digs_lt h10, by rw [ofNat_val (by omega)]; omega⟩
    have HD := Lib.hid hc1
    have g1 : (n : Int) < 10 := by omega
    have hw1 : IntKind.i64.wrap (48 + (n : Int)) = 48 + (n : Int) := by rw [IntKind.wrap_i64]; omega
    have hw2 : IntKind.u8.wrap (48 + (n : Int)) = 48 + (n : Int) := by rw [IntKind.wrap_u8]; omega
    have hcv : ∀ w : World, (convert 36 9 (.slice (some ⟨w.heap.size, 0, none⟩) 1 1)).run Tryz.prog (w.alloc (.cells #[.int .u8 (48 + (n : Int))] 5)) = .ok (.string ⟨#[c]⟩) (w.alloc (.cells #[.int .u8 (48 + (n : Int))] 5)) :=
      fun w => conv_blk hc2 (heap_alloc_new w _)
    clear h10 ih hc1 hc2
    go_enter Tryz.func99, Tryz.ntmps99
    go_wp2_with fail
    go_ret
    exact ⟨by rw [HD.out]; rfl, (Ch.refl _ _).alloc _⟩
  · obtain ⟨c, hc1, hc2⟩ : ∃ c : UInt8, digs n = digs (n / 10) ++ [c] ∧ 48 + (n : Int) % 10 = (c.toNat : Int) := ⟨_, digs_ge h10, by rw [ofNat_val (by omega)]; omega⟩
    have HD := Lib.hid hc1
    have g1 : ¬ (n : Int) < 10 := by omega
    have hwq : IntKind.i64.wrap ((n : Int) / 10) = (n : Int) / 10 := by rw [IntKind.wrap_i64]; omega
    have htm : Int.tmod (n : Int) 10 = (n : Int) % 10 := Int.tmod_eq_emod_of_nonneg (by omega)
    have hdl := digs_len 15 (n / 10) (by omega)
    have hgl : (9223372036854775807 < (digs (n / 10)).length + 1) = False := eq_false (by omega)
    clear hdl
    have HIH : Hid (∀ (w1 : World), Calls Tryz.prog 99 #[.int .i64 ((n : Int) / 10)] w1 fun e w' => e = .returned (.string ⟨(digs (n / 10)).toArray⟩) ∧ Ch (fun _ => False) w1 w') := Lib.hid fun w1 =>
      ih (n / 10) (by omega) (by omega) w1 ((n : Int) / 10) (by omega)
    have hw1 : IntKind.i64.wrap (48 + (n : Int) % 10) = 48 + (n : Int) % 10 := by rw [IntKind.wrap_i64]; omega
    have hw2 : IntKind.u8.wrap (48 + (n : Int) % 10) = 48 + (n : Int) % 10 := by rw [IntKind.wrap_u8]; omega
    have HCB : Hid (∀ (w2 wb : World), Ch (fun _ => False) wb w2 → wb.heap[w.heap.size]? = some (.cells #[.int .u8 (48 + (n : Int) % 10)] 5 (0, 0)) → (convert 36 9 (.slice (some ⟨w.heap.size, 0, none⟩) 1 1)).run Tryz.prog w2 = .ok (.string ⟨#[c]⟩) w2) :=
      Lib.hid fun w2 wb h hb => conv_blk hc2 ((h.block w.heap.size (Array.getElem?_eq_some_iff.1 hb).1 id).trans hb)
    have HBW : Hid ((w.alloc (.cells #[.int .u8 (48 + (n : Int) % 10)] 5)).heap[w.heap.size]? = some (.cells #[.int .u8 (48 + (n : Int) % 10)] 5 (0, 0))) := Lib.hid (heap_alloc_new w _)
    have HBD : Hid ((w.alloc (.cells #[.int .u8 (48 + (n : Int) % 10)] 5)).drew.heap[w.heap.size]? = some (.cells #[.int .u8 (48 + (n : Int) % 10)] 5 (0, 0))) := Lib.hid (heap_alloc_new w _)
    have HBE : Hid ((w.alloc (.cells #[.int .u8 (48 + (n : Int) % 10)] 5)).drew.drew.heap[w.heap.size]? = some (.cells #[.int .u8 (48 + (n : Int) % 10)] 5 (0, 0))) := Lib.hid (heap_alloc_new w _)
    have hcv : ∀ w : World, (convert 36 9 (.slice (some ⟨w.heap.size, 0, none⟩) 1 1)).run Tryz.prog (w.alloc (.cells #[.int .u8 (48 + (n : Int) % 10)] 5)) = .ok (.string ⟨#[c]⟩) (w.alloc (.cells #[.int .u8 (48 + (n : Int) % 10)] 5)) :=
      fun w => conv_blk hc2 (heap_alloc_new w _)
    have hcd : ∀ w : World, (convert 36 9 (.slice (some ⟨w.heap.size, 0, none⟩) 1 1)).run Tryz.prog (w.alloc (.cells #[.int .u8 (48 + (n : Int) % 10)] 5)).drew = .ok (.string ⟨#[c]⟩) (w.alloc (.cells #[.int .u8 (48 + (n : Int) % 10)] 5)).drew :=
      fun w => conv_blk hc2 (heap_alloc_new w _)
    clear h10 ih hc1 hc2
    go_enter Tryz.func99, Tryz.ntmps99
    go_wp2_with fail
    refine wp_region_noPanic ?_
    go_region_law (go_simp; go_at_call 99; refine (HIH.out _).mono ?_; rintro e w2 ⟨rfl, hc⟩
                   first | (have hcv2 := HCB.out _ _ hc HBW.out) | (have hcv2 := HCB.out _ _ hc HBD.out) | (have hcv2 := HCB.out _ _ hc HBE.out) | skip)
    all_goals
      refine NoPanic.normal ?_
      go_wp2_with fail
      go_ret
      refine ⟨by rw [HD.out]; exact congrArg (fun x => Ending.returned (.string x)) (app_str _ [c]), ?_⟩
      first
      | exact ((Ch.refl _ _).trans hc)
      | exact ((Ch.refl _ _).trans hc).drew
      | exact (((Ch.refl _ _).trans hc).alloc _)
      | exact (((Ch.refl _ _).trans hc).alloc _).drew
      | exact (((Ch.refl _ _).trans hc).alloc _).drew.drew
      | exact ((Ch.refl _ _).trans hc).drew.drew
      | exact (((Ch.refl _ _).drew).trans hc)
      | exact (((Ch.refl _ _).drew).trans hc).drew
      | exact ((((Ch.refl _ _).drew).trans hc).alloc _)
      | exact ((((Ch.refl _ _).drew).trans hc).alloc _).drew
      | exact ((((Ch.refl _ _).drew).trans hc).alloc _).drew.drew
      | exact (((Ch.refl _ _).drew).trans hc).drew.drew
      | exact (((Ch.refl _ _).drew.drew).trans hc)
      | exact (((Ch.refl _ _).drew.drew).trans hc).drew
      | exact ((((Ch.refl _ _).drew.drew).trans hc).alloc _)
      | exact ((((Ch.refl _ _).drew.drew).trans hc).alloc _).drew
      | exact ((((Ch.refl _ _).drew.drew).trans hc).alloc _).drew.drew
      | exact (((Ch.refl _ _).drew.drew).trans hc).drew.drew
      | exact (((Ch.refl _ _).alloc _).trans hc)
      | exact (((Ch.refl _ _).alloc _).trans hc).drew
      | exact ((((Ch.refl _ _).alloc _).trans hc).alloc _)
      | exact ((((Ch.refl _ _).alloc _).trans hc).alloc _).drew
      | exact ((((Ch.refl _ _).alloc _).trans hc).alloc _).drew.drew
      | exact (((Ch.refl _ _).alloc _).trans hc).drew.drew
      | exact ((((Ch.refl _ _).alloc _).drew).trans hc)
      | exact ((((Ch.refl _ _).alloc _).drew).trans hc).drew
      | exact (((((Ch.refl _ _).alloc _).drew).trans hc).alloc _)
      | exact (((((Ch.refl _ _).alloc _).drew).trans hc).alloc _).drew
      | exact (((((Ch.refl _ _).alloc _).drew).trans hc).alloc _).drew.drew
      | exact ((((Ch.refl _ _).alloc _).drew).trans hc).drew.drew
      | exact ((((Ch.refl _ _).alloc _).drew.drew).trans hc)
      | exact ((((Ch.refl _ _).alloc _).drew.drew).trans hc).drew
      | exact (((((Ch.refl _ _).alloc _).drew.drew).trans hc).alloc _)
      | exact (((((Ch.refl _ _).alloc _).drew.drew).trans hc).alloc _).drew
      | exact (((((Ch.refl _ _).alloc _).drew.drew).trans hc).alloc _).drew.drew
      | exact ((((Ch.refl _ _).alloc _).drew.drew).trans hc).drew.drew
end Go.Proofs.YtbgjjbffpckimaaGreatDoor

namespace Go.Proofs.YtbgjjbffpckimaaGreatDoor
set_option linter.all false
open Go.RowKit

/-- The bits of a power of ten. -/
def ten : Nat := 4621819117588971520
def pw : Nat → Nat
  | 0 => 4607182418800017408
  | k + 1 => (floatBits .mul .f64 (pw k) ten).getD 0
theorem pw_all : ((List.range 22).all fun k => floatBits .mul .f64 (pw k) ten == some (pw (k + 1))) = true := by kernel_rfl
theorem pw_mul {k : Nat} (h : k < 22) : floatBits .mul .f64 (pw k) ten = some (pw (k + 1)) := by
  have := List.all_eq_true.1 pw_all k (List.mem_range.2 h)
  simpa using this

def PwRel (n m : Nat) (v0 v3 : Value) (w0 wr : World) : Prop :=
  ∃ k : Nat, v0 = .int .i64 (k : Int) ∧ k ≤ n ∧ v3 = .float .f64 (pw (n - k)) ∧ wr = w0 ∧ m = k
set_option maxRecDepth 100000 in
set_option maxHeartbeats 1000000 in
theorem power_calls {w : World} (n : Nat) {a : Int} (ha : a = (n : Int)) (hn : n ≤ 22) :
    Calls Tryz.prog 100 #[.int .i64 a] w fun e w' => e = .returned (.float .f64 (pw n)) ∧ w' = w := by
  subst ha
  go_enter Tryz.func100, Tryz.ntmps100
  go_wp2_with fail
  go_loopg [0, 3] n (fun m v0 v3 wr => PwRel n m v0 v3 w wr)
  case atStart => exact ⟨n, rfl, Nat.le_refl _, by rw [Nat.sub_self]; rfl, rfl, rfl⟩
  case round =>
    obtain ⟨k, rfl, hk, rfl, rfl, hm⟩ := hrel
    cases k with
    | zero =>
      go_wp2_with fail
      go_ret
      exact ⟨rfl, rfl⟩
    | succ k =>
      have g0 : ((0 : Int) < ((k + 1 : Nat) : Int)) := by omega
      have hw : IntKind.i64.wrap (((k + 1 : Nat) : Int) - 1) = (k : Int) := by rw [IntKind.wrap_i64]; omega
      have hmul := fun w => run_float_arith (P := Tryz.prog) w .mul 40 .f64 _ _ _ (pw_mul (k := n - (k + 1)) (by omega))
      rw [show n - (k + 1) + 1 = n - k by omega] at hmul
      unfold ten at hmul
      go_wp2_with fail
      go_roundg k
      case measure => omega
      case rel => exact ⟨k, rfl, by omega, rfl, rfl, rfl⟩
end Go.Proofs.YtbgjjbffpckimaaGreatDoor

namespace Go.Proofs.YtbgjjbffpckimaaGreatDoor
set_option linter.all false
open Go.RowKit

theorem near_le (f : Ieee.Format) (n : Nat) : f.nearest false n 0 ≤ f.infRung := by
  unfold Ieee.Format.nearest
  dsimp only
  split
  · exact Nat.zero_le _
  · exact Nat.min_le_right _ _
theorem read_le (f : Ieee.Format) {r : Nat} (h : r ≤ f.infRung) : (∃ s m e, f.read r = .number s m e) ∨ ∃ s, f.read r = .infinity s := by
  have hs := Ieee.Format.infRung_lt f
  have hm : r % f.signWeight = r := Nat.mod_eq_of_lt (Nat.lt_of_le_of_lt h hs)
  unfold Ieee.Format.read
  dsimp only
  rw [hm]
  split
  · exact .inl ⟨_, _, _, rfl⟩
  · split
    · exact .inl ⟨_, _, _, rfl⟩
    · rw [if_pos (by omega)]
      exact .inr ⟨_, rfl⟩
theorem flt_near (n : Nat) : floatOfInt .f64 (n : Int) = (FloatKind.f64.format).nearest false n 0 := by
  unfold floatOfInt FloatKind.nearest FloatKind.encode Ieee.Format.write
  have e : decide ((n : Int) < 0) = false := decide_eq_false (by omega)
  rw [e, Int.natAbs_natCast]
theorem flt_read (n : Nat) : (∃ s m e, (FloatKind.f64.format).read (floatOfInt .f64 (n : Int)) = .number s m e) ∨ ∃ s, (FloatKind.f64.format).read (floatOfInt .f64 (n : Int)) = .infinity s := by
  rw [flt_near]
  exact read_le _ (near_le _ n)
theorem pw_read_all : ((List.range 23).all fun k => match (FloatKind.f64.format).read (pw k) with | .number _ m _ => m != 0 | _ => false) = true := by kernel_rfl
theorem pw_read {k : Nat} (h : k ≤ 22) : ∃ s m e, (FloatKind.f64.format).read (pw k) = .number s m e ∧ m ≠ 0 := by
  have := List.all_eq_true.1 pw_read_all k (List.mem_range.2 (by omega))
  cases hd : (FloatKind.f64.format).read (pw k) with
  | number s m e => rw [hd] at this; exact ⟨s, m, e, rfl, by simpa using this⟩
  | infinity s => rw [hd] at this; cases this
  | nan s t => rw [hd] at this; cases this
theorem flt_mul (n : Nat) {k : Nat} (h : k ≤ 22) : ∃ r, floatBits .mul .f64 (floatOfInt .f64 (n : Int)) (pw k) = some r := by
  unfold floatBits
  dsimp only
  unfold Ieee.Format.mul
  obtain ⟨s, m, e, hy, hm⟩ := pw_read h
  rw [hy]
  rcases flt_read n with ⟨s2, m2, e2, hx⟩ | ⟨s2, hx⟩
  · rw [hx]; exact ⟨_, rfl⟩
  · rw [hx]
    simp [Ieee.Datum.product, hm]
theorem flt_quo (n : Nat) {k : Nat} (h : k ≤ 22) : ∃ r, floatBits .quo .f64 (floatOfInt .f64 (n : Int)) (pw k) = some r := by
  unfold floatBits
  dsimp only
  unfold Ieee.Format.div
  obtain ⟨s, m, e, hy, hm⟩ := pw_read h
  rw [hy]
  rcases flt_read n with ⟨s2, m2, e2, hx⟩ | ⟨s2, hx⟩
  · rw [hx]
    simp [Ieee.Datum.quotient, hm]
  · rw [hx]; exact ⟨_, rfl⟩
theorem run_flt_mul (n : Nat) {k : Nat} (h : k ≤ 22) : ∃ r, ∀ w, (binOp .mul 40 (.float .f64 (floatOfInt .f64 (n : Int))) (.float .f64 (pw k))).run Tryz.prog w = .ok (.float .f64 r) w := by
  obtain ⟨r, hr⟩ := flt_mul n h
  exact ⟨r, fun w => run_float_arith w .mul 40 .f64 _ _ _ hr⟩
theorem run_flt_quo (n : Nat) {k : Nat} (h : k ≤ 22) : ∃ r, ∀ w, (binOp .quo 40 (.float .f64 (floatOfInt .f64 (n : Int))) (.float .f64 (pw k))).run Tryz.prog w = .ok (.float .f64 r) w := by
  obtain ⟨r, hr⟩ := flt_quo n h
  exact ⟨r, fun w => run_float_arith w .quo 40 .f64 _ _ _ hr⟩
end Go.Proofs.YtbgjjbffpckimaaGreatDoor

namespace Go.Proofs.YtbgjjbffpckimaaGreatDoor
set_option linter.all false
open Go.RowKit

theorem strip_go {m : Nat} {e : Int} (h : m ≠ 0 ∧ m % 10 = 0) : strip m e = strip (m / 10) (e + 1) := by
  rw [strip, dif_pos h]
theorem strip_end {m : Nat} {e : Int} (h : ¬ (m ≠ 0 ∧ m % 10 = 0)) : strip m e = (m, e) := by
  rw [strip, dif_neg h]
theorem digs_pow : ∀ (k n : Nat), n ≤ k → n < 10 ^ (digs n).length := by
  intro k
  induction k with
  | zero => intro n h; obtain rfl : n = 0 := by omega
            rw [digs_lt (by omega)]; decide
  | succ k ih =>
    intro n h
    by_cases h10 : n < 10
    · rw [digs_lt h10]; simpa using h10
    · have h1 := ih (n / 10) (by omega)
      rw [digs_ge h10, List.length_append]
      show n < 10 ^ ((digs (n / 10)).length + 1)
      rw [Nat.pow_succ]
      omega
/-- What 'lxNumeral' gives. -/
def NuPost (z : Option Bs) (w : World) (en : Ending) (w' : World) : Prop :=
  Ch (fun _ => False) w w' ∧ ∃ f, (∃ x, z = some x ∧ en = .returned (.tuple #[.float .f64 f, .string ⟨x.toArray⟩, .bool true])) ∨ (z = none ∧ en = .returned (.tuple #[.float .f64 f, .string ⟨#[]⟩, .bool false]))
theorem NuPost.good {z : Option Bs} {w w' : World} {x : Bs} {f : Nat} {s : ByteArray} (hc : Ch (fun _ => False) w w') (hz : z = some x) (hs : s = (⟨x.toArray⟩ : ByteArray)) : NuPost z w (.returned (.tuple #[.float .f64 f, .string s, .bool true])) w' :=
  ⟨hc, f, .inl ⟨x, hz, by rw [hs]⟩⟩
theorem NuPost.bad {z : Option Bs} {w w' : World} {f : Nat} (hc : Ch (fun _ => False) w w') (hz : z = none) : NuPost z w (.returned (.tuple #[.float .f64 f, .string ⟨#[]⟩, .bool false])) w' :=
  ⟨hc, f, .inr ⟨hz, rfl⟩⟩
theorem NuPost.all {z : Option Bs} {w w' : World} {en : Ending} (h : NuPost z w en w') : Ch (fun _ => False) w w' ∧ ∃ f, en = .returned (.tuple #[.float .f64 f, .string ⟨(z.getD []).toArray⟩, .bool z.isSome]) := by
  obtain ⟨hc, f, ⟨x, rfl, rfl⟩ | ⟨rfl, rfl⟩⟩ := h
  · exact ⟨hc, f, rfl⟩
  · exact ⟨hc, f, rfl⟩
def N1Rel (m : Nat) (e : Int) (n : Nat) (v0 v1 : Value) (w0 wr : World) : Prop :=
  ∃ (m1 : Nat) (e1 : Int), v0 = .int .i64 (m1 : Int) ∧ v1 = .int .i64 e1 ∧ strip m1 e1 = strip m e ∧ m1 ≤ m ∧ e ≤ e1 ∧ e1 + (m1 : Int) ≤ e + (m : Int) ∧ wr = w0 ∧ n = m1
def N2Rel (N : Nat) (n : Nat) (v0 v1 : Value) (w0 wr : World) : Prop :=
  ∃ (m2 e2 : Nat), v0 = .int .i64 (m2 : Int) ∧ v1 = .int .i64 (e2 : Int) ∧ m2 * 10 ^ e2 = N ∧ e2 ≤ 15 ∧ Ch (fun _ => False) w0 wr ∧ n = e2

set_option maxRecDepth 100000 in
set_option maxHeartbeats 4000000 in
theorem lxNumeral_calls {w : World} {m : Nat} {e : Int} (hm : m ≤ 9999999999999999) (he : -3000 ≤ e ∧ e ≤ 3000) :
    Calls Tryz.prog 84 #[.int .i64 (m : Int), .int .i64 e] w (NuPost (numeral m e) w) := by
  go_enter Tryz.func84, Tryz.ntmps84
  go_wp2_with fail
  go_loopg [0, 1] m (fun n v0 v1 wr => N1Rel m e n v0 v1 w wr)
  case atStart => exact ⟨m, e, rfl, rfl, rfl, Nat.le_refl _, by omega, by omega, rfl, rfl⟩
  case round =>
    obtain ⟨m1, e1, rfl, rfl, hst, hm1, he1, hb, rfl, hn⟩ := hrel
    have htm : Int.tmod (m1 : Int) 10 = (m1 : Int) % 10 := Int.tmod_eq_emod_of_nonneg (by omega)
    have htd : Int.tdiv (m1 : Int) 10 = (m1 : Int) / 10 := Int.tdiv_eq_ediv_of_nonneg (by omega)
    by_cases hz : m1 ≠ 0 ∧ m1 % 10 = 0
    · have g1 : ((m1 : Int) == 0) = false := by simp; omega
      have g2 : ((m1 : Int) % 10 == 0) = true := by simp; omega
      have hw1 : IntKind.i64.wrap ((m1 : Int) / 10) = (m1 : Int) / 10 := by rw [IntKind.wrap_i64]; omega
      have hw2 : IntKind.i64.wrap (e1 + 1) = e1 + 1 := by rw [IntKind.wrap_i64]; omega
      have HZ := Lib.hid hz
      have HST := Lib.hid hst
      have hm0 : m1 / 10 < m1 := by omega
      clear hz hst hm
      go_wp2_with fail
      go_roundg (m1 / 10)
      case measure => omega
      case rel => exact ⟨m1 / 10, e1 + 1, congrArg (Value.int .i64) (by omega), rfl, by rw [← HST.out, strip_go HZ.out], by omega, by omega, by omega, rfl, rfl⟩
    · have hse := strip_end (e := e1) hz
      rw [hst] at hse
      by_cases h0 : m1 = 0
      · subst h0
        have hnu : numeral m e = some [48] := by unfold numeral; rw [hse]; rfl
        have HNU := Lib.hid hnu
        clear hz hst hse hnu
        go_wp2_with fail
        go_ret3
        exact ⟨Ch.refl _ _, _, .inl ⟨[48], HNU.out, rfl⟩⟩
      · have g1 : ((m1 : Int) == 0) = false := by simp; omega
        have g2 : ((m1 : Int) % 10 == 0) = false := by
          have : m1 % 10 ≠ 0 := fun h => hz ⟨h0, h⟩
          simp; omega
        have HSE := Lib.hid hse
        have hdl := digs_len 15 m1 (by omega)
        have hnu : numeral m e = if 0 ≤ e1 ∧ ((digs m1).length : Int) + e1 ≤ 15 then some (digs (m1 * 10 ^ e1.toNat)) else if e1 < -22 ∨ 22 < e1 then none else if e1 < 0 then some (digs m1 ++ [101, 45] ++ digs (-e1).toNat) else some (digs m1 ++ [101] ++ digs e1.toNat) := by
          unfold numeral; rw [hse]; dsimp only; rw [if_neg h0]
        have HM1 : Hid (m1 ≤ 9999999999999999) := Lib.hid (by omega)
        have hkb : e1 ≤ 20000000000000000 := by omega
        clear hz hst hse hm
        have hcf : ∀ w, (convert 3 40 (.int .i64 (m1 : Int))).run Tryz.prog w = .ok (.float .f64 (floatOfInt .f64 (m1 : Int))) w := fun w => run_convert_int_float w 3 40 .i64 .f64 (m1 : Int) (by rw [Tryz.underlying3]; rfl) Tryz.underlying40
        by_cases hneg : e1 < 0
        · have g3 : ¬ (0 : Int) ≤ e1 := by omega
          rw [if_neg (fun h => g3 h.1)] at hnu
          by_cases h22 : e1 < -22
          · rw [if_pos (.inl h22)] at hnu
            have HNU := Lib.hid hnu
            clear hnu hdl
            go_wp2_with fail
            go_ret3
            exact NuPost.bad (Ch.refl _ _) HNU.out
          · rw [if_neg (by omega), if_pos hneg] at hnu
            have g4 : ¬ (22 : Int) < e1 := by omega
            obtain ⟨k, hk⟩ : ∃ k : Nat, -e1 = (k : Int) := ⟨(-e1).toNat, by omega⟩
            have hk22 : k ≤ 22 := by omega
            have hkk : (-e1).toNat = k := by omega
            rw [hkk] at hnu
            have hdk := digs_len 15 k (by omega)
            have HNU := Lib.hid hnu
            have hwn : IntKind.i64.wrap (-e1) = (k : Int) := by rw [IntKind.wrap_i64]; omega
            have hl1 : (9223372036854775807 < (digs m1).length + 2) = False := eq_false (by omega)
            have hl2 : (9223372036854775807 < (digs m1).length + 2 + (digs k).length) = False := eq_false (by omega)
            obtain ⟨fr, hfr⟩ := run_flt_quo m1 hk22
            clear hnu hdl hdk hkk hk
            go_wp2_with fail
            refine (power_calls k rfl hk22).mono ?_
            rintro en wx ⟨rfl, rfl⟩
            simp only []
            go_wp2_with fail
            refine (lxDigits_calls m1 HM1.out _ _ rfl).mono ?_
            rintro en w1 ⟨rfl, hc1⟩
            have HC1 := Lib.hid hc1
            clear hc1
            simp only []
            go_wp2_with fail
            refine (lxDigits_calls k (by omega) _ _ rfl).mono ?_
            rintro en w2 ⟨rfl, hc2⟩
            have HC2 := Lib.hid (HC1.out.trans hc2)
            clear hc2
            simp only []
            go_wp2_with fail
            go_ret3
            exact NuPost.good HC2.out HNU.out ((congrArg (· ++ _) (app_str _ [101, 45])).trans (app_str _ _))
        · have g3 : (0 : Int) ≤ e1 := by omega
          obtain ⟨k, rfl⟩ : ∃ k : Nat, e1 = (k : Int) := ⟨e1.toNat, by omega⟩
          have hkk : ((k : Int)).toNat = k := by omega
          rw [hkk] at hnu
          have hw4 : IntKind.i64.wrap (((digs m1).length : Int) + (k : Int)) = ((digs m1).length : Int) + (k : Int) := by rw [IntKind.wrap_i64]; omega
          clear hkb
          by_cases h15 : (digs m1).length + k ≤ 15
          · rw [if_pos ⟨g3, by omega⟩] at hnu
            have HNU := Lib.hid hnu
            have g5 : ((digs m1).length : Int) + (k : Int) ≤ 15 := by omega
            have hN : m1 * 10 ^ k < 1000000000000000 := by
              have h1 := digs_pow m1 m1 (Nat.le_refl _)
              have h2 : m1 * 10 ^ k < 10 ^ (digs m1).length * 10 ^ k := Nat.mul_lt_mul_of_pos_right h1 (Nat.pow_pos (by omega))
              rw [← Nat.pow_add] at h2
              exact Nat.lt_of_lt_of_le h2 (Nat.pow_le_pow_right (by omega) h15)
            have HN15 := Lib.hid hN
            have hk15 : k ≤ 15 := by omega
            clear hnu hdl hkk hneg h15 hN
            go_wp2_with fail
            refine (lxDigits_calls m1 HM1.out _ _ rfl).mono ?_
            rintro en w1 ⟨rfl, hc1⟩
            have HC1 := Lib.hid hc1
            clear hc1
            simp only []
            go_wp2_with fail
            go_loopg [0, 1] k (fun n v0 v1 wx => N2Rel (m1 * 10 ^ k) n v0 v1 wr wx)
            case atStart => exact ⟨m1, k, rfl, rfl, rfl, hk15, HC1.out, rfl⟩
            case round =>
              obtain ⟨m2, e2, rfl, rfl, hN, he2, hc, hn⟩ := hrel
              have HC := Lib.hid hc
              clear hc
              cases e2 with
              | zero =>
                have hm2 : m1 * 10 ^ k = m2 := by rw [← hN]; simp
                rw [hm2] at HNU HN15
                have hcf2 : ∀ w, (convert 3 40 (.int .i64 (m2 : Int))).run Tryz.prog w = .ok (.float .f64 (floatOfInt .f64 (m2 : Int))) w := fun w => run_convert_int_float w 3 40 .i64 .f64 (m2 : Int) (by rw [Tryz.underlying3]; rfl) Tryz.underlying40
                have HM2 : Hid (m2 ≤ 9999999999999999) := Lib.hid (by have := HN15.out; omega)
                clear hN hm2
                go_wp2_with fail
                refine (lxDigits_calls m2 HM2.out _ _ rfl).mono ?_
                rintro en w3 ⟨rfl, hc3⟩
                have HC3 := Lib.hid (HC.out.trans hc3)
                clear hc3
                simp only []
                go_wp2_with fail
                go_ret3
                exact NuPost.good HC3.out HNU.out rfl
              | succ e2 =>
                have h1 : m2 * 10 * 10 ^ e2 = m1 * 10 ^ k := by rw [← hN, Nat.pow_succ, Nat.mul_assoc, Nat.mul_comm 10]
                have h2 : m2 * 10 ≤ m2 * 10 * 10 ^ e2 := Nat.le_mul_of_pos_right _ (Nat.pow_pos (by omega))
                have h3 : m2 * 10 < 1000000000000000 := by have := HN15.out; omega
                have H1 := Lib.hid h1
                have g9 : ((0 : Int) < ((e2 + 1 : Nat) : Int)) := by omega
                have hw7 : IntKind.i64.wrap ((m2 : Int) * 10) = (m2 : Int) * 10 := by rw [IntKind.wrap_i64]; omega
                have hw8 : IntKind.i64.wrap (((e2 + 1 : Nat) : Int) - 1) = (e2 : Int) := by rw [IntKind.wrap_i64]; omega
                clear hN h1 h2 h3
                go_wp2_with fail
                have hgk : e2 < gk := by omega
                go_roundg e2
                case measure => omega
                case rel => exact ⟨m2 * 10, e2, congrArg (Value.int .i64) (by omega), rfl, H1.out, by omega, HC.out, rfl⟩
          · rw [if_neg (fun h => h15 (by omega))] at hnu
            have g5 : ¬ ((digs m1).length : Int) + (k : Int) ≤ 15 := by omega
            by_cases h22 : 22 < k
            · rw [if_pos (.inr (by omega))] at hnu
              have HNU := Lib.hid hnu
              have g6 : (22 : Int) < (k : Int) := by omega
              clear hnu hdl hkk hneg h15
              go_wp2_with fail
              refine (lxDigits_calls m1 HM1.out _ _ rfl).mono ?_
              rintro en w1 ⟨rfl, hc1⟩
              have HC1 := Lib.hid hc1
              clear hc1
              simp only []
              go_wp2_with fail
              go_ret3
              exact NuPost.bad HC1.out HNU.out
            · rw [if_neg (by omega), if_neg hneg] at hnu
              have HNU := Lib.hid hnu
              have g6 : ¬ (22 : Int) < (k : Int) := by omega
              have g7 : ¬ (k : Int) < -22 := by omega
              have hk22 : k ≤ 22 := by omega
              have hdk := digs_len 15 k (by omega)
              have hl1 : (9223372036854775807 < (digs m1).length + 1) = False := eq_false (by omega)
              have hl2 : (9223372036854775807 < (digs m1).length + 1 + (digs k).length) = False := eq_false (by omega)
              obtain ⟨fr, hfr⟩ := run_flt_mul m1 hk22
              clear hnu hdl hdk hkk h15
              go_wp2_with fail
              refine (lxDigits_calls m1 HM1.out _ _ rfl).mono ?_
              rintro en w0 ⟨rfl, hc0⟩
              have HC0 := Lib.hid hc0
              clear hc0
              simp only []
              go_wp2_with fail
              refine (power_calls k rfl hk22).mono ?_
              rintro en wx ⟨rfl, rfl⟩
              simp only []
              go_wp2_with fail
              refine (lxDigits_calls m1 HM1.out _ _ rfl).mono ?_
              rintro en w1 ⟨rfl, hc1⟩
              have HC1 := Lib.hid (HC0.out.trans hc1)
              clear hc1
              simp only []
              go_wp2_with fail
              refine (lxDigits_calls k (by omega) _ _ rfl).mono ?_
              rintro en w2 ⟨rfl, hc2⟩
              have HC2 := Lib.hid (HC1.out.trans hc2)
              clear hc2
              simp only []
              go_wp2_with fail
              go_ret3
              exact NuPost.good HC2.out HNU.out ((congrArg (· ++ _) (app_str _ [101])).trans (app_str _ _))
end Go.Proofs.YtbgjjbffpckimaaGreatDoor

namespace Go.Proofs.YtbgjjbffpckimaaGreatDoor
set_option linter.all false
open Go.RowKit

theorem nHex_hex (c : UInt8) : (isHex c = true → nHex c.toNat = (hexd c : Int) ∧ hexd c < 16) ∧ (isHex c = false → nHex c.toNat = -1) := by
  unfold isHex nHex hexd isDec nDec
  by_cases h1 : 48 ≤ c.toNat ∧ c.toNat ≤ 57
  · simp [h1]; omega
  · by_cases h2 : 97 ≤ c.toNat ∧ c.toNat ≤ 102
    · have h3 : ¬ (c.toNat ≤ 57) := by omega
      simp [h2, h3]; omega
    · by_cases h3 : 65 ≤ c.toNat ∧ c.toNat ≤ 70
      · have h4 : ¬ (c.toNat ≤ 57) := by omega
        have h5 : ¬ (97 ≤ c.toNat) := by omega
        simp [h3, h4, h5]; omega
      · have e1 : (decide (48 ≤ c.toNat) && decide (c.toNat ≤ 57)) = false := by simp; omega
        have e2 : (decide (97 ≤ c.toNat) && decide (c.toNat ≤ 102)) = false := by simp; omega
        have e3 : (decide (65 ≤ c.toNat) && decide (c.toNat ≤ 70)) = false := by simp; omega
        rw [e1, e2, e3, if_neg h2, if_neg h3]
        simp
theorem hexv_app (a : Bs) (c : UInt8) : hexv (a ++ [c]) = 16 * hexv a + hexd c := by simp [hexv]
theorem hexf_lt : ∀ (a : Bs) (m k : Nat), (∀ c ∈ a, isHex c = true) → m < 16 ^ k → a.foldl (fun m c => 16 * m + hexd c) m < 16 ^ (k + a.length)
  | [], m, k, _, h => h
  | c :: a, m, k, hc, h => by
    have h1 := ((nHex_hex c).1 (hc c (by simp))).2
    have h2 := hexf_lt a (16 * m + hexd c) (k + 1) (fun x hx => hc x (by simp [hx])) (by rw [Nat.pow_succ]; omega)
    rw [List.foldl_cons, List.length_cons, show k + (a.length + 1) = k + 1 + a.length by omega]
    exact h2
theorem hexv_lt (a : Bs) (h : ∀ c ∈ a, isHex c = true) (hl : a.length ≤ 12) : hexv a < 281474976710656 := by
  have h1 := hexf_lt a 0 0 h (by simp)
  have h2 : 16 ^ (0 + a.length) ≤ 16 ^ 12 := Nat.pow_le_pow_right (by omega) (by omega)
  exact Nat.lt_of_lt_of_le h1 h2

def HxRel (p : Nat) (s : ByteArray) (H rest : Bs) (cd : Int) (n : Nat) (v4 v5 : Value) (w0 wr : World) : Prop :=
  ∃ a r1, v4 = .int .i64 ((hexv (a.take 12) : Nat) : Int) ∧ v5 = .int .i64 ((a.length : Nat) : Int) ∧ H = a ++ r1.takeWhile isHex ∧ r1.dropWhile isHex = rest ∧ Ls wr p s r1 cd ∧ Ch (· = p) w0 wr ∧ n = r1.length
/-- What 'hexadecimal' leaves. -/
def HzPost (p : Nat) (s : ByteArray) (H rest : Bs) (cd : Int) (w : World) (e : Ending) (w' : World) : Prop :=
  Ch (· = p) w w' ∧ Ls w' p s rest (if 1 ≤ H.length ∧ H.length ≤ 12 then cd else tl cd 2) ∧ ∃ f, e = .returned (.tuple #[.float .f64 f, .string ⟨((numeral (hexv (H.take 12)) 0).getD []).toArray⟩])

set_option maxRecDepth 100000 in
set_option maxHeartbeats 4000000 in
theorem hexadecimal_calls {w : World} {p : Nat} {s : ByteArray} {r : Bs} {cd : Int} (H : Hid (Ls w p s r cd)) :
    Calls Tryz.prog 68 #[ptr p] w (HzPost p s (r.takeWhile isHex) (r.dropWhile isHex) cd w) := by
  have hpl := H.out.lt
  have hrl := H.out.nls
  have htl : (r.takeWhile isHex).length ≤ r.length := (List.takeWhile_sublist _).length_le
  have hall : ∀ c ∈ r.takeWhile isHex, isHex c = true := fun c hc => by
    have := List.all_takeWhile (l := r) (p := isHex)
    exact List.all_eq_true.1 this c hc
  have HALL := Lib.hid hall
  clear hall
  go_enter Tryz.func68, Tryz.ntmps68
  go_wp2_with fail
  go_loopg [4, 5] r.length (fun n v4 v5 wr => HxRel p s (r.takeWhile isHex) (r.dropWhile isHex) cd n v4 v5 w wr)
  case atStart => exact ⟨[], r, rfl, rfl, rfl, rfl, H.out, Ch.refl _ _, rfl⟩
  case round =>
    generalize r.takeWhile isHex = T at *
    generalize r.dropWhile isHex = R at *
    obtain ⟨a, r1, rfl, rfl, hT, hdr, hls, hc, hn⟩ := hrel
    have HT := Lib.hid hT
    have HD := Lib.hid hdr
    have HL := Lib.hid hls
    have HC := Lib.hid hc
    have HN := Lib.hid hn
    have hal : a.length ≤ 2000 := by have := congrArg List.length hT; rw [List.length_append] at this; omega
    have hm12 : hexv (a.take 12) < 281474976710656 := hexv_lt _ (fun c hc => HALL.out c (by rw [hT]; exact List.mem_append_left _ (List.mem_of_mem_take hc))) (by rw [List.length_take]; omega)
    clear hT hdr hls hc hn
    cases hd : hdIs isHex r1 with
    | false =>
      have htk : r1.takeWhile isHex = [] ∧ r1.dropWhile isHex = r1 ∧ nHex (hb r1) = -1 := by
        cases r1 with
        | nil => exact ⟨rfl, rfl, rfl⟩
        | cons c t =>
          have hc : isHex c = false := hd
          rw [List.takeWhile_cons, List.dropWhile_cons, hc]
          exact ⟨rfl, rfl, (nHex_hex c).2 hc⟩
      have hTa : T = a := by rw [HT.out, htk.1, List.append_nil]
      have hR : r1 = R := by rw [← HD.out, htk.2.1]
      subst hTa
      subst hR
      have hnd := htk.2.2
      have hb8 : hb r1 < 256 := by cases r1 with | nil => decide | cons c t => exact c.toNat_lt
      have HM12 := Lib.hid hm12
      clear htk hd hm12 HT HD
      go_wp2_with fail
      refine (byteAt_at HL 0 (rfl) (by omega) (show ((hb r1 : Nat) : Int) = _ from rfl)).mono ?_
      rintro e wq1 ⟨rfl, hq1⟩
      have HL1 := Lib.hid (HL.out.moved hq1)
      have HC1 := Lib.hid (HC.out.trans (hq1.mono fun _ _ h => h.elim))
      clear hq1 HL HC
      simp only []
      go_wp2_with fail
      refine (hex_calls hb8).mono ?_
      rintro e wd ⟨rfl, rfl⟩
      rw [hnd]
      clear hnd hb8
      simp only []
      by_cases hg : 1 ≤ T.length ∧ T.length ≤ 12
      · have HG := Lib.hid hg
        have g1 : ¬ (T.length : Int) < 1 := by omega
        have g2 : ¬ (12 : Int) < (T.length : Int) := by omega
        clear hg
        go_wp2_with fail
        refine (lxNumeral_calls (e := 0) (by have := HM12.out; omega) (by omega)).mono ?_
        rintro e wn hnu
        obtain ⟨hqn, f, rfl⟩ := hnu.all
        have HLn := Lib.hid (HL1.out.moved hqn)
        have HCn := Lib.hid (HC1.out.trans (hqn.mono fun _ _ h => h.elim))
        clear hqn hnu
        simp only []
        go_wp2_with fail
        go_ret2
        exact ⟨HCn.out, by rw [if_pos HG.out]; exact HLn.out, f, rfl⟩
      · have HG := Lib.hid hg
        by_cases h1 : T.length < 1
        · have g1 : (T.length : Int) < 1 := by omega
          clear hg
          go_wp2_with fail
          refine (tell_calls (v := 2) HL1).mono ?_
          rintro e wq2 ⟨rfl, hl2, hq2⟩
          have HL2 := Lib.hid hl2
          have HC2 := Lib.hid (HC1.out.trans hq2)
          clear hq2 HL1 HC1 hl2
          simp only []
          go_wp2_with fail
          refine (lxNumeral_calls (e := 0) (by have := HM12.out; omega) (by omega)).mono ?_
          rintro e wn hnu
          obtain ⟨hqn, f, rfl⟩ := hnu.all
          have HLn := Lib.hid (HL2.out.moved hqn)
          have HCn := Lib.hid (HC2.out.trans (hqn.mono fun _ _ h => h.elim))
          clear hqn hnu
          simp only []
          go_wp2_with fail
          go_ret2
          exact ⟨HCn.out, by rw [if_neg HG.out]; exact HLn.out, f, rfl⟩
        · have g1 : ¬ (T.length : Int) < 1 := by omega
          have g2 : (12 : Int) < (T.length : Int) := by omega
          clear hg
          go_wp2_with fail
          refine (tell_calls (v := 2) HL1).mono ?_
          rintro e wq2 ⟨rfl, hl2, hq2⟩
          have HL2 := Lib.hid hl2
          have HC2 := Lib.hid (HC1.out.trans hq2)
          clear hq2 HL1 HC1 hl2
          simp only []
          go_wp2_with fail
          refine (lxNumeral_calls (e := 0) (by have := HM12.out; omega) (by omega)).mono ?_
          rintro e wn hnu
          obtain ⟨hqn, f, rfl⟩ := hnu.all
          have HLn := Lib.hid (HL2.out.moved hqn)
          have HCn := Lib.hid (HC2.out.trans (hqn.mono fun _ _ h => h.elim))
          clear hqn hnu
          simp only []
          go_wp2_with fail
          go_ret2
          exact ⟨HCn.out, by rw [if_neg HG.out]; exact HLn.out, f, rfl⟩
    | true =>
      cases r1 with
      | nil => cases hd
      | cons c t =>
        have hcx : isHex c = true := hd
        have hnd := ((nHex_hex c).1 hcx).1
        have hlt := ((nHex_hex c).1 hcx).2
        have htk : (c :: t).takeWhile isHex = c :: t.takeWhile isHex := by rw [List.takeWhile_cons, if_pos hcx]
        have hdk : (c :: t).dropWhile isHex = t.dropWhile isHex := by rw [List.dropWhile_cons, if_pos hcx]
        rw [htk] at HT
        rw [hdk] at HD
        have hb8 : c.toNat < 256 := c.toNat_lt
        have hw5 : IntKind.i64.wrap ((a.length : Int) + 1) = (a.length : Int) + 1 := by rw [IntKind.wrap_i64]; omega
        clear hd htk hdk hcx
        by_cases h12 : a.length < 12
        · have g12 : (a.length : Int) < 12 := by omega
          have htk12 : hexv ((a ++ [c]).take 12) = 16 * hexv (a.take 12) + hexd c := by rw [List.take_of_length_le (by simp; omega), List.take_of_length_le (by omega), hexv_app]
          generalize hexv (a.take 12) = m1 at hm12 htk12 ⊢
          have hw1 : IntKind.i64.wrap (16 * (m1 : Int)) = 16 * (m1 : Int) := by rw [IntKind.wrap_i64]; omega
          have hw2 : IntKind.i64.wrap (16 * (m1 : Int) + (hexd c : Int)) = 16 * (m1 : Int) + (hexd c : Int) := by rw [IntKind.wrap_i64]; omega
          have HTK := Lib.hid htk12
          have hge : (0 : Int) ≤ (hexd c : Int) := by omega
          clear htk12 hm12 h12 hlt
          go_wp2_with fail
          refine (byteAt_at HL 0 (rfl) (by omega) (show ((hb (c :: t) : Nat) : Int) = (c.toNat : Int) from rfl)).mono ?_
          rintro e wq31 ⟨rfl, hq31⟩
          have HL31 := Lib.hid (HL.out.moved hq31)
          have HC31 := Lib.hid (HC.out.trans (hq31.mono fun _ _ h => h.elim))
          clear hq31 HL HC
          simp only []
          go_wp2_with fail
          refine (hex_calls hb8).mono ?_
          rintro e wd ⟨rfl, rfl⟩
          rw [hnd]
          simp only []
          go_wp2_with fail
          refine (byteAt_at HL31 0 (rfl) (by omega) (show ((hb (c :: t) : Nat) : Int) = (c.toNat : Int) from rfl)).mono ?_
          rintro e wq32 ⟨rfl, hq32⟩
          have HL32 := Lib.hid (HL31.out.moved hq32)
          have HC32 := Lib.hid (HC31.out.trans (hq32.mono fun _ _ h => h.elim))
          clear hq32 HL31 HC31
          simp only []
          go_wp2_with fail
          refine (hex_calls hb8).mono ?_
          rintro e wd ⟨rfl, rfl⟩
          rw [hnd]
          simp only []
          go_wp2_with fail
          refine (step_calls HL32).mono ?_
          rintro e wq33 ⟨rfl, hl33, hq33⟩
          have HL33 := Lib.hid hl33
          have HC33 := Lib.hid (HC32.out.trans hq33)
          clear hq33 HL32 HC32 hl33
          simp only []
          go_wp2_with fail
          have hgk : t.length < gk := by (have := HN.out; simp at this; omega)
          go_roundg t.length
          case measure => omega
          case rel =>
            refine ⟨a ++ [c], t, congrArg (Value.int .i64) (by have h9 := HTK.out; omega), congrArg (Value.int .i64) (by simp), by rw [HT.out]; simp, HD.out, HL33.out, HC33.out, rfl⟩
        · have g12 : ¬ (a.length : Int) < 12 := by omega
          have htk12 : hexv ((a ++ [c]).take 12) = hexv (a.take 12) := by rw [List.take_append_of_le_length (by omega)]
          generalize hexv (a.take 12) = m1 at hm12 htk12 ⊢
          have HTK := Lib.hid htk12
          have hge : (0 : Int) ≤ (hexd c : Int) := by omega
          clear htk12 hm12 h12 hlt
          go_wp2_with fail
          refine (byteAt_at HL 0 (rfl) (by omega) (show ((hb (c :: t) : Nat) : Int) = (c.toNat : Int) from rfl)).mono ?_
          rintro e wq21 ⟨rfl, hq21⟩
          have HL21 := Lib.hid (HL.out.moved hq21)
          have HC21 := Lib.hid (HC.out.trans (hq21.mono fun _ _ h => h.elim))
          clear hq21 HL HC
          simp only []
          go_wp2_with fail
          refine (hex_calls hb8).mono ?_
          rintro e wd ⟨rfl, rfl⟩
          rw [hnd]
          simp only []
          go_wp2_with fail
          refine (step_calls HL21).mono ?_
          rintro e wq22 ⟨rfl, hl22, hq22⟩
          have HL22 := Lib.hid hl22
          have HC22 := Lib.hid (HC21.out.trans hq22)
          clear hq22 HL21 HC21 hl22
          simp only []
          go_wp2_with fail
          have hgk : t.length < gk := by (have := HN.out; simp at this; omega)
          go_roundg t.length
          case measure => omega
          case rel =>
            refine ⟨a ++ [c], t, congrArg (Value.int .i64) (by have h9 := HTK.out; omega), congrArg (Value.int .i64) (by simp), by rw [HT.out]; simp, HD.out, HL22.out, HC22.out, rfl⟩
end Go.Proofs.YtbgjjbffpckimaaGreatDoor

namespace Go.Proofs.YtbgjjbffpckimaaGreatDoor
set_option linter.all false
open Go.RowKit

def nStr (b : Nat) : Bool := (decide (b < 32) && !decide (b = 9) && !decide (b = 10)) || decide (b = 127)
set_option maxRecDepth 100000 in
theorem strange_calls {w : World} {b : Nat} : Calls Tryz.prog 45 #[.int .u8 (b : Int)] w fun e w' => e = .returned (.bool (nStr b)) ∧ w' = w := by
  go_enter Tryz.func45, Tryz.ntmps45
  go_wp2_with fail
  all_goals go_ret
  all_goals refine ⟨?_, rfl⟩
  all_goals refine congrArg (fun b => Ending.returned (.bool b)) ?_
  all_goals unfold nStr
  all_goals (rw [Bool.eq_iff_iff]; simp; try omega)

/-- Is a text open for its length or its bytes? -/
def opened (s : Bs) : Bool := decide (2000 < s.length) || hdIs (· == 35) s || s.any (fun c => nStr c.toNat)
def OpRel (s : ByteArray) (n : Nat) (v3 : Value) (w0 wr : World) : Prop :=
  ∃ k : Nat, v3 = .int .i64 (k : Int) ∧ k ≤ s.size ∧ (s.data.toList.any fun c => nStr c.toNat) = ((s.data.toList.drop k).any fun c => nStr c.toNat) ∧ wr = w0 ∧ n = s.size - k
def OpPost (s : ByteArray) (w : World) (e : Ending) (w' : World) : Prop := e = .returned (.bool (opened s.data.toList)) ∧ w' = w
theorem any_step {s : ByteArray} {k : Nat} (h : k < s.size) (f : UInt8 → Bool) : (s.data.toList.drop k).any f = (f s[k] || (s.data.toList.drop (k + 1)).any f) := by
  rw [List.drop_eq_getElem_cons (by simpa using h), List.any_cons]
  rfl

set_option maxRecDepth 100000 in
set_option maxHeartbeats 2000000 in
theorem isOpen_calls {w : World} {s : ByteArray} : Calls Tryz.prog 20 #[.string s] w (OpPost s w) := by
  have hl : s.data.toList.length = s.size := Array.length_toList
  go_enter Tryz.func20, Tryz.ntmps20
  by_cases hbig : 2000 < s.size
  · have g1 : (2000 : Int) < (s.size : Int) := by omega
    have ho : opened s.data.toList = true := by unfold opened; rw [hl, decide_eq_true hbig]; rfl
    have HO := Lib.hid ho
    clear ho hl
    go_wp2_with fail
    go_ret
    exact ⟨by rw [HO.out]; rfl, rfl⟩
  · have g1 : ¬ (2000 : Int) < (s.size : Int) := by omega
    by_cases h35 : hdIs (· == 35) s.data.toList = true
    · have ho : opened s.data.toList = true := by unfold opened; rw [h35]; simp
      have HO := Lib.hid ho
      have hp : 0 < s.size := by
        rw [← hl]
        cases hs : s.data.toList with
        | nil => rw [hs] at h35; cases h35
        | cons c t => simp
      have hv : ((s[0]'hp).toNat : Int) = 35 := by
        have e : s.data.toList = s[0]'hp :: s.data.toList.drop 1 := List.drop_eq_getElem_cons (i := 0) (by simpa using hp)
        rw [e] at h35
        rw [eq_of_beq (show (s[0]'hp == 35) = true from h35)]
        rfl
      clear ho hl h35
      go_wp2_with fail
      go_ret
      exact ⟨by rw [HO.out]; rfl, rfl⟩
    · have ho : opened s.data.toList = s.data.toList.any (fun c => nStr c.toNat) := by
        unfold opened
        rw [hl, decide_eq_false hbig, show hdIs (· == 35) s.data.toList = false by simpa using h35]
        rfl
      have HO := Lib.hid ho
      have hv : ∀ hp : 0 < s.size, (((s[0]'hp).toNat : Int) == 35) = false := fun hp => by
        have e : s.data.toList = s[0]'hp :: s.data.toList.drop 1 := List.drop_eq_getElem_cons (i := 0) (by simpa using hp)
        rw [e] at h35
        have h1 : s[0]'hp ≠ 35 := fun h => h35 (show (s[0]'hp == 35) = true by rw [h]; rfl)
        have h2 : (s[0]'hp).toNat ≠ 35 := fun h => h1 (UInt8.toNat_inj.1 (by rw [h]; rfl))
        simp only [beq_eq_false_iff_ne, ne_eq]
        omega
      have HV := Lib.hid hv
      clear ho h35 hv
      by_cases hp : 0 < s.size
      · have g0 : (0 : Int) < (s.size : Int) := by omega
        have g35 := HV.out hp
        go_wp2_with fail
        go_loopg [3] s.size (fun n v3 wr => OpRel s n v3 w wr)
        case atStart => exact ⟨0, rfl, Nat.zero_le _, rfl, rfl, rfl⟩
        case round =>
          obtain ⟨k, rfl, hk, hany, rfl, hn⟩ := hrel
          have HANY := Lib.hid hany
          have HN := Lib.hid hn
          have hl2 := hl
          clear hany hn hl HV
          by_cases hlt : k < s.size
          · have HST := Lib.hid (any_step hlt (fun c => nStr c.toNat))
            cases hst : nStr (s[k]).toNat with
            | true =>
              have hop : opened s.data.toList = true := by rw [HO.out, HANY.out, HST.out, hst]; rfl
              have HOP := Lib.hid hop
              clear hop hl2
              go_wp2_with fail
              refine (strange_calls (b := (s[k]).toNat)).mono ?_
              rintro e wd ⟨rfl, rfl⟩
              rw [hst]
              simp only []
              go_wp2_with fail
              go_ret
              exact ⟨by rw [HOP.out]; rfl, rfl⟩
            | false =>
              have hnx : (s.data.toList.any fun c => nStr c.toNat) = ((s.data.toList.drop (k + 1)).any fun c => nStr c.toNat) := by rw [HANY.out, HST.out, hst]; rfl
              have HNX := Lib.hid hnx
              have hw5 : IntKind.i64.wrap ((k : Int) + 1) = (k : Int) + 1 := by rw [IntKind.wrap_i64]; omega
              clear hnx hl2
              go_wp2_with fail
              refine (strange_calls (b := (s[k]).toNat)).mono ?_
              rintro e wd ⟨rfl, rfl⟩
              rw [hst]
              simp only []
              go_wp2_with fail
              have hgk : s.size - (k + 1) < gk := by (have := HN.out; omega)
              go_roundg (s.size - (k + 1))
              case measure => omega
              case rel => exact ⟨k + 1, rfl, hlt, HNX.out, rfl, rfl⟩
          · have hop : opened s.data.toList = false := by
              rw [HO.out, HANY.out, List.drop_eq_nil_of_le (by rw [hl2]; omega)]
              rfl
            have HOP := Lib.hid hop
            clear hop hl2
            go_wp2_with fail
            go_ret
            exact ⟨by rw [HOP.out]; rfl, rfl⟩
      · have g0 : ¬ (0 : Int) < (s.size : Int) := by omega
        go_wp2_with fail
        go_loopg [3] s.size (fun n v3 wr => OpRel s n v3 w wr)
        case atStart => exact ⟨0, rfl, Nat.zero_le _, rfl, rfl, rfl⟩
        case round =>
          obtain ⟨k, rfl, hk, hany, rfl, hn⟩ := hrel
          have HANY := Lib.hid hany
          have HN := Lib.hid hn
          have hl2 := hl
          clear hany hn hl HV
          by_cases hlt : k < s.size
          · have HST := Lib.hid (any_step hlt (fun c => nStr c.toNat))
            cases hst : nStr (s[k]).toNat with
            | true =>
              have hop : opened s.data.toList = true := by rw [HO.out, HANY.out, HST.out, hst]; rfl
              have HOP := Lib.hid hop
              clear hop hl2
              go_wp2_with fail
              refine (strange_calls (b := (s[k]).toNat)).mono ?_
              rintro e wd ⟨rfl, rfl⟩
              rw [hst]
              simp only []
              go_wp2_with fail
              go_ret
              exact ⟨by rw [HOP.out]; rfl, rfl⟩
            | false =>
              have hnx : (s.data.toList.any fun c => nStr c.toNat) = ((s.data.toList.drop (k + 1)).any fun c => nStr c.toNat) := by rw [HANY.out, HST.out, hst]; rfl
              have HNX := Lib.hid hnx
              have hw5 : IntKind.i64.wrap ((k : Int) + 1) = (k : Int) + 1 := by rw [IntKind.wrap_i64]; omega
              clear hnx hl2
              go_wp2_with fail
              refine (strange_calls (b := (s[k]).toNat)).mono ?_
              rintro e wd ⟨rfl, rfl⟩
              rw [hst]
              simp only []
              go_wp2_with fail
              have hgk : s.size - (k + 1) < gk := by (have := HN.out; omega)
              go_roundg (s.size - (k + 1))
              case measure => omega
              case rel => exact ⟨k + 1, rfl, hlt, HNX.out, rfl, rfl⟩
          · have hop : opened s.data.toList = false := by
              rw [HO.out, HANY.out, List.drop_eq_nil_of_le (by rw [hl2]; omega)]
              rfl
            have HOP := Lib.hid hop
            clear hop hl2
            go_wp2_with fail
            go_ret
            exact ⟨by rw [HOP.out]; rfl, rfl⟩
end Go.Proofs.YtbgjjbffpckimaaGreatDoor

namespace Go.Proofs.YtbgjjbffpckimaaGreatDoor
set_option linter.all false
open Go.RowKit

def kwVals : Array Value := #[.string { data := #[97, 110, 100] }, .string { data := #[98, 114, 101, 97, 107] }, .string { data := #[100, 111] }, .string { data := #[101, 108, 115, 101] }, .string { data := #[101, 108, 115, 101, 105, 102] }, .string { data := #[101, 110, 100] }, .string { data := #[102, 97, 108, 115, 101] }, .string { data := #[102, 111, 114] }, .string { data := #[102, 117, 110, 99, 116, 105, 111, 110] }, .string { data := #[105, 102] }, .string { data := #[105, 110] }, .string { data := #[108, 111, 99, 97, 108] }, .string { data := #[110, 105, 108] }, .string { data := #[110, 111, 116] }, .string { data := #[111, 114] }, .string { data := #[114, 101, 112, 101, 97, 116] }, .string { data := #[114, 101, 116, 117, 114, 110] }, .string { data := #[116, 104, 101, 110] }, .string { data := #[116, 114, 117, 101] }, .string { data := #[117, 110, 116, 105, 108] }, .string { data := #[119, 104, 105, 108, 101] }]
theorem kwVals_get : ∀ k : Nat, k < 21 → kwVals[k]? = some (.string ⟨(kws.getD k []).toArray⟩) := by
  intro k hk
  rcases k with _|_|_|_|_|_|_|_|_|_|_|_|_|_|_|_|_|_|_|_|_|k <;> first | rfl | omega

theorem kws_len21 : kws.length = 21 := rfl
theorem kwA {s : Bs} {k : Nat} (hk : k < 21) (h : (kws[k]?.getD [] == s) = true) : s ∈ kws := by
  have hl : k < kws.length := hk
  rw [List.getElem?_eq_getElem hl] at h
  have e := eq_of_beq h
  exact List.mem_iff_getElem.2 ⟨k, hl, e⟩
theorem kwB {s : Bs} {k : Nat} (hk : k < 21) (h : (kws[k]?.getD [] == s) = false) : (s ∈ kws.drop k) ↔ s ∈ kws.drop (k + 1) := by
  have hl : k < kws.length := hk
  rw [List.getElem?_eq_getElem hl] at h
  rw [List.drop_eq_getElem_cons hl, List.mem_cons]
  refine ⟨fun h1 => h1.resolve_left fun e => ?_, .inr⟩
  rw [e] at h
  simp at h

set_option maxRecDepth 100000 in
set_option maxHeartbeats 1000000 in
theorem words_calls {w : World} : Calls Tryz.prog 82 #[] w fun e w' => e = .returned (.slice (some ⟨w.heap.size, 0, none⟩) 21 21) ∧ w' = w.alloc (.cells kwVals 9) := by
  go_enter Tryz.func82, Tryz.ntmps82
  go_wp2_with fail
  go_ret
  exact ⟨rfl, rfl⟩

def WdRel (s : ByteArray) (X n : Nat) (v7 : Value) (w0 wr : World) : Prop :=
  ∃ k : Nat, v7 = .int .i64 (k : Int) ∧ k ≤ 21 ∧ (s.data.toList ∈ kws ↔ s.data.toList ∈ kws.drop k) ∧ wr = w0 ∧ n = 21 - k
def WdPost (s : ByteArray) (w : World) (e : Ending) (w' : World) : Prop := e = .returned (.bool (decide (s.data.toList ∈ kws))) ∧ Ch (fun _ => False) w w'

set_option maxRecDepth 100000 in
set_option maxHeartbeats 2000000 in
theorem isWord_calls {w : World} {s : ByteArray} : Calls Tryz.prog 67 #[.string s] w (WdPost s w) := by
  have e3 : s.toList = s.data.toList := by first | exact ByteArray.toList_eq _ | simp
  have HE := Lib.hid e3
  clear e3
  go_enter Tryz.func67, Tryz.ntmps67
  go_wp2_with fail
  refine words_calls.mono ?_
  rintro e w1 ⟨rfl, rfl⟩
  have hh : (w.alloc (.cells kwVals 9)).heap[w.heap.size]? = some (.cells kwVals 9 (0, 0)) := heap_alloc_new w _
  have hc : Ch (fun _ => False) w (w.alloc (.cells kwVals 9)) := (Ch.refl _ _).alloc _
  have hX : w.heap.size < (w.alloc (.cells kwVals 9)).heap.size := by simp
  generalize hw1 : w.alloc (.cells kwVals 9) = w1 at hh hc hX ⊢
  generalize hx : w.heap.size = X at hh hX ⊢
  have HH := Lib.hid hh
  have HC := Lib.hid hc
  clear hw1 hh hc hx
  simp only []
  go_wp2_with fail
  go_loopg [7] 21 (fun n v7 wr => WdRel s X n v7 w1 wr)
  case atStart => exact ⟨0, rfl, by omega, Iff.rfl, rfl, rfl⟩
  case round =>
    obtain ⟨k, rfl, hk, hiff, rfl, hn⟩ := hrel
    have HI := Lib.hid hiff
    have HN := Lib.hid hn
    clear hiff hn
    by_cases hlt : k < 21
    · have c0 : wr.cell? ⟨X, k, none⟩ = some (.string ⟨(kws.getD k []).toArray⟩) := by rw [Lib.cell_of_heap HH.out]; exact kwVals_get k hlt
      have hlz : (⟨(kws.getD k []).toArray⟩ : ByteArray).toList = kws.getD k [] := by simp
      cases hq : (kws[k]?.getD [] == s.toList) with
      | true =>
        have hin : s.data.toList ∈ kws := by rw [HE.out] at hq; exact kwA hlt hq
        have HIN := Lib.hid hin
        clear hin
        go_wp2_with fail
        go_ret
        exact ⟨by rw [decide_eq_true HIN.out]; rfl, HC.out⟩
      | false =>
        have hnx : s.data.toList ∈ kws ↔ s.data.toList ∈ kws.drop (k + 1) := by rw [HE.out] at hq; exact HI.out.trans (kwB hlt hq)
        have HNX := Lib.hid hnx
        clear hnx
        go_wp2_with fail
        have hgk : 21 - (k + 1) < gk := by (have := HN.out; omega)
        go_roundg (21 - (k + 1))
        case measure => omega
        case rel => exact ⟨k + 1, rfl, hlt, HNX.out, rfl, rfl⟩
    · have hno : ¬ s.data.toList ∈ kws := by
        rw [HI.out, List.drop_eq_nil_of_le (show kws.length ≤ k by rw [kws_len21]; omega)]
        exact List.not_mem_nil
      have HNO := Lib.hid hno
      clear hno
      go_wp2_with fail
      go_ret
      exact ⟨by rw [decide_eq_false HNO.out]; rfl, HC.out⟩
end Go.Proofs.YtbgjjbffpckimaaGreatDoor
