/-
  FnPatternPlain: the law gives true, whatever the input.
-/
import Derived.Test.YtkbdngcbifonkaaFmtEscw
import Derived.Test.YtkbdngcbifonkaaFmtBalL
namespace Go.Proofs.YtkbdngcbifonkaaFmt
set_option linter.all false
open Go.RowKit

set_option maxRecDepth 100000 in
set_option maxHeartbeats 4000000 in
theorem law_plain_none {w : World} {t s : ByteArray} {sp0 : Nat} (ht : t.size ≤ 20) (hs : s.size ≤ 200) (hsp : sp0 ≤ s.size) (HP1 : Hid (∀ w1, Calls Tryf.prog 9 #[.string t, .int .i64 20] w1 fun e w' => w1 = w' ∧ e = .returned (.bool true))) (HP2 : Hid (∀ w1, Calls Tryf.prog 9 #[.string s, .int .i64 200] w1 fun e w' => w1 = w' ∧ e = .returned (.bool true)))
    (HF : Hid (firstAt t.data.toList s.data.toList (s.size + 1 - sp0) sp0 = none)) :
    Calls Tryf.prog 5 #[.string t, .string s, .int .i64 (sp0 : Int)] w (LawPost w) := by
  have g1 : decide ((2147483647 : Int) < t.size) = false := by simp; omega
  have g2 : decide ((2147483647 : Int) < s.size) = false := by simp; omega
  have g3 : decide ((sp0 : Int) < 0) = false := by simp
  have g4 : decide (s.size < sp0) = false := by simp; omega
  have HFF := Lib.hid (find_text t.data.toList s.data.toList 10 (s.data.toList.length + 1 - sp0) sp0)
  have hsz : s.data.toList.length = s.size := Array.length_toList
  have htz : t.data.toList.length = t.size := Array.length_toList
  have HSZ := Lib.hid hsz
  have HTZ := Lib.hid htz
  have HEL := Lib.hid (esc_length t.data.toList)
  clear hsz htz
  go_enter Tryf.func5, Tryf.ntmps5
  go_wp2_with fail
  refine (HP1.out _).mono ?_
  rintro e w' ⟨rfl, rfl⟩
  simp only []
  go_wp2_with fail
  refine (HP2.out _).mono ?_
  rintro e w' ⟨rfl, rfl⟩
  simp only []
  go_wp2_with fail
  refine (find_calls13 (by omega) (by omega) hsp).mono ?_
  rintro e w' ⟨rfl, rfl⟩
  rw [HF.out]
  simp only [plainRes]
  go_wp2_with fail
  refine (escaped_calls (by omega)).mono ?_
  rintro e w2 ⟨rfl, hch2⟩
  have HC2 := Lib.hid hch2
  clear hch2
  simp only []
  go_wp2_with fail
  refine (first_none (s := ⟨(esc t.data.toList).toArray⟩) (t := s) (l := esc t.data.toList) (src := s.data.toList) (sp0 := sp0) (f := t.data.toList.length + 10 + 3) (ps := escPats t.data.toList) (head := false) (by simp) (by have := HEL.out; have := HTZ.out; omega) rfl (Lib.hid (parses_esc _ (by have := HTZ.out; omega))) (Lib.hid (pats_esc _ (by have := HTZ.out; omega))) (by have := HSZ.out; omega) (by have := HSZ.out; omega) (by have := HTZ.out; omega) (Lib.hid (by
        have := HFF.out
        rw [HSZ.out, HF.out] at this
        rw [textCode_eq, HSZ.out]
        exact this))).mono ?_
  rintro e w3 ⟨hch3, rfl⟩
  have HC3 := Lib.hid hch3
  clear hch3
  simp only []
  go_wp2_with fail
  go_ret
  exact ⟨rfl, (HC2.out.trans HC3.out).alloc _⟩

set_option maxRecDepth 100000 in
set_option maxHeartbeats 4000000 in
theorem law_plain_some {w : World} {t s : ByteArray} {sp0 a : Nat} (ht : t.size ≤ 20) (hs : s.size ≤ 200) (hsp : sp0 ≤ s.size) (hal : a ≤ s.size) (HP1 : Hid (∀ w1, Calls Tryf.prog 9 #[.string t, .int .i64 20] w1 fun e w' => w1 = w' ∧ e = .returned (.bool true))) (HP2 : Hid (∀ w1, Calls Tryf.prog 9 #[.string s, .int .i64 200] w1 fun e w' => w1 = w' ∧ e = .returned (.bool true)))
    (HF : Hid (firstAt t.data.toList s.data.toList (s.size + 1 - sp0) sp0 = some a)) :
    Calls Tryf.prog 5 #[.string t, .string s, .int .i64 (sp0 : Int)] w (LawPost w) := by
  have g1 : decide ((2147483647 : Int) < t.size) = false := by simp; omega
  have g2 : decide ((2147483647 : Int) < s.size) = false := by simp; omega
  have g3 : decide ((sp0 : Int) < 0) = false := by simp
  have g4 : decide (s.size < sp0) = false := by simp; omega
  have hw1 : IntKind.i64.wrap ((a : Int) + (t.size : Int)) = ((a + t.size : Nat) : Int) := by rw [IntKind.wrap_i64]; omega
  have hw2 : IntKind.i64.wrap (a : Int) = (a : Int) := by rw [IntKind.wrap_i64]; omega
  have hw3 : IntKind.i64.wrap (t.size : Int) = (t.size : Int) := by rw [IntKind.wrap_i64]; omega
  have HFF := Lib.hid (find_text t.data.toList s.data.toList 10 (s.data.toList.length + 1 - sp0) sp0)
  have hsz : s.data.toList.length = s.size := Array.length_toList
  have htz : t.data.toList.length = t.size := Array.length_toList
  have HSZ := Lib.hid hsz
  have HTZ := Lib.hid htz
  have HEL := Lib.hid (esc_length t.data.toList)
  clear hsz htz
  go_enter Tryf.func5, Tryf.ntmps5
  go_wp2_with fail
  refine (HP1.out _).mono ?_
  rintro e w' ⟨rfl, rfl⟩
  simp only []
  go_wp2_with fail
  refine (HP2.out _).mono ?_
  rintro e w' ⟨rfl, rfl⟩
  simp only []
  go_wp2_with fail
  refine (find_calls13 (by omega) (by omega) hsp).mono ?_
  rintro e w' ⟨rfl, rfl⟩
  rw [HF.out]
  simp only [plainRes]
  go_wp2_with fail
  refine (escaped_calls (by omega)).mono ?_
  rintro e w2 ⟨rfl, hch2⟩
  have HC2 := Lib.hid hch2
  clear hch2
  simp only []
  go_wp2_with fail
  refine (first_some (s := ⟨(esc t.data.toList).toArray⟩) (t := s) (l := esc t.data.toList) (src := s.data.toList) (sp0 := sp0) (f := t.data.toList.length + 10 + 3) (ps := escPats t.data.toList) (head := false) (a := a) (b := a + t.size) (by simp) (by have := HEL.out; have := HTZ.out; omega) rfl (Lib.hid (parses_esc _ (by have := HTZ.out; omega))) (Lib.hid (pats_esc _ (by have := HTZ.out; omega))) (by have := HSZ.out; omega) (by have := HSZ.out; omega) (by have := HTZ.out; omega) (by omega) (by omega) (Lib.hid (by
        have := HFF.out
        rw [HSZ.out, HF.out] at this
        rw [textCode_eq, HSZ.out]
        rw [HTZ.out] at this ⊢
        exact this))).mono ?_
  rintro e w3 ⟨hch3, x, y, rfl⟩
  have HC3 := Lib.hid hch3
  clear hch3
  simp only []
  go_wp2_with fail
  go_ret
  exact ⟨rfl, (HC2.out.trans HC3.out).alloc _⟩
set_option maxRecDepth 100000 in
theorem law_plain_e1 {w : World} {t s : ByteArray} {k : Int} (g1 : decide ((2147483647 : Int) < t.size) = true) : Calls Tryf.prog 5 #[.string t, .string s, .int .i64 k] w (LawPost w) := by
  go_enter Tryf.func5, Tryf.ntmps5
  go_wp2_with fail
  go_ret
  exact ⟨rfl, .refl _ _⟩

set_option maxRecDepth 100000 in
theorem law_plain_e2 {w : World} {t s : ByteArray} {k : Int} (g1 : decide ((2147483647 : Int) < t.size) = false) (g2 : decide ((2147483647 : Int) < s.size) = true) : Calls Tryf.prog 5 #[.string t, .string s, .int .i64 k] w (LawPost w) := by
  go_enter Tryf.func5, Tryf.ntmps5
  go_wp2_with fail
  go_ret
  exact ⟨rfl, .refl _ _⟩

set_option maxRecDepth 100000 in
theorem law_plain_e3 {w : World} {t s : ByteArray} {k : Int} (g1 : decide ((2147483647 : Int) < t.size) = false) (g2 : decide ((2147483647 : Int) < s.size) = false) (HP1 : Hid (∀ w1, Calls Tryf.prog 9 #[.string t, .int .i64 20] w1 fun e w' => w1 = w' ∧ e = .returned (.bool false))) : Calls Tryf.prog 5 #[.string t, .string s, .int .i64 k] w (LawPost w) := by
  go_enter Tryf.func5, Tryf.ntmps5
  go_wp2_with fail
  refine (HP1.out _).mono ?_
  rintro e w' ⟨rfl, rfl⟩
  simp only []
  go_wp2_with fail
  go_ret
  exact ⟨rfl, .refl _ _⟩

set_option maxRecDepth 100000 in
theorem law_plain_e4 {w : World} {t s : ByteArray} {k : Int} (g1 : decide ((2147483647 : Int) < t.size) = false) (g2 : decide ((2147483647 : Int) < s.size) = false) (HP1 : Hid (∀ w1, Calls Tryf.prog 9 #[.string t, .int .i64 20] w1 fun e w' => w1 = w' ∧ e = .returned (.bool true))) (HP2 : Hid (∀ w1, Calls Tryf.prog 9 #[.string s, .int .i64 200] w1 fun e w' => w1 = w' ∧ e = .returned (.bool false))) : Calls Tryf.prog 5 #[.string t, .string s, .int .i64 k] w (LawPost w) := by
  go_enter Tryf.func5, Tryf.ntmps5
  go_wp2_with fail
  refine (HP1.out _).mono ?_
  rintro e w' ⟨rfl, rfl⟩
  simp only []
  go_wp2_with fail
  refine (HP2.out _).mono ?_
  rintro e w' ⟨rfl, rfl⟩
  simp only []
  go_wp2_with fail
  go_ret
  exact ⟨rfl, .refl _ _⟩

set_option maxRecDepth 100000 in
theorem law_plain_e5 {w : World} {t s : ByteArray} {k : Int} (g1 : decide ((2147483647 : Int) < t.size) = false) (g2 : decide ((2147483647 : Int) < s.size) = false) (HP1 : Hid (∀ w1, Calls Tryf.prog 9 #[.string t, .int .i64 20] w1 fun e w' => w1 = w' ∧ e = .returned (.bool true))) (HP2 : Hid (∀ w1, Calls Tryf.prog 9 #[.string s, .int .i64 200] w1 fun e w' => w1 = w' ∧ e = .returned (.bool true))) (g3 : decide (k < 0) = true) : Calls Tryf.prog 5 #[.string t, .string s, .int .i64 k] w (LawPost w) := by
  go_enter Tryf.func5, Tryf.ntmps5
  go_wp2_with fail
  refine (HP1.out _).mono ?_
  rintro e w' ⟨rfl, rfl⟩
  simp only []
  go_wp2_with fail
  refine (HP2.out _).mono ?_
  rintro e w' ⟨rfl, rfl⟩
  simp only []
  go_wp2_with fail
  go_ret
  exact ⟨rfl, .refl _ _⟩

set_option maxRecDepth 100000 in
theorem law_plain_e6 {w : World} {t s : ByteArray} {k : Int} (g1 : decide ((2147483647 : Int) < t.size) = false) (g2 : decide ((2147483647 : Int) < s.size) = false) (HP1 : Hid (∀ w1, Calls Tryf.prog 9 #[.string t, .int .i64 20] w1 fun e w' => w1 = w' ∧ e = .returned (.bool true))) (HP2 : Hid (∀ w1, Calls Tryf.prog 9 #[.string s, .int .i64 200] w1 fun e w' => w1 = w' ∧ e = .returned (.bool true))) (g3 : decide (k < 0) = false) (g4 : decide ((s.size : Int) < k) = true) : Calls Tryf.prog 5 #[.string t, .string s, .int .i64 k] w (LawPost w) := by
  go_enter Tryf.func5, Tryf.ntmps5
  go_wp2_with fail
  refine (HP1.out _).mono ?_
  rintro e w' ⟨rfl, rfl⟩
  simp only []
  go_wp2_with fail
  refine (HP2.out _).mono ?_
  rintro e w' ⟨rfl, rfl⟩
  simp only []
  go_wp2_with fail
  go_ret
  exact ⟨rfl, .refl _ _⟩

theorem law_plain (w : World) (t s : ByteArray) (k : Int) : Calls Tryf.prog 5 #[.string t, .string s, .int .i64 k] w (LawPost w) := by
  cases g1 : decide ((2147483647 : Int) < t.size) with
  | true => exact law_plain_e1 g1
  | false =>
    cases g2 : decide ((2147483647 : Int) < s.size) with
    | true => exact law_plain_e2 g1 g2
    | false =>
      have l1 : t.size ≤ 2147483647 := by have := of_decide_eq_false g1; omega
      have l2 : s.size ≤ 2147483647 := by have := of_decide_eq_false g2; omega
      have hp (x : ByteArray) (m : Int) (r : Bool) (hx : x.size ≤ 2147483647) (h : plainB x m = r) : ∀ w1, Calls Tryf.prog 9 #[.string x, .int .i64 m] w1 fun e w' => w1 = w' ∧ e = .returned (.bool r) := fun w1 => (plain_calls hx).mono fun e w' h' => ⟨h'.1, by rw [h'.2, h]⟩
      cases p1 : plainB t 20 with
      | false => exact law_plain_e3 g1 g2 (Lib.hid (hp t 20 _ l1 p1))
      | true =>
        cases p2 : plainB s 200 with
        | false => exact law_plain_e4 g1 g2 (Lib.hid (hp t 20 _ l1 p1)) (Lib.hid (hp s 200 _ l2 p2))
        | true =>
          cases g3 : decide (k < 0) with
          | true => exact law_plain_e5 g1 g2 (Lib.hid (hp t 20 _ l1 p1)) (Lib.hid (hp s 200 _ l2 p2)) g3
          | false =>
            cases g4 : decide ((s.size : Int) < k) with
            | true => exact law_plain_e6 g1 g2 (Lib.hid (hp t 20 _ l1 p1)) (Lib.hid (hp s 200 _ l2 p2)) g3 g4
            | false =>
              have k0 := of_decide_eq_false g3
              have k1 := of_decide_eq_false g4
              obtain ⟨sp0, rfl⟩ : ∃ n : Nat, k = (n : Int) := ⟨k.toNat, by omega⟩
              have q1 := (plainB_true p1).2
              have q2 := (plainB_true p2).2
              cases hf : firstAt t.data.toList s.data.toList (s.size + 1 - sp0) sp0 with
              | none => exact law_plain_none (by omega) (by omega) (by omega) (Lib.hid (hp t 20 _ l1 p1)) (Lib.hid (hp s 200 _ l2 p2)) (Lib.hid hf)
              | some a =>
                have ha := firstAt_le _ _ _ _ _ hf
                rw [Array.length_toList, Array.length_toList] at ha
                have ha2 : a ≤ s.size := by
                  rcases ha with h | ⟨_, h⟩
                  · have h' : a + t.size ≤ s.size := h
                    omega
                  · omega
                exact law_plain_some (by omega) (by omega) (by omega) ha2 (Lib.hid (hp t 20 _ l1 p1)) (Lib.hid (hp s 200 _ l2 p2)) (Lib.hid hf)

end Go.Proofs.YtkbdngcbifonkaaFmt
