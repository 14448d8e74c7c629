/-
  isDecimal, isIdent, isDigit: what they answer.
-/
import Derived.Test.YtbgjjbffpckimaaDoorRd
namespace Go.Proofs.YtbgjjbffpckimaaDoor
set_option linter.all false
open Go.RowKit

set_option maxRecDepth 100000 in
set_option maxHeartbeats 4000000 in
theorem dec_t {w : World} {c : Int} (h : 48 ≤ c ∧ c ≤ 57) : Calls Tryd.prog 19 #[.int .i64 c] w fun e w' => e = .returned (.bool true) ∧ w' = w := by
  have g0 : 48 ≤ c := by first | omega | (simp <;> omega)
  have g1 : c ≤ 57 := by first | omega | (simp <;> omega)
  go_enter Tryd.func19, Tryd.ntmps19
  go_wp2_with fail
  go_ret
  exact ⟨rfl, rfl⟩

set_option maxRecDepth 100000 in
set_option maxHeartbeats 4000000 in
theorem dec_a {w : World} {c : Int} (h : c < 48) : Calls Tryd.prog 19 #[.int .i64 c] w fun e w' => e = .returned (.bool false) ∧ w' = w := by
  have g0 : ¬ 48 ≤ c := by first | omega | (simp <;> omega)
  go_enter Tryd.func19, Tryd.ntmps19
  go_wp2_with fail
  go_ret
  exact ⟨rfl, rfl⟩

set_option maxRecDepth 100000 in
set_option maxHeartbeats 4000000 in
theorem dec_b {w : World} {c : Int} (h : 57 < c) : Calls Tryd.prog 19 #[.int .i64 c] w fun e w' => e = .returned (.bool false) ∧ w' = w := by
  have g0 : 48 ≤ c := by first | omega | (simp <;> omega)
  have g1 : ¬ c ≤ 57 := by first | omega | (simp <;> omega)
  go_enter Tryd.func19, Tryd.ntmps19
  go_wp2_with fail
  go_ret
  exact ⟨rfl, rfl⟩

set_option maxRecDepth 100000 in
set_option maxHeartbeats 4000000 in
theorem id_a {w : World} {c p : Int} (h : c < 48) : Calls Tryd.prog 16 #[.int .i64 c, .int .i64 p] w fun e w' => e = .returned (.bool false) ∧ w' = w := by
  have g0 : (c == 95) = false := by first | omega | (simp <;> omega)
  have g1 : ¬ 65 ≤ c := by first | omega | (simp <;> omega)
  have g2 : ¬ 97 ≤ c := by first | omega | (simp <;> omega)
  go_enter Tryd.func16, Tryd.ntmps16
  go_wp2_with fail
  refine (dec_a h).mono ?_
  rintro e w' ⟨rfl, rfl⟩
  simp only []
  go_wp2_with fail
  go_ret
  exact ⟨rfl, rfl⟩

set_option maxRecDepth 100000 in
set_option maxHeartbeats 4000000 in
theorem id_b0 {w : World} {c : Int} (h : 48 ≤ c ∧ c ≤ 57) : Calls Tryd.prog 16 #[.int .i64 c, .int .i64 0] w fun e w' => e = .returned (.bool false) ∧ w' = w := by
  have g0 : (c == 95) = false := by first | omega | (simp <;> omega)
  have g1 : ¬ 65 ≤ c := by first | omega | (simp <;> omega)
  have g2 : ¬ 97 ≤ c := by first | omega | (simp <;> omega)
  go_enter Tryd.func16, Tryd.ntmps16
  go_wp2_with fail
  refine (dec_t h).mono ?_
  rintro e w' ⟨rfl, rfl⟩
  simp only []
  go_wp2_with fail
  go_ret
  exact ⟨rfl, rfl⟩

set_option maxRecDepth 100000 in
set_option maxHeartbeats 4000000 in
theorem id_b1 {w : World} {c : Int} (h : 48 ≤ c ∧ c ≤ 57) : Calls Tryd.prog 16 #[.int .i64 c, .int .i64 1] w fun e w' => e = .returned (.bool true) ∧ w' = w := by
  have g0 : (c == 95) = false := by first | omega | (simp <;> omega)
  have g1 : ¬ 65 ≤ c := by first | omega | (simp <;> omega)
  have g2 : ¬ 97 ≤ c := by first | omega | (simp <;> omega)
  go_enter Tryd.func16, Tryd.ntmps16
  go_wp2_with fail
  refine (dec_t h).mono ?_
  rintro e w' ⟨rfl, rfl⟩
  simp only []
  go_wp2_with fail
  go_ret
  exact ⟨rfl, rfl⟩

set_option maxRecDepth 100000 in
set_option maxHeartbeats 4000000 in
theorem id_c {w : World} {c p : Int} (h : 57 < c ∧ c < 65) : Calls Tryd.prog 16 #[.int .i64 c, .int .i64 p] w fun e w' => e = .returned (.bool false) ∧ w' = w := by
  have g0 : (c == 95) = false := by first | omega | (simp <;> omega)
  have g1 : ¬ 65 ≤ c := by first | omega | (simp <;> omega)
  have g2 : ¬ 97 ≤ c := by first | omega | (simp <;> omega)
  go_enter Tryd.func16, Tryd.ntmps16
  go_wp2_with fail
  refine (dec_b h.1).mono ?_
  rintro e w' ⟨rfl, rfl⟩
  simp only []
  go_wp2_with fail
  go_ret
  exact ⟨rfl, rfl⟩

set_option maxRecDepth 100000 in
set_option maxHeartbeats 4000000 in
theorem id_d {w : World} {c p : Int} (h : 65 ≤ c ∧ c ≤ 90) : Calls Tryd.prog 16 #[.int .i64 c, .int .i64 p] w fun e w' => e = .returned (.bool true) ∧ w' = w := by
  have g0 : (c == 95) = false := by first | omega | (simp <;> omega)
  have g1 : 65 ≤ c := by first | omega | (simp <;> omega)
  have g2 : c ≤ 90 := by first | omega | (simp <;> omega)
  go_enter Tryd.func16, Tryd.ntmps16
  go_wp2_with fail
  go_ret
  exact ⟨rfl, rfl⟩

set_option maxRecDepth 100000 in
set_option maxHeartbeats 4000000 in
theorem id_e {w : World} {c p : Int} (h : 90 < c ∧ c < 97 ∧ c ≠ 95) : Calls Tryd.prog 16 #[.int .i64 c, .int .i64 p] w fun e w' => e = .returned (.bool false) ∧ w' = w := by
  have g0 : (c == 95) = false := by first | omega | (simp <;> omega)
  have g1 : 65 ≤ c := by first | omega | (simp <;> omega)
  have g2 : ¬ c ≤ 90 := by first | omega | (simp <;> omega)
  have g3 : ¬ 97 ≤ c := by first | omega | (simp <;> omega)
  go_enter Tryd.func16, Tryd.ntmps16
  go_wp2_with fail
  refine (dec_b (by omega)).mono ?_
  rintro e w' ⟨rfl, rfl⟩
  simp only []
  go_wp2_with fail
  go_ret
  exact ⟨rfl, rfl⟩

set_option maxRecDepth 100000 in
set_option maxHeartbeats 4000000 in
theorem id_f {w : World} {p : Int} : Calls Tryd.prog 16 #[.int .i64 95, .int .i64 p] w fun e w' => e = .returned (.bool true) ∧ w' = w := by
  go_enter Tryd.func16, Tryd.ntmps16
  go_wp2_with fail
  go_ret
  exact ⟨rfl, rfl⟩

set_option maxRecDepth 100000 in
set_option maxHeartbeats 4000000 in
theorem id_g {w : World} {c p : Int} (h : 97 ≤ c ∧ c ≤ 122) : Calls Tryd.prog 16 #[.int .i64 c, .int .i64 p] w fun e w' => e = .returned (.bool true) ∧ w' = w := by
  have g0 : (c == 95) = false := by first | omega | (simp <;> omega)
  have g1 : 65 ≤ c := by first | omega | (simp <;> omega)
  have g2 : ¬ c ≤ 90 := by first | omega | (simp <;> omega)
  have g3 : 97 ≤ c := by first | omega | (simp <;> omega)
  have g4 : c ≤ 122 := by first | omega | (simp <;> omega)
  go_enter Tryd.func16, Tryd.ntmps16
  go_wp2_with fail
  go_ret
  exact ⟨rfl, rfl⟩

set_option maxRecDepth 100000 in
set_option maxHeartbeats 4000000 in
theorem id_h {w : World} {c p : Int} (h : 122 < c) : Calls Tryd.prog 16 #[.int .i64 c, .int .i64 p] w fun e w' => e = .returned (.bool false) ∧ w' = w := by
  have g0 : (c == 95) = false := by first | omega | (simp <;> omega)
  have g1 : 65 ≤ c := by first | omega | (simp <;> omega)
  have g2 : ¬ c ≤ 90 := by first | omega | (simp <;> omega)
  have g3 : 97 ≤ c := by first | omega | (simp <;> omega)
  have g4 : ¬ c ≤ 122 := by first | omega | (simp <;> omega)
  go_enter Tryd.func16, Tryd.ntmps16
  go_wp2_with fail
  refine (dec_b (by omega)).mono ?_
  rintro e w' ⟨rfl, rfl⟩
  simp only []
  go_wp2_with fail
  go_ret
  exact ⟨rfl, rfl⟩

set_option maxRecDepth 100000 in
set_option maxHeartbeats 4000000 in
theorem hx_a {w : World} {c : Int} (h : c < 48) : Calls Tryd.prog 32 #[.int .i64 c] w fun e w' => e = .returned (.bool false) ∧ w' = w := by
  have g0 : ¬ 48 ≤ c := by first | omega | (simp <;> omega)
  have g1 : ¬ 97 ≤ c := by first | omega | (simp <;> omega)
  have g2 : ¬ 65 ≤ c := by first | omega | (simp <;> omega)
  go_enter Tryd.func32, Tryd.ntmps32
  go_wp2_with fail
  go_ret
  exact ⟨rfl, rfl⟩

set_option maxRecDepth 100000 in
set_option maxHeartbeats 4000000 in
theorem hx_b {w : World} {c : Int} (h : 48 ≤ c ∧ c ≤ 57) : Calls Tryd.prog 32 #[.int .i64 c] w fun e w' => e = .returned (.bool true) ∧ w' = w := by
  have g0 : 48 ≤ c := by first | omega | (simp <;> omega)
  have g1 : c ≤ 57 := by first | omega | (simp <;> omega)
  go_enter Tryd.func32, Tryd.ntmps32
  go_wp2_with fail
  go_ret
  exact ⟨rfl, rfl⟩

set_option maxRecDepth 100000 in
set_option maxHeartbeats 4000000 in
theorem hx_c {w : World} {c : Int} (h : 57 < c ∧ c < 65) : Calls Tryd.prog 32 #[.int .i64 c] w fun e w' => e = .returned (.bool false) ∧ w' = w := by
  have g0 : 48 ≤ c := by first | omega | (simp <;> omega)
  have g1 : ¬ c ≤ 57 := by first | omega | (simp <;> omega)
  have g2 : ¬ 97 ≤ c := by first | omega | (simp <;> omega)
  have g3 : ¬ 65 ≤ c := by first | omega | (simp <;> omega)
  go_enter Tryd.func32, Tryd.ntmps32
  go_wp2_with fail
  go_ret
  exact ⟨rfl, rfl⟩

set_option maxRecDepth 100000 in
set_option maxHeartbeats 4000000 in
theorem hx_d {w : World} {c : Int} (h : 65 ≤ c ∧ c ≤ 70) : Calls Tryd.prog 32 #[.int .i64 c] w fun e w' => e = .returned (.bool true) ∧ w' = w := by
  have g0 : 48 ≤ c := by first | omega | (simp <;> omega)
  have g1 : ¬ c ≤ 57 := by first | omega | (simp <;> omega)
  have g2 : ¬ 97 ≤ c := by first | omega | (simp <;> omega)
  have g3 : 65 ≤ c := by first | omega | (simp <;> omega)
  have g4 : c ≤ 70 := by first | omega | (simp <;> omega)
  go_enter Tryd.func32, Tryd.ntmps32
  go_wp2_with fail
  go_ret
  exact ⟨rfl, rfl⟩

set_option maxRecDepth 100000 in
set_option maxHeartbeats 4000000 in
theorem hx_e {w : World} {c : Int} (h : 70 < c ∧ c < 97) : Calls Tryd.prog 32 #[.int .i64 c] w fun e w' => e = .returned (.bool false) ∧ w' = w := by
  have g0 : 48 ≤ c := by first | omega | (simp <;> omega)
  have g1 : ¬ c ≤ 57 := by first | omega | (simp <;> omega)
  have g2 : ¬ 97 ≤ c := by first | omega | (simp <;> omega)
  have g3 : 65 ≤ c := by first | omega | (simp <;> omega)
  have g4 : ¬ c ≤ 70 := by first | omega | (simp <;> omega)
  go_enter Tryd.func32, Tryd.ntmps32
  go_wp2_with fail
  go_ret
  exact ⟨rfl, rfl⟩

set_option maxRecDepth 100000 in
set_option maxHeartbeats 4000000 in
theorem hx_f {w : World} {c : Int} (h : 97 ≤ c ∧ c ≤ 102) : Calls Tryd.prog 32 #[.int .i64 c] w fun e w' => e = .returned (.bool true) ∧ w' = w := by
  have g0 : 48 ≤ c := by first | omega | (simp <;> omega)
  have g1 : ¬ c ≤ 57 := by first | omega | (simp <;> omega)
  have g2 : 97 ≤ c := by first | omega | (simp <;> omega)
  have g3 : c ≤ 102 := by first | omega | (simp <;> omega)
  go_enter Tryd.func32, Tryd.ntmps32
  go_wp2_with fail
  go_ret
  exact ⟨rfl, rfl⟩

set_option maxRecDepth 100000 in
set_option maxHeartbeats 4000000 in
theorem hx_g {w : World} {c : Int} (h : 102 < c) : Calls Tryd.prog 32 #[.int .i64 c] w fun e w' => e = .returned (.bool false) ∧ w' = w := by
  have g0 : 48 ≤ c := by first | omega | (simp <;> omega)
  have g1 : ¬ c ≤ 57 := by first | omega | (simp <;> omega)
  have g2 : 97 ≤ c := by first | omega | (simp <;> omega)
  have g3 : ¬ c ≤ 102 := by first | omega | (simp <;> omega)
  have g4 : 65 ≤ c := by first | omega | (simp <;> omega)
  have g5 : ¬ c ≤ 70 := by first | omega | (simp <;> omega)
  go_enter Tryd.func32, Tryd.ntmps32
  go_wp2_with fail
  go_ret
  exact ⟨rfl, rfl⟩

/-- Whether the next byte is of a class. -/
def hdIs (p : UInt8 → Bool) : Bs → Bool
  | [] => false
  | c :: _ => p c

theorem isDec_calls {w : World} {r : Bs} {v : Bool} (hv : hdIs isDec r = v) : Calls Tryd.prog 19 #[.int .i64 (hd r)] w fun e w' => e = .returned (.bool v) ∧ w' = w := by
  subst hv
  cases r with
  | nil => exact dec_a (by simp [hd])
  | cons c t =>
    simp only [hdIs, hd]
    by_cases h1 : c.toNat < 48
    · rw [show isDec c = false by simp [isDec]; omega]; exact dec_a (by omega)
    by_cases h2 : c.toNat ≤ 57
    · rw [show isDec c = true by simp [isDec]; omega]; exact dec_t (by omega)
    · rw [show isDec c = false by simp [isDec]; omega]; exact dec_b (by omega)

theorem isIdc_calls {w : World} {r : Bs} {v : Bool} (hv : hdIs isIdc r = v) : Calls Tryd.prog 16 #[.int .i64 (hd r), .int .i64 1] w fun e w' => e = .returned (.bool v) ∧ w' = w := by
  subst hv
  cases r with
  | nil => exact id_a (by simp [hd])
  | cons c t =>
    simp only [hdIs, hd]
    by_cases h1 : c.toNat < 48
    · rw [show isIdc c = false by simp [isIdc, isLet, isDec]; omega]; exact id_a (by omega)
    by_cases h2 : c.toNat ≤ 57
    · rw [show isIdc c = true by simp [isIdc, isLet, isDec]; omega]; exact id_b1 (by omega)
    by_cases h3 : c.toNat < 65
    · rw [show isIdc c = false by simp [isIdc, isLet, isDec]; omega]; exact id_c (by omega)
    by_cases h4 : c.toNat ≤ 90
    · rw [show isIdc c = true by simp [isIdc, isLet, isDec]; omega]; exact id_d (by omega)
    by_cases h5 : c.toNat = 95
    · rw [show isIdc c = true by simp [isIdc, isLet, isDec]; omega, h5]; exact id_f
    by_cases h6 : c.toNat < 97
    · rw [show isIdc c = false by simp [isIdc, isLet, isDec]; omega]; exact id_e (by omega)
    by_cases h7 : c.toNat ≤ 122
    · rw [show isIdc c = true by simp [isIdc, isLet, isDec]; omega]; exact id_g (by omega)
    · rw [show isIdc c = false by simp [isIdc, isLet, isDec]; omega]; exact id_h (by omega)

theorem isLet_calls {w : World} {r : Bs} {v : Bool} (hv : hdIs isLet r = v) : Calls Tryd.prog 16 #[.int .i64 (hd r), .int .i64 0] w fun e w' => e = .returned (.bool v) ∧ w' = w := by
  subst hv
  cases r with
  | nil => exact id_a (by simp [hd])
  | cons c t =>
    simp only [hdIs, hd]
    by_cases h1 : c.toNat < 48
    · rw [show isLet c = false by simp [isLet]; omega]; exact id_a (by omega)
    by_cases h2 : c.toNat ≤ 57
    · rw [show isLet c = false by simp [isLet]; omega]; exact id_b0 (by omega)
    by_cases h3 : c.toNat < 65
    · rw [show isLet c = false by simp [isLet]; omega]; exact id_c (by omega)
    by_cases h4 : c.toNat ≤ 90
    · rw [show isLet c = true by simp [isLet]; omega]; exact id_d (by omega)
    by_cases h5 : c.toNat = 95
    · rw [show isLet c = true by simp [isLet]; omega, h5]; exact id_f
    by_cases h6 : c.toNat < 97
    · rw [show isLet c = false by simp [isLet]; omega]; exact id_e (by omega)
    by_cases h7 : c.toNat ≤ 122
    · rw [show isLet c = true by simp [isLet]; omega]; exact id_g (by omega)
    · rw [show isLet c = false by simp [isLet]; omega]; exact id_h (by omega)

theorem isHex_calls {w : World} {r : Bs} {v : Bool} (hv : hdIs isHex r = v) : Calls Tryd.prog 32 #[.int .i64 (hd r)] w fun e w' => e = .returned (.bool v) ∧ w' = w := by
  subst hv
  cases r with
  | nil => exact hx_a (by simp [hd])
  | cons c t =>
    simp only [hdIs, hd]
    by_cases h1 : c.toNat < 48
    · rw [show isHex c = false by simp [isHex, isDec]; omega]; exact hx_a (by omega)
    by_cases h2 : c.toNat ≤ 57
    · rw [show isHex c = true by simp [isHex, isDec]; omega]; exact hx_b (by omega)
    by_cases h3 : c.toNat < 65
    · rw [show isHex c = false by simp [isHex, isDec]; omega]; exact hx_c (by omega)
    by_cases h4 : c.toNat ≤ 70
    · rw [show isHex c = true by simp [isHex, isDec]; omega]; exact hx_d (by omega)
    by_cases h5 : c.toNat < 97
    · rw [show isHex c = false by simp [isHex, isDec]; omega]; exact hx_e (by omega)
    by_cases h6 : c.toNat ≤ 102
    · rw [show isHex c = true by simp [isHex, isDec]; omega]; exact hx_f (by omega)
    · rw [show isHex c = false by simp [isHex, isDec]; omega]; exact hx_g (by omega)

end Go.Proofs.YtbgjjbffpckimaaDoor
