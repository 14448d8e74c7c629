/-
  spec.ptInClass: which bytes below 128 are in the class of a small letter.
-/
import Derived.Test.YtkbdngcbifonkaaFmtProg
import Derived.Test.YtkbdngcbifonkaaFmtMem
import Derived.Test.YtkbdngcbifonkaaFmtPm
import Derived.KernelRfl
namespace Go.Proofs.YtkbdngcbifonkaaFmt
set_option linter.all false
open Go.RowKit

theorem ret_b {x y : Bool} (h : x = y) : Ending.returned (.bool x) = Ending.returned (.bool y) := by rw [h]
theorem ret_bb {x y a b : Bool} (h : x = y) (k : a = b) : Ending.returned (.tuple #[.bool x, .bool a]) = Ending.returned (.tuple #[.bool y, .bool b]) := by rw [h, k]

theorem digit_calls (w : World) (b : Nat) : Calls Tryf.prog 31 #[.int .u8 (b : Int)] w fun e w' => w = w' ∧ e = .returned (.bool (decide (48 ≤ (b : Int) ∧ (b : Int) ≤ 57))) := by
  go_enter Tryf.func31, Tryf.ntmps31
  go_wp2_with fail
  all_goals
    go_ret
    refine ⟨rfl, ret_b ?_⟩
    first | rfl | (rw [Bool.eq_iff_iff]; done) | (rw [Bool.eq_iff_iff]; simp at *; done) | (rw [Bool.eq_iff_iff]; simp at *; omega)

theorem letter_calls (w : World) (b : Nat) : Calls Tryf.prog 20 #[.int .u8 (b : Int)] w fun e w' => w = w' ∧ e = .returned (.bool (decide ((97 ≤ (b : Int) ∧ (b : Int) ≤ 122) ∨ (65 ≤ (b : Int) ∧ (b : Int) ≤ 90)))) := by
  go_enter Tryf.func20, Tryf.ntmps20
  go_wp2_with fail
  all_goals
    go_ret
    refine ⟨rfl, ret_b ?_⟩
    first | rfl | (rw [Bool.eq_iff_iff]; done) | (rw [Bool.eq_iff_iff]; simp at *; done) | (rw [Bool.eq_iff_iff]; simp at *; omega)

theorem hex_calls (w : World) (b : Nat) (hb : (b : Int) ≤ 127) : Calls Tryf.prog 40 #[.int .u8 (b : Int)] w fun e w' => w = w' ∧ ∃ z : Int, e = .returned (.int .i64 z) ∧ (0 ≤ z ↔ (48 ≤ (b : Int) ∧ (b : Int) ≤ 57 ∨ 97 ≤ (b : Int) ∧ (b : Int) ≤ 102 ∨ 65 ≤ (b : Int) ∧ (b : Int) ≤ 70)) := by
  go_enter Tryf.func40, Tryf.ntmps40
  go_wp2_with fail
  all_goals
    go_ret
    refine ⟨rfl, _, rfl, ?_⟩
    try simp only [IntKind.wrap_u8, IntKind.wrap_i64]
    try simp at *
    try omega

set_option maxRecDepth 100000 in
set_option maxHeartbeats 4000000 in
theorem incl_97 (w : World) (b : Nat) (hb : (b : Int) ≤ 127) : Calls Tryf.prog 32 #[.int .u8 97, .int .u8 (b : Int)] w fun e w' => w = w' ∧ e = .returned (.tuple #[.bool ((Pm.base 97 b).getD false), .bool true]) := by
  go_enter Tryf.func32, Tryf.ntmps32
  go_wp2_with (first | (go_at_call 31; refine (digit_calls _ _).mono ?_; rintro e w' ⟨rfl, rfl⟩) | (go_at_call 40; refine (hex_calls _ _ hb).mono ?_; rintro e w' ⟨rfl, z, rfl, hz⟩))
  all_goals
    go_ret2
    refine ⟨rfl, ret_bb ?_ rfl⟩
    rw [Bool.eq_iff_iff]
    simp [Pm.base] at *
    try omega

set_option maxRecDepth 100000 in
set_option maxHeartbeats 4000000 in
theorem incl_99 (w : World) (b : Nat) (hb : (b : Int) ≤ 127) : Calls Tryf.prog 32 #[.int .u8 99, .int .u8 (b : Int)] w fun e w' => w = w' ∧ e = .returned (.tuple #[.bool ((Pm.base 99 b).getD false), .bool true]) := by
  go_enter Tryf.func32, Tryf.ntmps32
  go_wp2_with (first | (go_at_call 31; refine (digit_calls _ _).mono ?_; rintro e w' ⟨rfl, rfl⟩) | (go_at_call 40; refine (hex_calls _ _ hb).mono ?_; rintro e w' ⟨rfl, z, rfl, hz⟩))
  all_goals
    go_ret2
    refine ⟨rfl, ret_bb ?_ rfl⟩
    rw [Bool.eq_iff_iff]
    simp [Pm.base] at *
    try omega

set_option maxRecDepth 100000 in
set_option maxHeartbeats 4000000 in
theorem incl_100 (w : World) (b : Nat) (hb : (b : Int) ≤ 127) : Calls Tryf.prog 32 #[.int .u8 100, .int .u8 (b : Int)] w fun e w' => w = w' ∧ e = .returned (.tuple #[.bool ((Pm.base 100 b).getD false), .bool true]) := by
  go_enter Tryf.func32, Tryf.ntmps32
  go_wp2_with (first | (go_at_call 31; refine (digit_calls _ _).mono ?_; rintro e w' ⟨rfl, rfl⟩) | (go_at_call 40; refine (hex_calls _ _ hb).mono ?_; rintro e w' ⟨rfl, z, rfl, hz⟩))
  all_goals
    go_ret2
    refine ⟨rfl, ret_bb ?_ rfl⟩
    rw [Bool.eq_iff_iff]
    simp [Pm.base] at *
    try omega

set_option maxRecDepth 100000 in
set_option maxHeartbeats 4000000 in
theorem incl_108 (w : World) (b : Nat) (hb : (b : Int) ≤ 127) : Calls Tryf.prog 32 #[.int .u8 108, .int .u8 (b : Int)] w fun e w' => w = w' ∧ e = .returned (.tuple #[.bool ((Pm.base 108 b).getD false), .bool true]) := by
  go_enter Tryf.func32, Tryf.ntmps32
  go_wp2_with (first | (go_at_call 31; refine (digit_calls _ _).mono ?_; rintro e w' ⟨rfl, rfl⟩) | (go_at_call 40; refine (hex_calls _ _ hb).mono ?_; rintro e w' ⟨rfl, z, rfl, hz⟩))
  all_goals
    go_ret2
    refine ⟨rfl, ret_bb ?_ rfl⟩
    rw [Bool.eq_iff_iff]
    simp [Pm.base] at *
    try omega

set_option maxRecDepth 100000 in
set_option maxHeartbeats 4000000 in
theorem incl_112 (w : World) (b : Nat) (hb : (b : Int) ≤ 127) : Calls Tryf.prog 32 #[.int .u8 112, .int .u8 (b : Int)] w fun e w' => w = w' ∧ e = .returned (.tuple #[.bool ((Pm.base 112 b).getD false), .bool true]) := by
  go_enter Tryf.func32, Tryf.ntmps32
  go_wp2_with (first | (go_at_call 31; refine (digit_calls _ _).mono ?_; rintro e w' ⟨rfl, rfl⟩) | (go_at_call 40; refine (hex_calls _ _ hb).mono ?_; rintro e w' ⟨rfl, z, rfl, hz⟩))
  all_goals
    go_ret2
    refine ⟨rfl, ret_bb ?_ rfl⟩
    rw [Bool.eq_iff_iff]
    simp [Pm.base] at *
    try omega

set_option maxRecDepth 100000 in
set_option maxHeartbeats 4000000 in
theorem incl_115 (w : World) (b : Nat) (hb : (b : Int) ≤ 127) : Calls Tryf.prog 32 #[.int .u8 115, .int .u8 (b : Int)] w fun e w' => w = w' ∧ e = .returned (.tuple #[.bool ((Pm.base 115 b).getD false), .bool true]) := by
  go_enter Tryf.func32, Tryf.ntmps32
  go_wp2_with (first | (go_at_call 31; refine (digit_calls _ _).mono ?_; rintro e w' ⟨rfl, rfl⟩) | (go_at_call 40; refine (hex_calls _ _ hb).mono ?_; rintro e w' ⟨rfl, z, rfl, hz⟩))
  all_goals
    go_ret2
    refine ⟨rfl, ret_bb ?_ rfl⟩
    rw [Bool.eq_iff_iff]
    simp [Pm.base] at *
    try omega

set_option maxRecDepth 100000 in
set_option maxHeartbeats 4000000 in
theorem incl_117 (w : World) (b : Nat) (hb : (b : Int) ≤ 127) : Calls Tryf.prog 32 #[.int .u8 117, .int .u8 (b : Int)] w fun e w' => w = w' ∧ e = .returned (.tuple #[.bool ((Pm.base 117 b).getD false), .bool true]) := by
  go_enter Tryf.func32, Tryf.ntmps32
  go_wp2_with (first | (go_at_call 31; refine (digit_calls _ _).mono ?_; rintro e w' ⟨rfl, rfl⟩) | (go_at_call 40; refine (hex_calls _ _ hb).mono ?_; rintro e w' ⟨rfl, z, rfl, hz⟩))
  all_goals
    go_ret2
    refine ⟨rfl, ret_bb ?_ rfl⟩
    rw [Bool.eq_iff_iff]
    simp [Pm.base] at *
    try omega

set_option maxRecDepth 100000 in
set_option maxHeartbeats 4000000 in
theorem incl_119 (w : World) (b : Nat) (hb : (b : Int) ≤ 127) : Calls Tryf.prog 32 #[.int .u8 119, .int .u8 (b : Int)] w fun e w' => w = w' ∧ e = .returned (.tuple #[.bool ((Pm.base 119 b).getD false), .bool true]) := by
  go_enter Tryf.func32, Tryf.ntmps32
  go_wp2_with (first | (go_at_call 31; refine (digit_calls _ _).mono ?_; rintro e w' ⟨rfl, rfl⟩) | (go_at_call 40; refine (hex_calls _ _ hb).mono ?_; rintro e w' ⟨rfl, z, rfl, hz⟩))
  all_goals
    go_ret2
    refine ⟨rfl, ret_bb ?_ rfl⟩
    rw [Bool.eq_iff_iff]
    simp [Pm.base] at *
    try omega

set_option maxRecDepth 100000 in
set_option maxHeartbeats 4000000 in
theorem incl_120 (w : World) (b : Nat) (hb : (b : Int) ≤ 127) : Calls Tryf.prog 32 #[.int .u8 120, .int .u8 (b : Int)] w fun e w' => w = w' ∧ e = .returned (.tuple #[.bool ((Pm.base 120 b).getD false), .bool true]) := by
  go_enter Tryf.func32, Tryf.ntmps32
  go_wp2_with (first | (go_at_call 31; refine (digit_calls _ _).mono ?_; rintro e w' ⟨rfl, rfl⟩) | (go_at_call 40; refine (hex_calls _ _ hb).mono ?_; rintro e w' ⟨rfl, z, rfl, hz⟩))
  all_goals
    go_ret2
    refine ⟨rfl, ret_bb ?_ rfl⟩
    rw [Bool.eq_iff_iff]
    simp [Pm.base] at *
    try omega

set_option maxRecDepth 100000 in
set_option maxHeartbeats 4000000 in
theorem incl_122 (w : World) (b : Nat) (hb : (b : Int) ≤ 127) : Calls Tryf.prog 32 #[.int .u8 122, .int .u8 (b : Int)] w fun e w' => w = w' ∧ e = .returned (.tuple #[.bool ((Pm.base 122 b).getD false), .bool true]) := by
  go_enter Tryf.func32, Tryf.ntmps32
  go_wp2_with (first | (go_at_call 31; refine (digit_calls _ _).mono ?_; rintro e w' ⟨rfl, rfl⟩) | (go_at_call 40; refine (hex_calls _ _ hb).mono ?_; rintro e w' ⟨rfl, z, rfl, hz⟩))
  all_goals
    go_ret2
    refine ⟨rfl, ret_bb ?_ rfl⟩
    rw [Bool.eq_iff_iff]
    simp [Pm.base] at *
    try omega

set_option maxRecDepth 100000 in
set_option maxHeartbeats 4000000 in
theorem incl_no (w : World) (b c : Nat) (hb : (b : Int) ≤ 127) (h97 : ((c : Int) == 97) = false) (h99 : ((c : Int) == 99) = false) (h100 : ((c : Int) == 100) = false) (h108 : ((c : Int) == 108) = false) (h112 : ((c : Int) == 112) = false) (h115 : ((c : Int) == 115) = false) (h117 : ((c : Int) == 117) = false) (h119 : ((c : Int) == 119) = false) (h120 : ((c : Int) == 120) = false) (h122 : ((c : Int) == 122) = false) : Calls Tryf.prog 32 #[.int .u8 (c : Int), .int .u8 (b : Int)] w fun e w' => w = w' ∧ e = .returned (.tuple #[.bool false, .bool false]) := by
  go_enter Tryf.func32, Tryf.ntmps32
  go_wp2_with (first | (go_at_call 31; refine (digit_calls _ _).mono ?_; rintro e w' ⟨rfl, rfl⟩) | (go_at_call 40; refine (hex_calls _ _ hb).mono ?_; rintro e w' ⟨rfl, z, rfl, hz⟩))
  all_goals
    go_ret2
    exact ⟨rfl, rfl⟩

end Go.Proofs.YtkbdngcbifonkaaFmt
