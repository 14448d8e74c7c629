/-
  spec.InClass: whether a byte is in a class of the manual.
-/
import Derived.Test.YtkbdngcbifonkaaFmtEsc
import Derived.LoopN
namespace Go.Proofs.YtkbdngcbifonkaaFmt
set_option linter.all false
open Go.RowKit

/-- The small letters that are classes. -/
def IsCls (c : Nat) : Prop := c = 97 ∨ c = 99 ∨ c = 100 ∨ c = 108 ∨ c = 112 ∨ c = 115 ∨ c = 117 ∨ c = 119 ∨ c = 120 ∨ c = 122
instance (c : Nat) : Decidable (IsCls c) := by unfold IsCls; infer_instance

theorem incl_yes (w : World) (c b : Nat) (hc : IsCls c) (hb : b < 128) : Calls Tryf.prog 32 #[.int .u8 (c : Int), .int .u8 (b : Int)] w fun e w' => w = w' ∧ e = .returned (.tuple #[.bool ((Pm.base (c : Int) (b : Int)).getD false), .bool true]) := by
  have hb' : (b : Int) ≤ 127 := by omega
  rcases hc with rfl | rfl | rfl | rfl | rfl | rfl | rfl | rfl | rfl | rfl
  · exact incl_97 w b hb'
  · exact incl_99 w b hb'
  · exact incl_100 w b hb'
  · exact incl_108 w b hb'
  · exact incl_112 w b hb'
  · exact incl_115 w b hb'
  · exact incl_117 w b hb'
  · exact incl_119 w b hb'
  · exact incl_120 w b hb'
  · exact incl_122 w b hb'

def IsLet (x : Nat) : Prop := (97 ≤ x ∧ x ≤ 122) ∨ (65 ≤ x ∧ x ≤ 90)

theorem base_low (x : Nat) (b : Int) (hx : IsLet x) : Pm.base (x : Int) b = Pm.base (low x : Int) b := by
  unfold low
  split
  · rename_i h
    have hx2 : 65 ≤ x := by rcases hx with h1 | h1 <;> omega
    have e97 : ((x : Int) = 97 ∨ (x : Int) = 65) ↔ (((x + 32 : Nat) : Int) = 97 ∨ ((x + 32 : Nat) : Int) = 65) := by omega
    have e99 : ((x : Int) = 99 ∨ (x : Int) = 67) ↔ (((x + 32 : Nat) : Int) = 99 ∨ ((x + 32 : Nat) : Int) = 67) := by omega
    have e100 : ((x : Int) = 100 ∨ (x : Int) = 68) ↔ (((x + 32 : Nat) : Int) = 100 ∨ ((x + 32 : Nat) : Int) = 68) := by omega
    have e108 : ((x : Int) = 108 ∨ (x : Int) = 76) ↔ (((x + 32 : Nat) : Int) = 108 ∨ ((x + 32 : Nat) : Int) = 76) := by omega
    have e112 : ((x : Int) = 112 ∨ (x : Int) = 80) ↔ (((x + 32 : Nat) : Int) = 112 ∨ ((x + 32 : Nat) : Int) = 80) := by omega
    have e115 : ((x : Int) = 115 ∨ (x : Int) = 83) ↔ (((x + 32 : Nat) : Int) = 115 ∨ ((x + 32 : Nat) : Int) = 83) := by omega
    have e117 : ((x : Int) = 117 ∨ (x : Int) = 85) ↔ (((x + 32 : Nat) : Int) = 117 ∨ ((x + 32 : Nat) : Int) = 85) := by omega
    have e119 : ((x : Int) = 119 ∨ (x : Int) = 87) ↔ (((x + 32 : Nat) : Int) = 119 ∨ ((x + 32 : Nat) : Int) = 87) := by omega
    have e120 : ((x : Int) = 120 ∨ (x : Int) = 88) ↔ (((x + 32 : Nat) : Int) = 120 ∨ ((x + 32 : Nat) : Int) = 88) := by omega
    have e122 : ((x : Int) = 122 ∨ (x : Int) = 90) ↔ (((x + 32 : Nat) : Int) = 122 ∨ ((x + 32 : Nat) : Int) = 90) := by omega
    unfold Pm.base
    simp only [e97, e99, e100, e108, e112, e115, e117, e119, e120, e122]
  · rfl

set_option maxRecDepth 100000 in
set_option maxHeartbeats 4000000 in
theorem inclass_cls {w : World} {x b : Nat} (hx : IsLet x) (hc : IsCls (low x)) (hb : b < 128) :
    Calls Tryf.prog 12 #[.int .u8 (x : Int), .int .u8 (b : Int)] w fun e w' => Ch (fun _ => False) w w' ∧ e = .returned (.tuple #[.bool ((Pm.base (low x : Int) (b : Int)).getD false == decide (low x = x)), .bool true]) := by
  have h20 : decide ((97 ≤ (x : Int) ∧ (x : Int) ≤ 122) ∨ (65 ≤ (x : Int) ∧ (x : Int) ≤ 90)) = true := by unfold IsLet at hx; simp; omega
  have g1 : decide ((127 : Int) < (b : Int)) = false := by simp; omega
  have hb0 : (0 : Int) ≤ b := by omega
  have hb1 : (b : Int) < 128 := by omega
  go_enter Tryf.func12, Tryf.ntmps12
  go_wp2_with fail
  refine (empty_calls w).mono ?_
  rintro e w1 ⟨rfl, hch1, hsz1, hc1, hf1⟩
  have HC1 := Lib.hid hch1
  have HS1 := Lib.hid hsz1
  have HCC := Lib.hid hc1
  have HFF := Lib.hid hf1
  clear hch1 hsz1 hc1 hf1
  simp only []
  go_wp2_with fail
  refine (letter_calls _ _).mono ?_
  rintro e w' ⟨rfl, rfl⟩
  rw [h20]
  simp only []
  go_wp2_with fail
  refine (escaped_loop (r := fun i => (Pm.base (low x : Int) (i : Int)).getD false) hx HCC.out HFF.out (Lib.hid fun w i hi => incl_yes w (low x) i hc hi)).mono ?_
  rintro e w2 ⟨rfl, hch2, hcl2⟩
  have hcb := hcl2 b hb
  have HC2 := Lib.hid hch2
  clear hch2 hcl2
  simp only []
  go_wp2_with fail
  go_ret2
  exact ⟨HC1.out.trans' HC2.out (fun i hi e => by omega), rfl⟩

theorem single_eq (x : Nat) (b : Int) (hx : IsLet x) (hc : IsCls (low x)) : Pm.single (x : Int) b = ((Pm.base (low x : Int) b).getD false == decide (low x = x)) := by
  unfold Pm.single
  rw [base_low x b hx]
  have hs : ∃ r, Pm.base (low x : Int) b = some r := by
    unfold IsCls at hc
    generalize low x = c at hc
    rcases hc with rfl | rfl | rfl | rfl | rfl | rfl | rfl | rfl | rfl | rfl <;> exact ⟨_, by simp [Pm.base]; rfl⟩
  obtain ⟨r, hr⟩ := hs
  rw [hr]
  simp only [Option.getD_some]
  by_cases h : x ≤ 90
  · have h65 : 65 ≤ x := by unfold IsLet at hx; omega
    rw [if_pos (by omega)]
    have : ¬ low x = x := by unfold low; rw [if_pos h]; omega
    simp [this]
  · rw [if_neg (by omega)]
    have : low x = x := by unfold low; rw [if_neg h]
    simp [this]

set_option maxRecDepth 100000 in
theorem inclass_not {w : World} {x b : Nat} (hx : ¬ IsLet x) :
    Calls Tryf.prog 12 #[.int .u8 (x : Int), .int .u8 (b : Int)] w fun e w' => Ch (fun _ => False) w w' ∧ e = .returned (.tuple #[.bool false, .bool false]) := by
  have h20 : decide ((97 ≤ (x : Int) ∧ (x : Int) ≤ 122) ∨ (65 ≤ (x : Int) ∧ (x : Int) ≤ 90)) = false := by unfold IsLet at hx; simp; omega
  go_enter Tryf.func12, Tryf.ntmps12
  go_wp2_with fail
  refine (empty_calls w).mono ?_
  rintro e w1 ⟨rfl, hch1, hsz1, hc1, hf1⟩
  have HC1 := Lib.hid hch1
  clear hch1 hsz1 hc1 hf1
  simp only []
  go_wp2_with fail
  refine (letter_calls _ _).mono ?_
  rintro e w' ⟨rfl, rfl⟩
  rw [h20]
  simp only []
  go_wp2_with fail
  go_ret2
  exact ⟨HC1.out, rfl⟩

theorem incl_none (w : World) (c b : Nat) (hc : ¬ IsCls c) (hb : b < 128) : Calls Tryf.prog 32 #[.int .u8 (c : Int), .int .u8 (b : Int)] w fun e w' => w = w' ∧ e = .returned (.tuple #[.bool false, .bool false]) :=
  incl_no w b c (by omega) (by have h := hc; unfold IsCls at h; simp; omega) (by have h := hc; unfold IsCls at h; simp; omega) (by have h := hc; unfold IsCls at h; simp; omega) (by have h := hc; unfold IsCls at h; simp; omega) (by have h := hc; unfold IsCls at h; simp; omega) (by have h := hc; unfold IsCls at h; simp; omega) (by have h := hc; unfold IsCls at h; simp; omega) (by have h := hc; unfold IsCls at h; simp; omega) (by have h := hc; unfold IsCls at h; simp; omega) (by have h := hc; unfold IsCls at h; simp; omega)

set_option maxRecDepth 100000 in
set_option maxHeartbeats 4000000 in
theorem escaped_no {w : World} {D x : Nat} (hx : IsLet x) (hc : ¬ IsCls (low x)) :
    Calls Tryf.prog 21 #[.slice (some ⟨D, 0, none⟩) 128 128, .int .u8 (x : Int)] w fun e w' => e = .returned (.bool false) ∧ w = w' := by
  have h31 : decide (48 ≤ (x : Int) ∧ (x : Int) ≤ 57) = false := by unfold IsLet at hx; simp; omega
  have h20 : decide ((97 ≤ (x : Int) ∧ (x : Int) ≤ 122) ∨ (65 ≤ (x : Int) ∧ (x : Int) ≤ 90)) = true := by unfold IsLet at hx; simp; omega
  have HIN : ∀ w1, Calls Tryf.prog 32 #[.int .u8 (low x : Int), .int .u8 0] w1 fun e w' => w1 = w' ∧ e = .returned (.tuple #[.bool false, .bool false]) := fun w1 => incl_none w1 (low x) 0 hc (by omega)
  have hx' : (97 ≤ x ∧ x ≤ 122) ∨ (65 ≤ x ∧ x ≤ 90) := hx
  clear hx hc
  by_cases hup : x ≤ 90
  · have hup2 : (x : Int) ≤ 90 := by omega
    have hlow : (low x : Int) = (x : Int) - 65 + 97 := by unfold low; rw [if_pos hup]; omega
    rw [hlow] at HIN
    have HIN2 := Lib.hid HIN
    clear HIN hlow
    go_enter Tryf.func21, Tryf.ntmps21
    go_wp2_with (first
      | (go_at_call 31; refine (digit_calls _ _).mono ?_; rintro e w' ⟨rfl, rfl⟩; rw [h31])
      | (go_at_call 20; refine (letter_calls _ _).mono ?_; rintro e w' ⟨rfl, rfl⟩; rw [h20]))
    refine wp_loop_rounds 1 ?_
    rw [rounds_succ]
    (repeat (first | go_values | go_skip | go_guarded | go_step | go_upon))
    refine (HIN2.out _).mono ?_
    rintro e w' ⟨rfl, rfl⟩
    simp only []
    (repeat (first | go_values | go_skip | go_guarded | go_step | go_upon))
    go_ret
    exact ⟨rfl, rfl⟩
  · have hup2 : ¬ (x : Int) ≤ 90 := by omega
    have hlow : (low x : Int) = (x : Int) := by unfold low; rw [if_neg hup]
    rw [hlow] at HIN
    have HIN2 := Lib.hid HIN
    clear HIN hlow
    go_enter Tryf.func21, Tryf.ntmps21
    go_wp2_with (first
      | (go_at_call 31; refine (digit_calls _ _).mono ?_; rintro e w' ⟨rfl, rfl⟩; rw [h31])
      | (go_at_call 20; refine (letter_calls _ _).mono ?_; rintro e w' ⟨rfl, rfl⟩; rw [h20]))
    refine wp_loop_rounds 1 ?_
    rw [rounds_succ]
    (repeat (first | go_values | go_skip | go_guarded | go_step | go_upon))
    refine (HIN2.out _).mono ?_
    rintro e w' ⟨rfl, rfl⟩
    simp only []
    (repeat (first | go_values | go_skip | go_guarded | go_step | go_upon))
    go_ret
    exact ⟨rfl, rfl⟩

set_option maxRecDepth 100000 in
theorem inclass_none {w : World} {x b : Nat} (hx : IsLet x) (hc : ¬ IsCls (low x)) (hb : b < 128) :
    Calls Tryf.prog 12 #[.int .u8 (x : Int), .int .u8 (b : Int)] w fun e w' => Ch (fun _ => False) w w' ∧ e = .returned (.tuple #[.bool false, .bool false]) := by
  have h20 : decide ((97 ≤ (x : Int) ∧ (x : Int) ≤ 122) ∨ (65 ≤ (x : Int) ∧ (x : Int) ≤ 90)) = true := by unfold IsLet at hx; simp; omega
  have g1 : decide ((127 : Int) < (b : Int)) = false := by simp; omega
  go_enter Tryf.func12, Tryf.ntmps12
  go_wp2_with fail
  refine (empty_calls w).mono ?_
  rintro e w1 ⟨rfl, hch1, hsz1, hc1, hf1⟩
  have HC1 := Lib.hid hch1
  clear hch1 hsz1 hc1 hf1
  simp only []
  go_wp2_with fail
  refine (letter_calls _ _).mono ?_
  rintro e w' ⟨rfl, rfl⟩
  rw [h20]
  simp only []
  go_wp2_with fail
  refine (escaped_no hx hc).mono ?_
  rintro e w2 ⟨rfl, rfl⟩
  simp only []
  go_wp2_with fail
  go_ret2
  exact ⟨HC1.out, rfl⟩

end Go.Proofs.YtkbdngcbifonkaaFmt
