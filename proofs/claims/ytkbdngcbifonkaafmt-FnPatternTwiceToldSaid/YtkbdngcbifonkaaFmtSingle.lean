/-
  THE CLASSES BEHIND A %: each of the twenty letters, and any other byte: what Matches tells of a byte. Lines laid by a program of this session (gensingle.py).
-/
import Derived.Test.YtkbdngcbifonkaaFmtRep
import Derived.Test.YtkbdngcbifonkaaFmtProg
import Derived.BigGuardPart
namespace Go.Proofs.YtkbdngcbifonkaaFmt
set_option linter.all false
open Go.RowKit

theorem ret_bool {a b : Bool} (h : a = b) : Ending.returned (.bool a) = .returned (.bool b) := by rw [h]

set_option maxRecDepth 100000 in
set_option maxHeartbeats 1000000 in
theorem single_97 (b : Nat) (ch : Int) (w : World) (h : w.cell? ⟨b, 0, none⟩ = some (.int .i64 97)) : 
    Calls Tryf.prog 84 #[ptr b, .int .i64 ch] w fun e w' => e = .returned (.bool (Pm.single 97 ch)) ∧ w = w' := by
  go_enter Tryf.func84, Tryf.ntmps84
  go_wp2
  all_goals first
    | (exfalso; omega)
    | (simp only [beq_iff_eq, beq_eq_false_iff_ne, ne_eq] at *; exfalso; omega)
    | (go_ret; refine ⟨ret_bool ?_, rfl⟩; (try simp only [beq_iff_eq, beq_eq_false_iff_ne, ne_eq] at *); rw [Bool.eq_iff_iff]; simp [Pm.single, Pm.base] <;> omega)

set_option maxRecDepth 100000 in
set_option maxHeartbeats 1000000 in
theorem single_65 (b : Nat) (ch : Int) (w : World) (h : w.cell? ⟨b, 0, none⟩ = some (.int .i64 65)) : 
    Calls Tryf.prog 84 #[ptr b, .int .i64 ch] w fun e w' => e = .returned (.bool (Pm.single 65 ch)) ∧ w = w' := by
  go_enter Tryf.func84, Tryf.ntmps84
  go_wp2
  all_goals first
    | (exfalso; omega)
    | (simp only [beq_iff_eq, beq_eq_false_iff_ne, ne_eq] at *; exfalso; omega)
    | (go_ret; refine ⟨ret_bool ?_, rfl⟩; (try simp only [beq_iff_eq, beq_eq_false_iff_ne, ne_eq] at *); rw [Bool.eq_iff_iff]; simp [Pm.single, Pm.base] <;> omega)

set_option maxRecDepth 100000 in
set_option maxHeartbeats 1000000 in
theorem single_99 (b : Nat) (ch : Int) (w : World) (h : w.cell? ⟨b, 0, none⟩ = some (.int .i64 99)) (hc : 0 ≤ ch) : 
    Calls Tryf.prog 84 #[ptr b, .int .i64 ch] w fun e w' => e = .returned (.bool (Pm.single 99 ch)) ∧ w = w' := by
  go_enter Tryf.func84, Tryf.ntmps84
  go_wp2
  all_goals first
    | (exfalso; omega)
    | (simp only [beq_iff_eq, beq_eq_false_iff_ne, ne_eq] at *; exfalso; omega)
    | (go_ret; refine ⟨ret_bool ?_, rfl⟩; (try simp only [beq_iff_eq, beq_eq_false_iff_ne, ne_eq] at *); rw [Bool.eq_iff_iff]; simp [Pm.single, Pm.base] <;> omega)

set_option maxRecDepth 100000 in
set_option maxHeartbeats 1000000 in
theorem single_67 (b : Nat) (ch : Int) (w : World) (h : w.cell? ⟨b, 0, none⟩ = some (.int .i64 67)) (hc : 0 ≤ ch) : 
    Calls Tryf.prog 84 #[ptr b, .int .i64 ch] w fun e w' => e = .returned (.bool (Pm.single 67 ch)) ∧ w = w' := by
  go_enter Tryf.func84, Tryf.ntmps84
  go_wp2
  all_goals first
    | (exfalso; omega)
    | (simp only [beq_iff_eq, beq_eq_false_iff_ne, ne_eq] at *; exfalso; omega)
    | (go_ret; refine ⟨ret_bool ?_, rfl⟩; (try simp only [beq_iff_eq, beq_eq_false_iff_ne, ne_eq] at *); rw [Bool.eq_iff_iff]; simp [Pm.single, Pm.base] <;> omega)

set_option maxRecDepth 100000 in
set_option maxHeartbeats 1000000 in
theorem single_100 (b : Nat) (ch : Int) (w : World) (h : w.cell? ⟨b, 0, none⟩ = some (.int .i64 100)) : 
    Calls Tryf.prog 84 #[ptr b, .int .i64 ch] w fun e w' => e = .returned (.bool (Pm.single 100 ch)) ∧ w = w' := by
  go_enter Tryf.func84, Tryf.ntmps84
  go_wp2
  all_goals first
    | (exfalso; omega)
    | (simp only [beq_iff_eq, beq_eq_false_iff_ne, ne_eq] at *; exfalso; omega)
    | (go_ret; refine ⟨ret_bool ?_, rfl⟩; (try simp only [beq_iff_eq, beq_eq_false_iff_ne, ne_eq] at *); rw [Bool.eq_iff_iff]; simp [Pm.single, Pm.base] <;> omega)

set_option maxRecDepth 100000 in
set_option maxHeartbeats 1000000 in
theorem single_68 (b : Nat) (ch : Int) (w : World) (h : w.cell? ⟨b, 0, none⟩ = some (.int .i64 68)) : 
    Calls Tryf.prog 84 #[ptr b, .int .i64 ch] w fun e w' => e = .returned (.bool (Pm.single 68 ch)) ∧ w = w' := by
  go_enter Tryf.func84, Tryf.ntmps84
  go_wp2
  all_goals first
    | (exfalso; omega)
    | (simp only [beq_iff_eq, beq_eq_false_iff_ne, ne_eq] at *; exfalso; omega)
    | (go_ret; refine ⟨ret_bool ?_, rfl⟩; (try simp only [beq_iff_eq, beq_eq_false_iff_ne, ne_eq] at *); rw [Bool.eq_iff_iff]; simp [Pm.single, Pm.base] <;> omega)

set_option maxRecDepth 100000 in
set_option maxHeartbeats 1000000 in
theorem single_108 (b : Nat) (ch : Int) (w : World) (h : w.cell? ⟨b, 0, none⟩ = some (.int .i64 108)) : 
    Calls Tryf.prog 84 #[ptr b, .int .i64 ch] w fun e w' => e = .returned (.bool (Pm.single 108 ch)) ∧ w = w' := by
  go_enter Tryf.func84, Tryf.ntmps84
  go_wp2
  all_goals first
    | (exfalso; omega)
    | (simp only [beq_iff_eq, beq_eq_false_iff_ne, ne_eq] at *; exfalso; omega)
    | (go_ret; refine ⟨ret_bool ?_, rfl⟩; (try simp only [beq_iff_eq, beq_eq_false_iff_ne, ne_eq] at *); rw [Bool.eq_iff_iff]; simp [Pm.single, Pm.base] <;> omega)

set_option maxRecDepth 100000 in
set_option maxHeartbeats 1000000 in
theorem single_76 (b : Nat) (ch : Int) (w : World) (h : w.cell? ⟨b, 0, none⟩ = some (.int .i64 76)) : 
    Calls Tryf.prog 84 #[ptr b, .int .i64 ch] w fun e w' => e = .returned (.bool (Pm.single 76 ch)) ∧ w = w' := by
  go_enter Tryf.func84, Tryf.ntmps84
  go_wp2
  all_goals first
    | (exfalso; omega)
    | (simp only [beq_iff_eq, beq_eq_false_iff_ne, ne_eq] at *; exfalso; omega)
    | (go_ret; refine ⟨ret_bool ?_, rfl⟩; (try simp only [beq_iff_eq, beq_eq_false_iff_ne, ne_eq] at *); rw [Bool.eq_iff_iff]; simp [Pm.single, Pm.base] <;> omega)

set_option maxRecDepth 100000 in
set_option maxHeartbeats 1000000 in
theorem single_112 (b : Nat) (ch : Int) (w : World) (h : w.cell? ⟨b, 0, none⟩ = some (.int .i64 112)) : 
    Calls Tryf.prog 84 #[ptr b, .int .i64 ch] w fun e w' => e = .returned (.bool (Pm.single 112 ch)) ∧ w = w' := by
  go_enter Tryf.func84, Tryf.ntmps84
  go_wp2
  all_goals first
    | (exfalso; omega)
    | (simp only [beq_iff_eq, beq_eq_false_iff_ne, ne_eq] at *; exfalso; omega)
    | (go_ret; refine ⟨ret_bool ?_, rfl⟩; (try simp only [beq_iff_eq, beq_eq_false_iff_ne, ne_eq] at *); rw [Bool.eq_iff_iff]; simp [Pm.single, Pm.base] <;> omega)

set_option maxRecDepth 100000 in
set_option maxHeartbeats 1000000 in
theorem single_80 (b : Nat) (ch : Int) (w : World) (h : w.cell? ⟨b, 0, none⟩ = some (.int .i64 80)) : 
    Calls Tryf.prog 84 #[ptr b, .int .i64 ch] w fun e w' => e = .returned (.bool (Pm.single 80 ch)) ∧ w = w' := by
  go_enter Tryf.func84, Tryf.ntmps84
  go_wp2
  all_goals first
    | (exfalso; omega)
    | (simp only [beq_iff_eq, beq_eq_false_iff_ne, ne_eq] at *; exfalso; omega)
    | (go_ret; refine ⟨ret_bool ?_, rfl⟩; (try simp only [beq_iff_eq, beq_eq_false_iff_ne, ne_eq] at *); rw [Bool.eq_iff_iff]; simp [Pm.single, Pm.base] <;> omega)

set_option maxRecDepth 100000 in
set_option maxHeartbeats 1000000 in
theorem single_115 (b : Nat) (ch : Int) (w : World) (h : w.cell? ⟨b, 0, none⟩ = some (.int .i64 115)) : 
    Calls Tryf.prog 84 #[ptr b, .int .i64 ch] w fun e w' => e = .returned (.bool (Pm.single 115 ch)) ∧ w = w' := by
  go_enter Tryf.func84, Tryf.ntmps84
  go_wp2
  all_goals first
    | (exfalso; omega)
    | (simp only [beq_iff_eq, beq_eq_false_iff_ne, ne_eq] at *; exfalso; omega)
    | (go_ret; refine ⟨ret_bool ?_, rfl⟩; (try simp only [beq_iff_eq, beq_eq_false_iff_ne, ne_eq] at *); rw [Bool.eq_iff_iff]; simp [Pm.single, Pm.base] <;> omega)

set_option maxRecDepth 100000 in
set_option maxHeartbeats 1000000 in
theorem single_83 (b : Nat) (ch : Int) (w : World) (h : w.cell? ⟨b, 0, none⟩ = some (.int .i64 83)) : 
    Calls Tryf.prog 84 #[ptr b, .int .i64 ch] w fun e w' => e = .returned (.bool (Pm.single 83 ch)) ∧ w = w' := by
  go_enter Tryf.func84, Tryf.ntmps84
  go_wp2
  all_goals first
    | (exfalso; omega)
    | (simp only [beq_iff_eq, beq_eq_false_iff_ne, ne_eq] at *; exfalso; omega)
    | (go_ret; refine ⟨ret_bool ?_, rfl⟩; (try simp only [beq_iff_eq, beq_eq_false_iff_ne, ne_eq] at *); rw [Bool.eq_iff_iff]; simp [Pm.single, Pm.base] <;> omega)

set_option maxRecDepth 100000 in
set_option maxHeartbeats 1000000 in
theorem single_117 (b : Nat) (ch : Int) (w : World) (h : w.cell? ⟨b, 0, none⟩ = some (.int .i64 117)) : 
    Calls Tryf.prog 84 #[ptr b, .int .i64 ch] w fun e w' => e = .returned (.bool (Pm.single 117 ch)) ∧ w = w' := by
  go_enter Tryf.func84, Tryf.ntmps84
  go_wp2
  all_goals first
    | (exfalso; omega)
    | (simp only [beq_iff_eq, beq_eq_false_iff_ne, ne_eq] at *; exfalso; omega)
    | (go_ret; refine ⟨ret_bool ?_, rfl⟩; (try simp only [beq_iff_eq, beq_eq_false_iff_ne, ne_eq] at *); rw [Bool.eq_iff_iff]; simp [Pm.single, Pm.base] <;> omega)

set_option maxRecDepth 100000 in
set_option maxHeartbeats 1000000 in
theorem single_85 (b : Nat) (ch : Int) (w : World) (h : w.cell? ⟨b, 0, none⟩ = some (.int .i64 85)) : 
    Calls Tryf.prog 84 #[ptr b, .int .i64 ch] w fun e w' => e = .returned (.bool (Pm.single 85 ch)) ∧ w = w' := by
  go_enter Tryf.func84, Tryf.ntmps84
  go_wp2
  all_goals first
    | (exfalso; omega)
    | (simp only [beq_iff_eq, beq_eq_false_iff_ne, ne_eq] at *; exfalso; omega)
    | (go_ret; refine ⟨ret_bool ?_, rfl⟩; (try simp only [beq_iff_eq, beq_eq_false_iff_ne, ne_eq] at *); rw [Bool.eq_iff_iff]; simp [Pm.single, Pm.base] <;> omega)

set_option maxRecDepth 100000 in
set_option maxHeartbeats 1000000 in
theorem single_119 (b : Nat) (ch : Int) (w : World) (h : w.cell? ⟨b, 0, none⟩ = some (.int .i64 119)) : 
    Calls Tryf.prog 84 #[ptr b, .int .i64 ch] w fun e w' => e = .returned (.bool (Pm.single 119 ch)) ∧ w = w' := by
  go_enter Tryf.func84, Tryf.ntmps84
  go_wp2
  all_goals first
    | (exfalso; omega)
    | (simp only [beq_iff_eq, beq_eq_false_iff_ne, ne_eq] at *; exfalso; omega)
    | (go_ret; refine ⟨ret_bool ?_, rfl⟩; (try simp only [beq_iff_eq, beq_eq_false_iff_ne, ne_eq] at *); rw [Bool.eq_iff_iff]; simp [Pm.single, Pm.base] <;> omega)

set_option maxRecDepth 100000 in
set_option maxHeartbeats 1000000 in
theorem single_87 (b : Nat) (ch : Int) (w : World) (h : w.cell? ⟨b, 0, none⟩ = some (.int .i64 87)) : 
    Calls Tryf.prog 84 #[ptr b, .int .i64 ch] w fun e w' => e = .returned (.bool (Pm.single 87 ch)) ∧ w = w' := by
  go_enter Tryf.func84, Tryf.ntmps84
  go_wp2
  all_goals first
    | (exfalso; omega)
    | (simp only [beq_iff_eq, beq_eq_false_iff_ne, ne_eq] at *; exfalso; omega)
    | (go_ret; refine ⟨ret_bool ?_, rfl⟩; (try simp only [beq_iff_eq, beq_eq_false_iff_ne, ne_eq] at *); rw [Bool.eq_iff_iff]; simp [Pm.single, Pm.base] <;> omega)

set_option maxRecDepth 100000 in
set_option maxHeartbeats 1000000 in
theorem single_120 (b : Nat) (ch : Int) (w : World) (h : w.cell? ⟨b, 0, none⟩ = some (.int .i64 120)) : 
    Calls Tryf.prog 84 #[ptr b, .int .i64 ch] w fun e w' => e = .returned (.bool (Pm.single 120 ch)) ∧ w = w' := by
  go_enter Tryf.func84, Tryf.ntmps84
  go_wp2
  all_goals first
    | (exfalso; omega)
    | (simp only [beq_iff_eq, beq_eq_false_iff_ne, ne_eq] at *; exfalso; omega)
    | (go_ret; refine ⟨ret_bool ?_, rfl⟩; (try simp only [beq_iff_eq, beq_eq_false_iff_ne, ne_eq] at *); rw [Bool.eq_iff_iff]; simp [Pm.single, Pm.base] <;> omega)

set_option maxRecDepth 100000 in
set_option maxHeartbeats 1000000 in
theorem single_88 (b : Nat) (ch : Int) (w : World) (h : w.cell? ⟨b, 0, none⟩ = some (.int .i64 88)) : 
    Calls Tryf.prog 84 #[ptr b, .int .i64 ch] w fun e w' => e = .returned (.bool (Pm.single 88 ch)) ∧ w = w' := by
  go_enter Tryf.func84, Tryf.ntmps84
  go_wp2
  all_goals first
    | (exfalso; omega)
    | (simp only [beq_iff_eq, beq_eq_false_iff_ne, ne_eq] at *; exfalso; omega)
    | (go_ret; refine ⟨ret_bool ?_, rfl⟩; (try simp only [beq_iff_eq, beq_eq_false_iff_ne, ne_eq] at *); rw [Bool.eq_iff_iff]; simp [Pm.single, Pm.base] <;> omega)

set_option maxRecDepth 100000 in
set_option maxHeartbeats 1000000 in
theorem single_122 (b : Nat) (ch : Int) (w : World) (h : w.cell? ⟨b, 0, none⟩ = some (.int .i64 122)) : 
    Calls Tryf.prog 84 #[ptr b, .int .i64 ch] w fun e w' => e = .returned (.bool (Pm.single 122 ch)) ∧ w = w' := by
  go_enter Tryf.func84, Tryf.ntmps84
  go_wp2
  all_goals first
    | (exfalso; omega)
    | (simp only [beq_iff_eq, beq_eq_false_iff_ne, ne_eq] at *; exfalso; omega)
    | (go_ret; refine ⟨ret_bool ?_, rfl⟩; (try simp only [beq_iff_eq, beq_eq_false_iff_ne, ne_eq] at *); rw [Bool.eq_iff_iff]; simp [Pm.single, Pm.base] <;> omega)

set_option maxRecDepth 100000 in
set_option maxHeartbeats 1000000 in
theorem single_90 (b : Nat) (ch : Int) (w : World) (h : w.cell? ⟨b, 0, none⟩ = some (.int .i64 90)) : 
    Calls Tryf.prog 84 #[ptr b, .int .i64 ch] w fun e w' => e = .returned (.bool (Pm.single 90 ch)) ∧ w = w' := by
  go_enter Tryf.func84, Tryf.ntmps84
  go_wp2
  all_goals first
    | (exfalso; omega)
    | (simp only [beq_iff_eq, beq_eq_false_iff_ne, ne_eq] at *; exfalso; omega)
    | (go_ret; refine ⟨ret_bool ?_, rfl⟩; (try simp only [beq_iff_eq, beq_eq_false_iff_ne, ne_eq] at *); rw [Bool.eq_iff_iff]; simp [Pm.single, Pm.base] <;> omega)

set_option maxRecDepth 100000 in
set_option maxHeartbeats 1000000 in
theorem single_other (b : Nat) (n ch : Int) (w : World) (h : w.cell? ⟨b, 0, none⟩ = some (.int .i64 n)) (g97 : (n == 97) = false) (g65 : (n == 65) = false) (g99 : (n == 99) = false) (g67 : (n == 67) = false) (g100 : (n == 100) = false) (g68 : (n == 68) = false) (g108 : (n == 108) = false) (g76 : (n == 76) = false) (g112 : (n == 112) = false) (g80 : (n == 80) = false) (g115 : (n == 115) = false) (g83 : (n == 83) = false) (g117 : (n == 117) = false) (g85 : (n == 85) = false) (g119 : (n == 119) = false) (g87 : (n == 87) = false) (g120 : (n == 120) = false) (g88 : (n == 88) = false) (g122 : (n == 122) = false) (g90 : (n == 90) = false) :
    Calls Tryf.prog 84 #[ptr b, .int .i64 ch] w fun e w' => e = .returned (.bool (ch == n)) ∧ w = w' := by
  go_enter Tryf.func84, Tryf.ntmps84
  go_wp2
  go_ret
  exact ⟨rfl, rfl⟩

theorem single_matches (b : Nat) (n ch : Int) (w : World) (h : w.cell? ⟨b, 0, none⟩ = some (.int .i64 n)) (hc : 0 ≤ ch) :
    Calls Tryf.prog 84 #[ptr b, .int .i64 ch] w fun e w' => e = .returned (.bool (Pm.single n ch)) ∧ w = w' := by
  by_cases g97 : n = 97
  · subst g97; exact single_97 b ch w h
  by_cases g65 : n = 65
  · subst g65; exact single_65 b ch w h
  by_cases g99 : n = 99
  · subst g99; exact single_99 b ch w h hc
  by_cases g67 : n = 67
  · subst g67; exact single_67 b ch w h hc
  by_cases g100 : n = 100
  · subst g100; exact single_100 b ch w h
  by_cases g68 : n = 68
  · subst g68; exact single_68 b ch w h
  by_cases g108 : n = 108
  · subst g108; exact single_108 b ch w h
  by_cases g76 : n = 76
  · subst g76; exact single_76 b ch w h
  by_cases g112 : n = 112
  · subst g112; exact single_112 b ch w h
  by_cases g80 : n = 80
  · subst g80; exact single_80 b ch w h
  by_cases g115 : n = 115
  · subst g115; exact single_115 b ch w h
  by_cases g83 : n = 83
  · subst g83; exact single_83 b ch w h
  by_cases g117 : n = 117
  · subst g117; exact single_117 b ch w h
  by_cases g85 : n = 85
  · subst g85; exact single_85 b ch w h
  by_cases g119 : n = 119
  · subst g119; exact single_119 b ch w h
  by_cases g87 : n = 87
  · subst g87; exact single_87 b ch w h
  by_cases g120 : n = 120
  · subst g120; exact single_120 b ch w h
  by_cases g88 : n = 88
  · subst g88; exact single_88 b ch w h
  by_cases g122 : n = 122
  · subst g122; exact single_122 b ch w h
  by_cases g90 : n = 90
  · subst g90; exact single_90 b ch w h
  have hs : Pm.single n ch = (ch == n) := by
    have hb : Pm.base n ch = none := by unfold Pm.base; rw [if_neg (by omega), if_neg (by omega), if_neg (by omega), if_neg (by omega), if_neg (by omega), if_neg (by omega), if_neg (by omega), if_neg (by omega), if_neg (by omega), if_neg (by omega)]
    simp only [Pm.single, hb]; rfl
  rw [hs]
  exact single_other b n ch w h (by simpa using g97) (by simpa using g65) (by simpa using g99) (by simpa using g67) (by simpa using g100) (by simpa using g68) (by simpa using g108) (by simpa using g76) (by simpa using g112) (by simpa using g80) (by simpa using g115) (by simpa using g83) (by simpa using g117) (by simpa using g85) (by simpa using g119) (by simpa using g87) (by simpa using g120) (by simpa using g88) (by simpa using g122) (by simpa using g90)

end Go.Proofs.YtkbdngcbifonkaaFmt
