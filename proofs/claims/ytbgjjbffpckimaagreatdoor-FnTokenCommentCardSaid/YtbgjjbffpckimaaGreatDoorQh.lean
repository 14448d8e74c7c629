/-
  The tokens of a text: tokens of impl.
-/
import Derived.Test.YtbgjjbffpckimaaGreatDoorQg
namespace Go.Proofs.YtbgjjbffpckimaaGreatDoor
set_option linter.all false
open Go.RowKit

theorem results_c1 {fn : Func} {p : Tmp} {ty : TypeId} (h : fn.results = #[.cell p ty]) (tmps : Array Value) (P : Program) (w : World) :
    (results fn tmps).run P w = ((asAddr (tmps.getD p undef)).run P w).andThen fun a w₁ => (loadVar ty a).run P w₁ := by
  simp only [results, h]
  simp [Sem.run_bind, Result.andThen]

set_option maxRecDepth 100000 in
set_option maxHeartbeats 4000000 in
theorem word_57346 {w : World} : Calls Tryz.prog 42 #[.int .i64 57346] w fun e w' => e = .returned (.string ⟨#[97, 110, 100]⟩) ∧ w' = w := by
  go_enter Tryz.func42, Tryz.ntmps42
  go_wp2_with fail
  go_ret
  exact ⟨rfl, rfl⟩

set_option maxRecDepth 100000 in
set_option maxHeartbeats 4000000 in
theorem token_57346 {w : World} {t : ByteArray} : Calls Tryz.prog 18 #[.int .i64 57346, .string t] w fun e w' => e = .returned (.agg #[.int .i64 2, .string ⟨#[97, 110, 100]⟩, .int .i64 0]) ∧ Ch (fun _ => False) w w' := by
  go_enter Tryz.func18, Tryz.ntmps18
  go_wp2_with fail
  refine word_57346.mono ?_
  rintro e w' ⟨rfl, rfl⟩
  simp only []
  go_wp2_with fail
  refine bodyPost_ret (v := .agg #[.int .i64 2, .string ⟨#[97, 110, 100]⟩, .int .i64 0]) (by rw [results_c1 rfl]; simp [go_sem, World.cell?_alloc_new]) rfl ?_
  exact ⟨rfl, (Ch.refl _ _).alloc _⟩

set_option maxRecDepth 100000 in
set_option maxHeartbeats 4000000 in
theorem word_57347 {w : World} : Calls Tryz.prog 42 #[.int .i64 57347] w fun e w' => e = .returned (.string ⟨#[98, 114, 101, 97, 107]⟩) ∧ w' = w := by
  go_enter Tryz.func42, Tryz.ntmps42
  go_wp2_with fail
  go_ret
  exact ⟨rfl, rfl⟩

set_option maxRecDepth 100000 in
set_option maxHeartbeats 4000000 in
theorem token_57347 {w : World} {t : ByteArray} : Calls Tryz.prog 18 #[.int .i64 57347, .string t] w fun e w' => e = .returned (.agg #[.int .i64 2, .string ⟨#[98, 114, 101, 97, 107]⟩, .int .i64 0]) ∧ Ch (fun _ => False) w w' := by
  go_enter Tryz.func18, Tryz.ntmps18
  go_wp2_with fail
  refine word_57347.mono ?_
  rintro e w' ⟨rfl, rfl⟩
  simp only []
  go_wp2_with fail
  refine bodyPost_ret (v := .agg #[.int .i64 2, .string ⟨#[98, 114, 101, 97, 107]⟩, .int .i64 0]) (by rw [results_c1 rfl]; simp [go_sem, World.cell?_alloc_new]) rfl ?_
  exact ⟨rfl, (Ch.refl _ _).alloc _⟩

set_option maxRecDepth 100000 in
set_option maxHeartbeats 4000000 in
theorem word_57348 {w : World} : Calls Tryz.prog 42 #[.int .i64 57348] w fun e w' => e = .returned (.string ⟨#[100, 111]⟩) ∧ w' = w := by
  go_enter Tryz.func42, Tryz.ntmps42
  go_wp2_with fail
  go_ret
  exact ⟨rfl, rfl⟩

set_option maxRecDepth 100000 in
set_option maxHeartbeats 4000000 in
theorem token_57348 {w : World} {t : ByteArray} : Calls Tryz.prog 18 #[.int .i64 57348, .string t] w fun e w' => e = .returned (.agg #[.int .i64 2, .string ⟨#[100, 111]⟩, .int .i64 0]) ∧ Ch (fun _ => False) w w' := by
  go_enter Tryz.func18, Tryz.ntmps18
  go_wp2_with fail
  refine word_57348.mono ?_
  rintro e w' ⟨rfl, rfl⟩
  simp only []
  go_wp2_with fail
  refine bodyPost_ret (v := .agg #[.int .i64 2, .string ⟨#[100, 111]⟩, .int .i64 0]) (by rw [results_c1 rfl]; simp [go_sem, World.cell?_alloc_new]) rfl ?_
  exact ⟨rfl, (Ch.refl _ _).alloc _⟩

set_option maxRecDepth 100000 in
set_option maxHeartbeats 4000000 in
theorem word_57349 {w : World} : Calls Tryz.prog 42 #[.int .i64 57349] w fun e w' => e = .returned (.string ⟨#[101, 108, 115, 101]⟩) ∧ w' = w := by
  go_enter Tryz.func42, Tryz.ntmps42
  go_wp2_with fail
  go_ret
  exact ⟨rfl, rfl⟩

set_option maxRecDepth 100000 in
set_option maxHeartbeats 4000000 in
theorem token_57349 {w : World} {t : ByteArray} : Calls Tryz.prog 18 #[.int .i64 57349, .string t] w fun e w' => e = .returned (.agg #[.int .i64 2, .string ⟨#[101, 108, 115, 101]⟩, .int .i64 0]) ∧ Ch (fun _ => False) w w' := by
  go_enter Tryz.func18, Tryz.ntmps18
  go_wp2_with fail
  refine word_57349.mono ?_
  rintro e w' ⟨rfl, rfl⟩
  simp only []
  go_wp2_with fail
  refine bodyPost_ret (v := .agg #[.int .i64 2, .string ⟨#[101, 108, 115, 101]⟩, .int .i64 0]) (by rw [results_c1 rfl]; simp [go_sem, World.cell?_alloc_new]) rfl ?_
  exact ⟨rfl, (Ch.refl _ _).alloc _⟩

set_option maxRecDepth 100000 in
set_option maxHeartbeats 4000000 in
theorem word_57350 {w : World} : Calls Tryz.prog 42 #[.int .i64 57350] w fun e w' => e = .returned (.string ⟨#[101, 108, 115, 101, 105, 102]⟩) ∧ w' = w := by
  go_enter Tryz.func42, Tryz.ntmps42
  go_wp2_with fail
  go_ret
  exact ⟨rfl, rfl⟩

set_option maxRecDepth 100000 in
set_option maxHeartbeats 4000000 in
theorem token_57350 {w : World} {t : ByteArray} : Calls Tryz.prog 18 #[.int .i64 57350, .string t] w fun e w' => e = .returned (.agg #[.int .i64 2, .string ⟨#[101, 108, 115, 101, 105, 102]⟩, .int .i64 0]) ∧ Ch (fun _ => False) w w' := by
  go_enter Tryz.func18, Tryz.ntmps18
  go_wp2_with fail
  refine word_57350.mono ?_
  rintro e w' ⟨rfl, rfl⟩
  simp only []
  go_wp2_with fail
  refine bodyPost_ret (v := .agg #[.int .i64 2, .string ⟨#[101, 108, 115, 101, 105, 102]⟩, .int .i64 0]) (by rw [results_c1 rfl]; simp [go_sem, World.cell?_alloc_new]) rfl ?_
  exact ⟨rfl, (Ch.refl _ _).alloc _⟩

set_option maxRecDepth 100000 in
set_option maxHeartbeats 4000000 in
theorem word_57351 {w : World} : Calls Tryz.prog 42 #[.int .i64 57351] w fun e w' => e = .returned (.string ⟨#[101, 110, 100]⟩) ∧ w' = w := by
  go_enter Tryz.func42, Tryz.ntmps42
  go_wp2_with fail
  go_ret
  exact ⟨rfl, rfl⟩

set_option maxRecDepth 100000 in
set_option maxHeartbeats 4000000 in
theorem token_57351 {w : World} {t : ByteArray} : Calls Tryz.prog 18 #[.int .i64 57351, .string t] w fun e w' => e = .returned (.agg #[.int .i64 2, .string ⟨#[101, 110, 100]⟩, .int .i64 0]) ∧ Ch (fun _ => False) w w' := by
  go_enter Tryz.func18, Tryz.ntmps18
  go_wp2_with fail
  refine word_57351.mono ?_
  rintro e w' ⟨rfl, rfl⟩
  simp only []
  go_wp2_with fail
  refine bodyPost_ret (v := .agg #[.int .i64 2, .string ⟨#[101, 110, 100]⟩, .int .i64 0]) (by rw [results_c1 rfl]; simp [go_sem, World.cell?_alloc_new]) rfl ?_
  exact ⟨rfl, (Ch.refl _ _).alloc _⟩

set_option maxRecDepth 100000 in
set_option maxHeartbeats 4000000 in
theorem word_57352 {w : World} : Calls Tryz.prog 42 #[.int .i64 57352] w fun e w' => e = .returned (.string ⟨#[102, 97, 108, 115, 101]⟩) ∧ w' = w := by
  go_enter Tryz.func42, Tryz.ntmps42
  go_wp2_with fail
  go_ret
  exact ⟨rfl, rfl⟩

set_option maxRecDepth 100000 in
set_option maxHeartbeats 4000000 in
theorem token_57352 {w : World} {t : ByteArray} : Calls Tryz.prog 18 #[.int .i64 57352, .string t] w fun e w' => e = .returned (.agg #[.int .i64 2, .string ⟨#[102, 97, 108, 115, 101]⟩, .int .i64 0]) ∧ Ch (fun _ => False) w w' := by
  go_enter Tryz.func18, Tryz.ntmps18
  go_wp2_with fail
  refine word_57352.mono ?_
  rintro e w' ⟨rfl, rfl⟩
  simp only []
  go_wp2_with fail
  refine bodyPost_ret (v := .agg #[.int .i64 2, .string ⟨#[102, 97, 108, 115, 101]⟩, .int .i64 0]) (by rw [results_c1 rfl]; simp [go_sem, World.cell?_alloc_new]) rfl ?_
  exact ⟨rfl, (Ch.refl _ _).alloc _⟩

set_option maxRecDepth 100000 in
set_option maxHeartbeats 4000000 in
theorem word_57353 {w : World} : Calls Tryz.prog 42 #[.int .i64 57353] w fun e w' => e = .returned (.string ⟨#[102, 111, 114]⟩) ∧ w' = w := by
  go_enter Tryz.func42, Tryz.ntmps42
  go_wp2_with fail
  go_ret
  exact ⟨rfl, rfl⟩

set_option maxRecDepth 100000 in
set_option maxHeartbeats 4000000 in
theorem token_57353 {w : World} {t : ByteArray} : Calls Tryz.prog 18 #[.int .i64 57353, .string t] w fun e w' => e = .returned (.agg #[.int .i64 2, .string ⟨#[102, 111, 114]⟩, .int .i64 0]) ∧ Ch (fun _ => False) w w' := by
  go_enter Tryz.func18, Tryz.ntmps18
  go_wp2_with fail
  refine word_57353.mono ?_
  rintro e w' ⟨rfl, rfl⟩
  simp only []
  go_wp2_with fail
  refine bodyPost_ret (v := .agg #[.int .i64 2, .string ⟨#[102, 111, 114]⟩, .int .i64 0]) (by rw [results_c1 rfl]; simp [go_sem, World.cell?_alloc_new]) rfl ?_
  exact ⟨rfl, (Ch.refl _ _).alloc _⟩

set_option maxRecDepth 100000 in
set_option maxHeartbeats 4000000 in
theorem word_57354 {w : World} : Calls Tryz.prog 42 #[.int .i64 57354] w fun e w' => e = .returned (.string ⟨#[102, 117, 110, 99, 116, 105, 111, 110]⟩) ∧ w' = w := by
  go_enter Tryz.func42, Tryz.ntmps42
  go_wp2_with fail
  go_ret
  exact ⟨rfl, rfl⟩

set_option maxRecDepth 100000 in
set_option maxHeartbeats 4000000 in
theorem token_57354 {w : World} {t : ByteArray} : Calls Tryz.prog 18 #[.int .i64 57354, .string t] w fun e w' => e = .returned (.agg #[.int .i64 2, .string ⟨#[102, 117, 110, 99, 116, 105, 111, 110]⟩, .int .i64 0]) ∧ Ch (fun _ => False) w w' := by
  go_enter Tryz.func18, Tryz.ntmps18
  go_wp2_with fail
  refine word_57354.mono ?_
  rintro e w' ⟨rfl, rfl⟩
  simp only []
  go_wp2_with fail
  refine bodyPost_ret (v := .agg #[.int .i64 2, .string ⟨#[102, 117, 110, 99, 116, 105, 111, 110]⟩, .int .i64 0]) (by rw [results_c1 rfl]; simp [go_sem, World.cell?_alloc_new]) rfl ?_
  exact ⟨rfl, (Ch.refl _ _).alloc _⟩

set_option maxRecDepth 100000 in
set_option maxHeartbeats 4000000 in
theorem word_57355 {w : World} : Calls Tryz.prog 42 #[.int .i64 57355] w fun e w' => e = .returned (.string ⟨#[105, 102]⟩) ∧ w' = w := by
  go_enter Tryz.func42, Tryz.ntmps42
  go_wp2_with fail
  go_ret
  exact ⟨rfl, rfl⟩

set_option maxRecDepth 100000 in
set_option maxHeartbeats 4000000 in
theorem token_57355 {w : World} {t : ByteArray} : Calls Tryz.prog 18 #[.int .i64 57355, .string t] w fun e w' => e = .returned (.agg #[.int .i64 2, .string ⟨#[105, 102]⟩, .int .i64 0]) ∧ Ch (fun _ => False) w w' := by
  go_enter Tryz.func18, Tryz.ntmps18
  go_wp2_with fail
  refine word_57355.mono ?_
  rintro e w' ⟨rfl, rfl⟩
  simp only []
  go_wp2_with fail
  refine bodyPost_ret (v := .agg #[.int .i64 2, .string ⟨#[105, 102]⟩, .int .i64 0]) (by rw [results_c1 rfl]; simp [go_sem, World.cell?_alloc_new]) rfl ?_
  exact ⟨rfl, (Ch.refl _ _).alloc _⟩

set_option maxRecDepth 100000 in
set_option maxHeartbeats 4000000 in
theorem word_57356 {w : World} : Calls Tryz.prog 42 #[.int .i64 57356] w fun e w' => e = .returned (.string ⟨#[105, 110]⟩) ∧ w' = w := by
  go_enter Tryz.func42, Tryz.ntmps42
  go_wp2_with fail
  go_ret
  exact ⟨rfl, rfl⟩

set_option maxRecDepth 100000 in
set_option maxHeartbeats 4000000 in
theorem token_57356 {w : World} {t : ByteArray} : Calls Tryz.prog 18 #[.int .i64 57356, .string t] w fun e w' => e = .returned (.agg #[.int .i64 2, .string ⟨#[105, 110]⟩, .int .i64 0]) ∧ Ch (fun _ => False) w w' := by
  go_enter Tryz.func18, Tryz.ntmps18
  go_wp2_with fail
  refine word_57356.mono ?_
  rintro e w' ⟨rfl, rfl⟩
  simp only []
  go_wp2_with fail
  refine bodyPost_ret (v := .agg #[.int .i64 2, .string ⟨#[105, 110]⟩, .int .i64 0]) (by rw [results_c1 rfl]; simp [go_sem, World.cell?_alloc_new]) rfl ?_
  exact ⟨rfl, (Ch.refl _ _).alloc _⟩

set_option maxRecDepth 100000 in
set_option maxHeartbeats 4000000 in
theorem word_57357 {w : World} : Calls Tryz.prog 42 #[.int .i64 57357] w fun e w' => e = .returned (.string ⟨#[108, 111, 99, 97, 108]⟩) ∧ w' = w := by
  go_enter Tryz.func42, Tryz.ntmps42
  go_wp2_with fail
  go_ret
  exact ⟨rfl, rfl⟩

set_option maxRecDepth 100000 in
set_option maxHeartbeats 4000000 in
theorem token_57357 {w : World} {t : ByteArray} : Calls Tryz.prog 18 #[.int .i64 57357, .string t] w fun e w' => e = .returned (.agg #[.int .i64 2, .string ⟨#[108, 111, 99, 97, 108]⟩, .int .i64 0]) ∧ Ch (fun _ => False) w w' := by
  go_enter Tryz.func18, Tryz.ntmps18
  go_wp2_with fail
  refine word_57357.mono ?_
  rintro e w' ⟨rfl, rfl⟩
  simp only []
  go_wp2_with fail
  refine bodyPost_ret (v := .agg #[.int .i64 2, .string ⟨#[108, 111, 99, 97, 108]⟩, .int .i64 0]) (by rw [results_c1 rfl]; simp [go_sem, World.cell?_alloc_new]) rfl ?_
  exact ⟨rfl, (Ch.refl _ _).alloc _⟩

set_option maxRecDepth 100000 in
set_option maxHeartbeats 4000000 in
theorem word_57358 {w : World} : Calls Tryz.prog 42 #[.int .i64 57358] w fun e w' => e = .returned (.string ⟨#[110, 105, 108]⟩) ∧ w' = w := by
  go_enter Tryz.func42, Tryz.ntmps42
  go_wp2_with fail
  go_ret
  exact ⟨rfl, rfl⟩

set_option maxRecDepth 100000 in
set_option maxHeartbeats 4000000 in
theorem token_57358 {w : World} {t : ByteArray} : Calls Tryz.prog 18 #[.int .i64 57358, .string t] w fun e w' => e = .returned (.agg #[.int .i64 2, .string ⟨#[110, 105, 108]⟩, .int .i64 0]) ∧ Ch (fun _ => False) w w' := by
  go_enter Tryz.func18, Tryz.ntmps18
  go_wp2_with fail
  refine word_57358.mono ?_
  rintro e w' ⟨rfl, rfl⟩
  simp only []
  go_wp2_with fail
  refine bodyPost_ret (v := .agg #[.int .i64 2, .string ⟨#[110, 105, 108]⟩, .int .i64 0]) (by rw [results_c1 rfl]; simp [go_sem, World.cell?_alloc_new]) rfl ?_
  exact ⟨rfl, (Ch.refl _ _).alloc _⟩

set_option maxRecDepth 100000 in
set_option maxHeartbeats 4000000 in
theorem word_57359 {w : World} : Calls Tryz.prog 42 #[.int .i64 57359] w fun e w' => e = .returned (.string ⟨#[110, 111, 116]⟩) ∧ w' = w := by
  go_enter Tryz.func42, Tryz.ntmps42
  go_wp2_with fail
  go_ret
  exact ⟨rfl, rfl⟩

set_option maxRecDepth 100000 in
set_option maxHeartbeats 4000000 in
theorem token_57359 {w : World} {t : ByteArray} : Calls Tryz.prog 18 #[.int .i64 57359, .string t] w fun e w' => e = .returned (.agg #[.int .i64 2, .string ⟨#[110, 111, 116]⟩, .int .i64 0]) ∧ Ch (fun _ => False) w w' := by
  go_enter Tryz.func18, Tryz.ntmps18
  go_wp2_with fail
  refine word_57359.mono ?_
  rintro e w' ⟨rfl, rfl⟩
  simp only []
  go_wp2_with fail
  refine bodyPost_ret (v := .agg #[.int .i64 2, .string ⟨#[110, 111, 116]⟩, .int .i64 0]) (by rw [results_c1 rfl]; simp [go_sem, World.cell?_alloc_new]) rfl ?_
  exact ⟨rfl, (Ch.refl _ _).alloc _⟩

set_option maxRecDepth 100000 in
set_option maxHeartbeats 4000000 in
theorem word_57360 {w : World} : Calls Tryz.prog 42 #[.int .i64 57360] w fun e w' => e = .returned (.string ⟨#[111, 114]⟩) ∧ w' = w := by
  go_enter Tryz.func42, Tryz.ntmps42
  go_wp2_with fail
  go_ret
  exact ⟨rfl, rfl⟩

set_option maxRecDepth 100000 in
set_option maxHeartbeats 4000000 in
theorem token_57360 {w : World} {t : ByteArray} : Calls Tryz.prog 18 #[.int .i64 57360, .string t] w fun e w' => e = .returned (.agg #[.int .i64 2, .string ⟨#[111, 114]⟩, .int .i64 0]) ∧ Ch (fun _ => False) w w' := by
  go_enter Tryz.func18, Tryz.ntmps18
  go_wp2_with fail
  refine word_57360.mono ?_
  rintro e w' ⟨rfl, rfl⟩
  simp only []
  go_wp2_with fail
  refine bodyPost_ret (v := .agg #[.int .i64 2, .string ⟨#[111, 114]⟩, .int .i64 0]) (by rw [results_c1 rfl]; simp [go_sem, World.cell?_alloc_new]) rfl ?_
  exact ⟨rfl, (Ch.refl _ _).alloc _⟩

set_option maxRecDepth 100000 in
set_option maxHeartbeats 4000000 in
theorem word_57361 {w : World} : Calls Tryz.prog 42 #[.int .i64 57361] w fun e w' => e = .returned (.string ⟨#[114, 101, 116, 117, 114, 110]⟩) ∧ w' = w := by
  go_enter Tryz.func42, Tryz.ntmps42
  go_wp2_with fail
  go_ret
  exact ⟨rfl, rfl⟩

set_option maxRecDepth 100000 in
set_option maxHeartbeats 4000000 in
theorem token_57361 {w : World} {t : ByteArray} : Calls Tryz.prog 18 #[.int .i64 57361, .string t] w fun e w' => e = .returned (.agg #[.int .i64 2, .string ⟨#[114, 101, 116, 117, 114, 110]⟩, .int .i64 0]) ∧ Ch (fun _ => False) w w' := by
  go_enter Tryz.func18, Tryz.ntmps18
  go_wp2_with fail
  refine word_57361.mono ?_
  rintro e w' ⟨rfl, rfl⟩
  simp only []
  go_wp2_with fail
  refine bodyPost_ret (v := .agg #[.int .i64 2, .string ⟨#[114, 101, 116, 117, 114, 110]⟩, .int .i64 0]) (by rw [results_c1 rfl]; simp [go_sem, World.cell?_alloc_new]) rfl ?_
  exact ⟨rfl, (Ch.refl _ _).alloc _⟩

set_option maxRecDepth 100000 in
set_option maxHeartbeats 4000000 in
theorem word_57362 {w : World} : Calls Tryz.prog 42 #[.int .i64 57362] w fun e w' => e = .returned (.string ⟨#[114, 101, 112, 101, 97, 116]⟩) ∧ w' = w := by
  go_enter Tryz.func42, Tryz.ntmps42
  go_wp2_with fail
  go_ret
  exact ⟨rfl, rfl⟩

set_option maxRecDepth 100000 in
set_option maxHeartbeats 4000000 in
theorem token_57362 {w : World} {t : ByteArray} : Calls Tryz.prog 18 #[.int .i64 57362, .string t] w fun e w' => e = .returned (.agg #[.int .i64 2, .string ⟨#[114, 101, 112, 101, 97, 116]⟩, .int .i64 0]) ∧ Ch (fun _ => False) w w' := by
  go_enter Tryz.func18, Tryz.ntmps18
  go_wp2_with fail
  refine word_57362.mono ?_
  rintro e w' ⟨rfl, rfl⟩
  simp only []
  go_wp2_with fail
  refine bodyPost_ret (v := .agg #[.int .i64 2, .string ⟨#[114, 101, 112, 101, 97, 116]⟩, .int .i64 0]) (by rw [results_c1 rfl]; simp [go_sem, World.cell?_alloc_new]) rfl ?_
  exact ⟨rfl, (Ch.refl _ _).alloc _⟩

set_option maxRecDepth 100000 in
set_option maxHeartbeats 4000000 in
theorem word_57363 {w : World} : Calls Tryz.prog 42 #[.int .i64 57363] w fun e w' => e = .returned (.string ⟨#[116, 104, 101, 110]⟩) ∧ w' = w := by
  go_enter Tryz.func42, Tryz.ntmps42
  go_wp2_with fail
  go_ret
  exact ⟨rfl, rfl⟩

set_option maxRecDepth 100000 in
set_option maxHeartbeats 4000000 in
theorem token_57363 {w : World} {t : ByteArray} : Calls Tryz.prog 18 #[.int .i64 57363, .string t] w fun e w' => e = .returned (.agg #[.int .i64 2, .string ⟨#[116, 104, 101, 110]⟩, .int .i64 0]) ∧ Ch (fun _ => False) w w' := by
  go_enter Tryz.func18, Tryz.ntmps18
  go_wp2_with fail
  refine word_57363.mono ?_
  rintro e w' ⟨rfl, rfl⟩
  simp only []
  go_wp2_with fail
  refine bodyPost_ret (v := .agg #[.int .i64 2, .string ⟨#[116, 104, 101, 110]⟩, .int .i64 0]) (by rw [results_c1 rfl]; simp [go_sem, World.cell?_alloc_new]) rfl ?_
  exact ⟨rfl, (Ch.refl _ _).alloc _⟩

set_option maxRecDepth 100000 in
set_option maxHeartbeats 4000000 in
theorem word_57364 {w : World} : Calls Tryz.prog 42 #[.int .i64 57364] w fun e w' => e = .returned (.string ⟨#[116, 114, 117, 101]⟩) ∧ w' = w := by
  go_enter Tryz.func42, Tryz.ntmps42
  go_wp2_with fail
  go_ret
  exact ⟨rfl, rfl⟩

set_option maxRecDepth 100000 in
set_option maxHeartbeats 4000000 in
theorem token_57364 {w : World} {t : ByteArray} : Calls Tryz.prog 18 #[.int .i64 57364, .string t] w fun e w' => e = .returned (.agg #[.int .i64 2, .string ⟨#[116, 114, 117, 101]⟩, .int .i64 0]) ∧ Ch (fun _ => False) w w' := by
  go_enter Tryz.func18, Tryz.ntmps18
  go_wp2_with fail
  refine word_57364.mono ?_
  rintro e w' ⟨rfl, rfl⟩
  simp only []
  go_wp2_with fail
  refine bodyPost_ret (v := .agg #[.int .i64 2, .string ⟨#[116, 114, 117, 101]⟩, .int .i64 0]) (by rw [results_c1 rfl]; simp [go_sem, World.cell?_alloc_new]) rfl ?_
  exact ⟨rfl, (Ch.refl _ _).alloc _⟩

set_option maxRecDepth 100000 in
set_option maxHeartbeats 4000000 in
theorem word_57365 {w : World} : Calls Tryz.prog 42 #[.int .i64 57365] w fun e w' => e = .returned (.string ⟨#[117, 110, 116, 105, 108]⟩) ∧ w' = w := by
  go_enter Tryz.func42, Tryz.ntmps42
  go_wp2_with fail
  go_ret
  exact ⟨rfl, rfl⟩

set_option maxRecDepth 100000 in
set_option maxHeartbeats 4000000 in
theorem token_57365 {w : World} {t : ByteArray} : Calls Tryz.prog 18 #[.int .i64 57365, .string t] w fun e w' => e = .returned (.agg #[.int .i64 2, .string ⟨#[117, 110, 116, 105, 108]⟩, .int .i64 0]) ∧ Ch (fun _ => False) w w' := by
  go_enter Tryz.func18, Tryz.ntmps18
  go_wp2_with fail
  refine word_57365.mono ?_
  rintro e w' ⟨rfl, rfl⟩
  simp only []
  go_wp2_with fail
  refine bodyPost_ret (v := .agg #[.int .i64 2, .string ⟨#[117, 110, 116, 105, 108]⟩, .int .i64 0]) (by rw [results_c1 rfl]; simp [go_sem, World.cell?_alloc_new]) rfl ?_
  exact ⟨rfl, (Ch.refl _ _).alloc _⟩

set_option maxRecDepth 100000 in
set_option maxHeartbeats 4000000 in
theorem word_57366 {w : World} : Calls Tryz.prog 42 #[.int .i64 57366] w fun e w' => e = .returned (.string ⟨#[119, 104, 105, 108, 101]⟩) ∧ w' = w := by
  go_enter Tryz.func42, Tryz.ntmps42
  go_wp2_with fail
  go_ret
  exact ⟨rfl, rfl⟩

set_option maxRecDepth 100000 in
set_option maxHeartbeats 4000000 in
theorem token_57366 {w : World} {t : ByteArray} : Calls Tryz.prog 18 #[.int .i64 57366, .string t] w fun e w' => e = .returned (.agg #[.int .i64 2, .string ⟨#[119, 104, 105, 108, 101]⟩, .int .i64 0]) ∧ Ch (fun _ => False) w w' := by
  go_enter Tryz.func18, Tryz.ntmps18
  go_wp2_with fail
  refine word_57366.mono ?_
  rintro e w' ⟨rfl, rfl⟩
  simp only []
  go_wp2_with fail
  refine bodyPost_ret (v := .agg #[.int .i64 2, .string ⟨#[119, 104, 105, 108, 101]⟩, .int .i64 0]) (by rw [results_c1 rfl]; simp [go_sem, World.cell?_alloc_new]) rfl ?_
  exact ⟨rfl, (Ch.refl _ _).alloc _⟩

set_option maxRecDepth 100000 in
set_option maxHeartbeats 4000000 in
theorem word_57375 {w : World} : Calls Tryz.prog 42 #[.int .i64 57375] w fun e w' => e = .returned (.string ⟨#[]⟩) ∧ w' = w := by
  go_enter Tryz.func42, Tryz.ntmps42
  go_wp2_with fail
  go_ret
  exact ⟨rfl, rfl⟩

set_option maxRecDepth 100000 in
set_option maxHeartbeats 4000000 in
theorem token_57375 {w : World} {t : ByteArray} : Calls Tryz.prog 18 #[.int .i64 57375, .string t] w fun e w' => e = .returned (.agg #[.int .i64 1, .string t, .int .i64 0]) ∧ Ch (fun _ => False) w w' := by
  go_enter Tryz.func18, Tryz.ntmps18
  go_wp2_with fail
  refine word_57375.mono ?_
  rintro e w' ⟨rfl, rfl⟩
  simp only []
  go_wp2_with fail
  refine bodyPost_ret (v := .agg #[.int .i64 1, .string t, .int .i64 0]) (by rw [results_c1 rfl]; simp [go_sem, World.cell?_alloc_new]) rfl ?_
  exact ⟨rfl, (Ch.refl _ _).alloc _⟩

set_option maxRecDepth 100000 in
set_option maxHeartbeats 4000000 in
theorem word_57376 {w : World} : Calls Tryz.prog 42 #[.int .i64 57376] w fun e w' => e = .returned (.string ⟨#[]⟩) ∧ w' = w := by
  go_enter Tryz.func42, Tryz.ntmps42
  go_wp2_with fail
  go_ret
  exact ⟨rfl, rfl⟩

set_option maxRecDepth 100000 in
set_option maxHeartbeats 4000000 in
theorem token_57376 {w : World} {t : ByteArray} : Calls Tryz.prog 18 #[.int .i64 57376, .string t] w fun e w' => e = .returned (.agg #[.int .i64 4, .string t, .int .i64 0]) ∧ Ch (fun _ => False) w w' := by
  go_enter Tryz.func18, Tryz.ntmps18
  go_wp2_with fail
  refine word_57376.mono ?_
  rintro e w' ⟨rfl, rfl⟩
  simp only []
  go_wp2_with fail
  refine bodyPost_ret (v := .agg #[.int .i64 4, .string t, .int .i64 0]) (by rw [results_c1 rfl]; simp [go_sem, World.cell?_alloc_new]) rfl ?_
  exact ⟨rfl, (Ch.refl _ _).alloc _⟩

set_option maxRecDepth 100000 in
set_option maxHeartbeats 4000000 in
theorem word_57377 {w : World} : Calls Tryz.prog 42 #[.int .i64 57377] w fun e w' => e = .returned (.string ⟨#[]⟩) ∧ w' = w := by
  go_enter Tryz.func42, Tryz.ntmps42
  go_wp2_with fail
  go_ret
  exact ⟨rfl, rfl⟩

set_option maxRecDepth 100000 in
set_option maxHeartbeats 4000000 in
theorem token_57377 {w : World} {t : ByteArray} : Calls Tryz.prog 18 #[.int .i64 57377, .string t] w fun e w' => e = .returned (.agg #[.int .i64 5, .string t, .int .i64 0]) ∧ Ch (fun _ => False) w w' := by
  go_enter Tryz.func18, Tryz.ntmps18
  go_wp2_with fail
  refine word_57377.mono ?_
  rintro e w' ⟨rfl, rfl⟩
  simp only []
  go_wp2_with fail
  refine bodyPost_ret (v := .agg #[.int .i64 5, .string t, .int .i64 0]) (by rw [results_c1 rfl]; simp [go_sem, World.cell?_alloc_new]) rfl ?_
  exact ⟨rfl, (Ch.refl _ _).alloc _⟩

set_option maxRecDepth 100000 in
set_option maxHeartbeats 4000000 in
theorem word_57373 {w : World} : Calls Tryz.prog 42 #[.int .i64 57373] w fun e w' => e = .returned (.string ⟨#[]⟩) ∧ w' = w := by
  go_enter Tryz.func42, Tryz.ntmps42
  go_wp2_with fail
  go_ret
  exact ⟨rfl, rfl⟩

set_option maxRecDepth 100000 in
set_option maxHeartbeats 4000000 in
theorem sign_57373 {w : World} : Calls Tryz.prog 43 #[.int .i64 57373] w fun e w' => e = .returned (.string ⟨#[46, 46, 46]⟩) ∧ w' = w := by
  go_enter Tryz.func43, Tryz.ntmps43
  go_wp2_with fail
  go_ret
  exact ⟨rfl, rfl⟩

set_option maxRecDepth 100000 in
set_option maxHeartbeats 4000000 in
theorem token_57373 {w : World} {t : ByteArray} : Calls Tryz.prog 18 #[.int .i64 57373, .string t] w fun e w' => e = .returned (.agg #[.int .i64 3, .string ⟨#[46, 46, 46]⟩, .int .i64 0]) ∧ Ch (fun _ => False) w w' := by
  go_enter Tryz.func18, Tryz.ntmps18
  go_wp2_with fail
  refine word_57373.mono ?_
  rintro e w' ⟨rfl, rfl⟩
  simp only []
  go_wp2_with fail
  refine sign_57373.mono ?_
  rintro e w' ⟨rfl, rfl⟩
  simp only []
  go_wp2_with fail
  refine bodyPost_ret (v := .agg #[.int .i64 3, .string ⟨#[46, 46, 46]⟩, .int .i64 0]) (by rw [results_c1 rfl]; simp [go_sem, World.cell?_alloc_new]) rfl ?_
  exact ⟨rfl, (Ch.refl _ _).alloc _⟩

set_option maxRecDepth 100000 in
set_option maxHeartbeats 4000000 in
theorem word_57372 {w : World} : Calls Tryz.prog 42 #[.int .i64 57372] w fun e w' => e = .returned (.string ⟨#[]⟩) ∧ w' = w := by
  go_enter Tryz.func42, Tryz.ntmps42
  go_wp2_with fail
  go_ret
  exact ⟨rfl, rfl⟩

set_option maxRecDepth 100000 in
set_option maxHeartbeats 4000000 in
theorem sign_57372 {w : World} : Calls Tryz.prog 43 #[.int .i64 57372] w fun e w' => e = .returned (.string ⟨#[46, 46]⟩) ∧ w' = w := by
  go_enter Tryz.func43, Tryz.ntmps43
  go_wp2_with fail
  go_ret
  exact ⟨rfl, rfl⟩

set_option maxRecDepth 100000 in
set_option maxHeartbeats 4000000 in
theorem token_57372 {w : World} {t : ByteArray} : Calls Tryz.prog 18 #[.int .i64 57372, .string t] w fun e w' => e = .returned (.agg #[.int .i64 3, .string ⟨#[46, 46]⟩, .int .i64 0]) ∧ Ch (fun _ => False) w w' := by
  go_enter Tryz.func18, Tryz.ntmps18
  go_wp2_with fail
  refine word_57372.mono ?_
  rintro e w' ⟨rfl, rfl⟩
  simp only []
  go_wp2_with fail
  refine sign_57372.mono ?_
  rintro e w' ⟨rfl, rfl⟩
  simp only []
  go_wp2_with fail
  refine bodyPost_ret (v := .agg #[.int .i64 3, .string ⟨#[46, 46]⟩, .int .i64 0]) (by rw [results_c1 rfl]; simp [go_sem, World.cell?_alloc_new]) rfl ?_
  exact ⟨rfl, (Ch.refl _ _).alloc _⟩

set_option maxRecDepth 100000 in
set_option maxHeartbeats 4000000 in
theorem word_57368 {w : World} : Calls Tryz.prog 42 #[.int .i64 57368] w fun e w' => e = .returned (.string ⟨#[]⟩) ∧ w' = w := by
  go_enter Tryz.func42, Tryz.ntmps42
  go_wp2_with fail
  go_ret
  exact ⟨rfl, rfl⟩

set_option maxRecDepth 100000 in
set_option maxHeartbeats 4000000 in
theorem sign_57368 {w : World} : Calls Tryz.prog 43 #[.int .i64 57368] w fun e w' => e = .returned (.string ⟨#[61, 61]⟩) ∧ w' = w := by
  go_enter Tryz.func43, Tryz.ntmps43
  go_wp2_with fail
  go_ret
  exact ⟨rfl, rfl⟩

set_option maxRecDepth 100000 in
set_option maxHeartbeats 4000000 in
theorem token_57368 {w : World} {t : ByteArray} : Calls Tryz.prog 18 #[.int .i64 57368, .string t] w fun e w' => e = .returned (.agg #[.int .i64 3, .string ⟨#[61, 61]⟩, .int .i64 0]) ∧ Ch (fun _ => False) w w' := by
  go_enter Tryz.func18, Tryz.ntmps18
  go_wp2_with fail
  refine word_57368.mono ?_
  rintro e w' ⟨rfl, rfl⟩
  simp only []
  go_wp2_with fail
  refine sign_57368.mono ?_
  rintro e w' ⟨rfl, rfl⟩
  simp only []
  go_wp2_with fail
  refine bodyPost_ret (v := .agg #[.int .i64 3, .string ⟨#[61, 61]⟩, .int .i64 0]) (by rw [results_c1 rfl]; simp [go_sem, World.cell?_alloc_new]) rfl ?_
  exact ⟨rfl, (Ch.refl _ _).alloc _⟩

set_option maxRecDepth 100000 in
set_option maxHeartbeats 4000000 in
theorem word_57369 {w : World} : Calls Tryz.prog 42 #[.int .i64 57369] w fun e w' => e = .returned (.string ⟨#[]⟩) ∧ w' = w := by
  go_enter Tryz.func42, Tryz.ntmps42
  go_wp2_with fail
  go_ret
  exact ⟨rfl, rfl⟩

set_option maxRecDepth 100000 in
set_option maxHeartbeats 4000000 in
theorem sign_57369 {w : World} : Calls Tryz.prog 43 #[.int .i64 57369] w fun e w' => e = .returned (.string ⟨#[126, 61]⟩) ∧ w' = w := by
  go_enter Tryz.func43, Tryz.ntmps43
  go_wp2_with fail
  go_ret
  exact ⟨rfl, rfl⟩

set_option maxRecDepth 100000 in
set_option maxHeartbeats 4000000 in
theorem token_57369 {w : World} {t : ByteArray} : Calls Tryz.prog 18 #[.int .i64 57369, .string t] w fun e w' => e = .returned (.agg #[.int .i64 3, .string ⟨#[126, 61]⟩, .int .i64 0]) ∧ Ch (fun _ => False) w w' := by
  go_enter Tryz.func18, Tryz.ntmps18
  go_wp2_with fail
  refine word_57369.mono ?_
  rintro e w' ⟨rfl, rfl⟩
  simp only []
  go_wp2_with fail
  refine sign_57369.mono ?_
  rintro e w' ⟨rfl, rfl⟩
  simp only []
  go_wp2_with fail
  refine bodyPost_ret (v := .agg #[.int .i64 3, .string ⟨#[126, 61]⟩, .int .i64 0]) (by rw [results_c1 rfl]; simp [go_sem, World.cell?_alloc_new]) rfl ?_
  exact ⟨rfl, (Ch.refl _ _).alloc _⟩

set_option maxRecDepth 100000 in
set_option maxHeartbeats 4000000 in
theorem word_57370 {w : World} : Calls Tryz.prog 42 #[.int .i64 57370] w fun e w' => e = .returned (.string ⟨#[]⟩) ∧ w' = w := by
  go_enter Tryz.func42, Tryz.ntmps42
  go_wp2_with fail
  go_ret
  exact ⟨rfl, rfl⟩

set_option maxRecDepth 100000 in
set_option maxHeartbeats 4000000 in
theorem sign_57370 {w : World} : Calls Tryz.prog 43 #[.int .i64 57370] w fun e w' => e = .returned (.string ⟨#[60, 61]⟩) ∧ w' = w := by
  go_enter Tryz.func43, Tryz.ntmps43
  go_wp2_with fail
  go_ret
  exact ⟨rfl, rfl⟩

set_option maxRecDepth 100000 in
set_option maxHeartbeats 4000000 in
theorem token_57370 {w : World} {t : ByteArray} : Calls Tryz.prog 18 #[.int .i64 57370, .string t] w fun e w' => e = .returned (.agg #[.int .i64 3, .string ⟨#[60, 61]⟩, .int .i64 0]) ∧ Ch (fun _ => False) w w' := by
  go_enter Tryz.func18, Tryz.ntmps18
  go_wp2_with fail
  refine word_57370.mono ?_
  rintro e w' ⟨rfl, rfl⟩
  simp only []
  go_wp2_with fail
  refine sign_57370.mono ?_
  rintro e w' ⟨rfl, rfl⟩
  simp only []
  go_wp2_with fail
  refine bodyPost_ret (v := .agg #[.int .i64 3, .string ⟨#[60, 61]⟩, .int .i64 0]) (by rw [results_c1 rfl]; simp [go_sem, World.cell?_alloc_new]) rfl ?_
  exact ⟨rfl, (Ch.refl _ _).alloc _⟩

set_option maxRecDepth 100000 in
set_option maxHeartbeats 4000000 in
theorem word_57371 {w : World} : Calls Tryz.prog 42 #[.int .i64 57371] w fun e w' => e = .returned (.string ⟨#[]⟩) ∧ w' = w := by
  go_enter Tryz.func42, Tryz.ntmps42
  go_wp2_with fail
  go_ret
  exact ⟨rfl, rfl⟩

set_option maxRecDepth 100000 in
set_option maxHeartbeats 4000000 in
theorem sign_57371 {w : World} : Calls Tryz.prog 43 #[.int .i64 57371] w fun e w' => e = .returned (.string ⟨#[62, 61]⟩) ∧ w' = w := by
  go_enter Tryz.func43, Tryz.ntmps43
  go_wp2_with fail
  go_ret
  exact ⟨rfl, rfl⟩

set_option maxRecDepth 100000 in
set_option maxHeartbeats 4000000 in
theorem token_57371 {w : World} {t : ByteArray} : Calls Tryz.prog 18 #[.int .i64 57371, .string t] w fun e w' => e = .returned (.agg #[.int .i64 3, .string ⟨#[62, 61]⟩, .int .i64 0]) ∧ Ch (fun _ => False) w w' := by
  go_enter Tryz.func18, Tryz.ntmps18
  go_wp2_with fail
  refine word_57371.mono ?_
  rintro e w' ⟨rfl, rfl⟩
  simp only []
  go_wp2_with fail
  refine sign_57371.mono ?_
  rintro e w' ⟨rfl, rfl⟩
  simp only []
  go_wp2_with fail
  refine bodyPost_ret (v := .agg #[.int .i64 3, .string ⟨#[62, 61]⟩, .int .i64 0]) (by rw [results_c1 rfl]; simp [go_sem, World.cell?_alloc_new]) rfl ?_
  exact ⟨rfl, (Ch.refl _ _).alloc _⟩

set_option maxRecDepth 100000 in
set_option maxHeartbeats 4000000 in
theorem word_43 {w : World} : Calls Tryz.prog 42 #[.int .i64 43] w fun e w' => e = .returned (.string ⟨#[]⟩) ∧ w' = w := by
  go_enter Tryz.func42, Tryz.ntmps42
  go_wp2_with fail
  go_ret
  exact ⟨rfl, rfl⟩

set_option maxRecDepth 100000 in
set_option maxHeartbeats 4000000 in
theorem sign_43 {w : World} : Calls Tryz.prog 43 #[.int .i64 43] w fun e w' => e = .returned (.string ⟨#[43]⟩) ∧ w' = w := by
  go_enter Tryz.func43, Tryz.ntmps43
  go_wp2_with fail
  go_ret
  exact ⟨rfl, rfl⟩

set_option maxRecDepth 100000 in
set_option maxHeartbeats 4000000 in
theorem token_43 {w : World} {t : ByteArray} : Calls Tryz.prog 18 #[.int .i64 43, .string t] w fun e w' => e = .returned (.agg #[.int .i64 3, .string ⟨#[43]⟩, .int .i64 0]) ∧ Ch (fun _ => False) w w' := by
  go_enter Tryz.func18, Tryz.ntmps18
  go_wp2_with fail
  refine word_43.mono ?_
  rintro e w' ⟨rfl, rfl⟩
  simp only []
  go_wp2_with fail
  refine sign_43.mono ?_
  rintro e w' ⟨rfl, rfl⟩
  simp only []
  go_wp2_with fail
  refine bodyPost_ret (v := .agg #[.int .i64 3, .string ⟨#[43]⟩, .int .i64 0]) (by rw [results_c1 rfl]; simp [go_sem, World.cell?_alloc_new]) rfl ?_
  exact ⟨rfl, (Ch.refl _ _).alloc _⟩

set_option maxRecDepth 100000 in
set_option maxHeartbeats 4000000 in
theorem word_45 {w : World} : Calls Tryz.prog 42 #[.int .i64 45] w fun e w' => e = .returned (.string ⟨#[]⟩) ∧ w' = w := by
  go_enter Tryz.func42, Tryz.ntmps42
  go_wp2_with fail
  go_ret
  exact ⟨rfl, rfl⟩

set_option maxRecDepth 100000 in
set_option maxHeartbeats 4000000 in
theorem sign_45 {w : World} : Calls Tryz.prog 43 #[.int .i64 45] w fun e w' => e = .returned (.string ⟨#[45]⟩) ∧ w' = w := by
  go_enter Tryz.func43, Tryz.ntmps43
  go_wp2_with fail
  go_ret
  exact ⟨rfl, rfl⟩

set_option maxRecDepth 100000 in
set_option maxHeartbeats 4000000 in
theorem token_45 {w : World} {t : ByteArray} : Calls Tryz.prog 18 #[.int .i64 45, .string t] w fun e w' => e = .returned (.agg #[.int .i64 3, .string ⟨#[45]⟩, .int .i64 0]) ∧ Ch (fun _ => False) w w' := by
  go_enter Tryz.func18, Tryz.ntmps18
  go_wp2_with fail
  refine word_45.mono ?_
  rintro e w' ⟨rfl, rfl⟩
  simp only []
  go_wp2_with fail
  refine sign_45.mono ?_
  rintro e w' ⟨rfl, rfl⟩
  simp only []
  go_wp2_with fail
  refine bodyPost_ret (v := .agg #[.int .i64 3, .string ⟨#[45]⟩, .int .i64 0]) (by rw [results_c1 rfl]; simp [go_sem, World.cell?_alloc_new]) rfl ?_
  exact ⟨rfl, (Ch.refl _ _).alloc _⟩

set_option maxRecDepth 100000 in
set_option maxHeartbeats 4000000 in
theorem word_42 {w : World} : Calls Tryz.prog 42 #[.int .i64 42] w fun e w' => e = .returned (.string ⟨#[]⟩) ∧ w' = w := by
  go_enter Tryz.func42, Tryz.ntmps42
  go_wp2_with fail
  go_ret
  exact ⟨rfl, rfl⟩

set_option maxRecDepth 100000 in
set_option maxHeartbeats 4000000 in
theorem sign_42 {w : World} : Calls Tryz.prog 43 #[.int .i64 42] w fun e w' => e = .returned (.string ⟨#[42]⟩) ∧ w' = w := by
  go_enter Tryz.func43, Tryz.ntmps43
  go_wp2_with fail
  go_ret
  exact ⟨rfl, rfl⟩

set_option maxRecDepth 100000 in
set_option maxHeartbeats 4000000 in
theorem token_42 {w : World} {t : ByteArray} : Calls Tryz.prog 18 #[.int .i64 42, .string t] w fun e w' => e = .returned (.agg #[.int .i64 3, .string ⟨#[42]⟩, .int .i64 0]) ∧ Ch (fun _ => False) w w' := by
  go_enter Tryz.func18, Tryz.ntmps18
  go_wp2_with fail
  refine word_42.mono ?_
  rintro e w' ⟨rfl, rfl⟩
  simp only []
  go_wp2_with fail
  refine sign_42.mono ?_
  rintro e w' ⟨rfl, rfl⟩
  simp only []
  go_wp2_with fail
  refine bodyPost_ret (v := .agg #[.int .i64 3, .string ⟨#[42]⟩, .int .i64 0]) (by rw [results_c1 rfl]; simp [go_sem, World.cell?_alloc_new]) rfl ?_
  exact ⟨rfl, (Ch.refl _ _).alloc _⟩

set_option maxRecDepth 100000 in
set_option maxHeartbeats 4000000 in
theorem word_47 {w : World} : Calls Tryz.prog 42 #[.int .i64 47] w fun e w' => e = .returned (.string ⟨#[]⟩) ∧ w' = w := by
  go_enter Tryz.func42, Tryz.ntmps42
  go_wp2_with fail
  go_ret
  exact ⟨rfl, rfl⟩

set_option maxRecDepth 100000 in
set_option maxHeartbeats 4000000 in
theorem sign_47 {w : World} : Calls Tryz.prog 43 #[.int .i64 47] w fun e w' => e = .returned (.string ⟨#[47]⟩) ∧ w' = w := by
  go_enter Tryz.func43, Tryz.ntmps43
  go_wp2_with fail
  go_ret
  exact ⟨rfl, rfl⟩

set_option maxRecDepth 100000 in
set_option maxHeartbeats 4000000 in
theorem token_47 {w : World} {t : ByteArray} : Calls Tryz.prog 18 #[.int .i64 47, .string t] w fun e w' => e = .returned (.agg #[.int .i64 3, .string ⟨#[47]⟩, .int .i64 0]) ∧ Ch (fun _ => False) w w' := by
  go_enter Tryz.func18, Tryz.ntmps18
  go_wp2_with fail
  refine word_47.mono ?_
  rintro e w' ⟨rfl, rfl⟩
  simp only []
  go_wp2_with fail
  refine sign_47.mono ?_
  rintro e w' ⟨rfl, rfl⟩
  simp only []
  go_wp2_with fail
  refine bodyPost_ret (v := .agg #[.int .i64 3, .string ⟨#[47]⟩, .int .i64 0]) (by rw [results_c1 rfl]; simp [go_sem, World.cell?_alloc_new]) rfl ?_
  exact ⟨rfl, (Ch.refl _ _).alloc _⟩

set_option maxRecDepth 100000 in
set_option maxHeartbeats 4000000 in
theorem word_37 {w : World} : Calls Tryz.prog 42 #[.int .i64 37] w fun e w' => e = .returned (.string ⟨#[]⟩) ∧ w' = w := by
  go_enter Tryz.func42, Tryz.ntmps42
  go_wp2_with fail
  go_ret
  exact ⟨rfl, rfl⟩

set_option maxRecDepth 100000 in
set_option maxHeartbeats 4000000 in
theorem sign_37 {w : World} : Calls Tryz.prog 43 #[.int .i64 37] w fun e w' => e = .returned (.string ⟨#[37]⟩) ∧ w' = w := by
  go_enter Tryz.func43, Tryz.ntmps43
  go_wp2_with fail
  go_ret
  exact ⟨rfl, rfl⟩

set_option maxRecDepth 100000 in
set_option maxHeartbeats 4000000 in
theorem token_37 {w : World} {t : ByteArray} : Calls Tryz.prog 18 #[.int .i64 37, .string t] w fun e w' => e = .returned (.agg #[.int .i64 3, .string ⟨#[37]⟩, .int .i64 0]) ∧ Ch (fun _ => False) w w' := by
  go_enter Tryz.func18, Tryz.ntmps18
  go_wp2_with fail
  refine word_37.mono ?_
  rintro e w' ⟨rfl, rfl⟩
  simp only []
  go_wp2_with fail
  refine sign_37.mono ?_
  rintro e w' ⟨rfl, rfl⟩
  simp only []
  go_wp2_with fail
  refine bodyPost_ret (v := .agg #[.int .i64 3, .string ⟨#[37]⟩, .int .i64 0]) (by rw [results_c1 rfl]; simp [go_sem, World.cell?_alloc_new]) rfl ?_
  exact ⟨rfl, (Ch.refl _ _).alloc _⟩

set_option maxRecDepth 100000 in
set_option maxHeartbeats 4000000 in
theorem word_94 {w : World} : Calls Tryz.prog 42 #[.int .i64 94] w fun e w' => e = .returned (.string ⟨#[]⟩) ∧ w' = w := by
  go_enter Tryz.func42, Tryz.ntmps42
  go_wp2_with fail
  go_ret
  exact ⟨rfl, rfl⟩

set_option maxRecDepth 100000 in
set_option maxHeartbeats 4000000 in
theorem sign_94 {w : World} : Calls Tryz.prog 43 #[.int .i64 94] w fun e w' => e = .returned (.string ⟨#[94]⟩) ∧ w' = w := by
  go_enter Tryz.func43, Tryz.ntmps43
  go_wp2_with fail
  go_ret
  exact ⟨rfl, rfl⟩

set_option maxRecDepth 100000 in
set_option maxHeartbeats 4000000 in
theorem token_94 {w : World} {t : ByteArray} : Calls Tryz.prog 18 #[.int .i64 94, .string t] w fun e w' => e = .returned (.agg #[.int .i64 3, .string ⟨#[94]⟩, .int .i64 0]) ∧ Ch (fun _ => False) w w' := by
  go_enter Tryz.func18, Tryz.ntmps18
  go_wp2_with fail
  refine word_94.mono ?_
  rintro e w' ⟨rfl, rfl⟩
  simp only []
  go_wp2_with fail
  refine sign_94.mono ?_
  rintro e w' ⟨rfl, rfl⟩
  simp only []
  go_wp2_with fail
  refine bodyPost_ret (v := .agg #[.int .i64 3, .string ⟨#[94]⟩, .int .i64 0]) (by rw [results_c1 rfl]; simp [go_sem, World.cell?_alloc_new]) rfl ?_
  exact ⟨rfl, (Ch.refl _ _).alloc _⟩

set_option maxRecDepth 100000 in
set_option maxHeartbeats 4000000 in
theorem word_35 {w : World} : Calls Tryz.prog 42 #[.int .i64 35] w fun e w' => e = .returned (.string ⟨#[]⟩) ∧ w' = w := by
  go_enter Tryz.func42, Tryz.ntmps42
  go_wp2_with fail
  go_ret
  exact ⟨rfl, rfl⟩

set_option maxRecDepth 100000 in
set_option maxHeartbeats 4000000 in
theorem sign_35 {w : World} : Calls Tryz.prog 43 #[.int .i64 35] w fun e w' => e = .returned (.string ⟨#[35]⟩) ∧ w' = w := by
  go_enter Tryz.func43, Tryz.ntmps43
  go_wp2_with fail
  go_ret
  exact ⟨rfl, rfl⟩

set_option maxRecDepth 100000 in
set_option maxHeartbeats 4000000 in
theorem token_35 {w : World} {t : ByteArray} : Calls Tryz.prog 18 #[.int .i64 35, .string t] w fun e w' => e = .returned (.agg #[.int .i64 3, .string ⟨#[35]⟩, .int .i64 0]) ∧ Ch (fun _ => False) w w' := by
  go_enter Tryz.func18, Tryz.ntmps18
  go_wp2_with fail
  refine word_35.mono ?_
  rintro e w' ⟨rfl, rfl⟩
  simp only []
  go_wp2_with fail
  refine sign_35.mono ?_
  rintro e w' ⟨rfl, rfl⟩
  simp only []
  go_wp2_with fail
  refine bodyPost_ret (v := .agg #[.int .i64 3, .string ⟨#[35]⟩, .int .i64 0]) (by rw [results_c1 rfl]; simp [go_sem, World.cell?_alloc_new]) rfl ?_
  exact ⟨rfl, (Ch.refl _ _).alloc _⟩

set_option maxRecDepth 100000 in
set_option maxHeartbeats 4000000 in
theorem word_60 {w : World} : Calls Tryz.prog 42 #[.int .i64 60] w fun e w' => e = .returned (.string ⟨#[]⟩) ∧ w' = w := by
  go_enter Tryz.func42, Tryz.ntmps42
  go_wp2_with fail
  go_ret
  exact ⟨rfl, rfl⟩

set_option maxRecDepth 100000 in
set_option maxHeartbeats 4000000 in
theorem sign_60 {w : World} : Calls Tryz.prog 43 #[.int .i64 60] w fun e w' => e = .returned (.string ⟨#[60]⟩) ∧ w' = w := by
  go_enter Tryz.func43, Tryz.ntmps43
  go_wp2_with fail
  go_ret
  exact ⟨rfl, rfl⟩

set_option maxRecDepth 100000 in
set_option maxHeartbeats 4000000 in
theorem token_60 {w : World} {t : ByteArray} : Calls Tryz.prog 18 #[.int .i64 60, .string t] w fun e w' => e = .returned (.agg #[.int .i64 3, .string ⟨#[60]⟩, .int .i64 0]) ∧ Ch (fun _ => False) w w' := by
  go_enter Tryz.func18, Tryz.ntmps18
  go_wp2_with fail
  refine word_60.mono ?_
  rintro e w' ⟨rfl, rfl⟩
  simp only []
  go_wp2_with fail
  refine sign_60.mono ?_
  rintro e w' ⟨rfl, rfl⟩
  simp only []
  go_wp2_with fail
  refine bodyPost_ret (v := .agg #[.int .i64 3, .string ⟨#[60]⟩, .int .i64 0]) (by rw [results_c1 rfl]; simp [go_sem, World.cell?_alloc_new]) rfl ?_
  exact ⟨rfl, (Ch.refl _ _).alloc _⟩

set_option maxRecDepth 100000 in
set_option maxHeartbeats 4000000 in
theorem word_62 {w : World} : Calls Tryz.prog 42 #[.int .i64 62] w fun e w' => e = .returned (.string ⟨#[]⟩) ∧ w' = w := by
  go_enter Tryz.func42, Tryz.ntmps42
  go_wp2_with fail
  go_ret
  exact ⟨rfl, rfl⟩

set_option maxRecDepth 100000 in
set_option maxHeartbeats 4000000 in
theorem sign_62 {w : World} : Calls Tryz.prog 43 #[.int .i64 62] w fun e w' => e = .returned (.string ⟨#[62]⟩) ∧ w' = w := by
  go_enter Tryz.func43, Tryz.ntmps43
  go_wp2_with fail
  go_ret
  exact ⟨rfl, rfl⟩

set_option maxRecDepth 100000 in
set_option maxHeartbeats 4000000 in
theorem token_62 {w : World} {t : ByteArray} : Calls Tryz.prog 18 #[.int .i64 62, .string t] w fun e w' => e = .returned (.agg #[.int .i64 3, .string ⟨#[62]⟩, .int .i64 0]) ∧ Ch (fun _ => False) w w' := by
  go_enter Tryz.func18, Tryz.ntmps18
  go_wp2_with fail
  refine word_62.mono ?_
  rintro e w' ⟨rfl, rfl⟩
  simp only []
  go_wp2_with fail
  refine sign_62.mono ?_
  rintro e w' ⟨rfl, rfl⟩
  simp only []
  go_wp2_with fail
  refine bodyPost_ret (v := .agg #[.int .i64 3, .string ⟨#[62]⟩, .int .i64 0]) (by rw [results_c1 rfl]; simp [go_sem, World.cell?_alloc_new]) rfl ?_
  exact ⟨rfl, (Ch.refl _ _).alloc _⟩

set_option maxRecDepth 100000 in
set_option maxHeartbeats 4000000 in
theorem word_61 {w : World} : Calls Tryz.prog 42 #[.int .i64 61] w fun e w' => e = .returned (.string ⟨#[]⟩) ∧ w' = w := by
  go_enter Tryz.func42, Tryz.ntmps42
  go_wp2_with fail
  go_ret
  exact ⟨rfl, rfl⟩

set_option maxRecDepth 100000 in
set_option maxHeartbeats 4000000 in
theorem sign_61 {w : World} : Calls Tryz.prog 43 #[.int .i64 61] w fun e w' => e = .returned (.string ⟨#[61]⟩) ∧ w' = w := by
  go_enter Tryz.func43, Tryz.ntmps43
  go_wp2_with fail
  go_ret
  exact ⟨rfl, rfl⟩

set_option maxRecDepth 100000 in
set_option maxHeartbeats 4000000 in
theorem token_61 {w : World} {t : ByteArray} : Calls Tryz.prog 18 #[.int .i64 61, .string t] w fun e w' => e = .returned (.agg #[.int .i64 3, .string ⟨#[61]⟩, .int .i64 0]) ∧ Ch (fun _ => False) w w' := by
  go_enter Tryz.func18, Tryz.ntmps18
  go_wp2_with fail
  refine word_61.mono ?_
  rintro e w' ⟨rfl, rfl⟩
  simp only []
  go_wp2_with fail
  refine sign_61.mono ?_
  rintro e w' ⟨rfl, rfl⟩
  simp only []
  go_wp2_with fail
  refine bodyPost_ret (v := .agg #[.int .i64 3, .string ⟨#[61]⟩, .int .i64 0]) (by rw [results_c1 rfl]; simp [go_sem, World.cell?_alloc_new]) rfl ?_
  exact ⟨rfl, (Ch.refl _ _).alloc _⟩

set_option maxRecDepth 100000 in
set_option maxHeartbeats 4000000 in
theorem word_40 {w : World} : Calls Tryz.prog 42 #[.int .i64 40] w fun e w' => e = .returned (.string ⟨#[]⟩) ∧ w' = w := by
  go_enter Tryz.func42, Tryz.ntmps42
  go_wp2_with fail
  go_ret
  exact ⟨rfl, rfl⟩

set_option maxRecDepth 100000 in
set_option maxHeartbeats 4000000 in
theorem sign_40 {w : World} : Calls Tryz.prog 43 #[.int .i64 40] w fun e w' => e = .returned (.string ⟨#[40]⟩) ∧ w' = w := by
  go_enter Tryz.func43, Tryz.ntmps43
  go_wp2_with fail
  go_ret
  exact ⟨rfl, rfl⟩

set_option maxRecDepth 100000 in
set_option maxHeartbeats 4000000 in
theorem token_40 {w : World} {t : ByteArray} : Calls Tryz.prog 18 #[.int .i64 40, .string t] w fun e w' => e = .returned (.agg #[.int .i64 3, .string ⟨#[40]⟩, .int .i64 0]) ∧ Ch (fun _ => False) w w' := by
  go_enter Tryz.func18, Tryz.ntmps18
  go_wp2_with fail
  refine word_40.mono ?_
  rintro e w' ⟨rfl, rfl⟩
  simp only []
  go_wp2_with fail
  refine sign_40.mono ?_
  rintro e w' ⟨rfl, rfl⟩
  simp only []
  go_wp2_with fail
  refine bodyPost_ret (v := .agg #[.int .i64 3, .string ⟨#[40]⟩, .int .i64 0]) (by rw [results_c1 rfl]; simp [go_sem, World.cell?_alloc_new]) rfl ?_
  exact ⟨rfl, (Ch.refl _ _).alloc _⟩

set_option maxRecDepth 100000 in
set_option maxHeartbeats 4000000 in
theorem word_41 {w : World} : Calls Tryz.prog 42 #[.int .i64 41] w fun e w' => e = .returned (.string ⟨#[]⟩) ∧ w' = w := by
  go_enter Tryz.func42, Tryz.ntmps42
  go_wp2_with fail
  go_ret
  exact ⟨rfl, rfl⟩

set_option maxRecDepth 100000 in
set_option maxHeartbeats 4000000 in
theorem sign_41 {w : World} : Calls Tryz.prog 43 #[.int .i64 41] w fun e w' => e = .returned (.string ⟨#[41]⟩) ∧ w' = w := by
  go_enter Tryz.func43, Tryz.ntmps43
  go_wp2_with fail
  go_ret
  exact ⟨rfl, rfl⟩

set_option maxRecDepth 100000 in
set_option maxHeartbeats 4000000 in
theorem token_41 {w : World} {t : ByteArray} : Calls Tryz.prog 18 #[.int .i64 41, .string t] w fun e w' => e = .returned (.agg #[.int .i64 3, .string ⟨#[41]⟩, .int .i64 0]) ∧ Ch (fun _ => False) w w' := by
  go_enter Tryz.func18, Tryz.ntmps18
  go_wp2_with fail
  refine word_41.mono ?_
  rintro e w' ⟨rfl, rfl⟩
  simp only []
  go_wp2_with fail
  refine sign_41.mono ?_
  rintro e w' ⟨rfl, rfl⟩
  simp only []
  go_wp2_with fail
  refine bodyPost_ret (v := .agg #[.int .i64 3, .string ⟨#[41]⟩, .int .i64 0]) (by rw [results_c1 rfl]; simp [go_sem, World.cell?_alloc_new]) rfl ?_
  exact ⟨rfl, (Ch.refl _ _).alloc _⟩

set_option maxRecDepth 100000 in
set_option maxHeartbeats 4000000 in
theorem word_123 {w : World} : Calls Tryz.prog 42 #[.int .i64 123] w fun e w' => e = .returned (.string ⟨#[]⟩) ∧ w' = w := by
  go_enter Tryz.func42, Tryz.ntmps42
  go_wp2_with fail
  go_ret
  exact ⟨rfl, rfl⟩

set_option maxRecDepth 100000 in
set_option maxHeartbeats 4000000 in
theorem sign_123 {w : World} : Calls Tryz.prog 43 #[.int .i64 123] w fun e w' => e = .returned (.string ⟨#[123]⟩) ∧ w' = w := by
  go_enter Tryz.func43, Tryz.ntmps43
  go_wp2_with fail
  go_ret
  exact ⟨rfl, rfl⟩

set_option maxRecDepth 100000 in
set_option maxHeartbeats 4000000 in
theorem token_123 {w : World} {t : ByteArray} : Calls Tryz.prog 18 #[.int .i64 123, .string t] w fun e w' => e = .returned (.agg #[.int .i64 3, .string ⟨#[123]⟩, .int .i64 0]) ∧ Ch (fun _ => False) w w' := by
  go_enter Tryz.func18, Tryz.ntmps18
  go_wp2_with fail
  refine word_123.mono ?_
  rintro e w' ⟨rfl, rfl⟩
  simp only []
  go_wp2_with fail
  refine sign_123.mono ?_
  rintro e w' ⟨rfl, rfl⟩
  simp only []
  go_wp2_with fail
  refine bodyPost_ret (v := .agg #[.int .i64 3, .string ⟨#[123]⟩, .int .i64 0]) (by rw [results_c1 rfl]; simp [go_sem, World.cell?_alloc_new]) rfl ?_
  exact ⟨rfl, (Ch.refl _ _).alloc _⟩

set_option maxRecDepth 100000 in
set_option maxHeartbeats 4000000 in
theorem word_125 {w : World} : Calls Tryz.prog 42 #[.int .i64 125] w fun e w' => e = .returned (.string ⟨#[]⟩) ∧ w' = w := by
  go_enter Tryz.func42, Tryz.ntmps42
  go_wp2_with fail
  go_ret
  exact ⟨rfl, rfl⟩

set_option maxRecDepth 100000 in
set_option maxHeartbeats 4000000 in
theorem sign_125 {w : World} : Calls Tryz.prog 43 #[.int .i64 125] w fun e w' => e = .returned (.string ⟨#[125]⟩) ∧ w' = w := by
  go_enter Tryz.func43, Tryz.ntmps43
  go_wp2_with fail
  go_ret
  exact ⟨rfl, rfl⟩

set_option maxRecDepth 100000 in
set_option maxHeartbeats 4000000 in
theorem token_125 {w : World} {t : ByteArray} : Calls Tryz.prog 18 #[.int .i64 125, .string t] w fun e w' => e = .returned (.agg #[.int .i64 3, .string ⟨#[125]⟩, .int .i64 0]) ∧ Ch (fun _ => False) w w' := by
  go_enter Tryz.func18, Tryz.ntmps18
  go_wp2_with fail
  refine word_125.mono ?_
  rintro e w' ⟨rfl, rfl⟩
  simp only []
  go_wp2_with fail
  refine sign_125.mono ?_
  rintro e w' ⟨rfl, rfl⟩
  simp only []
  go_wp2_with fail
  refine bodyPost_ret (v := .agg #[.int .i64 3, .string ⟨#[125]⟩, .int .i64 0]) (by rw [results_c1 rfl]; simp [go_sem, World.cell?_alloc_new]) rfl ?_
  exact ⟨rfl, (Ch.refl _ _).alloc _⟩

set_option maxRecDepth 100000 in
set_option maxHeartbeats 4000000 in
theorem word_91 {w : World} : Calls Tryz.prog 42 #[.int .i64 91] w fun e w' => e = .returned (.string ⟨#[]⟩) ∧ w' = w := by
  go_enter Tryz.func42, Tryz.ntmps42
  go_wp2_with fail
  go_ret
  exact ⟨rfl, rfl⟩

set_option maxRecDepth 100000 in
set_option maxHeartbeats 4000000 in
theorem sign_91 {w : World} : Calls Tryz.prog 43 #[.int .i64 91] w fun e w' => e = .returned (.string ⟨#[91]⟩) ∧ w' = w := by
  go_enter Tryz.func43, Tryz.ntmps43
  go_wp2_with fail
  go_ret
  exact ⟨rfl, rfl⟩

set_option maxRecDepth 100000 in
set_option maxHeartbeats 4000000 in
theorem token_91 {w : World} {t : ByteArray} : Calls Tryz.prog 18 #[.int .i64 91, .string t] w fun e w' => e = .returned (.agg #[.int .i64 3, .string ⟨#[91]⟩, .int .i64 0]) ∧ Ch (fun _ => False) w w' := by
  go_enter Tryz.func18, Tryz.ntmps18
  go_wp2_with fail
  refine word_91.mono ?_
  rintro e w' ⟨rfl, rfl⟩
  simp only []
  go_wp2_with fail
  refine sign_91.mono ?_
  rintro e w' ⟨rfl, rfl⟩
  simp only []
  go_wp2_with fail
  refine bodyPost_ret (v := .agg #[.int .i64 3, .string ⟨#[91]⟩, .int .i64 0]) (by rw [results_c1 rfl]; simp [go_sem, World.cell?_alloc_new]) rfl ?_
  exact ⟨rfl, (Ch.refl _ _).alloc _⟩

set_option maxRecDepth 100000 in
set_option maxHeartbeats 4000000 in
theorem word_93 {w : World} : Calls Tryz.prog 42 #[.int .i64 93] w fun e w' => e = .returned (.string ⟨#[]⟩) ∧ w' = w := by
  go_enter Tryz.func42, Tryz.ntmps42
  go_wp2_with fail
  go_ret
  exact ⟨rfl, rfl⟩

set_option maxRecDepth 100000 in
set_option maxHeartbeats 4000000 in
theorem sign_93 {w : World} : Calls Tryz.prog 43 #[.int .i64 93] w fun e w' => e = .returned (.string ⟨#[93]⟩) ∧ w' = w := by
  go_enter Tryz.func43, Tryz.ntmps43
  go_wp2_with fail
  go_ret
  exact ⟨rfl, rfl⟩

set_option maxRecDepth 100000 in
set_option maxHeartbeats 4000000 in
theorem token_93 {w : World} {t : ByteArray} : Calls Tryz.prog 18 #[.int .i64 93, .string t] w fun e w' => e = .returned (.agg #[.int .i64 3, .string ⟨#[93]⟩, .int .i64 0]) ∧ Ch (fun _ => False) w w' := by
  go_enter Tryz.func18, Tryz.ntmps18
  go_wp2_with fail
  refine word_93.mono ?_
  rintro e w' ⟨rfl, rfl⟩
  simp only []
  go_wp2_with fail
  refine sign_93.mono ?_
  rintro e w' ⟨rfl, rfl⟩
  simp only []
  go_wp2_with fail
  refine bodyPost_ret (v := .agg #[.int .i64 3, .string ⟨#[93]⟩, .int .i64 0]) (by rw [results_c1 rfl]; simp [go_sem, World.cell?_alloc_new]) rfl ?_
  exact ⟨rfl, (Ch.refl _ _).alloc _⟩

set_option maxRecDepth 100000 in
set_option maxHeartbeats 4000000 in
theorem word_59 {w : World} : Calls Tryz.prog 42 #[.int .i64 59] w fun e w' => e = .returned (.string ⟨#[]⟩) ∧ w' = w := by
  go_enter Tryz.func42, Tryz.ntmps42
  go_wp2_with fail
  go_ret
  exact ⟨rfl, rfl⟩

set_option maxRecDepth 100000 in
set_option maxHeartbeats 4000000 in
theorem sign_59 {w : World} : Calls Tryz.prog 43 #[.int .i64 59] w fun e w' => e = .returned (.string ⟨#[59]⟩) ∧ w' = w := by
  go_enter Tryz.func43, Tryz.ntmps43
  go_wp2_with fail
  go_ret
  exact ⟨rfl, rfl⟩

set_option maxRecDepth 100000 in
set_option maxHeartbeats 4000000 in
theorem token_59 {w : World} {t : ByteArray} : Calls Tryz.prog 18 #[.int .i64 59, .string t] w fun e w' => e = .returned (.agg #[.int .i64 3, .string ⟨#[59]⟩, .int .i64 0]) ∧ Ch (fun _ => False) w w' := by
  go_enter Tryz.func18, Tryz.ntmps18
  go_wp2_with fail
  refine word_59.mono ?_
  rintro e w' ⟨rfl, rfl⟩
  simp only []
  go_wp2_with fail
  refine sign_59.mono ?_
  rintro e w' ⟨rfl, rfl⟩
  simp only []
  go_wp2_with fail
  refine bodyPost_ret (v := .agg #[.int .i64 3, .string ⟨#[59]⟩, .int .i64 0]) (by rw [results_c1 rfl]; simp [go_sem, World.cell?_alloc_new]) rfl ?_
  exact ⟨rfl, (Ch.refl _ _).alloc _⟩

set_option maxRecDepth 100000 in
set_option maxHeartbeats 4000000 in
theorem word_58 {w : World} : Calls Tryz.prog 42 #[.int .i64 58] w fun e w' => e = .returned (.string ⟨#[]⟩) ∧ w' = w := by
  go_enter Tryz.func42, Tryz.ntmps42
  go_wp2_with fail
  go_ret
  exact ⟨rfl, rfl⟩

set_option maxRecDepth 100000 in
set_option maxHeartbeats 4000000 in
theorem sign_58 {w : World} : Calls Tryz.prog 43 #[.int .i64 58] w fun e w' => e = .returned (.string ⟨#[58]⟩) ∧ w' = w := by
  go_enter Tryz.func43, Tryz.ntmps43
  go_wp2_with fail
  go_ret
  exact ⟨rfl, rfl⟩

set_option maxRecDepth 100000 in
set_option maxHeartbeats 4000000 in
theorem token_58 {w : World} {t : ByteArray} : Calls Tryz.prog 18 #[.int .i64 58, .string t] w fun e w' => e = .returned (.agg #[.int .i64 3, .string ⟨#[58]⟩, .int .i64 0]) ∧ Ch (fun _ => False) w w' := by
  go_enter Tryz.func18, Tryz.ntmps18
  go_wp2_with fail
  refine word_58.mono ?_
  rintro e w' ⟨rfl, rfl⟩
  simp only []
  go_wp2_with fail
  refine sign_58.mono ?_
  rintro e w' ⟨rfl, rfl⟩
  simp only []
  go_wp2_with fail
  refine bodyPost_ret (v := .agg #[.int .i64 3, .string ⟨#[58]⟩, .int .i64 0]) (by rw [results_c1 rfl]; simp [go_sem, World.cell?_alloc_new]) rfl ?_
  exact ⟨rfl, (Ch.refl _ _).alloc _⟩

set_option maxRecDepth 100000 in
set_option maxHeartbeats 4000000 in
theorem word_44 {w : World} : Calls Tryz.prog 42 #[.int .i64 44] w fun e w' => e = .returned (.string ⟨#[]⟩) ∧ w' = w := by
  go_enter Tryz.func42, Tryz.ntmps42
  go_wp2_with fail
  go_ret
  exact ⟨rfl, rfl⟩

set_option maxRecDepth 100000 in
set_option maxHeartbeats 4000000 in
theorem sign_44 {w : World} : Calls Tryz.prog 43 #[.int .i64 44] w fun e w' => e = .returned (.string ⟨#[44]⟩) ∧ w' = w := by
  go_enter Tryz.func43, Tryz.ntmps43
  go_wp2_with fail
  go_ret
  exact ⟨rfl, rfl⟩

set_option maxRecDepth 100000 in
set_option maxHeartbeats 4000000 in
theorem token_44 {w : World} {t : ByteArray} : Calls Tryz.prog 18 #[.int .i64 44, .string t] w fun e w' => e = .returned (.agg #[.int .i64 3, .string ⟨#[44]⟩, .int .i64 0]) ∧ Ch (fun _ => False) w w' := by
  go_enter Tryz.func18, Tryz.ntmps18
  go_wp2_with fail
  refine word_44.mono ?_
  rintro e w' ⟨rfl, rfl⟩
  simp only []
  go_wp2_with fail
  refine sign_44.mono ?_
  rintro e w' ⟨rfl, rfl⟩
  simp only []
  go_wp2_with fail
  refine bodyPost_ret (v := .agg #[.int .i64 3, .string ⟨#[44]⟩, .int .i64 0]) (by rw [results_c1 rfl]; simp [go_sem, World.cell?_alloc_new]) rfl ?_
  exact ⟨rfl, (Ch.refl _ _).alloc _⟩

set_option maxRecDepth 100000 in
set_option maxHeartbeats 4000000 in
theorem word_46 {w : World} : Calls Tryz.prog 42 #[.int .i64 46] w fun e w' => e = .returned (.string ⟨#[]⟩) ∧ w' = w := by
  go_enter Tryz.func42, Tryz.ntmps42
  go_wp2_with fail
  go_ret
  exact ⟨rfl, rfl⟩

set_option maxRecDepth 100000 in
set_option maxHeartbeats 4000000 in
theorem sign_46 {w : World} : Calls Tryz.prog 43 #[.int .i64 46] w fun e w' => e = .returned (.string ⟨#[46]⟩) ∧ w' = w := by
  go_enter Tryz.func43, Tryz.ntmps43
  go_wp2_with fail
  go_ret
  exact ⟨rfl, rfl⟩

set_option maxRecDepth 100000 in
set_option maxHeartbeats 4000000 in
theorem token_46 {w : World} {t : ByteArray} : Calls Tryz.prog 18 #[.int .i64 46, .string t] w fun e w' => e = .returned (.agg #[.int .i64 3, .string ⟨#[46]⟩, .int .i64 0]) ∧ Ch (fun _ => False) w w' := by
  go_enter Tryz.func18, Tryz.ntmps18
  go_wp2_with fail
  refine word_46.mono ?_
  rintro e w' ⟨rfl, rfl⟩
  simp only []
  go_wp2_with fail
  refine sign_46.mono ?_
  rintro e w' ⟨rfl, rfl⟩
  simp only []
  go_wp2_with fail
  refine bodyPost_ret (v := .agg #[.int .i64 3, .string ⟨#[46]⟩, .int .i64 0]) (by rw [results_c1 rfl]; simp [go_sem, World.cell?_alloc_new]) rfl ?_
  exact ⟨rfl, (Ch.refl _ _).alloc _⟩

theorem token_calls {w : World} {k : Nat} {raw : Bs} {ty : Int} {st : Bs} (h : TyOk k raw ty st) : Calls Tryz.prog 18 #[.int .i64 ty, .string ⟨st.toArray⟩] w fun e w' => e = .returned (.agg #[.int .i64 (k : Int), .string ⟨raw.toArray⟩, .int .i64 0]) ∧ Ch (fun _ => False) w w' := by
  rcases h with ⟨rfl, rfl, rfl⟩ | ⟨rfl, h⟩ | ⟨rfl, h⟩ | ⟨rfl, rfl, rfl⟩ | ⟨rfl, rfl, rfl⟩
  · exact token_57375
  · simp only [kwTab, List.take_succ_cons, List.take_zero, List.mem_cons, Prod.mk.injEq, List.not_mem_nil, or_false] at h
    rcases h with ⟨rfl, rfl⟩ | ⟨rfl, rfl⟩ | ⟨rfl, rfl⟩ | ⟨rfl, rfl⟩ | ⟨rfl, rfl⟩ | ⟨rfl, rfl⟩ | ⟨rfl, rfl⟩ | ⟨rfl, rfl⟩ | ⟨rfl, rfl⟩ | ⟨rfl, rfl⟩ | ⟨rfl, rfl⟩ | ⟨rfl, rfl⟩ | ⟨rfl, rfl⟩ | ⟨rfl, rfl⟩ | ⟨rfl, rfl⟩ | ⟨rfl, rfl⟩ | ⟨rfl, rfl⟩ | ⟨rfl, rfl⟩ | ⟨rfl, rfl⟩ | ⟨rfl, rfl⟩ | ⟨rfl, rfl⟩
    · exact token_57346
    · exact token_57347
    · exact token_57348
    · exact token_57349
    · exact token_57350
    · exact token_57351
    · exact token_57352
    · exact token_57353
    · exact token_57354
    · exact token_57355
    · exact token_57356
    · exact token_57357
    · exact token_57358
    · exact token_57359
    · exact token_57360
    · exact token_57361
    · exact token_57362
    · exact token_57363
    · exact token_57364
    · exact token_57365
    · exact token_57366
  · simp only [sgTab, List.mem_cons, Prod.mk.injEq, List.not_mem_nil, or_false] at h
    rcases h with ⟨rfl, rfl⟩ | ⟨rfl, rfl⟩ | ⟨rfl, rfl⟩ | ⟨rfl, rfl⟩ | ⟨rfl, rfl⟩ | ⟨rfl, rfl⟩ | ⟨rfl, rfl⟩ | ⟨rfl, rfl⟩ | ⟨rfl, rfl⟩ | ⟨rfl, rfl⟩ | ⟨rfl, rfl⟩ | ⟨rfl, rfl⟩ | ⟨rfl, rfl⟩ | ⟨rfl, rfl⟩ | ⟨rfl, rfl⟩ | ⟨rfl, rfl⟩ | ⟨rfl, rfl⟩ | ⟨rfl, rfl⟩ | ⟨rfl, rfl⟩ | ⟨rfl, rfl⟩ | ⟨rfl, rfl⟩ | ⟨rfl, rfl⟩ | ⟨rfl, rfl⟩ | ⟨rfl, rfl⟩ | ⟨rfl, rfl⟩ | ⟨rfl, rfl⟩
    · exact token_57373
    · exact token_57372
    · exact token_57368
    · exact token_57369
    · exact token_57370
    · exact token_57371
    · exact token_43
    · exact token_45
    · exact token_42
    · exact token_47
    · exact token_37
    · exact token_94
    · exact token_35
    · exact token_60
    · exact token_62
    · exact token_61
    · exact token_40
    · exact token_41
    · exact token_123
    · exact token_125
    · exact token_91
    · exact token_93
    · exact token_59
    · exact token_58
    · exact token_44
    · exact token_46
  · exact token_57376
  · exact token_57377

end Go.Proofs.YtbgjjbffpckimaaGreatDoor
