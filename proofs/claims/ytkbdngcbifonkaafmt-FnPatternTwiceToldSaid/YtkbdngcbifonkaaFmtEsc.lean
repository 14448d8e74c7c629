/-
  spec.ptEmpty, spec.ptEscaped at a letter, spec.InClass.
-/
import Derived.Test.YtkbdngcbifonkaaFmtIncl
import Derived.Deep.LoopGhost
namespace Go.Proofs.YtkbdngcbifonkaaFmt
set_option linter.all false
open Go.RowKit

theorem Tryf.info4 : (Tryf.prog.info? 4).map (fun i => (i.zero, i.size, i.bytes)) = some (some (.bool false), 1, 1) := by kernel_rfl

theorem made128 : (madeCells (Value.cells (.bool false)) (128 * 1)).toList = List.replicate 128 (.bool false) := by
  have h : Value.cells (.bool false) = #[.bool false] := by simp [Value.cells]
  rw [h]
  apply List.ext_getElem?
  intro i
  rw [List.getElem?_replicate]
  unfold madeCells
  by_cases hi : i < 128
  · rw [if_pos hi]
    simp [hi, Nat.mod_one]
  · rw [if_neg hi]
    simp; omega

set_option maxRecDepth 100000 in
theorem empty_calls (w : World) : Calls Tryf.prog 19 #[] w fun e w' => e = .returned (.slice (some ⟨w.heap.size, 0, none⟩) 128 128) ∧ Ch (fun _ => False) w w' ∧ w.heap.size < w'.heap.size ∧ (∀ i, i < 128 → w'.cell? ⟨w.heap.size, i, none⟩ = some (.bool false)) ∧ (∀ i, w'.frozen? ⟨w.heap.size, i, none⟩ = false) := by
  obtain ⟨i0, hi0, hz0, hz1, hz2⟩ := info_parts Tryf.info4
  obtain ⟨w1, hmk, hown, hgr⟩ := run_make_full (P := Tryf.prog) (w := w) w.heap.size 27 4 i0 (.bool false) 1 (by kernel_rfl) hi0 hz0 hz1 .i64 .i64 128 (by omega) (by unfold maxLen; omega) (Nat.le_refl _)
  have hmk2 : (Instr.makeSlice 27 (.int .i64 128) (.int .i64 128)).run Tryf.prog w = .ok (.slice (some ⟨w.heap.size, 0, none⟩) 128 128) w1 := hmk
  rw [made128] at hown
  have HO := Lib.hid hown
  have HG := Lib.hid hgr
  clear hmk hown hgr hi0 hz0 hz1 hz2
  go_enter Tryf.func19, Tryf.ntmps19
  go_wp2_with fail
  go_ret
  refine ⟨rfl, (Ch.refl _ w).grown HG.out (fun k hk => by cases hk), (HO.out.lt w.heap.size rfl).2, fun i hi => ?_, fun i => HO.out.frozenAt i⟩
  rw [HO.out.cellAt i (by omega)]
  rw [List.getElem?_replicate]
  simp [hi]

/-- The small letter of a letter. -/
def low (x : Nat) : Nat := if x ≤ 90 then x + 32 else x

set_option maxRecDepth 100000 in
set_option maxHeartbeats 4000000 in
theorem escaped_loop {w : World} {D x : Nat} {r : Nat → Bool} (hx : (97 ≤ x ∧ x ≤ 122) ∨ (65 ≤ x ∧ x ≤ 90)) (hc : ∀ i, i < 128 → w.cell? ⟨D, i, none⟩ = some (.bool false)) (hf : ∀ i, w.frozen? ⟨D, i, none⟩ = false)
    (HIN : Hid (∀ (w : World) (i : Nat), i < 128 → Calls Tryf.prog 32 #[.int .u8 (low x : Int), .int .u8 (i : Int)] w fun e w' => w = w' ∧ e = .returned (.tuple #[.bool (r i), .bool true]))) :
    Calls Tryf.prog 21 #[.slice (some ⟨D, 0, none⟩) 128 128, .int .u8 (x : Int)] w fun e w' => e = .returned (.bool true) ∧ Ch (· = D) w w' ∧ ∀ i, i < 128 → w'.cell? ⟨D, i, none⟩ = some (.bool (r i == decide (low x = x))) := by
  have h31 : decide (48 ≤ (x : Int) ∧ (x : Int) ≤ 57) = false := by simp; omega
  have h20 : decide ((97 ≤ (x : Int) ∧ (x : Int) ≤ 122) ∨ (65 ≤ (x : Int) ∧ (x : Int) ≤ 90)) = true := by simp; omega
  have HC := Lib.hid hc
  have HF := Lib.hid hf
  clear hc hf
  have hle : ∀ w' : World, Ch (· = D) w w' → ∀ i, w'.frozen? ⟨D, i, none⟩ = false → True := fun _ _ _ _ => trivial
  clear hle
  have key : Hid (∀ (i : Nat), i < 128 → IntKind.u8.wrap (i : Int) = (i : Int)) := Lib.hid fun i hi => by rw [IntKind.wrap_u8]; omega
  by_cases hup : x ≤ 90
  · have hup2 : (x : Int) ≤ 90 := by omega
    have hlow : IntKind.u8.wrap (IntKind.u8.wrap ((x : Int) - 65) + 97) = (low x : Int) := by
      unfold low
      rw [if_pos hup, IntKind.wrap_u8, IntKind.wrap_u8]
      omega
    have HL2 : Hid ((x : Int) - 65 + 97 = (low x : Int)) := Lib.hid (by unfold low; rw [if_pos hup]; omega)
    have HIN2 : Hid (∀ (w : World) (i : Nat), i < 128 → Calls Tryf.prog 32 #[.int .u8 ((x : Int) - 65 + 97), .int .u8 (i : Int)] w fun e w' => w = w' ∧ e = .returned (.tuple #[.bool (r i), .bool true])) := Lib.hid (by rw [HL2.out]; exact HIN.out)
    have hne : ((x : Int) - 65 + 97 == (x : Int)) = false := by simp; omega
    have hne2 : ((low x : Int) == (x : Int)) = false := by unfold low; rw [if_pos hup]; simp; omega
    have hdec : decide (low x = x) = false := by unfold low; rw [if_pos hup]; simp
    have HDEC := Lib.hid hdec
    go_enter Tryf.func21, Tryf.ntmps21
    go_wp2_with (first
      | (go_at_call 31; refine (digit_calls _ _).mono ?_; rintro e w' ⟨rfl, rfl⟩; rw [h31])
      | (go_at_call 20; refine (letter_calls _ _).mono ?_; rintro e w' ⟨rfl, rfl⟩; rw [h20]))
    go_loopg [28] 128 (fun k s28 wr => ∃ i : Nat, s28 = .int .i64 i ∧ i ≤ 128 ∧ k = 128 - i ∧ Ch (· = D) w wr ∧ (∀ j, wr.frozen? ⟨D, j, none⟩ = false) ∧ ∀ j, j < 128 → wr.cell? ⟨D, j, none⟩ = some (.bool (decide (j < i) && (r j == decide (low x = x)))))
    case atStart => exact ⟨0, rfl, by omega, rfl, .refl _ _, HF.out, fun j hj => by rw [HC.out j hj]; simp⟩
    case round =>
      obtain ⟨i, rfl, hi, rfl, hch, hfz, hcl⟩ := hrel
      have HCH := Lib.hid hch
      have HFZ := Lib.hid hfz
      have HCL := Lib.hid hcl
      clear hch hfz hcl
      have hw : IntKind.i64.wrap ((i : Int) + 1) = ((i + 1 : Nat) : Int) := by rw [IntKind.wrap_i64]; omega
      by_cases hlt : i < 128
      · have hlti : (i : Int) < 128 := by omega
        have hi0 : (0 : Int) ≤ i := by omega
        have hu := key.out i hlt
        have hcell := HCL.out i hlt
        have hfi := HFZ.out i
        cases hri : r i with
        | false =>
          have HR := Lib.hid hri
          go_wp2_with fail
          refine (HIN2.out _ i hlt).mono ?_
          rintro e w' ⟨rfl, rfl⟩
          simp only []
          go_wp2_with fail
          go_roundg (128 - (i + 1))
          case measure => omega
          case rel =>
            refine ⟨i + 1, rfl, by omega, rfl, HCH.out.setCell (p := ⟨D, i, none⟩) (fun _ => rfl) _, fun j => by rw [World.frozen?_setCell]; exact HFZ.out j, fun j hj => ?_⟩
            by_cases hji : j = i
            · subst hji
              rw [World.cell?_setCell_same _ _ _ (HCL.out j hj)]
              rw [HDEC.out, HR.out]
              simp
            · rw [World.cell?_setCell_other _ _ _ _ (by intro e; injection e; omega), HCL.out j hj]
              rw [show decide (j < i + 1) = decide (j < i) from by rw [Bool.eq_iff_iff]; simp only [decide_eq_true_eq]; omega]
        | true =>
          have HR := Lib.hid hri
          go_wp2_with fail
          refine (HIN2.out _ i hlt).mono ?_
          rintro e w' ⟨rfl, rfl⟩
          simp only []
          go_wp2_with fail
          go_roundg (128 - (i + 1))
          case measure => omega
          case rel =>
            refine ⟨i + 1, rfl, by omega, rfl, HCH.out, HFZ.out, fun j hj => ?_⟩
            rw [HCL.out j hj]
            by_cases hji : j = i
            · subst hji
              rw [HDEC.out, HR.out]
              simp
            · rw [show decide (j < i + 1) = decide (j < i) from by rw [Bool.eq_iff_iff]; simp only [decide_eq_true_eq]; omega]
      · have hie : i = 128 := by omega
        subst hie
        go_wp2_with fail
        go_ret
        refine ⟨rfl, HCH.out, fun j hj => ?_⟩
        rw [HCL.out j hj]
        simp [hj]
  · have hup2 : ¬ (x : Int) ≤ 90 := by omega
    have hlow : (x : Int) = (low x : Int) := by unfold low; rw [if_neg hup]
    have HLOW := Lib.hid hlow
    have hdec : decide (low x = x) = true := by unfold low; rw [if_neg hup]; simp
    have HDEC := Lib.hid hdec
    have hne : ((x : Int) == (x : Int)) = true := by simp
    have HIN2 := HIN
    rw [← hlow] at HIN2
    clear hlow
    go_enter Tryf.func21, Tryf.ntmps21
    go_wp2_with (first
      | (go_at_call 31; refine (digit_calls _ _).mono ?_; rintro e w' ⟨rfl, rfl⟩; rw [h31])
      | (go_at_call 20; refine (letter_calls _ _).mono ?_; rintro e w' ⟨rfl, rfl⟩; rw [h20]))
    go_loopg [28] 128 (fun k s28 wr => ∃ i : Nat, s28 = .int .i64 i ∧ i ≤ 128 ∧ k = 128 - i ∧ Ch (· = D) w wr ∧ (∀ j, wr.frozen? ⟨D, j, none⟩ = false) ∧ ∀ j, j < 128 → wr.cell? ⟨D, j, none⟩ = some (.bool (decide (j < i) && (r j == decide (low x = x)))))
    case atStart => exact ⟨0, rfl, by omega, rfl, .refl _ _, HF.out, fun j hj => by rw [HC.out j hj]; simp⟩
    case round =>
      obtain ⟨i, rfl, hi, rfl, hch, hfz, hcl⟩ := hrel
      have HCH := Lib.hid hch
      have HFZ := Lib.hid hfz
      have HCL := Lib.hid hcl
      clear hch hfz hcl
      have hw : IntKind.i64.wrap ((i : Int) + 1) = ((i + 1 : Nat) : Int) := by rw [IntKind.wrap_i64]; omega
      by_cases hlt : i < 128
      · have hlti : (i : Int) < 128 := by omega
        have hi0 : (0 : Int) ≤ i := by omega
        have hu := key.out i hlt
        have hcell := HCL.out i hlt
        have hfi := HFZ.out i
        cases hri : r i with
        | true =>
          have HR := Lib.hid hri
          go_wp2_with fail
          refine (HIN2.out _ i hlt).mono ?_
          rintro e w' ⟨rfl, rfl⟩
          simp only []
          go_wp2_with fail
          go_roundg (128 - (i + 1))
          case measure => omega
          case rel =>
            refine ⟨i + 1, rfl, by omega, rfl, HCH.out.setCell (p := ⟨D, i, none⟩) (fun _ => rfl) _, fun j => by rw [World.frozen?_setCell]; exact HFZ.out j, fun j hj => ?_⟩
            by_cases hji : j = i
            · subst hji
              rw [World.cell?_setCell_same _ _ _ (HCL.out j hj)]
              rw [HDEC.out, HR.out]
              simp
            · rw [World.cell?_setCell_other _ _ _ _ (by intro e; injection e; omega), HCL.out j hj]
              rw [show decide (j < i + 1) = decide (j < i) from by rw [Bool.eq_iff_iff]; simp only [decide_eq_true_eq]; omega]
        | false =>
          have HR := Lib.hid hri
          go_wp2_with fail
          refine (HIN2.out _ i hlt).mono ?_
          rintro e w' ⟨rfl, rfl⟩
          simp only []
          go_wp2_with fail
          go_roundg (128 - (i + 1))
          case measure => omega
          case rel =>
            refine ⟨i + 1, rfl, by omega, rfl, HCH.out, HFZ.out, fun j hj => ?_⟩
            rw [HCL.out j hj]
            by_cases hji : j = i
            · subst hji
              rw [HDEC.out, HR.out]
              simp
            · rw [show decide (j < i + 1) = decide (j < i) from by rw [Bool.eq_iff_iff]; simp only [decide_eq_true_eq]; omega]
      · have hie : i = 128 := by omega
        subst hie
        go_wp2_with fail
        go_ret
        refine ⟨rfl, HCH.out, fun j hj => ?_⟩
        rw [HCL.out j hj]
        simp [hj]
end Go.Proofs.YtkbdngcbifonkaaFmt
