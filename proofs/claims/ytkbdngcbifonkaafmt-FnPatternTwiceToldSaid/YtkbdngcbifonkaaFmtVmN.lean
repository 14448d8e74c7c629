/-
  THE MACHINE AT %1. Lines laid by a program of this session (mkvm.py).
-/
import Derived.Test.YtkbdngcbifonkaaFmtVmB
namespace Go.Proofs.YtkbdngcbifonkaaFmt
set_option linter.all false
open Go.RowKit

set_option maxRecDepth 100000 in
set_option maxHeartbeats 4000000 in
theorem vm_num {w : World} {Q : Exit → Act → World → Prop} {S nS scap C nC cap rec M pc sp : Nat} {ms : Value} {u6 u7 u8 u9 u10 u11 u12 u13 u14 u16 u17 u18 u19 u20 u21 u22 u23 u24 u25 u26 u27 u28 u29 u30 u31 u32 u33 u34 u35 u36 u37 u38 u39 u40 u41 u42 u43 u44 u45 u46 u47 u48 u49 u50 u51 u52 u53 u54 u55 u56 u57 u58 u59 u60 u61 u62 u63 u64 u65 u66 u67 u68 u69 u70 u71 u72 u73 u74 u75 u76 u77 u78 u79 u80 u81 u82 u83 u84 u85 u86 u87 u88 u89 u90 u91 u92 u93 u94 u95 u96 u97 u98 u99 u100 u101 u102 u103 u104 u105 u106 u107 u108 u109 u110 u111 u112 u113 u114 u115 u116 u117 u118 u119 u120 u121 u122 u123 u124 u125 u126 u127 u128 u129 u130 u131 u132 u133 u134 u135 u136 u137 u138 u139 u140 u141 u142 u143 u144 u145 u146 u147 u148 u149 u150 u151 u152 u153 u154 u155 u156 u157 u158 u159 u160 u161 u162 u163 u164 u165 u166 u167 u168 u169 u170 u171 u172 u173 u174 u175 u176 u177 u178 u179 u180 u181 u182 u183 u184 u185 u186 u187 u188 u189 u190 u191 u192 u193 u194 u195 u196 u197 u198 u199 u200 u201 u202 u203 u204 u205 u206 u207 u208 u209 u210 u211 u212 u213 u214 u215 u216 u217 u218 u219 u220 u221 u222 u223 u224 u225 u226 u227 u228 u229 u230 u231 u232 u233 u234 u235 u236 u237 u238 u239 u240 u241 u242 u243 u244 u245 u246 u247 u248 u249 u250 u251 u252 u253 u254 u255 u256 : Value} {a z P : Nat} {src : List UInt8}
    (hpc : (pc : Int) < nC) (hpl : (pc : Int) ≤ 1000) (hp0 : (0 : Int) ≤ pc) (hs0 : (0 : Int) ≤ sp) (hsl : (sp : Int) ≤ 100000) (hc0 : w.cell? ⟨C, pc * 4, none⟩ = some (.int .i64 8)) (hc1 : w.cell? ⟨C, pc * 4 + 1, none⟩ = some (.nilIface)) (hc2 : w.cell? ⟨C, pc * 4 + 2, none⟩ = some (.int .i64 1)) (hc3 : w.cell? ⟨C, pc * 4 + 3, none⟩ = some (.int .i64 (-1))) (hP : (P : Int) ≤ 1000) (hP2 : 4 ≤ P) (haz : a ≤ z) (hzn : z ≤ nS) (hnl : (nS : Int) ≤ 100000) (hnc : nS ≤ scap) (hspn : sp ≤ nS) (hSw : S < w.heap.size)
    (HL : Hid (∀ w1, Ch (fun _ => False) w w1 → Calls Tryf.prog 29 #[ptr M] w1 fun e w' => e = .returned (.int .i64 (P : Int)) ∧ w1 = w'))
    (HA : Hid (∀ w1, Ch (fun _ => False) w w1 → Calls Tryf.prog 28 #[ptr M, .int .i64 2] w1 fun e w' => e = .returned (.int .i64 (a : Int)) ∧ w1 = w'))
    (HZ : Hid (∀ w1, Ch (fun _ => False) w w1 → Calls Tryf.prog 28 #[ptr M, .int .i64 3] w1 fun e w' => e = .returned (.int .i64 (z : Int)) ∧ w1 = w'))
    (hnS : Hid (src.length = nS)) (HBY : Hid (∀ i (h : i < src.length), w.cell? ⟨S, i, none⟩ = some (.int .u8 src[i].toNat)))
    (HQ1 : Hid ((src.drop sp).take (z - a) = (src.drop a).take (z - a) → VmNext Q S nS scap C nC cap rec M ms (pc + 1) (sp + (z - a)) (fun w' => Ch (fun _ => False) w w'))) (HQ2 : Hid (¬ (src.drop sp).take (z - a) = (src.drop a).take (z - a) → VmBack Q M false sp (fun w' => Ch (fun _ => False) w w'))) :
    pass39.wp Tryf.prog Q { tmps := #[sliceAt S nS scap, sliceAt C nC cap, .int .i64 (pc : Int), .int .i64 (sp : Int), .int .i64 (rec : Int), ms, u6, u7, u8, u9, u10, u11, u12, u13, u14, ptr M, u16, u17, u18, u19, u20, u21, u22, u23, u24, u25, u26, u27, u28, u29, u30, u31, u32, u33, u34, u35, u36, u37, u38, u39, u40, u41, u42, u43, u44, u45, u46, u47, u48, u49, u50, u51, u52, u53, u54, u55, u56, u57, u58, u59, u60, u61, u62, u63, u64, u65, u66, u67, u68, u69, u70, u71, u72, u73, u74, u75, u76, u77, u78, u79, u80, u81, u82, u83, u84, u85, u86, u87, u88, u89, u90, u91, u92, u93, u94, u95, u96, u97, u98, u99, u100, u101, u102, u103, u104, u105, u106, u107, u108, u109, u110, u111, u112, u113, u114, u115, u116, u117, u118, u119, u120, u121, u122, u123, u124, u125, u126, u127, u128, u129, u130, u131, u132, u133, u134, u135, u136, u137, u138, u139, u140, u141, u142, u143, u144, u145, u146, u147, u148, u149, u150, u151, u152, u153, u154, u155, u156, u157, u158, u159, u160, u161, u162, u163, u164, u165, u166, u167, u168, u169, u170, u171, u172, u173, u174, u175, u176, u177, u178, u179, u180, u181, u182, u183, u184, u185, u186, u187, u188, u189, u190, u191, u192, u193, u194, u195, u196, u197, u198, u199, u200, u201, u202, u203, u204, u205, u206, u207, u208, u209, u210, u211, u212, u213, u214, u215, u216, u217, u218, u219, u220, u221, u222, u223, u224, u225, u226, u227, u228, u229, u230, u231, u232, u233, u234, u235, u236, u237, u238, u239, u240, u241, u242, u243, u244, u245, u246, u247, u248, u249, u250, u251, u252, u253, u254, u255, u256], defers := [] } w := by
  have hpq : ¬ (pc : Int) < 0 := by omega
  have hw1 : IntKind.i64.wrap ((pc : Int) + 1) = ((pc + 1 : Nat) : Int) := by rw [IntKind.wrap_i64]; omega
  have hw4 : IntKind.i64.wrap ((P : Int) - 1) = ((P - 1 : Nat) : Int) := by rw [IntKind.wrap_i64]; omega
  have hp1 : ¬ ((P - 1 : Nat) : Int) ≤ 2 := by omega
  have hp2 : decide (((P - 1 : Nat) : Int) ≤ 2) = false := decide_eq_false hp1
  have hw5 : IntKind.i64.wrap ((sp : Int) + ((z - a : Nat) : Int)) = ((sp + (z - a) : Nat) : Int) := by rw [IntKind.wrap_i64]; omega
  have ha0 : (0 : Int) ≤ a := by omega
  have haz2 : (a : Int) ≤ z := by omega
  have hzn2 : (z : Int) ≤ nS := by omega
  have hzs : (z : Int) ≤ scap := by omega
  by_cases haz' : a < z
  · have hsa : ¬ scap = a := by omega
    conv => arg 2; whnf
    go_wp2_with fail
    refine (HL.out _ ((Ch.refl _ _).alloc _)).mono ?_
    rintro e w2 ⟨rfl, rfl⟩
    simp only []
    go_wp2_with fail
    refine (HA.out _ ((Ch.refl _ _).alloc _)).mono ?_
    rintro e w2 ⟨rfl, rfl⟩
    simp only []
    go_wp2_with fail
    refine (HZ.out _ ((Ch.refl _ _).alloc _)).mono ?_
    rintro e w2 ⟨rfl, rfl⟩
    simp only []
    go_wp2_with fail
    go_loopg [27] (z - a) (fun k s27 wr => ∃ i : Nat, s27 = .int .i64 i ∧ i ≤ z - a ∧ k = z - a - i ∧ (∀ j, j < i → src[sp + j]? = src[a + j]?) ∧ Ch (fun _ => False) w wr)
    case atStart => exact ⟨0, rfl, by omega, rfl, fun j h => by omega, (Ch.refl _ _).alloc _⟩
    case round =>
      obtain ⟨i, rfl, hi, rfl, hall, hch⟩ := hrel
      have HALL := Lib.hid hall
      have HCH := Lib.hid hch
      clear hall hch
      have hwi : IntKind.i64.wrap ((i : Int) + 1) = ((i + 1 : Nat) : Int) := by rw [IntKind.wrap_i64]; omega
      have hws : IntKind.i64.wrap ((i : Int) + (sp : Int)) = (sp : Int) + (i : Int) := by rw [IntKind.wrap_i64]; omega
      have hwt : ((sp : Int) + (i : Int)).toNat = sp + i := by omega
      by_cases hlt : i < z - a
      · have hal : a + i < src.length := by have := hnS.out; omega
        have hca := HCH.out.cell_some (HBY.out (a + i) hal) id
        have hga : src[a + i]? = some src[a + i] := List.getElem?_eq_getElem hal
        by_cases hsl2 : sp + i < nS
        · have hsp2 : sp + i < src.length := by have := hnS.out; omega
          have hcs := HCH.out.cell_some (HBY.out (sp + i) hsp2) id
          have hgs : src[sp + i]? = some src[sp + i] := List.getElem?_eq_getElem hsp2
          have g1 : decide ((nS : Int) ≤ (sp : Int) + (i : Int)) = false := decide_eq_false (by omega)
          have g2 : decide (nS ≤ sp + i) = false := decide_eq_false (by omega)
          have i1 : (sp : Int) + (i : Int) < nS := by omega
          have i2 : (0 : Int) ≤ (sp : Int) + (i : Int) := by omega
          have i3 : (i : Int) < ((z - a : Nat) : Int) := by omega
          have i4 : (0 : Int) ≤ (i : Int) := by omega
          have i5 : i < z - a := hlt
          generalize src[sp + i] = x at hcs hgs
          generalize src[a + i] = y at hca hga
          have HX := Lib.hid hgs
          have HY := Lib.hid hga
          clear hgs hga
          by_cases hxy : x = y
          · subst hxy
            have g3 : ((x.toNat : Int) != (x.toNat : Int)) = false := by simp
            go_wp2
            go_quiet (fail)
            go_wp2
            go_roundg (z - a - (i + 1))
            case measure => omega
            case rel => exact ⟨i + 1, rfl, by omega, by omega, fun j hj => by
              by_cases e : j = i
              · subst e; rw [HX.out, HY.out]
              · exact HALL.out j (by omega), HCH.out.drewN _⟩
          · have hne : ¬ (y.toNat : Int) = (x.toNat : Int) := fun e => hxy (UInt8.toNat_inj.1 (by omega)).symm
            have g3 : ((y.toNat : Int) != (x.toNat : Int)) = true := by simp; omega
            have HN := HQ2.out (fun e => by
              have e2 := congrArg (fun q : List UInt8 => q[i]?) e
              simp only [List.getElem?_take, List.getElem?_drop, if_pos hlt, HX.out, HY.out] at e2
              exact hxy (by simpa using e2))
            go_wp2
            go_quiet (fail)
            go_wp2
            exact HN _ _ _ _ _ _ _ _ _ _ _ _ _ _ _ _ _ _ _ _ _ _ _ _ _ _ _ _ _ _ _ _ _ _ _ _ _ _ _ _ _ _ _ _ _ _ _ _ _ _ _ _ _ _ _ _ _ _ _ _ _ _ _ _ _ _ _ _ _ _ _ _ _ _ _ _ _ _ _ _ _ _ _ _ _ _ _ _ _ _ _ _ _ _ _ _ _ _ _ _ _ _ _ _ _ _ _ _ _ _ _ _ _ _ _ _ _ _ _ _ _ _ _ _ _ _ _ _ _ _ _ _ _ _ _ _ _ _ _ _ _ _ _ _ _ _ _ _ _ _ _ _ _ _ _ _ _ _ _ _ _ _ _ _ _ _ _ _ _ _ _ _ _ _ _ _ _ _ _ _ _ _ _ _ _ _ _ _ _ _ _ _ _ _ _ _ _ _ _ _ _ _ _ _ _ _ _ _ _ _ _ _ _ _ _ _ _ _ _ _ _ _ _ _ _ _ _ _ _ _ _ _ _ _ _ _ _ _ _ _ _ _ _ _ _ _ _ _ _ _ _ _ _ _ _ (HCH.out.drewN _)
        · have g1 : decide ((nS : Int) ≤ (sp : Int) + (i : Int)) = true := decide_eq_true (by omega)
          have g2 : decide (nS ≤ sp + i) = true := decide_eq_true (by omega)
          have i3 : (i : Int) < ((z - a : Nat) : Int) := by omega
          have i5 : i < z - a := hlt
          have HN := HQ2.out (fun e => by
            have e2 := congrArg (fun q : List UInt8 => q[i]?) e
            simp only [List.getElem?_take, List.getElem?_drop, if_pos hlt, hga] at e2
            rw [List.getElem?_eq_none (by have := hnS.out; omega)] at e2
            simp at e2)
          go_wp2
          go_quiet (fail)
          go_wp2
          exact HN _ _ _ _ _ _ _ _ _ _ _ _ _ _ _ _ _ _ _ _ _ _ _ _ _ _ _ _ _ _ _ _ _ _ _ _ _ _ _ _ _ _ _ _ _ _ _ _ _ _ _ _ _ _ _ _ _ _ _ _ _ _ _ _ _ _ _ _ _ _ _ _ _ _ _ _ _ _ _ _ _ _ _ _ _ _ _ _ _ _ _ _ _ _ _ _ _ _ _ _ _ _ _ _ _ _ _ _ _ _ _ _ _ _ _ _ _ _ _ _ _ _ _ _ _ _ _ _ _ _ _ _ _ _ _ _ _ _ _ _ _ _ _ _ _ _ _ _ _ _ _ _ _ _ _ _ _ _ _ _ _ _ _ _ _ _ _ _ _ _ _ _ _ _ _ _ _ _ _ _ _ _ _ _ _ _ _ _ _ _ _ _ _ _ _ _ _ _ _ _ _ _ _ _ _ _ _ _ _ _ _ _ _ _ _ _ _ _ _ _ _ _ _ _ _ _ _ _ _ _ _ _ _ _ _ _ _ _ _ _ _ _ _ _ _ _ _ _ _ _ _ _ _ _ _ (HCH.out.drewN _)
      · have hie : i = z - a := by omega
        subst hie
        have hlf : ¬ ((z - a : Nat) : Int) < ((z - a : Nat) : Int) := by omega
        have HN := HQ1.out (by
          refine List.ext_getElem? fun j => ?_
          simp only [List.getElem?_take, List.getElem?_drop]
          by_cases hj : j < z - a
          · rw [if_pos hj, if_pos hj, HALL.out j hj]
          · rw [if_neg hj, if_neg hj])
        go_wp2
        go_step3
        exact HN _ _ _ _ _ _ _ _ _ _ _ _ _ _ _ _ _ _ _ _ _ _ _ _ _ _ _ _ _ _ _ _ _ _ _ _ _ _ _ _ _ _ _ _ _ _ _ _ _ _ _ _ _ _ _ _ _ _ _ _ _ _ _ _ _ _ _ _ _ _ _ _ _ _ _ _ _ _ _ _ _ _ _ _ _ _ _ _ _ _ _ _ _ _ _ _ _ _ _ _ _ _ _ _ _ _ _ _ _ _ _ _ _ _ _ _ _ _ _ _ _ _ _ _ _ _ _ _ _ _ _ _ _ _ _ _ _ _ _ _ _ _ _ _ _ _ _ _ _ _ _ _ _ _ _ _ _ _ _ _ _ _ _ _ _ _ _ _ _ _ _ _ _ _ _ _ _ _ _ _ _ _ _ _ _ _ _ _ _ _ _ _ _ _ _ _ _ _ _ _ _ _ _ _ _ _ _ _ _ _ _ _ _ _ _ _ _ _ _ _ _ _ _ _ _ _ _ _ _ _ _ _ _ _ _ _ _ _ _ _ _ _ _ _ _ _ _ _ _ _ _ HCH.out
  · obtain rfl : z = a := by omega
    have HN := HQ1.out (by simp)
    have hz0 : ((z - z : Nat) : Int) = 0 := by omega
    have hz1 : z - z = 0 := by omega
    have hz2 : (z : Int) - z = 0 := by omega
    rw [hz1, Nat.add_zero] at HN
    unfold VmNext at HN
    rw [show ((pc + 1 : Nat) : Int) = (pc : Int) + 1 from by omega] at HN
    rw [hz0, hz1, Nat.add_zero] at hw5
    have hsz : scap = z ∨ ¬ scap = z := Decidable.em _
    rcases hsz with rfl | hsz
    all_goals
      conv => arg 2; whnf
      go_wp2_with fail
      refine (HL.out _ ((Ch.refl _ _).alloc _)).mono ?_
      rintro e w2 ⟨rfl, rfl⟩
      simp only []
      go_wp2_with fail
      refine (HA.out _ ((Ch.refl _ _).alloc _)).mono ?_
      rintro e w2 ⟨rfl, rfl⟩
      simp only []
      go_wp2_with fail
      refine (HZ.out _ ((Ch.refl _ _).alloc _)).mono ?_
      rintro e w2 ⟨rfl, rfl⟩
      simp only []
      go_wp2_with fail
      refine wp_loop_rounds 1 ?_
      rw [rounds_succ]
      go_wp2
      go_step3
      exact HN _ _ _ _ _ _ _ _ _ _ _ _ _ _ _ _ _ _ _ _ _ _ _ _ _ _ _ _ _ _ _ _ _ _ _ _ _ _ _ _ _ _ _ _ _ _ _ _ _ _ _ _ _ _ _ _ _ _ _ _ _ _ _ _ _ _ _ _ _ _ _ _ _ _ _ _ _ _ _ _ _ _ _ _ _ _ _ _ _ _ _ _ _ _ _ _ _ _ _ _ _ _ _ _ _ _ _ _ _ _ _ _ _ _ _ _ _ _ _ _ _ _ _ _ _ _ _ _ _ _ _ _ _ _ _ _ _ _ _ _ _ _ _ _ _ _ _ _ _ _ _ _ _ _ _ _ _ _ _ _ _ _ _ _ _ _ _ _ _ _ _ _ _ _ _ _ _ _ _ _ _ _ _ _ _ _ _ _ _ _ _ _ _ _ _ _ _ _ _ _ _ _ _ _ _ _ _ _ _ _ _ _ _ _ _ _ _ _ _ _ _ _ _ _ _ _ _ _ _ _ _ _ _ _ _ _ _ _ _ _ _ _ _ _ _ _ _ _ _ _ _ ((Ch.refl _ _).alloc _)
end Go.Proofs.YtkbdngcbifonkaaFmt
