/-
  A PATTERN IS READ: the loop of parsePattern at its top, repetitions and %1 among its parts; the ^ ahead. Lines laid by a program of this session (mkmain2.py).
-/
import Derived.Test.YtkbdngcbifonkaaFmtParA
import Derived.Test.YtkbdngcbifonkaaFmtRndR
import Derived.Deep.LoopGhost
namespace Go.Proofs.YtkbdngcbifonkaaFmt
set_option linter.all false
open Go.RowKit

set_option maxRecDepth 100000 in
set_option maxHeartbeats 40000000 in
theorem loop_more {w0 : World} {S A cap P f : Nat} {l : List UInt8} {head : Bool} {ps : List Pm.Pat} {Q : Exit → Act → World → Prop} {u2 u3 u10 u11 u12 u13 u14 u15 u16 u17 u18 u19 u20 u307 : Value} (hl1 : l.length ≤ 1000) (hno : ∀ i, ¬ at_ l i = 40)
    (HQ : Hid (∀ k a' w', RoundPost w0 S A cap P l head k ps true u2 u3 u10 u11 u12 u13 u14 u15 u16 u17 u18 u19 u20 u307 a' w' → Q (.goto 0) a' w')) {k : Nat} {ps' : List Pm.Pat} {a : Act} {w : World} (hgo : patTo l true f k ps' = some ps) (hr : RoundPost w0 S A cap P l head k ps' true u2 u3 u10 u11 u12 u13 u14 u15 u16 u17 u18 u19 u20 u307 a w) (hk : k ≤ l.length + 1) (hk0 : l.length = 0 → k = 1) :
    (Code.loop body36).wp Tryf.prog Q a w := by
  refine wp_loop_ghost (fun n a' w' => ∃ k ps', patTo l true n k ps' = some ps ∧ RoundPost w0 S A cap P l head k ps' true u2 u3 u10 u11 u12 u13 u14 u15 u16 u17 u18 u19 u20 u307 a' w' ∧ k ≤ l.length + 1 ∧ (l.length = 0 → k = 1)) f ⟨k, ps', hgo, hr, hk, hk0⟩ ?round
  case round =>
    clear hgo hr hk hk0
    rintro gk a' wr ⟨k, ps', hgo, ⟨⟨j, B, c, us, hpat⟩, hd⟩, hk, hk0⟩
    obtain ⟨y4, hd⟩ := hd
    obtain ⟨y6, hd⟩ := hd
    obtain ⟨y7, hd⟩ := hd
    obtain ⟨y8, hd⟩ := hd
    obtain ⟨y9, hd⟩ := hd
    obtain ⟨y21, hd⟩ := hd
    obtain ⟨y22, hd⟩ := hd
    obtain ⟨y23, hd⟩ := hd
    obtain ⟨y24, hd⟩ := hd
    obtain ⟨y25, hd⟩ := hd
    obtain ⟨y26, hd⟩ := hd
    obtain ⟨y27, hd⟩ := hd
    obtain ⟨y28, hd⟩ := hd
    obtain ⟨y29, hd⟩ := hd
    obtain ⟨y30, hd⟩ := hd
    obtain ⟨y31, hd⟩ := hd
    obtain ⟨y32, hd⟩ := hd
    obtain ⟨y33, hd⟩ := hd
    obtain ⟨y34, hd⟩ := hd
    obtain ⟨y35, hd⟩ := hd
    obtain ⟨y36, hd⟩ := hd
    obtain ⟨y37, hd⟩ := hd
    obtain ⟨y38, hd⟩ := hd
    obtain ⟨y39, hd⟩ := hd
    obtain ⟨y40, hd⟩ := hd
    obtain ⟨y41, hd⟩ := hd
    obtain ⟨y42, hd⟩ := hd
    obtain ⟨y43, hd⟩ := hd
    obtain ⟨y44, hd⟩ := hd
    obtain ⟨y45, hd⟩ := hd
    obtain ⟨y46, hd⟩ := hd
    obtain ⟨y47, hd⟩ := hd
    obtain ⟨y48, hd⟩ := hd
    obtain ⟨y49, hd⟩ := hd
    obtain ⟨y50, hd⟩ := hd
    obtain ⟨y51, hd⟩ := hd
    obtain ⟨y52, hd⟩ := hd
    obtain ⟨y53, hd⟩ := hd
    obtain ⟨y54, hd⟩ := hd
    obtain ⟨y55, hd⟩ := hd
    obtain ⟨y56, hd⟩ := hd
    obtain ⟨y57, hd⟩ := hd
    obtain ⟨y58, hd⟩ := hd
    obtain ⟨y59, hd⟩ := hd
    obtain ⟨y60, hd⟩ := hd
    obtain ⟨y61, hd⟩ := hd
    obtain ⟨y62, hd⟩ := hd
    obtain ⟨y63, hd⟩ := hd
    obtain ⟨y64, hd⟩ := hd
    obtain ⟨y65, hd⟩ := hd
    obtain ⟨y66, hd⟩ := hd
    obtain ⟨y67, hd⟩ := hd
    obtain ⟨y68, hd⟩ := hd
    obtain ⟨y69, hd⟩ := hd
    obtain ⟨y70, hd⟩ := hd
    obtain ⟨y71, hd⟩ := hd
    obtain ⟨y72, hd⟩ := hd
    obtain ⟨y73, hd⟩ := hd
    obtain ⟨y74, hd⟩ := hd
    obtain ⟨y75, hd⟩ := hd
    obtain ⟨y76, hd⟩ := hd
    obtain ⟨y77, hd⟩ := hd
    obtain ⟨y78, hd⟩ := hd
    obtain ⟨y79, hd⟩ := hd
    obtain ⟨y80, hd⟩ := hd
    obtain ⟨y81, hd⟩ := hd
    obtain ⟨y82, hd⟩ := hd
    obtain ⟨y83, hd⟩ := hd
    obtain ⟨y84, hd⟩ := hd
    obtain ⟨y85, hd⟩ := hd
    obtain ⟨y86, hd⟩ := hd
    obtain ⟨y87, hd⟩ := hd
    obtain ⟨y88, hd⟩ := hd
    obtain ⟨y89, hd⟩ := hd
    obtain ⟨y90, hd⟩ := hd
    obtain ⟨y91, hd⟩ := hd
    obtain ⟨y92, hd⟩ := hd
    obtain ⟨y93, hd⟩ := hd
    obtain ⟨y94, hd⟩ := hd
    obtain ⟨y95, hd⟩ := hd
    obtain ⟨y96, hd⟩ := hd
    obtain ⟨y97, hd⟩ := hd
    obtain ⟨y98, hd⟩ := hd
    obtain ⟨y99, hd⟩ := hd
    obtain ⟨y100, hd⟩ := hd
    obtain ⟨y101, hd⟩ := hd
    obtain ⟨y102, hd⟩ := hd
    obtain ⟨y103, hd⟩ := hd
    obtain ⟨y104, hd⟩ := hd
    obtain ⟨y105, hd⟩ := hd
    obtain ⟨y106, hd⟩ := hd
    obtain ⟨y107, hd⟩ := hd
    obtain ⟨y108, hd⟩ := hd
    obtain ⟨y109, hd⟩ := hd
    obtain ⟨y110, hd⟩ := hd
    obtain ⟨y111, hd⟩ := hd
    obtain ⟨y112, hd⟩ := hd
    obtain ⟨y113, hd⟩ := hd
    obtain ⟨y114, hd⟩ := hd
    obtain ⟨y115, hd⟩ := hd
    obtain ⟨y116, hd⟩ := hd
    obtain ⟨y117, hd⟩ := hd
    obtain ⟨y118, hd⟩ := hd
    obtain ⟨y119, hd⟩ := hd
    obtain ⟨y120, hd⟩ := hd
    obtain ⟨y121, hd⟩ := hd
    obtain ⟨y122, hd⟩ := hd
    obtain ⟨y123, hd⟩ := hd
    obtain ⟨y124, hd⟩ := hd
    obtain ⟨y125, hd⟩ := hd
    obtain ⟨y126, hd⟩ := hd
    obtain ⟨y127, hd⟩ := hd
    obtain ⟨y128, hd⟩ := hd
    obtain ⟨y129, hd⟩ := hd
    obtain ⟨y130, hd⟩ := hd
    obtain ⟨y131, hd⟩ := hd
    obtain ⟨y132, hd⟩ := hd
    obtain ⟨y133, hd⟩ := hd
    obtain ⟨y134, hd⟩ := hd
    obtain ⟨y135, hd⟩ := hd
    obtain ⟨y136, hd⟩ := hd
    obtain ⟨y137, hd⟩ := hd
    obtain ⟨y138, hd⟩ := hd
    obtain ⟨y139, hd⟩ := hd
    obtain ⟨y140, hd⟩ := hd
    obtain ⟨y141, hd⟩ := hd
    obtain ⟨y142, hd⟩ := hd
    obtain ⟨y143, hd⟩ := hd
    obtain ⟨y144, hd⟩ := hd
    obtain ⟨y145, hd⟩ := hd
    obtain ⟨y146, hd⟩ := hd
    obtain ⟨y147, hd⟩ := hd
    obtain ⟨y148, hd⟩ := hd
    obtain ⟨y149, hd⟩ := hd
    obtain ⟨y150, hd⟩ := hd
    obtain ⟨y151, hd⟩ := hd
    obtain ⟨y152, hd⟩ := hd
    obtain ⟨y153, hd⟩ := hd
    obtain ⟨y154, hd⟩ := hd
    obtain ⟨y155, hd⟩ := hd
    obtain ⟨y156, hd⟩ := hd
    obtain ⟨y157, hd⟩ := hd
    obtain ⟨y158, hd⟩ := hd
    obtain ⟨y159, hd⟩ := hd
    obtain ⟨y160, hd⟩ := hd
    obtain ⟨y161, hd⟩ := hd
    obtain ⟨y162, hd⟩ := hd
    obtain ⟨y163, hd⟩ := hd
    obtain ⟨y164, hd⟩ := hd
    obtain ⟨y165, hd⟩ := hd
    obtain ⟨y166, hd⟩ := hd
    obtain ⟨y167, hd⟩ := hd
    obtain ⟨y168, hd⟩ := hd
    obtain ⟨y169, hd⟩ := hd
    obtain ⟨y170, hd⟩ := hd
    obtain ⟨y171, hd⟩ := hd
    obtain ⟨y172, hd⟩ := hd
    obtain ⟨y173, hd⟩ := hd
    obtain ⟨y174, hd⟩ := hd
    obtain ⟨y175, hd⟩ := hd
    obtain ⟨y176, hd⟩ := hd
    obtain ⟨y177, hd⟩ := hd
    obtain ⟨y178, hd⟩ := hd
    obtain ⟨y179, hd⟩ := hd
    obtain ⟨y180, hd⟩ := hd
    obtain ⟨y181, hd⟩ := hd
    obtain ⟨y182, hd⟩ := hd
    obtain ⟨y183, hd⟩ := hd
    obtain ⟨y184, hd⟩ := hd
    obtain ⟨y185, hd⟩ := hd
    obtain ⟨y186, hd⟩ := hd
    obtain ⟨y187, hd⟩ := hd
    obtain ⟨y188, hd⟩ := hd
    obtain ⟨y189, hd⟩ := hd
    obtain ⟨y190, hd⟩ := hd
    obtain ⟨y191, hd⟩ := hd
    obtain ⟨y192, hd⟩ := hd
    obtain ⟨y193, hd⟩ := hd
    obtain ⟨y194, hd⟩ := hd
    obtain ⟨y195, hd⟩ := hd
    obtain ⟨y196, hd⟩ := hd
    obtain ⟨y197, hd⟩ := hd
    obtain ⟨y198, hd⟩ := hd
    obtain ⟨y199, hd⟩ := hd
    obtain ⟨y200, hd⟩ := hd
    obtain ⟨y201, hd⟩ := hd
    obtain ⟨y202, hd⟩ := hd
    obtain ⟨y203, hd⟩ := hd
    obtain ⟨y204, hd⟩ := hd
    obtain ⟨y205, hd⟩ := hd
    obtain ⟨y206, hd⟩ := hd
    obtain ⟨y207, hd⟩ := hd
    obtain ⟨y208, hd⟩ := hd
    obtain ⟨y209, hd⟩ := hd
    obtain ⟨y210, hd⟩ := hd
    obtain ⟨y211, hd⟩ := hd
    obtain ⟨y212, hd⟩ := hd
    obtain ⟨y213, hd⟩ := hd
    obtain ⟨y214, hd⟩ := hd
    obtain ⟨y215, hd⟩ := hd
    obtain ⟨y216, hd⟩ := hd
    obtain ⟨y217, hd⟩ := hd
    obtain ⟨y218, hd⟩ := hd
    obtain ⟨y219, hd⟩ := hd
    obtain ⟨y220, hd⟩ := hd
    obtain ⟨y221, hd⟩ := hd
    obtain ⟨y222, hd⟩ := hd
    obtain ⟨y223, hd⟩ := hd
    obtain ⟨y224, hd⟩ := hd
    obtain ⟨y225, hd⟩ := hd
    obtain ⟨y226, hd⟩ := hd
    obtain ⟨y227, hd⟩ := hd
    obtain ⟨y228, hd⟩ := hd
    obtain ⟨y229, hd⟩ := hd
    obtain ⟨y230, hd⟩ := hd
    obtain ⟨y231, hd⟩ := hd
    obtain ⟨y232, hd⟩ := hd
    obtain ⟨y233, hd⟩ := hd
    obtain ⟨y234, hd⟩ := hd
    obtain ⟨y235, hd⟩ := hd
    obtain ⟨y236, hd⟩ := hd
    obtain ⟨y237, hd⟩ := hd
    obtain ⟨y238, hd⟩ := hd
    obtain ⟨y239, hd⟩ := hd
    obtain ⟨y240, hd⟩ := hd
    obtain ⟨y241, hd⟩ := hd
    obtain ⟨y242, hd⟩ := hd
    obtain ⟨y243, hd⟩ := hd
    obtain ⟨y244, hd⟩ := hd
    obtain ⟨y245, hd⟩ := hd
    obtain ⟨y246, hd⟩ := hd
    obtain ⟨y247, hd⟩ := hd
    obtain ⟨y248, hd⟩ := hd
    obtain ⟨y249, hd⟩ := hd
    obtain ⟨y250, hd⟩ := hd
    obtain ⟨y251, hd⟩ := hd
    obtain ⟨y252, hd⟩ := hd
    obtain ⟨y253, hd⟩ := hd
    obtain ⟨y254, hd⟩ := hd
    obtain ⟨y255, hd⟩ := hd
    obtain ⟨y256, hd⟩ := hd
    obtain ⟨y257, hd⟩ := hd
    obtain ⟨y258, hd⟩ := hd
    obtain ⟨y259, hd⟩ := hd
    obtain ⟨y260, hd⟩ := hd
    obtain ⟨y261, hd⟩ := hd
    obtain ⟨y262, hd⟩ := hd
    obtain ⟨y263, hd⟩ := hd
    obtain ⟨y264, hd⟩ := hd
    obtain ⟨y265, hd⟩ := hd
    obtain ⟨y266, hd⟩ := hd
    obtain ⟨y267, hd⟩ := hd
    obtain ⟨y268, hd⟩ := hd
    obtain ⟨y269, hd⟩ := hd
    obtain ⟨y270, hd⟩ := hd
    obtain ⟨y271, hd⟩ := hd
    obtain ⟨y272, hd⟩ := hd
    obtain ⟨y273, hd⟩ := hd
    obtain ⟨y274, hd⟩ := hd
    obtain ⟨y275, hd⟩ := hd
    obtain ⟨y276, hd⟩ := hd
    obtain ⟨y277, hd⟩ := hd
    obtain ⟨y278, hd⟩ := hd
    obtain ⟨y279, hd⟩ := hd
    obtain ⟨y280, hd⟩ := hd
    obtain ⟨y281, hd⟩ := hd
    obtain ⟨y282, hd⟩ := hd
    obtain ⟨y283, hd⟩ := hd
    obtain ⟨y284, hd⟩ := hd
    obtain ⟨y285, hd⟩ := hd
    obtain ⟨y286, hd⟩ := hd
    obtain ⟨y287, hd⟩ := hd
    obtain ⟨y288, hd⟩ := hd
    obtain ⟨y289, hd⟩ := hd
    obtain ⟨y290, hd⟩ := hd
    obtain ⟨y291, hd⟩ := hd
    obtain ⟨y292, hd⟩ := hd
    obtain ⟨y293, hd⟩ := hd
    obtain ⟨y294, hd⟩ := hd
    obtain ⟨y295, hd⟩ := hd
    obtain ⟨y296, hd⟩ := hd
    obtain ⟨y297, hd⟩ := hd
    obtain ⟨y298, hd⟩ := hd
    obtain ⟨y299, hd⟩ := hd
    obtain ⟨y300, hd⟩ := hd
    obtain ⟨y301, hd⟩ := hd
    obtain ⟨y302, hd⟩ := hd
    obtain ⟨y303, hd⟩ := hd
    obtain ⟨y304, hd⟩ := hd
    obtain ⟨y305, hd⟩ := hd
    obtain ⟨y306, hd⟩ := hd
    subst hd
    obtain ⟨n, rfl⟩ : ∃ n, gk = n + 1 := by
      cases gk with
      | zero => simp [patTo] at hgo
      | succ n => exact ⟨n, rfl⟩
    have hseen : seen l k = k := by unfold seen; split <;> omega
    have HPAT := Lib.hid hpat
    clear hpat
    by_cases h37 : at_ l k = 37
    · by_cases h49 : at_ l (k + 1) = 49
      · simp only [patTo, if_pos h37, if_pos h49, if_true] at hgo
        have hk1 : k + 1 < l.length := at_lt (by rw [h49]; decide)
        have HGO := Lib.hid hgo
        clear hgo
        refine round_num HPAT hl1 hk hseen h37 h49 ?_
        intro a' w' hpost
        exact ⟨n, by omega, _, _, HGO.out, hpost, by omega, by omega⟩
      by_cases h98 : at_ l (k + 1) = 98
      · simp only [patTo, if_pos h37, if_neg h49, if_pos h98] at hgo
        obtain ⟨hk3, hgo⟩ : k + 3 < l.length ∧ patTo l true n (k + 4) (ps' ++ [.part (.brace (at_ l (k + 2)) (at_ l (k + 3)))]) = some ps := by
          split at hgo
          · exact ⟨by assumption, hgo⟩
          · cases hgo
        have HGO := Lib.hid hgo
        clear hgo
        refine round_brace HPAT hl1 hk hseen h37 h98 hk3 ?_
        intro a' w' hpost
        exact ⟨n, by omega, _, _, HGO.out, hpost, by omega, by omega⟩
      simp only [patTo, if_pos h37, if_neg h49, if_neg h98] at hgo
      obtain ⟨hno, hgo⟩ : ¬ (48 ≤ at_ l (k + 1) ∧ at_ l (k + 1) ≤ 57 ∨ at_ l (k + 1) = -1) ∧ patTo l true n (k + 2) (ps' ++ [.part (.one (.atom (.single (at_ l (k + 1)))))]) = some ps := by
        split at hgo
        · cases hgo
        · exact ⟨by assumption, hgo⟩
      have hk1 := at_lt (fun e => hno (.inr e))
      have HGO := Lib.hid hgo
      clear hgo
      refine round_pct HPAT hl1 hk hseen h37 h98 hno ?_
      intro a' w' hpost
      exact ⟨n, by omega, _, _, HGO.out, hpost, by omega, by omega⟩
    by_cases h46 : at_ l k = 46
    · simp only [patTo, if_neg h37, if_pos h46] at hgo
      have hk1 := at_lt (l := l) (k := k) (by rw [h46]; decide)
      have HGO := Lib.hid hgo
      clear hgo
      refine round_dot HPAT hl1 hk hseen h46 ?_
      intro a' w' hpost
      exact ⟨n, by omega, _, _, HGO.out, hpost, by omega, by omega⟩
    by_cases h91 : at_ l k = 91
    · simp only [patTo, if_neg h37, if_neg h46, if_pos h91] at hgo
      obtain ⟨neg, es, k', hset, hgo⟩ : ∃ neg es k', setAt l (k + 1) = some (neg, es, k') ∧ patTo l true n k' (ps' ++ [.part (.one (.set neg es))]) = some ps := by
        split at hgo
        · exact ⟨_, _, _, by assumption, hgo⟩
        · cases hgo
      have hsl := setAt_lt hset
      have HGO := Lib.hid hgo
      clear hgo
      refine round_set HPAT hl1 hk hseen h91 hset hsl ?_
      intro a' w' hpost
      exact ⟨n, by omega, _, _, HGO.out, hpost, by omega, by omega⟩
    by_cases h40 : at_ l k = 40
    · exact absurd h40 (hno k)
    by_cases hrep : at_ l k = 42 ∨ at_ l k = 43 ∨ at_ l k = 45 ∨ at_ l k = 63
    · simp only [patTo, if_neg h37, if_neg h46, if_neg h91, if_neg h40, if_pos hrep, if_true] at hgo
      have hk1 := at_lt (l := l) (k := k) (by rcases hrep with h | h | h | h <;> rw [h] <;> decide)
      obtain ⟨ps1, cl, hlast, hgo2⟩ : ∃ ps1 cl, lastOne ps' = some (ps1, cl) ∧ patTo l true n (k + 1) (ps1 ++ [.part (.rep (at_ l k) cl)]) = some ps := by
        split at hgo
        · exact ⟨_, _, by assumption, hgo⟩
        · cases hgo
      clear hgo
      obtain rfl := lastOne_some hlast
      clear hlast
      have HGO := Lib.hid hgo2
      clear hgo2
      rcases hrep with h | h | h | h
      · refine round_rep42 HPAT hl1 hk hseen h ?_
        intro a' w' hpost
        exact ⟨n, by omega, _, _, HGO.out, hpost, by omega, by omega⟩
      · refine round_rep43 HPAT hl1 hk hseen h ?_
        intro a' w' hpost
        exact ⟨n, by omega, _, _, HGO.out, hpost, by omega, by omega⟩
      · refine round_rep45 HPAT hl1 hk hseen h ?_
        intro a' w' hpost
        exact ⟨n, by omega, _, _, HGO.out, hpost, by omega, by omega⟩
      · refine round_rep63 HPAT hl1 hk hseen h ?_
        intro a' w' hpost
        exact ⟨n, by omega, _, _, HGO.out, hpost, by omega, by omega⟩
    by_cases hbad : at_ l k = 93 ∨ at_ l k = 36 ∨ at_ l k = 41
    · simp only [patTo, if_neg h37, if_neg h46, if_neg h91, if_neg h40, if_neg hrep, if_pos hbad] at hgo
      cases hgo
    have h42 : ¬ at_ l k = 42 := fun e => hrep (by simp [e])
    have h43 : ¬ at_ l k = 43 := fun e => hrep (by simp [e])
    have h45 : ¬ at_ l k = 45 := fun e => hrep (by simp [e])
    have h63 : ¬ at_ l k = 63 := fun e => hrep (by simp [e])
    have h93 : ¬ at_ l k = 93 := fun e => hbad (by simp [e])
    have h36 : ¬ at_ l k = 36 := fun e => hbad (by simp [e])
    have h41 : ¬ at_ l k = 41 := fun e => hbad (by simp [e])
    by_cases hm1 : at_ l k = -1
    · simp only [patTo, if_neg h37, if_neg h46, if_neg h91, if_neg h40, if_neg hrep, if_neg hbad, if_pos hm1] at hgo
      obtain rfl : ps' = ps := by cases hgo; rfl
      clear hgo hrep hbad
      refine round_end HPAT hl1 hk hseen hm1 ?_
      intro a' w' hpost
      exact HQ.out _ _ _ hpost
    simp only [patTo, if_neg h37, if_neg h46, if_neg h91, if_neg h40, if_neg hrep, if_neg hbad, if_neg hm1] at hgo
    clear hrep hbad
    have hk1 := at_lt hm1
    have HGO := Lib.hid hgo
    clear hgo
    refine round_chr HPAT hl1 hk hseen h37 h46 h91 h93 h41 h40 h42 h43 h45 h63 h36 hm1 ?_
    intro a' w' hpost
    exact ⟨n, by omega, _, _, HGO.out, hpost, by omega, by omega⟩

set_option maxRecDepth 100000 in
set_option maxHeartbeats 40000000 in
theorem parse_head {w : World} {S A cap j f : Nat} {l : List UInt8} {ps : List Pm.Pat} (h : Scan w S A cap l 0 j) (hA : A < w.heap.size) (hl1 : l.length ≤ 1000) (h94 : (at_ l 0 == 94) = true) (hno : ∀ i, ¬ at_ l i = 40) (hgo : patTo l true f 1 [] = some ps) :
    Calls Tryf.prog 36 #[ptr S, .bool true] w fun e w' => ∃ b, e = .returned (ptr b) ∧ RepPats w' (fun b => w.heap.size ≤ b ∧ b < w'.heap.size) b true false ps ∧ Ch (· = S) w w' := by
  have hkl : 0 < l.length := at_lt (by have : at_ l 0 = 94 := by simpa using h94
                                       rw [this]; decide)
  have hsn : seen l 0 = 0 := by unfold seen; rw [if_neg (by omega)]
  have HST := Lib.hid (PatAt.start h hA)
  have HGO := Lib.hid hgo
  clear h hgo
  go_enter Tryf.func36, Tryf.ntmps36
  go_wp2_with fail
  refine wp_scope_jumps 0 (fun a' w' => ∃ u2 u3 u10 u11 u12 u13 u14 u15 u16 u17 u18 u19 u20 u307 k', RoundPost w S A cap w.heap.size l true k' ps true u2 u3 u10 u11 u12 u13 u14 u15 u16 u17 u18 u19 u20 u307 a' w') (fun a' _ => 0) rfl ?_ ?_
  · go_wp2_with fail
    refine (scan_peek HST.out.scan (by omega)).mono ?_
    rintro e w1 ⟨rfl, hs, hc, hz⟩
    rw [hsn] at hs
    have hb := HST.out.moved hs hc (by simp)
    clear hs hc hz HST
    have HB := Lib.hid hb
    clear hb
    go_wp2_with fail
    refine (scan_next HB.out.scan (by omega)).mono ?_
    rintro e w2 ⟨rfl, hs, hc, hz⟩
    rw [show after l 0 = 1 from by simp only [after]; omega] at hs
    have hb := HB.out.moved hs hc (by simp)
    have z2 := hb.lt
    have q0 := hb.c0
    have f0 := hb.fz 0
    have HB2 := Lib.hid hb
    clear hs hc hz HB hb
    go_wp2_with fail
    refine loop_more (u2 := ?vu2) (u3 := ?vu3) (u10 := ?vu10) (u11 := ?vu11) (u12 := ?vu12) (u13 := ?vu13) (u14 := ?vu14) (u15 := ?vu15) (u16 := ?vu16) (u17 := ?vu17) (u18 := ?vu18) (u19 := ?vu19) (u20 := ?vu20) (u307 := ?vu307) hl1 hno ?hq HGO.out ⟨⟨_, _, _, _, HB2.out.headed⟩, ?hf⟩ (by omega) (by omega)
    case hf =>
      (repeat apply Exists.intro)
      rfl
    case hq =>
      refine Lib.hid fun k' a' w' hpost => ?_
      exact ⟨rfl, _, _, _, _, _, _, _, _, _, _, _, _, _, _, k', hpost⟩
  · rintro a' w' ⟨u2, u3, u10, u11, u12, u13, u14, u15, u16, u17, u18, u19, u20, u307, k', ⟨j, B, c, us, hpat⟩, hd⟩
    obtain ⟨y4, hd⟩ := hd
    obtain ⟨y6, hd⟩ := hd
    obtain ⟨y7, hd⟩ := hd
    obtain ⟨y8, hd⟩ := hd
    obtain ⟨y9, hd⟩ := hd
    obtain ⟨y21, hd⟩ := hd
    obtain ⟨y22, hd⟩ := hd
    obtain ⟨y23, hd⟩ := hd
    obtain ⟨y24, hd⟩ := hd
    obtain ⟨y25, hd⟩ := hd
    obtain ⟨y26, hd⟩ := hd
    obtain ⟨y27, hd⟩ := hd
    obtain ⟨y28, hd⟩ := hd
    obtain ⟨y29, hd⟩ := hd
    obtain ⟨y30, hd⟩ := hd
    obtain ⟨y31, hd⟩ := hd
    obtain ⟨y32, hd⟩ := hd
    obtain ⟨y33, hd⟩ := hd
    obtain ⟨y34, hd⟩ := hd
    obtain ⟨y35, hd⟩ := hd
    obtain ⟨y36, hd⟩ := hd
    obtain ⟨y37, hd⟩ := hd
    obtain ⟨y38, hd⟩ := hd
    obtain ⟨y39, hd⟩ := hd
    obtain ⟨y40, hd⟩ := hd
    obtain ⟨y41, hd⟩ := hd
    obtain ⟨y42, hd⟩ := hd
    obtain ⟨y43, hd⟩ := hd
    obtain ⟨y44, hd⟩ := hd
    obtain ⟨y45, hd⟩ := hd
    obtain ⟨y46, hd⟩ := hd
    obtain ⟨y47, hd⟩ := hd
    obtain ⟨y48, hd⟩ := hd
    obtain ⟨y49, hd⟩ := hd
    obtain ⟨y50, hd⟩ := hd
    obtain ⟨y51, hd⟩ := hd
    obtain ⟨y52, hd⟩ := hd
    obtain ⟨y53, hd⟩ := hd
    obtain ⟨y54, hd⟩ := hd
    obtain ⟨y55, hd⟩ := hd
    obtain ⟨y56, hd⟩ := hd
    obtain ⟨y57, hd⟩ := hd
    obtain ⟨y58, hd⟩ := hd
    obtain ⟨y59, hd⟩ := hd
    obtain ⟨y60, hd⟩ := hd
    obtain ⟨y61, hd⟩ := hd
    obtain ⟨y62, hd⟩ := hd
    obtain ⟨y63, hd⟩ := hd
    obtain ⟨y64, hd⟩ := hd
    obtain ⟨y65, hd⟩ := hd
    obtain ⟨y66, hd⟩ := hd
    obtain ⟨y67, hd⟩ := hd
    obtain ⟨y68, hd⟩ := hd
    obtain ⟨y69, hd⟩ := hd
    obtain ⟨y70, hd⟩ := hd
    obtain ⟨y71, hd⟩ := hd
    obtain ⟨y72, hd⟩ := hd
    obtain ⟨y73, hd⟩ := hd
    obtain ⟨y74, hd⟩ := hd
    obtain ⟨y75, hd⟩ := hd
    obtain ⟨y76, hd⟩ := hd
    obtain ⟨y77, hd⟩ := hd
    obtain ⟨y78, hd⟩ := hd
    obtain ⟨y79, hd⟩ := hd
    obtain ⟨y80, hd⟩ := hd
    obtain ⟨y81, hd⟩ := hd
    obtain ⟨y82, hd⟩ := hd
    obtain ⟨y83, hd⟩ := hd
    obtain ⟨y84, hd⟩ := hd
    obtain ⟨y85, hd⟩ := hd
    obtain ⟨y86, hd⟩ := hd
    obtain ⟨y87, hd⟩ := hd
    obtain ⟨y88, hd⟩ := hd
    obtain ⟨y89, hd⟩ := hd
    obtain ⟨y90, hd⟩ := hd
    obtain ⟨y91, hd⟩ := hd
    obtain ⟨y92, hd⟩ := hd
    obtain ⟨y93, hd⟩ := hd
    obtain ⟨y94, hd⟩ := hd
    obtain ⟨y95, hd⟩ := hd
    obtain ⟨y96, hd⟩ := hd
    obtain ⟨y97, hd⟩ := hd
    obtain ⟨y98, hd⟩ := hd
    obtain ⟨y99, hd⟩ := hd
    obtain ⟨y100, hd⟩ := hd
    obtain ⟨y101, hd⟩ := hd
    obtain ⟨y102, hd⟩ := hd
    obtain ⟨y103, hd⟩ := hd
    obtain ⟨y104, hd⟩ := hd
    obtain ⟨y105, hd⟩ := hd
    obtain ⟨y106, hd⟩ := hd
    obtain ⟨y107, hd⟩ := hd
    obtain ⟨y108, hd⟩ := hd
    obtain ⟨y109, hd⟩ := hd
    obtain ⟨y110, hd⟩ := hd
    obtain ⟨y111, hd⟩ := hd
    obtain ⟨y112, hd⟩ := hd
    obtain ⟨y113, hd⟩ := hd
    obtain ⟨y114, hd⟩ := hd
    obtain ⟨y115, hd⟩ := hd
    obtain ⟨y116, hd⟩ := hd
    obtain ⟨y117, hd⟩ := hd
    obtain ⟨y118, hd⟩ := hd
    obtain ⟨y119, hd⟩ := hd
    obtain ⟨y120, hd⟩ := hd
    obtain ⟨y121, hd⟩ := hd
    obtain ⟨y122, hd⟩ := hd
    obtain ⟨y123, hd⟩ := hd
    obtain ⟨y124, hd⟩ := hd
    obtain ⟨y125, hd⟩ := hd
    obtain ⟨y126, hd⟩ := hd
    obtain ⟨y127, hd⟩ := hd
    obtain ⟨y128, hd⟩ := hd
    obtain ⟨y129, hd⟩ := hd
    obtain ⟨y130, hd⟩ := hd
    obtain ⟨y131, hd⟩ := hd
    obtain ⟨y132, hd⟩ := hd
    obtain ⟨y133, hd⟩ := hd
    obtain ⟨y134, hd⟩ := hd
    obtain ⟨y135, hd⟩ := hd
    obtain ⟨y136, hd⟩ := hd
    obtain ⟨y137, hd⟩ := hd
    obtain ⟨y138, hd⟩ := hd
    obtain ⟨y139, hd⟩ := hd
    obtain ⟨y140, hd⟩ := hd
    obtain ⟨y141, hd⟩ := hd
    obtain ⟨y142, hd⟩ := hd
    obtain ⟨y143, hd⟩ := hd
    obtain ⟨y144, hd⟩ := hd
    obtain ⟨y145, hd⟩ := hd
    obtain ⟨y146, hd⟩ := hd
    obtain ⟨y147, hd⟩ := hd
    obtain ⟨y148, hd⟩ := hd
    obtain ⟨y149, hd⟩ := hd
    obtain ⟨y150, hd⟩ := hd
    obtain ⟨y151, hd⟩ := hd
    obtain ⟨y152, hd⟩ := hd
    obtain ⟨y153, hd⟩ := hd
    obtain ⟨y154, hd⟩ := hd
    obtain ⟨y155, hd⟩ := hd
    obtain ⟨y156, hd⟩ := hd
    obtain ⟨y157, hd⟩ := hd
    obtain ⟨y158, hd⟩ := hd
    obtain ⟨y159, hd⟩ := hd
    obtain ⟨y160, hd⟩ := hd
    obtain ⟨y161, hd⟩ := hd
    obtain ⟨y162, hd⟩ := hd
    obtain ⟨y163, hd⟩ := hd
    obtain ⟨y164, hd⟩ := hd
    obtain ⟨y165, hd⟩ := hd
    obtain ⟨y166, hd⟩ := hd
    obtain ⟨y167, hd⟩ := hd
    obtain ⟨y168, hd⟩ := hd
    obtain ⟨y169, hd⟩ := hd
    obtain ⟨y170, hd⟩ := hd
    obtain ⟨y171, hd⟩ := hd
    obtain ⟨y172, hd⟩ := hd
    obtain ⟨y173, hd⟩ := hd
    obtain ⟨y174, hd⟩ := hd
    obtain ⟨y175, hd⟩ := hd
    obtain ⟨y176, hd⟩ := hd
    obtain ⟨y177, hd⟩ := hd
    obtain ⟨y178, hd⟩ := hd
    obtain ⟨y179, hd⟩ := hd
    obtain ⟨y180, hd⟩ := hd
    obtain ⟨y181, hd⟩ := hd
    obtain ⟨y182, hd⟩ := hd
    obtain ⟨y183, hd⟩ := hd
    obtain ⟨y184, hd⟩ := hd
    obtain ⟨y185, hd⟩ := hd
    obtain ⟨y186, hd⟩ := hd
    obtain ⟨y187, hd⟩ := hd
    obtain ⟨y188, hd⟩ := hd
    obtain ⟨y189, hd⟩ := hd
    obtain ⟨y190, hd⟩ := hd
    obtain ⟨y191, hd⟩ := hd
    obtain ⟨y192, hd⟩ := hd
    obtain ⟨y193, hd⟩ := hd
    obtain ⟨y194, hd⟩ := hd
    obtain ⟨y195, hd⟩ := hd
    obtain ⟨y196, hd⟩ := hd
    obtain ⟨y197, hd⟩ := hd
    obtain ⟨y198, hd⟩ := hd
    obtain ⟨y199, hd⟩ := hd
    obtain ⟨y200, hd⟩ := hd
    obtain ⟨y201, hd⟩ := hd
    obtain ⟨y202, hd⟩ := hd
    obtain ⟨y203, hd⟩ := hd
    obtain ⟨y204, hd⟩ := hd
    obtain ⟨y205, hd⟩ := hd
    obtain ⟨y206, hd⟩ := hd
    obtain ⟨y207, hd⟩ := hd
    obtain ⟨y208, hd⟩ := hd
    obtain ⟨y209, hd⟩ := hd
    obtain ⟨y210, hd⟩ := hd
    obtain ⟨y211, hd⟩ := hd
    obtain ⟨y212, hd⟩ := hd
    obtain ⟨y213, hd⟩ := hd
    obtain ⟨y214, hd⟩ := hd
    obtain ⟨y215, hd⟩ := hd
    obtain ⟨y216, hd⟩ := hd
    obtain ⟨y217, hd⟩ := hd
    obtain ⟨y218, hd⟩ := hd
    obtain ⟨y219, hd⟩ := hd
    obtain ⟨y220, hd⟩ := hd
    obtain ⟨y221, hd⟩ := hd
    obtain ⟨y222, hd⟩ := hd
    obtain ⟨y223, hd⟩ := hd
    obtain ⟨y224, hd⟩ := hd
    obtain ⟨y225, hd⟩ := hd
    obtain ⟨y226, hd⟩ := hd
    obtain ⟨y227, hd⟩ := hd
    obtain ⟨y228, hd⟩ := hd
    obtain ⟨y229, hd⟩ := hd
    obtain ⟨y230, hd⟩ := hd
    obtain ⟨y231, hd⟩ := hd
    obtain ⟨y232, hd⟩ := hd
    obtain ⟨y233, hd⟩ := hd
    obtain ⟨y234, hd⟩ := hd
    obtain ⟨y235, hd⟩ := hd
    obtain ⟨y236, hd⟩ := hd
    obtain ⟨y237, hd⟩ := hd
    obtain ⟨y238, hd⟩ := hd
    obtain ⟨y239, hd⟩ := hd
    obtain ⟨y240, hd⟩ := hd
    obtain ⟨y241, hd⟩ := hd
    obtain ⟨y242, hd⟩ := hd
    obtain ⟨y243, hd⟩ := hd
    obtain ⟨y244, hd⟩ := hd
    obtain ⟨y245, hd⟩ := hd
    obtain ⟨y246, hd⟩ := hd
    obtain ⟨y247, hd⟩ := hd
    obtain ⟨y248, hd⟩ := hd
    obtain ⟨y249, hd⟩ := hd
    obtain ⟨y250, hd⟩ := hd
    obtain ⟨y251, hd⟩ := hd
    obtain ⟨y252, hd⟩ := hd
    obtain ⟨y253, hd⟩ := hd
    obtain ⟨y254, hd⟩ := hd
    obtain ⟨y255, hd⟩ := hd
    obtain ⟨y256, hd⟩ := hd
    obtain ⟨y257, hd⟩ := hd
    obtain ⟨y258, hd⟩ := hd
    obtain ⟨y259, hd⟩ := hd
    obtain ⟨y260, hd⟩ := hd
    obtain ⟨y261, hd⟩ := hd
    obtain ⟨y262, hd⟩ := hd
    obtain ⟨y263, hd⟩ := hd
    obtain ⟨y264, hd⟩ := hd
    obtain ⟨y265, hd⟩ := hd
    obtain ⟨y266, hd⟩ := hd
    obtain ⟨y267, hd⟩ := hd
    obtain ⟨y268, hd⟩ := hd
    obtain ⟨y269, hd⟩ := hd
    obtain ⟨y270, hd⟩ := hd
    obtain ⟨y271, hd⟩ := hd
    obtain ⟨y272, hd⟩ := hd
    obtain ⟨y273, hd⟩ := hd
    obtain ⟨y274, hd⟩ := hd
    obtain ⟨y275, hd⟩ := hd
    obtain ⟨y276, hd⟩ := hd
    obtain ⟨y277, hd⟩ := hd
    obtain ⟨y278, hd⟩ := hd
    obtain ⟨y279, hd⟩ := hd
    obtain ⟨y280, hd⟩ := hd
    obtain ⟨y281, hd⟩ := hd
    obtain ⟨y282, hd⟩ := hd
    obtain ⟨y283, hd⟩ := hd
    obtain ⟨y284, hd⟩ := hd
    obtain ⟨y285, hd⟩ := hd
    obtain ⟨y286, hd⟩ := hd
    obtain ⟨y287, hd⟩ := hd
    obtain ⟨y288, hd⟩ := hd
    obtain ⟨y289, hd⟩ := hd
    obtain ⟨y290, hd⟩ := hd
    obtain ⟨y291, hd⟩ := hd
    obtain ⟨y292, hd⟩ := hd
    obtain ⟨y293, hd⟩ := hd
    obtain ⟨y294, hd⟩ := hd
    obtain ⟨y295, hd⟩ := hd
    obtain ⟨y296, hd⟩ := hd
    obtain ⟨y297, hd⟩ := hd
    obtain ⟨y298, hd⟩ := hd
    obtain ⟨y299, hd⟩ := hd
    obtain ⟨y300, hd⟩ := hd
    obtain ⟨y301, hd⟩ := hd
    obtain ⟨y302, hd⟩ := hd
    obtain ⟨y303, hd⟩ := hd
    obtain ⟨y304, hd⟩ := hd
    obtain ⟨y305, hd⟩ := hd
    obtain ⟨y306, hd⟩ := hd
    subst hd
    have HPAT := Lib.hid hpat
    clear hpat
    go_wp2_with fail
    simp only [Exit.jump]
    go_ret
    exact ⟨_, rfl, HPAT.out.pats, HPAT.out.ch⟩

end Go.Proofs.YtkbdngcbifonkaaFmt
