/-
  A PATTERN IS READ: the loop of parsePattern at its top, a lemma a round. Lines laid by a program of this session (mkmain.py).
-/
import Derived.Test.YtkbdngcbifonkaaFmtRndA
namespace Go.Proofs.YtkbdngcbifonkaaFmt
set_option linter.all false
open Go.RowKit

/-- What a pattern has from place k on, behind parts that are read; 'x': captures, repetitions and %1 too. -/
def patTo (l : List UInt8) (x : Bool) : Nat → Nat → List Pm.Pat → Option (List Pm.Pat)
  | 0, _, _ => none
  | f + 1, k, ps =>
    if at_ l k = 37 then
      if at_ l (k + 1) = 49 then (if x then patTo l x f (k + 2) (ps ++ [.part (.num (at_ l (k + 1) - 48))]) else none)
      else if at_ l (k + 1) = 98 then (if k + 3 < l.length then patTo l x f (k + 4) (ps ++ [.part (.brace (at_ l (k + 2)) (at_ l (k + 3)))]) else none)
      else if 48 ≤ at_ l (k + 1) ∧ at_ l (k + 1) ≤ 57 ∨ at_ l (k + 1) = -1 then none
      else patTo l x f (k + 2) (ps ++ [.part (.one (.atom (.single (at_ l (k + 1)))))])
    else if at_ l k = 46 then patTo l x f (k + 1) (ps ++ [.part (.one .dot)])
    else if at_ l k = 91 then
      match setAt l (k + 1) with
      | some (neg, es, k') => patTo l x f k' (ps ++ [.part (.one (.set neg es))])
      | none => none
    else if at_ l k = 40 then
      if at_ l (k + 1) = 41 ∨ x = false then none
      else
        match inGo l 100 (k + 1) [] with
        | some (ps', k') =>
          match parts? ps' with
          | some l' => if at_ l k' = 41 then patTo l x f (k' + 1) (ps ++ [.cap l']) else none
          | none => none
        | none => none
    else if at_ l k = 42 ∨ at_ l k = 43 ∨ at_ l k = 45 ∨ at_ l k = 63 then
      if x then
        match lastOne ps with
        | some (ps', c) => patTo l x f (k + 1) (ps' ++ [.part (.rep (at_ l k) c)])
        | none => none
      else none
    else if at_ l k = 93 ∨ at_ l k = 36 ∨ at_ l k = 41 then none
    else if at_ l k = -1 then some ps
    else patTo l x f (k + 1) (ps ++ [.part (.one (.atom (.chr (at_ l k))))])

theorem patTo_seen (l : List UInt8) (x : Bool) (f k : Nat) (ps : List Pm.Pat) : patTo l x f (seen l k) ps = patTo l x f k ps := by
  unfold seen
  split
  · rename_i h
    have hl : ∀ i, at_ l i = -1 := fun i => by simp [at_]; omega
    cases f with
    | zero => rfl
    | succ f => simp [patTo, hl]
  · rfl

theorem setGo_lt {l : List UInt8} : ∀ (f k : Nat) (es : List Pm.Elem) (r : Bool) (es' : List Pm.Elem) (k' : Nat), setGo l f k es r = some (es', k') → k < k' ∧ k' ≤ l.length
  | 0, _, _, _, _, _, h => by cases h
  | f + 1, k, es, r, es', k', h => by
    unfold setGo at h
    split at h
    · rename_i h93
      have hk := at_lt (l := l) (k := k) (by rw [h93]; decide)
      split at h
      · cases h; omega
      · cases h
    · split at h
      · rename_i h45
        have hk := at_lt (l := l) (k := k) (by rw [h45]; decide)
        split at h
        · have := setGo_lt f _ _ _ _ _ h; omega
        · cases h
      · split at h
        · cases h
        · rename_i a k2 hat
          have hl := atomAt_lt hat
          split at h
          · split at h
            · have := setGo_lt f _ _ _ _ _ h; omega
            · cases h
          · have := setGo_lt f _ _ _ _ _ h; omega

theorem setAt_lt {l : List UInt8} {k k' : Nat} {neg : Bool} {es : List Pm.Elem} (h : setAt l k = some (neg, es, k')) : k < k' ∧ k' ≤ l.length := by
  unfold setAt at h
  split at h
  · obtain ⟨p, hp, hq⟩ := Option.map_eq_some_iff.1 h
    cases hq
    have := setGo_lt _ _ _ _ _ _ hp
    omega
  · obtain ⟨p, hp, hq⟩ := Option.map_eq_some_iff.1 h
    cases hq
    exact setGo_lt _ _ _ _ _ _ hp


set_option maxRecDepth 100000 in
set_option maxHeartbeats 40000000 in
theorem parse_basic {w : World} {S A cap k j f : Nat} {l : List UInt8} {ps : List Pm.Pat} (h : Scan w S A cap l k j) (hA : A < w.heap.size) (hkl : k ≤ l.length) (hl1 : l.length ≤ 1000) (h94 : (at_ l k == 94) = false) (hgo : patTo l false f k [] = some ps) :
    Calls Tryf.prog 36 #[ptr S, .bool true] w fun e w' => ∃ b, e = .returned (ptr b) ∧ RepPats w' (fun b => w.heap.size ≤ b ∧ b < w'.heap.size) b false false ps ∧ Ch (· = S) w w' := by
  have HST := Lib.hid (PatAt.start h hA)
  have hll := h.len
  have HGO := Lib.hid hgo
  clear h hgo
  go_enter Tryf.func36, Tryf.ntmps36
  go_wp2_with fail
  refine wp_scope_jumps 0 (fun a' w' => ∃ u2 u3 u10 u11 u12 u13 u14 u15 u16 u17 u18 u19 u20 u307 k', RoundPost w S A cap w.heap.size l false k' ps true u2 u3 u10 u11 u12 u13 u14 u15 u16 u17 u18 u19 u20 u307 a' w') (fun a' _ => 0) rfl ?_ ?_
  · go_wp2_with fail
    refine (scan_peek HST.out.scan (by omega)).mono ?_
    rintro e w1 ⟨rfl, hs, hc, hz⟩
    have hb := HST.out.moved hs hc (by simp)
    clear hs hc hz HST
    have HB := Lib.hid hb
    clear hb
    go_wp2_with fail
    refine wp_loop_ghost (fun n a' w' => ∃ k ps' u2 u3 u10 u11 u12 u13 u14 u15 u16 u17 u18 u19 u20 u307, patTo l false n k ps' = some ps ∧ RoundPost w S A cap w.heap.size l false k ps' true u2 u3 u10 u11 u12 u13 u14 u15 u16 u17 u18 u19 u20 u307 a' w' ∧ k ≤ l.length + 1 ∧ (l.length = 0 → k = 1)) f ?start ?round
    case start =>
      refine ⟨seen l k, [], ?_⟩
      iterate 14 (apply Exists.intro)
      refine ⟨by rw [patTo_seen]; exact HGO.out, ⟨⟨_, _, _, _, HB.out⟩, ?_⟩, by unfold seen; split <;> omega, by intro h0; unfold seen; rw [if_pos h0]⟩
      (repeat apply Exists.intro)
      rfl
    case round =>
      clear HB HGO
      rintro gk a' wr ⟨k, ps', u2, u3, u10, u11, u12, u13, u14, u15, u16, u17, u18, u19, u20, u307, hgo, ⟨⟨j, B, c, us, hpat⟩, hd⟩, hk, hk0⟩
      obtain ⟨y4, hd⟩ := hd
      obtain ⟨y6, hd⟩ := hd
      obtain ⟨y7, hd⟩ := hd
      obtain ⟨y8, hd⟩ := hd
      obtain ⟨y9, hd⟩ := hd
      obtain ⟨y21, hd⟩ := hd
      obtain ⟨y22, hd⟩ := hd
      obtain ⟨y23, hd⟩ := hd
      obtain ⟨y24, hd⟩ := hd
      obtain ⟨y25, hd⟩ := hd
      obtain ⟨y26, hd⟩ := hd
      obtain ⟨y27, hd⟩ := hd
      obtain ⟨y28, hd⟩ := hd
      obtain ⟨y29, hd⟩ := hd
      obtain ⟨y30, hd⟩ := hd
      obtain ⟨y31, hd⟩ := hd
      obtain ⟨y32, hd⟩ := hd
      obtain ⟨y33, hd⟩ := hd
      obtain ⟨y34, hd⟩ := hd
      obtain ⟨y35, hd⟩ := hd
      obtain ⟨y36, hd⟩ := hd
      obtain ⟨y37, hd⟩ := hd
      obtain ⟨y38, hd⟩ := hd
      obtain ⟨y39, hd⟩ := hd
      obtain ⟨y40, hd⟩ := hd
      obtain ⟨y41, hd⟩ := hd
      obtain ⟨y42, hd⟩ := hd
      obtain ⟨y43, hd⟩ := hd
      obtain ⟨y44, hd⟩ := hd
      obtain ⟨y45, hd⟩ := hd
      obtain ⟨y46, hd⟩ := hd
      obtain ⟨y47, hd⟩ := hd
      obtain ⟨y48, hd⟩ := hd
      obtain ⟨y49, hd⟩ := hd
      obtain ⟨y50, hd⟩ := hd
      obtain ⟨y51, hd⟩ := hd
      obtain ⟨y52, hd⟩ := hd
      obtain ⟨y53, hd⟩ := hd
      obtain ⟨y54, hd⟩ := hd
      obtain ⟨y55, hd⟩ := hd
      obtain ⟨y56, hd⟩ := hd
      obtain ⟨y57, hd⟩ := hd
      obtain ⟨y58, hd⟩ := hd
      obtain ⟨y59, hd⟩ := hd
      obtain ⟨y60, hd⟩ := hd
      obtain ⟨y61, hd⟩ := hd
      obtain ⟨y62, hd⟩ := hd
      obtain ⟨y63, hd⟩ := hd
      obtain ⟨y64, hd⟩ := hd
      obtain ⟨y65, hd⟩ := hd
      obtain ⟨y66, hd⟩ := hd
      obtain ⟨y67, hd⟩ := hd
      obtain ⟨y68, hd⟩ := hd
      obtain ⟨y69, hd⟩ := hd
      obtain ⟨y70, hd⟩ := hd
      obtain ⟨y71, hd⟩ := hd
      obtain ⟨y72, hd⟩ := hd
      obtain ⟨y73, hd⟩ := hd
      obtain ⟨y74, hd⟩ := hd
      obtain ⟨y75, hd⟩ := hd
      obtain ⟨y76, hd⟩ := hd
      obtain ⟨y77, hd⟩ := hd
      obtain ⟨y78, hd⟩ := hd
      obtain ⟨y79, hd⟩ := hd
      obtain ⟨y80, hd⟩ := hd
      obtain ⟨y81, hd⟩ := hd
      obtain ⟨y82, hd⟩ := hd
      obtain ⟨y83, hd⟩ := hd
      obtain ⟨y84, hd⟩ := hd
      obtain ⟨y85, hd⟩ := hd
      obtain ⟨y86, hd⟩ := hd
      obtain ⟨y87, hd⟩ := hd
      obtain ⟨y88, hd⟩ := hd
      obtain ⟨y89, hd⟩ := hd
      obtain ⟨y90, hd⟩ := hd
      obtain ⟨y91, hd⟩ := hd
      obtain ⟨y92, hd⟩ := hd
      obtain ⟨y93, hd⟩ := hd
      obtain ⟨y94, hd⟩ := hd
      obtain ⟨y95, hd⟩ := hd
      obtain ⟨y96, hd⟩ := hd
      obtain ⟨y97, hd⟩ := hd
      obtain ⟨y98, hd⟩ := hd
      obtain ⟨y99, hd⟩ := hd
      obtain ⟨y100, hd⟩ := hd
      obtain ⟨y101, hd⟩ := hd
      obtain ⟨y102, hd⟩ := hd
      obtain ⟨y103, hd⟩ := hd
      obtain ⟨y104, hd⟩ := hd
      obtain ⟨y105, hd⟩ := hd
      obtain ⟨y106, hd⟩ := hd
      obtain ⟨y107, hd⟩ := hd
      obtain ⟨y108, hd⟩ := hd
      obtain ⟨y109, hd⟩ := hd
      obtain ⟨y110, hd⟩ := hd
      obtain ⟨y111, hd⟩ := hd
      obtain ⟨y112, hd⟩ := hd
      obtain ⟨y113, hd⟩ := hd
      obtain ⟨y114, hd⟩ := hd
      obtain ⟨y115, hd⟩ := hd
      obtain ⟨y116, hd⟩ := hd
      obtain ⟨y117, hd⟩ := hd
      obtain ⟨y118, hd⟩ := hd
      obtain ⟨y119, hd⟩ := hd
      obtain ⟨y120, hd⟩ := hd
      obtain ⟨y121, hd⟩ := hd
      obtain ⟨y122, hd⟩ := hd
      obtain ⟨y123, hd⟩ := hd
      obtain ⟨y124, hd⟩ := hd
      obtain ⟨y125, hd⟩ := hd
      obtain ⟨y126, hd⟩ := hd
      obtain ⟨y127, hd⟩ := hd
      obtain ⟨y128, hd⟩ := hd
      obtain ⟨y129, hd⟩ := hd
      obtain ⟨y130, hd⟩ := hd
      obtain ⟨y131, hd⟩ := hd
      obtain ⟨y132, hd⟩ := hd
      obtain ⟨y133, hd⟩ := hd
      obtain ⟨y134, hd⟩ := hd
      obtain ⟨y135, hd⟩ := hd
      obtain ⟨y136, hd⟩ := hd
      obtain ⟨y137, hd⟩ := hd
      obtain ⟨y138, hd⟩ := hd
      obtain ⟨y139, hd⟩ := hd
      obtain ⟨y140, hd⟩ := hd
      obtain ⟨y141, hd⟩ := hd
      obtain ⟨y142, hd⟩ := hd
      obtain ⟨y143, hd⟩ := hd
      obtain ⟨y144, hd⟩ := hd
      obtain ⟨y145, hd⟩ := hd
      obtain ⟨y146, hd⟩ := hd
      obtain ⟨y147, hd⟩ := hd
      obtain ⟨y148, hd⟩ := hd
      obtain ⟨y149, hd⟩ := hd
      obtain ⟨y150, hd⟩ := hd
      obtain ⟨y151, hd⟩ := hd
      obtain ⟨y152, hd⟩ := hd
      obtain ⟨y153, hd⟩ := hd
      obtain ⟨y154, hd⟩ := hd
      obtain ⟨y155, hd⟩ := hd
      obtain ⟨y156, hd⟩ := hd
      obtain ⟨y157, hd⟩ := hd
      obtain ⟨y158, hd⟩ := hd
      obtain ⟨y159, hd⟩ := hd
      obtain ⟨y160, hd⟩ := hd
      obtain ⟨y161, hd⟩ := hd
      obtain ⟨y162, hd⟩ := hd
      obtain ⟨y163, hd⟩ := hd
      obtain ⟨y164, hd⟩ := hd
      obtain ⟨y165, hd⟩ := hd
      obtain ⟨y166, hd⟩ := hd
      obtain ⟨y167, hd⟩ := hd
      obtain ⟨y168, hd⟩ := hd
      obtain ⟨y169, hd⟩ := hd
      obtain ⟨y170, hd⟩ := hd
      obtain ⟨y171, hd⟩ := hd
      obtain ⟨y172, hd⟩ := hd
      obtain ⟨y173, hd⟩ := hd
      obtain ⟨y174, hd⟩ := hd
      obtain ⟨y175, hd⟩ := hd
      obtain ⟨y176, hd⟩ := hd
      obtain ⟨y177, hd⟩ := hd
      obtain ⟨y178, hd⟩ := hd
      obtain ⟨y179, hd⟩ := hd
      obtain ⟨y180, hd⟩ := hd
      obtain ⟨y181, hd⟩ := hd
      obtain ⟨y182, hd⟩ := hd
      obtain ⟨y183, hd⟩ := hd
      obtain ⟨y184, hd⟩ := hd
      obtain ⟨y185, hd⟩ := hd
      obtain ⟨y186, hd⟩ := hd
      obtain ⟨y187, hd⟩ := hd
      obtain ⟨y188, hd⟩ := hd
      obtain ⟨y189, hd⟩ := hd
      obtain ⟨y190, hd⟩ := hd
      obtain ⟨y191, hd⟩ := hd
      obtain ⟨y192, hd⟩ := hd
      obtain ⟨y193, hd⟩ := hd
      obtain ⟨y194, hd⟩ := hd
      obtain ⟨y195, hd⟩ := hd
      obtain ⟨y196, hd⟩ := hd
      obtain ⟨y197, hd⟩ := hd
      obtain ⟨y198, hd⟩ := hd
      obtain ⟨y199, hd⟩ := hd
      obtain ⟨y200, hd⟩ := hd
      obtain ⟨y201, hd⟩ := hd
      obtain ⟨y202, hd⟩ := hd
      obtain ⟨y203, hd⟩ := hd
      obtain ⟨y204, hd⟩ := hd
      obtain ⟨y205, hd⟩ := hd
      obtain ⟨y206, hd⟩ := hd
      obtain ⟨y207, hd⟩ := hd
      obtain ⟨y208, hd⟩ := hd
      obtain ⟨y209, hd⟩ := hd
      obtain ⟨y210, hd⟩ := hd
      obtain ⟨y211, hd⟩ := hd
      obtain ⟨y212, hd⟩ := hd
      obtain ⟨y213, hd⟩ := hd
      obtain ⟨y214, hd⟩ := hd
      obtain ⟨y215, hd⟩ := hd
      obtain ⟨y216, hd⟩ := hd
      obtain ⟨y217, hd⟩ := hd
      obtain ⟨y218, hd⟩ := hd
      obtain ⟨y219, hd⟩ := hd
      obtain ⟨y220, hd⟩ := hd
      obtain ⟨y221, hd⟩ := hd
      obtain ⟨y222, hd⟩ := hd
      obtain ⟨y223, hd⟩ := hd
      obtain ⟨y224, hd⟩ := hd
      obtain ⟨y225, hd⟩ := hd
      obtain ⟨y226, hd⟩ := hd
      obtain ⟨y227, hd⟩ := hd
      obtain ⟨y228, hd⟩ := hd
      obtain ⟨y229, hd⟩ := hd
      obtain ⟨y230, hd⟩ := hd
      obtain ⟨y231, hd⟩ := hd
      obtain ⟨y232, hd⟩ := hd
      obtain ⟨y233, hd⟩ := hd
      obtain ⟨y234, hd⟩ := hd
      obtain ⟨y235, hd⟩ := hd
      obtain ⟨y236, hd⟩ := hd
      obtain ⟨y237, hd⟩ := hd
      obtain ⟨y238, hd⟩ := hd
      obtain ⟨y239, hd⟩ := hd
      obtain ⟨y240, hd⟩ := hd
      obtain ⟨y241, hd⟩ := hd
      obtain ⟨y242, hd⟩ := hd
      obtain ⟨y243, hd⟩ := hd
      obtain ⟨y244, hd⟩ := hd
      obtain ⟨y245, hd⟩ := hd
      obtain ⟨y246, hd⟩ := hd
      obtain ⟨y247, hd⟩ := hd
      obtain ⟨y248, hd⟩ := hd
      obtain ⟨y249, hd⟩ := hd
      obtain ⟨y250, hd⟩ := hd
      obtain ⟨y251, hd⟩ := hd
      obtain ⟨y252, hd⟩ := hd
      obtain ⟨y253, hd⟩ := hd
      obtain ⟨y254, hd⟩ := hd
      obtain ⟨y255, hd⟩ := hd
      obtain ⟨y256, hd⟩ := hd
      obtain ⟨y257, hd⟩ := hd
      obtain ⟨y258, hd⟩ := hd
      obtain ⟨y259, hd⟩ := hd
      obtain ⟨y260, hd⟩ := hd
      obtain ⟨y261, hd⟩ := hd
      obtain ⟨y262, hd⟩ := hd
      obtain ⟨y263, hd⟩ := hd
      obtain ⟨y264, hd⟩ := hd
      obtain ⟨y265, hd⟩ := hd
      obtain ⟨y266, hd⟩ := hd
      obtain ⟨y267, hd⟩ := hd
      obtain ⟨y268, hd⟩ := hd
      obtain ⟨y269, hd⟩ := hd
      obtain ⟨y270, hd⟩ := hd
      obtain ⟨y271, hd⟩ := hd
      obtain ⟨y272, hd⟩ := hd
      obtain ⟨y273, hd⟩ := hd
      obtain ⟨y274, hd⟩ := hd
      obtain ⟨y275, hd⟩ := hd
      obtain ⟨y276, hd⟩ := hd
      obtain ⟨y277, hd⟩ := hd
      obtain ⟨y278, hd⟩ := hd
      obtain ⟨y279, hd⟩ := hd
      obtain ⟨y280, hd⟩ := hd
      obtain ⟨y281, hd⟩ := hd
      obtain ⟨y282, hd⟩ := hd
      obtain ⟨y283, hd⟩ := hd
      obtain ⟨y284, hd⟩ := hd
      obtain ⟨y285, hd⟩ := hd
      obtain ⟨y286, hd⟩ := hd
      obtain ⟨y287, hd⟩ := hd
      obtain ⟨y288, hd⟩ := hd
      obtain ⟨y289, hd⟩ := hd
      obtain ⟨y290, hd⟩ := hd
      obtain ⟨y291, hd⟩ := hd
      obtain ⟨y292, hd⟩ := hd
      obtain ⟨y293, hd⟩ := hd
      obtain ⟨y294, hd⟩ := hd
      obtain ⟨y295, hd⟩ := hd
      obtain ⟨y296, hd⟩ := hd
      obtain ⟨y297, hd⟩ := hd
      obtain ⟨y298, hd⟩ := hd
      obtain ⟨y299, hd⟩ := hd
      obtain ⟨y300, hd⟩ := hd
      obtain ⟨y301, hd⟩ := hd
      obtain ⟨y302, hd⟩ := hd
      obtain ⟨y303, hd⟩ := hd
      obtain ⟨y304, hd⟩ := hd
      obtain ⟨y305, hd⟩ := hd
      obtain ⟨y306, hd⟩ := hd
      subst hd
      obtain ⟨n, rfl⟩ : ∃ n, gk = n + 1 := by
        cases gk with
        | zero => simp [patTo] at hgo
        | succ n => exact ⟨n, rfl⟩
      have hseen : seen l k = k := by unfold seen; split <;> omega
      have HPAT := Lib.hid hpat
      clear hpat
      by_cases h37 : at_ l k = 37
      · by_cases h49 : at_ l (k + 1) = 49
        · simp [patTo, h37, h49] at hgo
        by_cases h98 : at_ l (k + 1) = 98
        · simp only [patTo, if_pos h37, if_neg h49, if_pos h98] at hgo
          obtain ⟨hk3, hgo⟩ : k + 3 < l.length ∧ patTo l false n (k + 4) (ps' ++ [.part (.brace (at_ l (k + 2)) (at_ l (k + 3)))]) = some ps := by
            split at hgo
            · exact ⟨by assumption, hgo⟩
            · cases hgo
          have HGO := Lib.hid hgo
          clear hgo
          refine round_brace HPAT hl1 hk hseen h37 h98 hk3 ?_
          intro a' w' hpost
          exact ⟨n, by omega, _, _, _, _, _, _, _, _, _, _, _, _, _, _, _, _, HGO.out, hpost, by omega, by omega⟩
        simp only [patTo, if_pos h37, if_neg h49, if_neg h98] at hgo
        obtain ⟨hno, hgo⟩ : ¬ (48 ≤ at_ l (k + 1) ∧ at_ l (k + 1) ≤ 57 ∨ at_ l (k + 1) = -1) ∧ patTo l false n (k + 2) (ps' ++ [.part (.one (.atom (.single (at_ l (k + 1)))))]) = some ps := by
          split at hgo
          · cases hgo
          · exact ⟨by assumption, hgo⟩
        have hk1 := at_lt (fun e => hno (.inr e))
        have HGO := Lib.hid hgo
        clear hgo
        refine round_pct HPAT hl1 hk hseen h37 h98 hno ?_
        intro a' w' hpost
        exact ⟨n, by omega, _, _, _, _, _, _, _, _, _, _, _, _, _, _, _, _, HGO.out, hpost, by omega, by omega⟩
      by_cases h46 : at_ l k = 46
      · simp only [patTo, if_neg h37, if_pos h46] at hgo
        have hk1 := at_lt (l := l) (k := k) (by rw [h46]; decide)
        have HGO := Lib.hid hgo
        clear hgo
        refine round_dot HPAT hl1 hk hseen h46 ?_
        intro a' w' hpost
        exact ⟨n, by omega, _, _, _, _, _, _, _, _, _, _, _, _, _, _, _, _, HGO.out, hpost, by omega, by omega⟩
      by_cases h91 : at_ l k = 91
      · simp only [patTo, if_neg h37, if_neg h46, if_pos h91] at hgo
        obtain ⟨neg, es, k', hset, hgo⟩ : ∃ neg es k', setAt l (k + 1) = some (neg, es, k') ∧ patTo l false n k' (ps' ++ [.part (.one (.set neg es))]) = some ps := by
          split at hgo
          · exact ⟨_, _, _, by assumption, hgo⟩
          · cases hgo
        have hsl := setAt_lt hset
        have HGO := Lib.hid hgo
        clear hgo
        refine round_set HPAT hl1 hk hseen h91 hset hsl ?_
        intro a' w' hpost
        exact ⟨n, by omega, _, _, _, _, _, _, _, _, _, _, _, _, _, _, _, _, HGO.out, hpost, by omega, by omega⟩
      by_cases h40 : at_ l k = 40
      · simp [patTo, h40] at hgo
      by_cases hrep : at_ l k = 42 ∨ at_ l k = 43 ∨ at_ l k = 45 ∨ at_ l k = 63
      · simp only [patTo, if_neg h37, if_neg h46, if_neg h91, if_neg h40, if_pos hrep] at hgo
        simp at hgo
      by_cases hbad : at_ l k = 93 ∨ at_ l k = 36 ∨ at_ l k = 41
      · simp only [patTo, if_neg h37, if_neg h46, if_neg h91, if_neg h40, if_neg hrep, if_pos hbad] at hgo
        cases hgo
      have h42 : ¬ at_ l k = 42 := fun e => hrep (by simp [e])
      have h43 : ¬ at_ l k = 43 := fun e => hrep (by simp [e])
      have h45 : ¬ at_ l k = 45 := fun e => hrep (by simp [e])
      have h63 : ¬ at_ l k = 63 := fun e => hrep (by simp [e])
      have h93 : ¬ at_ l k = 93 := fun e => hbad (by simp [e])
      have h36 : ¬ at_ l k = 36 := fun e => hbad (by simp [e])
      have h41 : ¬ at_ l k = 41 := fun e => hbad (by simp [e])
      by_cases hm1 : at_ l k = -1
      · simp only [patTo, if_neg h37, if_neg h46, if_neg h91, if_neg h40, if_neg hrep, if_neg hbad, if_pos hm1] at hgo
        obtain rfl : ps' = ps := by cases hgo; rfl
        clear hgo hrep hbad
        refine round_end HPAT hl1 hk hseen hm1 ?_
        intro a' w' hpost
        exact ⟨rfl, _, _, _, _, _, _, _, _, _, _, _, _, _, _, _, hpost⟩
      simp only [patTo, if_neg h37, if_neg h46, if_neg h91, if_neg h40, if_neg hrep, if_neg hbad, if_neg hm1] at hgo
      clear hrep hbad
      have hk1 := at_lt hm1
      have HGO := Lib.hid hgo
      clear hgo
      refine round_chr HPAT hl1 hk hseen h37 h46 h91 h93 h41 h40 h42 h43 h45 h63 h36 hm1 ?_
      intro a' w' hpost
      exact ⟨n, by omega, _, _, _, _, _, _, _, _, _, _, _, _, _, _, _, _, HGO.out, hpost, by omega, by omega⟩
  · rintro a' w' ⟨u2, u3, u10, u11, u12, u13, u14, u15, u16, u17, u18, u19, u20, u307, k', ⟨j, B, c, us, hpat⟩, hd⟩
    obtain ⟨y4, hd⟩ := hd
    obtain ⟨y6, hd⟩ := hd
    obtain ⟨y7, hd⟩ := hd
    obtain ⟨y8, hd⟩ := hd
    obtain ⟨y9, hd⟩ := hd
    obtain ⟨y21, hd⟩ := hd
    obtain ⟨y22, hd⟩ := hd
    obtain ⟨y23, hd⟩ := hd
    obtain ⟨y24, hd⟩ := hd
    obtain ⟨y25, hd⟩ := hd
    obtain ⟨y26, hd⟩ := hd
    obtain ⟨y27, hd⟩ := hd
    obtain ⟨y28, hd⟩ := hd
    obtain ⟨y29, hd⟩ := hd
    obtain ⟨y30, hd⟩ := hd
    obtain ⟨y31, hd⟩ := hd
    obtain ⟨y32, hd⟩ := hd
    obtain ⟨y33, hd⟩ := hd
    obtain ⟨y34, hd⟩ := hd
    obtain ⟨y35, hd⟩ := hd
    obtain ⟨y36, hd⟩ := hd
    obtain ⟨y37, hd⟩ := hd
    obtain ⟨y38, hd⟩ := hd
    obtain ⟨y39, hd⟩ := hd
    obtain ⟨y40, hd⟩ := hd
    obtain ⟨y41, hd⟩ := hd
    obtain ⟨y42, hd⟩ := hd
    obtain ⟨y43, hd⟩ := hd
    obtain ⟨y44, hd⟩ := hd
    obtain ⟨y45, hd⟩ := hd
    obtain ⟨y46, hd⟩ := hd
    obtain ⟨y47, hd⟩ := hd
    obtain ⟨y48, hd⟩ := hd
    obtain ⟨y49, hd⟩ := hd
    obtain ⟨y50, hd⟩ := hd
    obtain ⟨y51, hd⟩ := hd
    obtain ⟨y52, hd⟩ := hd
    obtain ⟨y53, hd⟩ := hd
    obtain ⟨y54, hd⟩ := hd
    obtain ⟨y55, hd⟩ := hd
    obtain ⟨y56, hd⟩ := hd
    obtain ⟨y57, hd⟩ := hd
    obtain ⟨y58, hd⟩ := hd
    obtain ⟨y59, hd⟩ := hd
    obtain ⟨y60, hd⟩ := hd
    obtain ⟨y61, hd⟩ := hd
    obtain ⟨y62, hd⟩ := hd
    obtain ⟨y63, hd⟩ := hd
    obtain ⟨y64, hd⟩ := hd
    obtain ⟨y65, hd⟩ := hd
    obtain ⟨y66, hd⟩ := hd
    obtain ⟨y67, hd⟩ := hd
    obtain ⟨y68, hd⟩ := hd
    obtain ⟨y69, hd⟩ := hd
    obtain ⟨y70, hd⟩ := hd
    obtain ⟨y71, hd⟩ := hd
    obtain ⟨y72, hd⟩ := hd
    obtain ⟨y73, hd⟩ := hd
    obtain ⟨y74, hd⟩ := hd
    obtain ⟨y75, hd⟩ := hd
    obtain ⟨y76, hd⟩ := hd
    obtain ⟨y77, hd⟩ := hd
    obtain ⟨y78, hd⟩ := hd
    obtain ⟨y79, hd⟩ := hd
    obtain ⟨y80, hd⟩ := hd
    obtain ⟨y81, hd⟩ := hd
    obtain ⟨y82, hd⟩ := hd
    obtain ⟨y83, hd⟩ := hd
    obtain ⟨y84, hd⟩ := hd
    obtain ⟨y85, hd⟩ := hd
    obtain ⟨y86, hd⟩ := hd
    obtain ⟨y87, hd⟩ := hd
    obtain ⟨y88, hd⟩ := hd
    obtain ⟨y89, hd⟩ := hd
    obtain ⟨y90, hd⟩ := hd
    obtain ⟨y91, hd⟩ := hd
    obtain ⟨y92, hd⟩ := hd
    obtain ⟨y93, hd⟩ := hd
    obtain ⟨y94, hd⟩ := hd
    obtain ⟨y95, hd⟩ := hd
    obtain ⟨y96, hd⟩ := hd
    obtain ⟨y97, hd⟩ := hd
    obtain ⟨y98, hd⟩ := hd
    obtain ⟨y99, hd⟩ := hd
    obtain ⟨y100, hd⟩ := hd
    obtain ⟨y101, hd⟩ := hd
    obtain ⟨y102, hd⟩ := hd
    obtain ⟨y103, hd⟩ := hd
    obtain ⟨y104, hd⟩ := hd
    obtain ⟨y105, hd⟩ := hd
    obtain ⟨y106, hd⟩ := hd
    obtain ⟨y107, hd⟩ := hd
    obtain ⟨y108, hd⟩ := hd
    obtain ⟨y109, hd⟩ := hd
    obtain ⟨y110, hd⟩ := hd
    obtain ⟨y111, hd⟩ := hd
    obtain ⟨y112, hd⟩ := hd
    obtain ⟨y113, hd⟩ := hd
    obtain ⟨y114, hd⟩ := hd
    obtain ⟨y115, hd⟩ := hd
    obtain ⟨y116, hd⟩ := hd
    obtain ⟨y117, hd⟩ := hd
    obtain ⟨y118, hd⟩ := hd
    obtain ⟨y119, hd⟩ := hd
    obtain ⟨y120, hd⟩ := hd
    obtain ⟨y121, hd⟩ := hd
    obtain ⟨y122, hd⟩ := hd
    obtain ⟨y123, hd⟩ := hd
    obtain ⟨y124, hd⟩ := hd
    obtain ⟨y125, hd⟩ := hd
    obtain ⟨y126, hd⟩ := hd
    obtain ⟨y127, hd⟩ := hd
    obtain ⟨y128, hd⟩ := hd
    obtain ⟨y129, hd⟩ := hd
    obtain ⟨y130, hd⟩ := hd
    obtain ⟨y131, hd⟩ := hd
    obtain ⟨y132, hd⟩ := hd
    obtain ⟨y133, hd⟩ := hd
    obtain ⟨y134, hd⟩ := hd
    obtain ⟨y135, hd⟩ := hd
    obtain ⟨y136, hd⟩ := hd
    obtain ⟨y137, hd⟩ := hd
    obtain ⟨y138, hd⟩ := hd
    obtain ⟨y139, hd⟩ := hd
    obtain ⟨y140, hd⟩ := hd
    obtain ⟨y141, hd⟩ := hd
    obtain ⟨y142, hd⟩ := hd
    obtain ⟨y143, hd⟩ := hd
    obtain ⟨y144, hd⟩ := hd
    obtain ⟨y145, hd⟩ := hd
    obtain ⟨y146, hd⟩ := hd
    obtain ⟨y147, hd⟩ := hd
    obtain ⟨y148, hd⟩ := hd
    obtain ⟨y149, hd⟩ := hd
    obtain ⟨y150, hd⟩ := hd
    obtain ⟨y151, hd⟩ := hd
    obtain ⟨y152, hd⟩ := hd
    obtain ⟨y153, hd⟩ := hd
    obtain ⟨y154, hd⟩ := hd
    obtain ⟨y155, hd⟩ := hd
    obtain ⟨y156, hd⟩ := hd
    obtain ⟨y157, hd⟩ := hd
    obtain ⟨y158, hd⟩ := hd
    obtain ⟨y159, hd⟩ := hd
    obtain ⟨y160, hd⟩ := hd
    obtain ⟨y161, hd⟩ := hd
    obtain ⟨y162, hd⟩ := hd
    obtain ⟨y163, hd⟩ := hd
    obtain ⟨y164, hd⟩ := hd
    obtain ⟨y165, hd⟩ := hd
    obtain ⟨y166, hd⟩ := hd
    obtain ⟨y167, hd⟩ := hd
    obtain ⟨y168, hd⟩ := hd
    obtain ⟨y169, hd⟩ := hd
    obtain ⟨y170, hd⟩ := hd
    obtain ⟨y171, hd⟩ := hd
    obtain ⟨y172, hd⟩ := hd
    obtain ⟨y173, hd⟩ := hd
    obtain ⟨y174, hd⟩ := hd
    obtain ⟨y175, hd⟩ := hd
    obtain ⟨y176, hd⟩ := hd
    obtain ⟨y177, hd⟩ := hd
    obtain ⟨y178, hd⟩ := hd
    obtain ⟨y179, hd⟩ := hd
    obtain ⟨y180, hd⟩ := hd
    obtain ⟨y181, hd⟩ := hd
    obtain ⟨y182, hd⟩ := hd
    obtain ⟨y183, hd⟩ := hd
    obtain ⟨y184, hd⟩ := hd
    obtain ⟨y185, hd⟩ := hd
    obtain ⟨y186, hd⟩ := hd
    obtain ⟨y187, hd⟩ := hd
    obtain ⟨y188, hd⟩ := hd
    obtain ⟨y189, hd⟩ := hd
    obtain ⟨y190, hd⟩ := hd
    obtain ⟨y191, hd⟩ := hd
    obtain ⟨y192, hd⟩ := hd
    obtain ⟨y193, hd⟩ := hd
    obtain ⟨y194, hd⟩ := hd
    obtain ⟨y195, hd⟩ := hd
    obtain ⟨y196, hd⟩ := hd
    obtain ⟨y197, hd⟩ := hd
    obtain ⟨y198, hd⟩ := hd
    obtain ⟨y199, hd⟩ := hd
    obtain ⟨y200, hd⟩ := hd
    obtain ⟨y201, hd⟩ := hd
    obtain ⟨y202, hd⟩ := hd
    obtain ⟨y203, hd⟩ := hd
    obtain ⟨y204, hd⟩ := hd
    obtain ⟨y205, hd⟩ := hd
    obtain ⟨y206, hd⟩ := hd
    obtain ⟨y207, hd⟩ := hd
    obtain ⟨y208, hd⟩ := hd
    obtain ⟨y209, hd⟩ := hd
    obtain ⟨y210, hd⟩ := hd
    obtain ⟨y211, hd⟩ := hd
    obtain ⟨y212, hd⟩ := hd
    obtain ⟨y213, hd⟩ := hd
    obtain ⟨y214, hd⟩ := hd
    obtain ⟨y215, hd⟩ := hd
    obtain ⟨y216, hd⟩ := hd
    obtain ⟨y217, hd⟩ := hd
    obtain ⟨y218, hd⟩ := hd
    obtain ⟨y219, hd⟩ := hd
    obtain ⟨y220, hd⟩ := hd
    obtain ⟨y221, hd⟩ := hd
    obtain ⟨y222, hd⟩ := hd
    obtain ⟨y223, hd⟩ := hd
    obtain ⟨y224, hd⟩ := hd
    obtain ⟨y225, hd⟩ := hd
    obtain ⟨y226, hd⟩ := hd
    obtain ⟨y227, hd⟩ := hd
    obtain ⟨y228, hd⟩ := hd
    obtain ⟨y229, hd⟩ := hd
    obtain ⟨y230, hd⟩ := hd
    obtain ⟨y231, hd⟩ := hd
    obtain ⟨y232, hd⟩ := hd
    obtain ⟨y233, hd⟩ := hd
    obtain ⟨y234, hd⟩ := hd
    obtain ⟨y235, hd⟩ := hd
    obtain ⟨y236, hd⟩ := hd
    obtain ⟨y237, hd⟩ := hd
    obtain ⟨y238, hd⟩ := hd
    obtain ⟨y239, hd⟩ := hd
    obtain ⟨y240, hd⟩ := hd
    obtain ⟨y241, hd⟩ := hd
    obtain ⟨y242, hd⟩ := hd
    obtain ⟨y243, hd⟩ := hd
    obtain ⟨y244, hd⟩ := hd
    obtain ⟨y245, hd⟩ := hd
    obtain ⟨y246, hd⟩ := hd
    obtain ⟨y247, hd⟩ := hd
    obtain ⟨y248, hd⟩ := hd
    obtain ⟨y249, hd⟩ := hd
    obtain ⟨y250, hd⟩ := hd
    obtain ⟨y251, hd⟩ := hd
    obtain ⟨y252, hd⟩ := hd
    obtain ⟨y253, hd⟩ := hd
    obtain ⟨y254, hd⟩ := hd
    obtain ⟨y255, hd⟩ := hd
    obtain ⟨y256, hd⟩ := hd
    obtain ⟨y257, hd⟩ := hd
    obtain ⟨y258, hd⟩ := hd
    obtain ⟨y259, hd⟩ := hd
    obtain ⟨y260, hd⟩ := hd
    obtain ⟨y261, hd⟩ := hd
    obtain ⟨y262, hd⟩ := hd
    obtain ⟨y263, hd⟩ := hd
    obtain ⟨y264, hd⟩ := hd
    obtain ⟨y265, hd⟩ := hd
    obtain ⟨y266, hd⟩ := hd
    obtain ⟨y267, hd⟩ := hd
    obtain ⟨y268, hd⟩ := hd
    obtain ⟨y269, hd⟩ := hd
    obtain ⟨y270, hd⟩ := hd
    obtain ⟨y271, hd⟩ := hd
    obtain ⟨y272, hd⟩ := hd
    obtain ⟨y273, hd⟩ := hd
    obtain ⟨y274, hd⟩ := hd
    obtain ⟨y275, hd⟩ := hd
    obtain ⟨y276, hd⟩ := hd
    obtain ⟨y277, hd⟩ := hd
    obtain ⟨y278, hd⟩ := hd
    obtain ⟨y279, hd⟩ := hd
    obtain ⟨y280, hd⟩ := hd
    obtain ⟨y281, hd⟩ := hd
    obtain ⟨y282, hd⟩ := hd
    obtain ⟨y283, hd⟩ := hd
    obtain ⟨y284, hd⟩ := hd
    obtain ⟨y285, hd⟩ := hd
    obtain ⟨y286, hd⟩ := hd
    obtain ⟨y287, hd⟩ := hd
    obtain ⟨y288, hd⟩ := hd
    obtain ⟨y289, hd⟩ := hd
    obtain ⟨y290, hd⟩ := hd
    obtain ⟨y291, hd⟩ := hd
    obtain ⟨y292, hd⟩ := hd
    obtain ⟨y293, hd⟩ := hd
    obtain ⟨y294, hd⟩ := hd
    obtain ⟨y295, hd⟩ := hd
    obtain ⟨y296, hd⟩ := hd
    obtain ⟨y297, hd⟩ := hd
    obtain ⟨y298, hd⟩ := hd
    obtain ⟨y299, hd⟩ := hd
    obtain ⟨y300, hd⟩ := hd
    obtain ⟨y301, hd⟩ := hd
    obtain ⟨y302, hd⟩ := hd
    obtain ⟨y303, hd⟩ := hd
    obtain ⟨y304, hd⟩ := hd
    obtain ⟨y305, hd⟩ := hd
    obtain ⟨y306, hd⟩ := hd
    subst hd
    have HPAT := Lib.hid hpat
    clear hpat
    go_wp2_with fail
    simp only [Exit.jump]
    go_ret
    exact ⟨_, rfl, HPAT.out.pats, HPAT.out.ch⟩

end Go.Proofs.YtkbdngcbifonkaaFmt
