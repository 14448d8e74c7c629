/-
  THE PATTERN OF FnPatternTwice IS READ. Lines laid by a program of this session (mkmain3.py).
-/
import Derived.Test.YtkbdngcbifonkaaFmtRndC
import Derived.Test.YtkbdngcbifonkaaFmtRndR
import Derived.Test.YtkbdngcbifonkaaFmtRndA
import Derived.Test.YtkbdngcbifonkaaFmtTwp
import Derived.Test.YtkbdngcbifonkaaFmtFnd
import Derived.Deep.LoopGhost
namespace Go.Proofs.YtkbdngcbifonkaaFmt
set_option linter.all false
open Go.RowKit

def twText : List UInt8 := [1, 40, 46, 43, 41, 37, 49, 2]
theorem tw_at : at_ twText 0 = 1 ∧ at_ twText 1 = 40 ∧ at_ twText 2 = 46 ∧ at_ twText 3 = 43 ∧ at_ twText 4 = 41 ∧ at_ twText 5 = 37 ∧ at_ twText 6 = 49 ∧ at_ twText 7 = 2 ∧ at_ twText 8 = -1 ∧ twText.length = 8 := by decide

/-- The rounds in the capture. -/
def twIn : Nat → Nat × List Pm.Pat
  | 3 => (2, [])
  | 2 => (3, [.part (.one .dot)])
  | _ => (4, [.part (.rep 43 .dot)])
/-- The rounds at the top. -/
def twTop : Nat → Nat × List Pm.Pat
  | 5 => (0, [])
  | 4 => (1, [.part (.one (.atom (.chr 1)))])
  | 3 => (5, [.part (.one (.atom (.chr 1))), .cap [.rep 43 .dot]])
  | 2 => (7, [.part (.one (.atom (.chr 1))), .cap [.rep 43 .dot], .part (.num 1)])
  | _ => (8, twPats)

set_option maxRecDepth 100000 in
set_option maxHeartbeats 40000000 in
theorem loop_in {w0 : World} {S A cap P : Nat} {Q : Exit → Act → World → Prop} {u2 u3 u10 u11 u12 u13 u14 u15 u16 u17 u18 u19 u20 u307 : Value}
    (HQ : Hid (∀ a' w' j' B c us, PatAt w0 S A cap j' P twText false 4 [.part (.rep 43 .dot)] w' B c us → a'.defers = [] → a'.tmps.getD 4 undef = ptr P → Q .ret a' w')) {a : Act} {w : World} (hr : RoundPost w0 S A cap P twText false 2 [] false u2 u3 u10 u11 u12 u13 u14 u15 u16 u17 u18 u19 u20 u307 a w) :
    (Code.loop body36).wp Tryf.prog Q a w := by
  refine wp_loop_ghost (fun n a' w' => 1 ≤ n ∧ n ≤ 3 ∧ RoundPost w0 S A cap P twText false (twIn n).1 (twIn n).2 false u2 u3 u10 u11 u12 u13 u14 u15 u16 u17 u18 u19 u20 u307 a' w') 3 ⟨by omega, by omega, hr⟩ ?round
  case round =>
    clear hr
    rintro gk a' wr ⟨h1, h3, ⟨⟨j, B, c, us, hpat⟩, hd⟩⟩
    obtain ⟨y4, hd⟩ := hd
    obtain ⟨y6, hd⟩ := hd
    obtain ⟨y7, hd⟩ := hd
    obtain ⟨y8, hd⟩ := hd
    obtain ⟨y9, hd⟩ := hd
    obtain ⟨y21, hd⟩ := hd
    obtain ⟨y22, hd⟩ := hd
    obtain ⟨y23, hd⟩ := hd
    obtain ⟨y24, hd⟩ := hd
    obtain ⟨y25, hd⟩ := hd
    obtain ⟨y26, hd⟩ := hd
    obtain ⟨y27, hd⟩ := hd
    obtain ⟨y28, hd⟩ := hd
    obtain ⟨y29, hd⟩ := hd
    obtain ⟨y30, hd⟩ := hd
    obtain ⟨y31, hd⟩ := hd
    obtain ⟨y32, hd⟩ := hd
    obtain ⟨y33, hd⟩ := hd
    obtain ⟨y34, hd⟩ := hd
    obtain ⟨y35, hd⟩ := hd
    obtain ⟨y36, hd⟩ := hd
    obtain ⟨y37, hd⟩ := hd
    obtain ⟨y38, hd⟩ := hd
    obtain ⟨y39, hd⟩ := hd
    obtain ⟨y40, hd⟩ := hd
    obtain ⟨y41, hd⟩ := hd
    obtain ⟨y42, hd⟩ := hd
    obtain ⟨y43, hd⟩ := hd
    obtain ⟨y44, hd⟩ := hd
    obtain ⟨y45, hd⟩ := hd
    obtain ⟨y46, hd⟩ := hd
    obtain ⟨y47, hd⟩ := hd
    obtain ⟨y48, hd⟩ := hd
    obtain ⟨y49, hd⟩ := hd
    obtain ⟨y50, hd⟩ := hd
    obtain ⟨y51, hd⟩ := hd
    obtain ⟨y52, hd⟩ := hd
    obtain ⟨y53, hd⟩ := hd
    obtain ⟨y54, hd⟩ := hd
    obtain ⟨y55, hd⟩ := hd
    obtain ⟨y56, hd⟩ := hd
    obtain ⟨y57, hd⟩ := hd
    obtain ⟨y58, hd⟩ := hd
    obtain ⟨y59, hd⟩ := hd
    obtain ⟨y60, hd⟩ := hd
    obtain ⟨y61, hd⟩ := hd
    obtain ⟨y62, hd⟩ := hd
    obtain ⟨y63, hd⟩ := hd
    obtain ⟨y64, hd⟩ := hd
    obtain ⟨y65, hd⟩ := hd
    obtain ⟨y66, hd⟩ := hd
    obtain ⟨y67, hd⟩ := hd
    obtain ⟨y68, hd⟩ := hd
    obtain ⟨y69, hd⟩ := hd
    obtain ⟨y70, hd⟩ := hd
    obtain ⟨y71, hd⟩ := hd
    obtain ⟨y72, hd⟩ := hd
    obtain ⟨y73, hd⟩ := hd
    obtain ⟨y74, hd⟩ := hd
    obtain ⟨y75, hd⟩ := hd
    obtain ⟨y76, hd⟩ := hd
    obtain ⟨y77, hd⟩ := hd
    obtain ⟨y78, hd⟩ := hd
    obtain ⟨y79, hd⟩ := hd
    obtain ⟨y80, hd⟩ := hd
    obtain ⟨y81, hd⟩ := hd
    obtain ⟨y82, hd⟩ := hd
    obtain ⟨y83, hd⟩ := hd
    obtain ⟨y84, hd⟩ := hd
    obtain ⟨y85, hd⟩ := hd
    obtain ⟨y86, hd⟩ := hd
    obtain ⟨y87, hd⟩ := hd
    obtain ⟨y88, hd⟩ := hd
    obtain ⟨y89, hd⟩ := hd
    obtain ⟨y90, hd⟩ := hd
    obtain ⟨y91, hd⟩ := hd
    obtain ⟨y92, hd⟩ := hd
    obtain ⟨y93, hd⟩ := hd
    obtain ⟨y94, hd⟩ := hd
    obtain ⟨y95, hd⟩ := hd
    obtain ⟨y96, hd⟩ := hd
    obtain ⟨y97, hd⟩ := hd
    obtain ⟨y98, hd⟩ := hd
    obtain ⟨y99, hd⟩ := hd
    obtain ⟨y100, hd⟩ := hd
    obtain ⟨y101, hd⟩ := hd
    obtain ⟨y102, hd⟩ := hd
    obtain ⟨y103, hd⟩ := hd
    obtain ⟨y104, hd⟩ := hd
    obtain ⟨y105, hd⟩ := hd
    obtain ⟨y106, hd⟩ := hd
    obtain ⟨y107, hd⟩ := hd
    obtain ⟨y108, hd⟩ := hd
    obtain ⟨y109, hd⟩ := hd
    obtain ⟨y110, hd⟩ := hd
    obtain ⟨y111, hd⟩ := hd
    obtain ⟨y112, hd⟩ := hd
    obtain ⟨y113, hd⟩ := hd
    obtain ⟨y114, hd⟩ := hd
    obtain ⟨y115, hd⟩ := hd
    obtain ⟨y116, hd⟩ := hd
    obtain ⟨y117, hd⟩ := hd
    obtain ⟨y118, hd⟩ := hd
    obtain ⟨y119, hd⟩ := hd
    obtain ⟨y120, hd⟩ := hd
    obtain ⟨y121, hd⟩ := hd
    obtain ⟨y122, hd⟩ := hd
    obtain ⟨y123, hd⟩ := hd
    obtain ⟨y124, hd⟩ := hd
    obtain ⟨y125, hd⟩ := hd
    obtain ⟨y126, hd⟩ := hd
    obtain ⟨y127, hd⟩ := hd
    obtain ⟨y128, hd⟩ := hd
    obtain ⟨y129, hd⟩ := hd
    obtain ⟨y130, hd⟩ := hd
    obtain ⟨y131, hd⟩ := hd
    obtain ⟨y132, hd⟩ := hd
    obtain ⟨y133, hd⟩ := hd
    obtain ⟨y134, hd⟩ := hd
    obtain ⟨y135, hd⟩ := hd
    obtain ⟨y136, hd⟩ := hd
    obtain ⟨y137, hd⟩ := hd
    obtain ⟨y138, hd⟩ := hd
    obtain ⟨y139, hd⟩ := hd
    obtain ⟨y140, hd⟩ := hd
    obtain ⟨y141, hd⟩ := hd
    obtain ⟨y142, hd⟩ := hd
    obtain ⟨y143, hd⟩ := hd
    obtain ⟨y144, hd⟩ := hd
    obtain ⟨y145, hd⟩ := hd
    obtain ⟨y146, hd⟩ := hd
    obtain ⟨y147, hd⟩ := hd
    obtain ⟨y148, hd⟩ := hd
    obtain ⟨y149, hd⟩ := hd
    obtain ⟨y150, hd⟩ := hd
    obtain ⟨y151, hd⟩ := hd
    obtain ⟨y152, hd⟩ := hd
    obtain ⟨y153, hd⟩ := hd
    obtain ⟨y154, hd⟩ := hd
    obtain ⟨y155, hd⟩ := hd
    obtain ⟨y156, hd⟩ := hd
    obtain ⟨y157, hd⟩ := hd
    obtain ⟨y158, hd⟩ := hd
    obtain ⟨y159, hd⟩ := hd
    obtain ⟨y160, hd⟩ := hd
    obtain ⟨y161, hd⟩ := hd
    obtain ⟨y162, hd⟩ := hd
    obtain ⟨y163, hd⟩ := hd
    obtain ⟨y164, hd⟩ := hd
    obtain ⟨y165, hd⟩ := hd
    obtain ⟨y166, hd⟩ := hd
    obtain ⟨y167, hd⟩ := hd
    obtain ⟨y168, hd⟩ := hd
    obtain ⟨y169, hd⟩ := hd
    obtain ⟨y170, hd⟩ := hd
    obtain ⟨y171, hd⟩ := hd
    obtain ⟨y172, hd⟩ := hd
    obtain ⟨y173, hd⟩ := hd
    obtain ⟨y174, hd⟩ := hd
    obtain ⟨y175, hd⟩ := hd
    obtain ⟨y176, hd⟩ := hd
    obtain ⟨y177, hd⟩ := hd
    obtain ⟨y178, hd⟩ := hd
    obtain ⟨y179, hd⟩ := hd
    obtain ⟨y180, hd⟩ := hd
    obtain ⟨y181, hd⟩ := hd
    obtain ⟨y182, hd⟩ := hd
    obtain ⟨y183, hd⟩ := hd
    obtain ⟨y184, hd⟩ := hd
    obtain ⟨y185, hd⟩ := hd
    obtain ⟨y186, hd⟩ := hd
    obtain ⟨y187, hd⟩ := hd
    obtain ⟨y188, hd⟩ := hd
    obtain ⟨y189, hd⟩ := hd
    obtain ⟨y190, hd⟩ := hd
    obtain ⟨y191, hd⟩ := hd
    obtain ⟨y192, hd⟩ := hd
    obtain ⟨y193, hd⟩ := hd
    obtain ⟨y194, hd⟩ := hd
    obtain ⟨y195, hd⟩ := hd
    obtain ⟨y196, hd⟩ := hd
    obtain ⟨y197, hd⟩ := hd
    obtain ⟨y198, hd⟩ := hd
    obtain ⟨y199, hd⟩ := hd
    obtain ⟨y200, hd⟩ := hd
    obtain ⟨y201, hd⟩ := hd
    obtain ⟨y202, hd⟩ := hd
    obtain ⟨y203, hd⟩ := hd
    obtain ⟨y204, hd⟩ := hd
    obtain ⟨y205, hd⟩ := hd
    obtain ⟨y206, hd⟩ := hd
    obtain ⟨y207, hd⟩ := hd
    obtain ⟨y208, hd⟩ := hd
    obtain ⟨y209, hd⟩ := hd
    obtain ⟨y210, hd⟩ := hd
    obtain ⟨y211, hd⟩ := hd
    obtain ⟨y212, hd⟩ := hd
    obtain ⟨y213, hd⟩ := hd
    obtain ⟨y214, hd⟩ := hd
    obtain ⟨y215, hd⟩ := hd
    obtain ⟨y216, hd⟩ := hd
    obtain ⟨y217, hd⟩ := hd
    obtain ⟨y218, hd⟩ := hd
    obtain ⟨y219, hd⟩ := hd
    obtain ⟨y220, hd⟩ := hd
    obtain ⟨y221, hd⟩ := hd
    obtain ⟨y222, hd⟩ := hd
    obtain ⟨y223, hd⟩ := hd
    obtain ⟨y224, hd⟩ := hd
    obtain ⟨y225, hd⟩ := hd
    obtain ⟨y226, hd⟩ := hd
    obtain ⟨y227, hd⟩ := hd
    obtain ⟨y228, hd⟩ := hd
    obtain ⟨y229, hd⟩ := hd
    obtain ⟨y230, hd⟩ := hd
    obtain ⟨y231, hd⟩ := hd
    obtain ⟨y232, hd⟩ := hd
    obtain ⟨y233, hd⟩ := hd
    obtain ⟨y234, hd⟩ := hd
    obtain ⟨y235, hd⟩ := hd
    obtain ⟨y236, hd⟩ := hd
    obtain ⟨y237, hd⟩ := hd
    obtain ⟨y238, hd⟩ := hd
    obtain ⟨y239, hd⟩ := hd
    obtain ⟨y240, hd⟩ := hd
    obtain ⟨y241, hd⟩ := hd
    obtain ⟨y242, hd⟩ := hd
    obtain ⟨y243, hd⟩ := hd
    obtain ⟨y244, hd⟩ := hd
    obtain ⟨y245, hd⟩ := hd
    obtain ⟨y246, hd⟩ := hd
    obtain ⟨y247, hd⟩ := hd
    obtain ⟨y248, hd⟩ := hd
    obtain ⟨y249, hd⟩ := hd
    obtain ⟨y250, hd⟩ := hd
    obtain ⟨y251, hd⟩ := hd
    obtain ⟨y252, hd⟩ := hd
    obtain ⟨y253, hd⟩ := hd
    obtain ⟨y254, hd⟩ := hd
    obtain ⟨y255, hd⟩ := hd
    obtain ⟨y256, hd⟩ := hd
    obtain ⟨y257, hd⟩ := hd
    obtain ⟨y258, hd⟩ := hd
    obtain ⟨y259, hd⟩ := hd
    obtain ⟨y260, hd⟩ := hd
    obtain ⟨y261, hd⟩ := hd
    obtain ⟨y262, hd⟩ := hd
    obtain ⟨y263, hd⟩ := hd
    obtain ⟨y264, hd⟩ := hd
    obtain ⟨y265, hd⟩ := hd
    obtain ⟨y266, hd⟩ := hd
    obtain ⟨y267, hd⟩ := hd
    obtain ⟨y268, hd⟩ := hd
    obtain ⟨y269, hd⟩ := hd
    obtain ⟨y270, hd⟩ := hd
    obtain ⟨y271, hd⟩ := hd
    obtain ⟨y272, hd⟩ := hd
    obtain ⟨y273, hd⟩ := hd
    obtain ⟨y274, hd⟩ := hd
    obtain ⟨y275, hd⟩ := hd
    obtain ⟨y276, hd⟩ := hd
    obtain ⟨y277, hd⟩ := hd
    obtain ⟨y278, hd⟩ := hd
    obtain ⟨y279, hd⟩ := hd
    obtain ⟨y280, hd⟩ := hd
    obtain ⟨y281, hd⟩ := hd
    obtain ⟨y282, hd⟩ := hd
    obtain ⟨y283, hd⟩ := hd
    obtain ⟨y284, hd⟩ := hd
    obtain ⟨y285, hd⟩ := hd
    obtain ⟨y286, hd⟩ := hd
    obtain ⟨y287, hd⟩ := hd
    obtain ⟨y288, hd⟩ := hd
    obtain ⟨y289, hd⟩ := hd
    obtain ⟨y290, hd⟩ := hd
    obtain ⟨y291, hd⟩ := hd
    obtain ⟨y292, hd⟩ := hd
    obtain ⟨y293, hd⟩ := hd
    obtain ⟨y294, hd⟩ := hd
    obtain ⟨y295, hd⟩ := hd
    obtain ⟨y296, hd⟩ := hd
    obtain ⟨y297, hd⟩ := hd
    obtain ⟨y298, hd⟩ := hd
    obtain ⟨y299, hd⟩ := hd
    obtain ⟨y300, hd⟩ := hd
    obtain ⟨y301, hd⟩ := hd
    obtain ⟨y302, hd⟩ := hd
    obtain ⟨y303, hd⟩ := hd
    obtain ⟨y304, hd⟩ := hd
    obtain ⟨y305, hd⟩ := hd
    obtain ⟨y306, hd⟩ := hd
    subst hd
    have HPAT := Lib.hid hpat
    clear hpat
    have hl : twText.length ≤ 1000 := by decide
    match gk, h1, h3 with
    | 3, _, _ =>
      refine round_dot (k := 2) (ps := []) HPAT hl (by decide) (by decide) (by decide) ?_
      intro a' w' hpost
      exact ⟨2, by omega, by omega, by omega, hpost⟩
    | 2, _, _ =>
      refine round_rep43 (k := 3) (ps := []) (cl := .dot) HPAT hl (by decide) (by decide) (by decide) ?_
      intro a' w' hpost
      exact ⟨1, by omega, by omega, by omega, hpost⟩
    | 1, _, _ =>
      refine round_close (k := 4) (ps := [.part (.rep 43 .dot)]) HPAT hl (by decide) (by decide) (by decide) ?_
      intros
      rename_i hp
      exact HQ.out _ _ _ _ _ _ hp rfl rfl

set_option maxRecDepth 100000 in
set_option maxHeartbeats 40000000 in
theorem parse_in {w : World} {S A cap j : Nat} (h : Scan w S A cap twText 2 j) (hA : A < w.heap.size) :
    Calls Tryf.prog 36 #[ptr S, .bool false] w fun e w' => ∃ b j', e = .returned (ptr b) ∧ RepPats w' (fun b => w.heap.size ≤ b ∧ b < w'.heap.size) b false false (([.rep 43 .dot] : List Pm.Part).map .part) ∧ Scan w' S A cap twText 4 j' ∧ Ch (· = S) w w' := by
  have HST := Lib.hid (PatAt.start h hA)
  clear h
  go_enter Tryf.func36, Tryf.ntmps36
  go_wp2_with fail
  refine wp_scope_jumps 0 (fun a' w' => False) (fun a' _ => 0) rfl ?_ ?_
  · go_wp2_with fail
    refine loop_in (u2 := ?vu2) (u3 := ?vu3) (u10 := ?vu10) (u11 := ?vu11) (u12 := ?vu12) (u13 := ?vu13) (u14 := ?vu14) (u15 := ?vu15) (u16 := ?vu16) (u17 := ?vu17) (u18 := ?vu18) (u19 := ?vu19) (u20 := ?vu20) (u307 := ?vu307) ?hq ⟨⟨_, _, _, _, HST.out⟩, ?hf⟩
    case hf =>
      (repeat apply Exists.intro)
      rfl
    case hq =>
      refine Lib.hid fun a' w' j' B c us hpost hdf htm => ?_
      simp (config := { zetaDelta := true }) only [Exit.jump, Exit.inBlock, Exit.then]
      refine bodyPost_ret (v := ptr w.heap.size) ((results_tmp (fn := Tryf.f36) rfl a'.tmps Tryf.prog w').trans (by rw [htm])) hdf ?_
      exact ⟨_, _, rfl, hpost.pats, hpost.scan, hpost.ch⟩
  · rintro a' w' hh
    exact hh.elim

set_option maxRecDepth 100000 in
set_option maxHeartbeats 40000000 in
theorem loop_tw {w0 : World} {S A cap P : Nat} {Q : Exit → Act → World → Prop} {u2 u3 u10 u11 u12 u13 u14 u15 u16 u17 u18 u19 u20 u307 : Value}
    (HQ : Hid (∀ k a' w', RoundPost w0 S A cap P twText false k twPats true u2 u3 u10 u11 u12 u13 u14 u15 u16 u17 u18 u19 u20 u307 a' w' → Q (.goto 0) a' w')) {a : Act} {w : World} (hr : RoundPost w0 S A cap P twText false 0 [] true u2 u3 u10 u11 u12 u13 u14 u15 u16 u17 u18 u19 u20 u307 a w) :
    (Code.loop body36).wp Tryf.prog Q a w := by
  refine wp_loop_ghost (fun n a' w' => 1 ≤ n ∧ n ≤ 5 ∧ RoundPost w0 S A cap P twText false (twTop n).1 (twTop n).2 true u2 u3 u10 u11 u12 u13 u14 u15 u16 u17 u18 u19 u20 u307 a' w') 5 ⟨by omega, by omega, hr⟩ ?round
  case round =>
    clear hr
    rintro gk a' wr ⟨h1, h3, ⟨⟨j, B, c, us, hpat⟩, hd⟩⟩
    obtain ⟨y4, hd⟩ := hd
    obtain ⟨y6, hd⟩ := hd
    obtain ⟨y7, hd⟩ := hd
    obtain ⟨y8, hd⟩ := hd
    obtain ⟨y9, hd⟩ := hd
    obtain ⟨y21, hd⟩ := hd
    obtain ⟨y22, hd⟩ := hd
    obtain ⟨y23, hd⟩ := hd
    obtain ⟨y24, hd⟩ := hd
    obtain ⟨y25, hd⟩ := hd
    obtain ⟨y26, hd⟩ := hd
    obtain ⟨y27, hd⟩ := hd
    obtain ⟨y28, hd⟩ := hd
    obtain ⟨y29, hd⟩ := hd
    obtain ⟨y30, hd⟩ := hd
    obtain ⟨y31, hd⟩ := hd
    obtain ⟨y32, hd⟩ := hd
    obtain ⟨y33, hd⟩ := hd
    obtain ⟨y34, hd⟩ := hd
    obtain ⟨y35, hd⟩ := hd
    obtain ⟨y36, hd⟩ := hd
    obtain ⟨y37, hd⟩ := hd
    obtain ⟨y38, hd⟩ := hd
    obtain ⟨y39, hd⟩ := hd
    obtain ⟨y40, hd⟩ := hd
    obtain ⟨y41, hd⟩ := hd
    obtain ⟨y42, hd⟩ := hd
    obtain ⟨y43, hd⟩ := hd
    obtain ⟨y44, hd⟩ := hd
    obtain ⟨y45, hd⟩ := hd
    obtain ⟨y46, hd⟩ := hd
    obtain ⟨y47, hd⟩ := hd
    obtain ⟨y48, hd⟩ := hd
    obtain ⟨y49, hd⟩ := hd
    obtain ⟨y50, hd⟩ := hd
    obtain ⟨y51, hd⟩ := hd
    obtain ⟨y52, hd⟩ := hd
    obtain ⟨y53, hd⟩ := hd
    obtain ⟨y54, hd⟩ := hd
    obtain ⟨y55, hd⟩ := hd
    obtain ⟨y56, hd⟩ := hd
    obtain ⟨y57, hd⟩ := hd
    obtain ⟨y58, hd⟩ := hd
    obtain ⟨y59, hd⟩ := hd
    obtain ⟨y60, hd⟩ := hd
    obtain ⟨y61, hd⟩ := hd
    obtain ⟨y62, hd⟩ := hd
    obtain ⟨y63, hd⟩ := hd
    obtain ⟨y64, hd⟩ := hd
    obtain ⟨y65, hd⟩ := hd
    obtain ⟨y66, hd⟩ := hd
    obtain ⟨y67, hd⟩ := hd
    obtain ⟨y68, hd⟩ := hd
    obtain ⟨y69, hd⟩ := hd
    obtain ⟨y70, hd⟩ := hd
    obtain ⟨y71, hd⟩ := hd
    obtain ⟨y72, hd⟩ := hd
    obtain ⟨y73, hd⟩ := hd
    obtain ⟨y74, hd⟩ := hd
    obtain ⟨y75, hd⟩ := hd
    obtain ⟨y76, hd⟩ := hd
    obtain ⟨y77, hd⟩ := hd
    obtain ⟨y78, hd⟩ := hd
    obtain ⟨y79, hd⟩ := hd
    obtain ⟨y80, hd⟩ := hd
    obtain ⟨y81, hd⟩ := hd
    obtain ⟨y82, hd⟩ := hd
    obtain ⟨y83, hd⟩ := hd
    obtain ⟨y84, hd⟩ := hd
    obtain ⟨y85, hd⟩ := hd
    obtain ⟨y86, hd⟩ := hd
    obtain ⟨y87, hd⟩ := hd
    obtain ⟨y88, hd⟩ := hd
    obtain ⟨y89, hd⟩ := hd
    obtain ⟨y90, hd⟩ := hd
    obtain ⟨y91, hd⟩ := hd
    obtain ⟨y92, hd⟩ := hd
    obtain ⟨y93, hd⟩ := hd
    obtain ⟨y94, hd⟩ := hd
    obtain ⟨y95, hd⟩ := hd
    obtain ⟨y96, hd⟩ := hd
    obtain ⟨y97, hd⟩ := hd
    obtain ⟨y98, hd⟩ := hd
    obtain ⟨y99, hd⟩ := hd
    obtain ⟨y100, hd⟩ := hd
    obtain ⟨y101, hd⟩ := hd
    obtain ⟨y102, hd⟩ := hd
    obtain ⟨y103, hd⟩ := hd
    obtain ⟨y104, hd⟩ := hd
    obtain ⟨y105, hd⟩ := hd
    obtain ⟨y106, hd⟩ := hd
    obtain ⟨y107, hd⟩ := hd
    obtain ⟨y108, hd⟩ := hd
    obtain ⟨y109, hd⟩ := hd
    obtain ⟨y110, hd⟩ := hd
    obtain ⟨y111, hd⟩ := hd
    obtain ⟨y112, hd⟩ := hd
    obtain ⟨y113, hd⟩ := hd
    obtain ⟨y114, hd⟩ := hd
    obtain ⟨y115, hd⟩ := hd
    obtain ⟨y116, hd⟩ := hd
    obtain ⟨y117, hd⟩ := hd
    obtain ⟨y118, hd⟩ := hd
    obtain ⟨y119, hd⟩ := hd
    obtain ⟨y120, hd⟩ := hd
    obtain ⟨y121, hd⟩ := hd
    obtain ⟨y122, hd⟩ := hd
    obtain ⟨y123, hd⟩ := hd
    obtain ⟨y124, hd⟩ := hd
    obtain ⟨y125, hd⟩ := hd
    obtain ⟨y126, hd⟩ := hd
    obtain ⟨y127, hd⟩ := hd
    obtain ⟨y128, hd⟩ := hd
    obtain ⟨y129, hd⟩ := hd
    obtain ⟨y130, hd⟩ := hd
    obtain ⟨y131, hd⟩ := hd
    obtain ⟨y132, hd⟩ := hd
    obtain ⟨y133, hd⟩ := hd
    obtain ⟨y134, hd⟩ := hd
    obtain ⟨y135, hd⟩ := hd
    obtain ⟨y136, hd⟩ := hd
    obtain ⟨y137, hd⟩ := hd
    obtain ⟨y138, hd⟩ := hd
    obtain ⟨y139, hd⟩ := hd
    obtain ⟨y140, hd⟩ := hd
    obtain ⟨y141, hd⟩ := hd
    obtain ⟨y142, hd⟩ := hd
    obtain ⟨y143, hd⟩ := hd
    obtain ⟨y144, hd⟩ := hd
    obtain ⟨y145, hd⟩ := hd
    obtain ⟨y146, hd⟩ := hd
    obtain ⟨y147, hd⟩ := hd
    obtain ⟨y148, hd⟩ := hd
    obtain ⟨y149, hd⟩ := hd
    obtain ⟨y150, hd⟩ := hd
    obtain ⟨y151, hd⟩ := hd
    obtain ⟨y152, hd⟩ := hd
    obtain ⟨y153, hd⟩ := hd
    obtain ⟨y154, hd⟩ := hd
    obtain ⟨y155, hd⟩ := hd
    obtain ⟨y156, hd⟩ := hd
    obtain ⟨y157, hd⟩ := hd
    obtain ⟨y158, hd⟩ := hd
    obtain ⟨y159, hd⟩ := hd
    obtain ⟨y160, hd⟩ := hd
    obtain ⟨y161, hd⟩ := hd
    obtain ⟨y162, hd⟩ := hd
    obtain ⟨y163, hd⟩ := hd
    obtain ⟨y164, hd⟩ := hd
    obtain ⟨y165, hd⟩ := hd
    obtain ⟨y166, hd⟩ := hd
    obtain ⟨y167, hd⟩ := hd
    obtain ⟨y168, hd⟩ := hd
    obtain ⟨y169, hd⟩ := hd
    obtain ⟨y170, hd⟩ := hd
    obtain ⟨y171, hd⟩ := hd
    obtain ⟨y172, hd⟩ := hd
    obtain ⟨y173, hd⟩ := hd
    obtain ⟨y174, hd⟩ := hd
    obtain ⟨y175, hd⟩ := hd
    obtain ⟨y176, hd⟩ := hd
    obtain ⟨y177, hd⟩ := hd
    obtain ⟨y178, hd⟩ := hd
    obtain ⟨y179, hd⟩ := hd
    obtain ⟨y180, hd⟩ := hd
    obtain ⟨y181, hd⟩ := hd
    obtain ⟨y182, hd⟩ := hd
    obtain ⟨y183, hd⟩ := hd
    obtain ⟨y184, hd⟩ := hd
    obtain ⟨y185, hd⟩ := hd
    obtain ⟨y186, hd⟩ := hd
    obtain ⟨y187, hd⟩ := hd
    obtain ⟨y188, hd⟩ := hd
    obtain ⟨y189, hd⟩ := hd
    obtain ⟨y190, hd⟩ := hd
    obtain ⟨y191, hd⟩ := hd
    obtain ⟨y192, hd⟩ := hd
    obtain ⟨y193, hd⟩ := hd
    obtain ⟨y194, hd⟩ := hd
    obtain ⟨y195, hd⟩ := hd
    obtain ⟨y196, hd⟩ := hd
    obtain ⟨y197, hd⟩ := hd
    obtain ⟨y198, hd⟩ := hd
    obtain ⟨y199, hd⟩ := hd
    obtain ⟨y200, hd⟩ := hd
    obtain ⟨y201, hd⟩ := hd
    obtain ⟨y202, hd⟩ := hd
    obtain ⟨y203, hd⟩ := hd
    obtain ⟨y204, hd⟩ := hd
    obtain ⟨y205, hd⟩ := hd
    obtain ⟨y206, hd⟩ := hd
    obtain ⟨y207, hd⟩ := hd
    obtain ⟨y208, hd⟩ := hd
    obtain ⟨y209, hd⟩ := hd
    obtain ⟨y210, hd⟩ := hd
    obtain ⟨y211, hd⟩ := hd
    obtain ⟨y212, hd⟩ := hd
    obtain ⟨y213, hd⟩ := hd
    obtain ⟨y214, hd⟩ := hd
    obtain ⟨y215, hd⟩ := hd
    obtain ⟨y216, hd⟩ := hd
    obtain ⟨y217, hd⟩ := hd
    obtain ⟨y218, hd⟩ := hd
    obtain ⟨y219, hd⟩ := hd
    obtain ⟨y220, hd⟩ := hd
    obtain ⟨y221, hd⟩ := hd
    obtain ⟨y222, hd⟩ := hd
    obtain ⟨y223, hd⟩ := hd
    obtain ⟨y224, hd⟩ := hd
    obtain ⟨y225, hd⟩ := hd
    obtain ⟨y226, hd⟩ := hd
    obtain ⟨y227, hd⟩ := hd
    obtain ⟨y228, hd⟩ := hd
    obtain ⟨y229, hd⟩ := hd
    obtain ⟨y230, hd⟩ := hd
    obtain ⟨y231, hd⟩ := hd
    obtain ⟨y232, hd⟩ := hd
    obtain ⟨y233, hd⟩ := hd
    obtain ⟨y234, hd⟩ := hd
    obtain ⟨y235, hd⟩ := hd
    obtain ⟨y236, hd⟩ := hd
    obtain ⟨y237, hd⟩ := hd
    obtain ⟨y238, hd⟩ := hd
    obtain ⟨y239, hd⟩ := hd
    obtain ⟨y240, hd⟩ := hd
    obtain ⟨y241, hd⟩ := hd
    obtain ⟨y242, hd⟩ := hd
    obtain ⟨y243, hd⟩ := hd
    obtain ⟨y244, hd⟩ := hd
    obtain ⟨y245, hd⟩ := hd
    obtain ⟨y246, hd⟩ := hd
    obtain ⟨y247, hd⟩ := hd
    obtain ⟨y248, hd⟩ := hd
    obtain ⟨y249, hd⟩ := hd
    obtain ⟨y250, hd⟩ := hd
    obtain ⟨y251, hd⟩ := hd
    obtain ⟨y252, hd⟩ := hd
    obtain ⟨y253, hd⟩ := hd
    obtain ⟨y254, hd⟩ := hd
    obtain ⟨y255, hd⟩ := hd
    obtain ⟨y256, hd⟩ := hd
    obtain ⟨y257, hd⟩ := hd
    obtain ⟨y258, hd⟩ := hd
    obtain ⟨y259, hd⟩ := hd
    obtain ⟨y260, hd⟩ := hd
    obtain ⟨y261, hd⟩ := hd
    obtain ⟨y262, hd⟩ := hd
    obtain ⟨y263, hd⟩ := hd
    obtain ⟨y264, hd⟩ := hd
    obtain ⟨y265, hd⟩ := hd
    obtain ⟨y266, hd⟩ := hd
    obtain ⟨y267, hd⟩ := hd
    obtain ⟨y268, hd⟩ := hd
    obtain ⟨y269, hd⟩ := hd
    obtain ⟨y270, hd⟩ := hd
    obtain ⟨y271, hd⟩ := hd
    obtain ⟨y272, hd⟩ := hd
    obtain ⟨y273, hd⟩ := hd
    obtain ⟨y274, hd⟩ := hd
    obtain ⟨y275, hd⟩ := hd
    obtain ⟨y276, hd⟩ := hd
    obtain ⟨y277, hd⟩ := hd
    obtain ⟨y278, hd⟩ := hd
    obtain ⟨y279, hd⟩ := hd
    obtain ⟨y280, hd⟩ := hd
    obtain ⟨y281, hd⟩ := hd
    obtain ⟨y282, hd⟩ := hd
    obtain ⟨y283, hd⟩ := hd
    obtain ⟨y284, hd⟩ := hd
    obtain ⟨y285, hd⟩ := hd
    obtain ⟨y286, hd⟩ := hd
    obtain ⟨y287, hd⟩ := hd
    obtain ⟨y288, hd⟩ := hd
    obtain ⟨y289, hd⟩ := hd
    obtain ⟨y290, hd⟩ := hd
    obtain ⟨y291, hd⟩ := hd
    obtain ⟨y292, hd⟩ := hd
    obtain ⟨y293, hd⟩ := hd
    obtain ⟨y294, hd⟩ := hd
    obtain ⟨y295, hd⟩ := hd
    obtain ⟨y296, hd⟩ := hd
    obtain ⟨y297, hd⟩ := hd
    obtain ⟨y298, hd⟩ := hd
    obtain ⟨y299, hd⟩ := hd
    obtain ⟨y300, hd⟩ := hd
    obtain ⟨y301, hd⟩ := hd
    obtain ⟨y302, hd⟩ := hd
    obtain ⟨y303, hd⟩ := hd
    obtain ⟨y304, hd⟩ := hd
    obtain ⟨y305, hd⟩ := hd
    obtain ⟨y306, hd⟩ := hd
    subst hd
    have HPAT := Lib.hid hpat
    clear hpat
    have hl : twText.length ≤ 1000 := by decide
    match gk, h1, h3 with
    | 5, _, _ =>
      refine round_chr (k := 0) (ps := []) HPAT hl (by decide) (by decide) (by decide) (by decide) (by decide) (by decide) (by decide) (by decide) (by decide) (by decide) (by decide) (by decide) (by decide) (by decide) ?_
      intro a' w' hpost
      exact ⟨4, by omega, by omega, by omega, hpost⟩
    | 4, _, _ =>
      refine round_cap (k := 1) (ps := [.part (.one (.atom (.chr 1)))]) (pl := [.rep 43 .dot]) (k2 := 4) HPAT hl (by decide) (by decide) (by decide) (by decide) (by decide) (by decide) (Lib.hid fun w1 j1 hs hA => parse_in hs hA) ?_
      intro a' w' hpost
      exact ⟨3, by omega, by omega, by omega, hpost⟩
    | 3, _, _ =>
      refine round_num (k := 5) (ps := [.part (.one (.atom (.chr 1))), .cap [.rep 43 .dot]]) HPAT hl (by decide) (by decide) (by decide) (by decide) ?_
      intro a' w' hpost
      exact ⟨2, by omega, by omega, by omega, hpost⟩
    | 2, _, _ =>
      refine round_chr (k := 7) (ps := [.part (.one (.atom (.chr 1))), .cap [.rep 43 .dot], .part (.num 1)]) HPAT hl (by decide) (by decide) (by decide) (by decide) (by decide) (by decide) (by decide) (by decide) (by decide) (by decide) (by decide) (by decide) (by decide) (by decide) ?_
      intro a' w' hpost
      exact ⟨1, by omega, by omega, by omega, hpost⟩
    | 1, _, _ =>
      refine round_end (k := 8) (ps := twPats) HPAT hl (by decide) (by decide) (by decide) ?_
      intro a' w' hpost
      exact HQ.out _ _ _ hpost

set_option maxRecDepth 100000 in
set_option maxHeartbeats 40000000 in
theorem parses_tw : Parses twText false twPats := by
  intro w S A cap h hA
  have HST := Lib.hid (PatAt.start h hA)
  have hsn : seen twText 0 = 0 := by decide
  have h94 : (at_ twText 0 == 94) = false := by decide
  clear h
  go_enter Tryf.func36, Tryf.ntmps36
  go_wp2_with fail
  refine wp_scope_jumps 0 (fun a' w' => ∃ u2 u3 u10 u11 u12 u13 u14 u15 u16 u17 u18 u19 u20 u307 k', RoundPost w S A cap w.heap.size twText false k' twPats true u2 u3 u10 u11 u12 u13 u14 u15 u16 u17 u18 u19 u20 u307 a' w') (fun a' _ => 0) rfl ?_ ?_
  · go_wp2_with fail
    refine (scan_peek HST.out.scan (by decide)).mono ?_
    rintro e w1 ⟨rfl, hs, hc, hz⟩
    rw [hsn] at hs
    have hb := HST.out.moved hs hc (by simp)
    clear hs hc hz HST
    have HB := Lib.hid hb
    clear hb
    go_wp2_with fail
    refine loop_tw (u2 := ?vu2) (u3 := ?vu3) (u10 := ?vu10) (u11 := ?vu11) (u12 := ?vu12) (u13 := ?vu13) (u14 := ?vu14) (u15 := ?vu15) (u16 := ?vu16) (u17 := ?vu17) (u18 := ?vu18) (u19 := ?vu19) (u20 := ?vu20) (u307 := ?vu307) ?hq ⟨⟨_, _, _, _, HB.out⟩, ?hf⟩
    case hf =>
      (repeat apply Exists.intro)
      rfl
    case hq =>
      refine Lib.hid fun k' a' w' hpost => ?_
      exact ⟨rfl, _, _, _, _, _, _, _, _, _, _, _, _, _, _, k', hpost⟩
  · rintro a' w' ⟨u2, u3, u10, u11, u12, u13, u14, u15, u16, u17, u18, u19, u20, u307, k', ⟨j, B, c, us, hpat⟩, hd⟩
    obtain ⟨y4, hd⟩ := hd
    obtain ⟨y6, hd⟩ := hd
    obtain ⟨y7, hd⟩ := hd
    obtain ⟨y8, hd⟩ := hd
    obtain ⟨y9, hd⟩ := hd
    obtain ⟨y21, hd⟩ := hd
    obtain ⟨y22, hd⟩ := hd
    obtain ⟨y23, hd⟩ := hd
    obtain ⟨y24, hd⟩ := hd
    obtain ⟨y25, hd⟩ := hd
    obtain ⟨y26, hd⟩ := hd
    obtain ⟨y27, hd⟩ := hd
    obtain ⟨y28, hd⟩ := hd
    obtain ⟨y29, hd⟩ := hd
    obtain ⟨y30, hd⟩ := hd
    obtain ⟨y31, hd⟩ := hd
    obtain ⟨y32, hd⟩ := hd
    obtain ⟨y33, hd⟩ := hd
    obtain ⟨y34, hd⟩ := hd
    obtain ⟨y35, hd⟩ := hd
    obtain ⟨y36, hd⟩ := hd
    obtain ⟨y37, hd⟩ := hd
    obtain ⟨y38, hd⟩ := hd
    obtain ⟨y39, hd⟩ := hd
    obtain ⟨y40, hd⟩ := hd
    obtain ⟨y41, hd⟩ := hd
    obtain ⟨y42, hd⟩ := hd
    obtain ⟨y43, hd⟩ := hd
    obtain ⟨y44, hd⟩ := hd
    obtain ⟨y45, hd⟩ := hd
    obtain ⟨y46, hd⟩ := hd
    obtain ⟨y47, hd⟩ := hd
    obtain ⟨y48, hd⟩ := hd
    obtain ⟨y49, hd⟩ := hd
    obtain ⟨y50, hd⟩ := hd
    obtain ⟨y51, hd⟩ := hd
    obtain ⟨y52, hd⟩ := hd
    obtain ⟨y53, hd⟩ := hd
    obtain ⟨y54, hd⟩ := hd
    obtain ⟨y55, hd⟩ := hd
    obtain ⟨y56, hd⟩ := hd
    obtain ⟨y57, hd⟩ := hd
    obtain ⟨y58, hd⟩ := hd
    obtain ⟨y59, hd⟩ := hd
    obtain ⟨y60, hd⟩ := hd
    obtain ⟨y61, hd⟩ := hd
    obtain ⟨y62, hd⟩ := hd
    obtain ⟨y63, hd⟩ := hd
    obtain ⟨y64, hd⟩ := hd
    obtain ⟨y65, hd⟩ := hd
    obtain ⟨y66, hd⟩ := hd
    obtain ⟨y67, hd⟩ := hd
    obtain ⟨y68, hd⟩ := hd
    obtain ⟨y69, hd⟩ := hd
    obtain ⟨y70, hd⟩ := hd
    obtain ⟨y71, hd⟩ := hd
    obtain ⟨y72, hd⟩ := hd
    obtain ⟨y73, hd⟩ := hd
    obtain ⟨y74, hd⟩ := hd
    obtain ⟨y75, hd⟩ := hd
    obtain ⟨y76, hd⟩ := hd
    obtain ⟨y77, hd⟩ := hd
    obtain ⟨y78, hd⟩ := hd
    obtain ⟨y79, hd⟩ := hd
    obtain ⟨y80, hd⟩ := hd
    obtain ⟨y81, hd⟩ := hd
    obtain ⟨y82, hd⟩ := hd
    obtain ⟨y83, hd⟩ := hd
    obtain ⟨y84, hd⟩ := hd
    obtain ⟨y85, hd⟩ := hd
    obtain ⟨y86, hd⟩ := hd
    obtain ⟨y87, hd⟩ := hd
    obtain ⟨y88, hd⟩ := hd
    obtain ⟨y89, hd⟩ := hd
    obtain ⟨y90, hd⟩ := hd
    obtain ⟨y91, hd⟩ := hd
    obtain ⟨y92, hd⟩ := hd
    obtain ⟨y93, hd⟩ := hd
    obtain ⟨y94, hd⟩ := hd
    obtain ⟨y95, hd⟩ := hd
    obtain ⟨y96, hd⟩ := hd
    obtain ⟨y97, hd⟩ := hd
    obtain ⟨y98, hd⟩ := hd
    obtain ⟨y99, hd⟩ := hd
    obtain ⟨y100, hd⟩ := hd
    obtain ⟨y101, hd⟩ := hd
    obtain ⟨y102, hd⟩ := hd
    obtain ⟨y103, hd⟩ := hd
    obtain ⟨y104, hd⟩ := hd
    obtain ⟨y105, hd⟩ := hd
    obtain ⟨y106, hd⟩ := hd
    obtain ⟨y107, hd⟩ := hd
    obtain ⟨y108, hd⟩ := hd
    obtain ⟨y109, hd⟩ := hd
    obtain ⟨y110, hd⟩ := hd
    obtain ⟨y111, hd⟩ := hd
    obtain ⟨y112, hd⟩ := hd
    obtain ⟨y113, hd⟩ := hd
    obtain ⟨y114, hd⟩ := hd
    obtain ⟨y115, hd⟩ := hd
    obtain ⟨y116, hd⟩ := hd
    obtain ⟨y117, hd⟩ := hd
    obtain ⟨y118, hd⟩ := hd
    obtain ⟨y119, hd⟩ := hd
    obtain ⟨y120, hd⟩ := hd
    obtain ⟨y121, hd⟩ := hd
    obtain ⟨y122, hd⟩ := hd
    obtain ⟨y123, hd⟩ := hd
    obtain ⟨y124, hd⟩ := hd
    obtain ⟨y125, hd⟩ := hd
    obtain ⟨y126, hd⟩ := hd
    obtain ⟨y127, hd⟩ := hd
    obtain ⟨y128, hd⟩ := hd
    obtain ⟨y129, hd⟩ := hd
    obtain ⟨y130, hd⟩ := hd
    obtain ⟨y131, hd⟩ := hd
    obtain ⟨y132, hd⟩ := hd
    obtain ⟨y133, hd⟩ := hd
    obtain ⟨y134, hd⟩ := hd
    obtain ⟨y135, hd⟩ := hd
    obtain ⟨y136, hd⟩ := hd
    obtain ⟨y137, hd⟩ := hd
    obtain ⟨y138, hd⟩ := hd
    obtain ⟨y139, hd⟩ := hd
    obtain ⟨y140, hd⟩ := hd
    obtain ⟨y141, hd⟩ := hd
    obtain ⟨y142, hd⟩ := hd
    obtain ⟨y143, hd⟩ := hd
    obtain ⟨y144, hd⟩ := hd
    obtain ⟨y145, hd⟩ := hd
    obtain ⟨y146, hd⟩ := hd
    obtain ⟨y147, hd⟩ := hd
    obtain ⟨y148, hd⟩ := hd
    obtain ⟨y149, hd⟩ := hd
    obtain ⟨y150, hd⟩ := hd
    obtain ⟨y151, hd⟩ := hd
    obtain ⟨y152, hd⟩ := hd
    obtain ⟨y153, hd⟩ := hd
    obtain ⟨y154, hd⟩ := hd
    obtain ⟨y155, hd⟩ := hd
    obtain ⟨y156, hd⟩ := hd
    obtain ⟨y157, hd⟩ := hd
    obtain ⟨y158, hd⟩ := hd
    obtain ⟨y159, hd⟩ := hd
    obtain ⟨y160, hd⟩ := hd
    obtain ⟨y161, hd⟩ := hd
    obtain ⟨y162, hd⟩ := hd
    obtain ⟨y163, hd⟩ := hd
    obtain ⟨y164, hd⟩ := hd
    obtain ⟨y165, hd⟩ := hd
    obtain ⟨y166, hd⟩ := hd
    obtain ⟨y167, hd⟩ := hd
    obtain ⟨y168, hd⟩ := hd
    obtain ⟨y169, hd⟩ := hd
    obtain ⟨y170, hd⟩ := hd
    obtain ⟨y171, hd⟩ := hd
    obtain ⟨y172, hd⟩ := hd
    obtain ⟨y173, hd⟩ := hd
    obtain ⟨y174, hd⟩ := hd
    obtain ⟨y175, hd⟩ := hd
    obtain ⟨y176, hd⟩ := hd
    obtain ⟨y177, hd⟩ := hd
    obtain ⟨y178, hd⟩ := hd
    obtain ⟨y179, hd⟩ := hd
    obtain ⟨y180, hd⟩ := hd
    obtain ⟨y181, hd⟩ := hd
    obtain ⟨y182, hd⟩ := hd
    obtain ⟨y183, hd⟩ := hd
    obtain ⟨y184, hd⟩ := hd
    obtain ⟨y185, hd⟩ := hd
    obtain ⟨y186, hd⟩ := hd
    obtain ⟨y187, hd⟩ := hd
    obtain ⟨y188, hd⟩ := hd
    obtain ⟨y189, hd⟩ := hd
    obtain ⟨y190, hd⟩ := hd
    obtain ⟨y191, hd⟩ := hd
    obtain ⟨y192, hd⟩ := hd
    obtain ⟨y193, hd⟩ := hd
    obtain ⟨y194, hd⟩ := hd
    obtain ⟨y195, hd⟩ := hd
    obtain ⟨y196, hd⟩ := hd
    obtain ⟨y197, hd⟩ := hd
    obtain ⟨y198, hd⟩ := hd
    obtain ⟨y199, hd⟩ := hd
    obtain ⟨y200, hd⟩ := hd
    obtain ⟨y201, hd⟩ := hd
    obtain ⟨y202, hd⟩ := hd
    obtain ⟨y203, hd⟩ := hd
    obtain ⟨y204, hd⟩ := hd
    obtain ⟨y205, hd⟩ := hd
    obtain ⟨y206, hd⟩ := hd
    obtain ⟨y207, hd⟩ := hd
    obtain ⟨y208, hd⟩ := hd
    obtain ⟨y209, hd⟩ := hd
    obtain ⟨y210, hd⟩ := hd
    obtain ⟨y211, hd⟩ := hd
    obtain ⟨y212, hd⟩ := hd
    obtain ⟨y213, hd⟩ := hd
    obtain ⟨y214, hd⟩ := hd
    obtain ⟨y215, hd⟩ := hd
    obtain ⟨y216, hd⟩ := hd
    obtain ⟨y217, hd⟩ := hd
    obtain ⟨y218, hd⟩ := hd
    obtain ⟨y219, hd⟩ := hd
    obtain ⟨y220, hd⟩ := hd
    obtain ⟨y221, hd⟩ := hd
    obtain ⟨y222, hd⟩ := hd
    obtain ⟨y223, hd⟩ := hd
    obtain ⟨y224, hd⟩ := hd
    obtain ⟨y225, hd⟩ := hd
    obtain ⟨y226, hd⟩ := hd
    obtain ⟨y227, hd⟩ := hd
    obtain ⟨y228, hd⟩ := hd
    obtain ⟨y229, hd⟩ := hd
    obtain ⟨y230, hd⟩ := hd
    obtain ⟨y231, hd⟩ := hd
    obtain ⟨y232, hd⟩ := hd
    obtain ⟨y233, hd⟩ := hd
    obtain ⟨y234, hd⟩ := hd
    obtain ⟨y235, hd⟩ := hd
    obtain ⟨y236, hd⟩ := hd
    obtain ⟨y237, hd⟩ := hd
    obtain ⟨y238, hd⟩ := hd
    obtain ⟨y239, hd⟩ := hd
    obtain ⟨y240, hd⟩ := hd
    obtain ⟨y241, hd⟩ := hd
    obtain ⟨y242, hd⟩ := hd
    obtain ⟨y243, hd⟩ := hd
    obtain ⟨y244, hd⟩ := hd
    obtain ⟨y245, hd⟩ := hd
    obtain ⟨y246, hd⟩ := hd
    obtain ⟨y247, hd⟩ := hd
    obtain ⟨y248, hd⟩ := hd
    obtain ⟨y249, hd⟩ := hd
    obtain ⟨y250, hd⟩ := hd
    obtain ⟨y251, hd⟩ := hd
    obtain ⟨y252, hd⟩ := hd
    obtain ⟨y253, hd⟩ := hd
    obtain ⟨y254, hd⟩ := hd
    obtain ⟨y255, hd⟩ := hd
    obtain ⟨y256, hd⟩ := hd
    obtain ⟨y257, hd⟩ := hd
    obtain ⟨y258, hd⟩ := hd
    obtain ⟨y259, hd⟩ := hd
    obtain ⟨y260, hd⟩ := hd
    obtain ⟨y261, hd⟩ := hd
    obtain ⟨y262, hd⟩ := hd
    obtain ⟨y263, hd⟩ := hd
    obtain ⟨y264, hd⟩ := hd
    obtain ⟨y265, hd⟩ := hd
    obtain ⟨y266, hd⟩ := hd
    obtain ⟨y267, hd⟩ := hd
    obtain ⟨y268, hd⟩ := hd
    obtain ⟨y269, hd⟩ := hd
    obtain ⟨y270, hd⟩ := hd
    obtain ⟨y271, hd⟩ := hd
    obtain ⟨y272, hd⟩ := hd
    obtain ⟨y273, hd⟩ := hd
    obtain ⟨y274, hd⟩ := hd
    obtain ⟨y275, hd⟩ := hd
    obtain ⟨y276, hd⟩ := hd
    obtain ⟨y277, hd⟩ := hd
    obtain ⟨y278, hd⟩ := hd
    obtain ⟨y279, hd⟩ := hd
    obtain ⟨y280, hd⟩ := hd
    obtain ⟨y281, hd⟩ := hd
    obtain ⟨y282, hd⟩ := hd
    obtain ⟨y283, hd⟩ := hd
    obtain ⟨y284, hd⟩ := hd
    obtain ⟨y285, hd⟩ := hd
    obtain ⟨y286, hd⟩ := hd
    obtain ⟨y287, hd⟩ := hd
    obtain ⟨y288, hd⟩ := hd
    obtain ⟨y289, hd⟩ := hd
    obtain ⟨y290, hd⟩ := hd
    obtain ⟨y291, hd⟩ := hd
    obtain ⟨y292, hd⟩ := hd
    obtain ⟨y293, hd⟩ := hd
    obtain ⟨y294, hd⟩ := hd
    obtain ⟨y295, hd⟩ := hd
    obtain ⟨y296, hd⟩ := hd
    obtain ⟨y297, hd⟩ := hd
    obtain ⟨y298, hd⟩ := hd
    obtain ⟨y299, hd⟩ := hd
    obtain ⟨y300, hd⟩ := hd
    obtain ⟨y301, hd⟩ := hd
    obtain ⟨y302, hd⟩ := hd
    obtain ⟨y303, hd⟩ := hd
    obtain ⟨y304, hd⟩ := hd
    obtain ⟨y305, hd⟩ := hd
    obtain ⟨y306, hd⟩ := hd
    subst hd
    have HPAT := Lib.hid hpat
    clear hpat
    go_wp2_with fail
    simp only [Exit.jump]
    go_ret
    exact ⟨_, rfl, HPAT.out.pats, HPAT.out.ch⟩

end Go.Proofs.YtkbdngcbifonkaaFmt
