/-
  laws.FnTokenComment gives true for every text and every level, and the input and the two tables of the scanner read behind the call as they did.
  Its condition: the package variables that the row lists hold what the program's own text lays (the tied card).
-/
import Derived.Test.YtbgjjbffpckimaaGreatDoorQu
import Derived.Test.YtbgjjbffpckimaaGreatDoorQo
import Derived.Test.YtbgjjbffpckimaaGreatDoorCards
namespace Go.Proofs.YtbgjjbffpckimaaGreatDoor
set_option linter.all false
open Go.ChangeShapes Go.WideShapes Go.ChangeAt Go.WideMaps Go.WideElems Go.RowKit
open Go.ChangeMaps (open_string shut_string)

set_option maxRecDepth 100000 in
theorem comment_lifted (os : Os) (started : os.Started) (H : Type) (enc : TypeId × Value → H) :
    ReturnsInHanded {} Tryz.checked os 3 .any (fun w args => (Rows.fnTokenCommentSpec.pre enc Tryz.prog Tryz.f3 [] false w args ∧ laidMetH Tryz.prog lad w) ∧ sizedMet enc Tryz.prog Tryz.f3 (OpenSpec.ofChange Rows.fnTokenCommentSpec) false w args)
      (Rows.fnTokenCommentSpec.post enc Tryz.prog Tryz.f3 false true false false) := by
  refine returnsInHanded_of_change_and (C := Tryz.checked) (X := fun w _ => laidMetH Tryz.prog lad w) (fun _ _ _ hh h => h.of_heap hh) Tryz.ownKnob started (by kernel_rfl) Tryz.func3
    (ChangeSpec.witness_shaped (enc := enc) (C := Tryz.checked) (os := os) (X := fun w _ => laidMetH Tryz.prog lad w) false (World.doorLaid Tryz.prog 277 os) #[.string ⟨#[]⟩, .int .i64 0] 8 rfl (World.shaped_of_RefB (by kernel_rfl) (by kernel_rfl)) (by kernel_rfl) (by kernel_rfl) (by kernel_rfl) (door_met os _)) ?_
  intro W base args ds gs before hval0 hW _ _ hL _
  have hval : ∀ (j : Nat) t v, Tryz.f3.params[j]? = some t → args[j]? = some v → Value.okWide Tryz.prog W .any base t v := hval0
  have hW' := hW
  obtain ⟨p, q, hA0, hV, rfl, hfz, hnd⟩ := hW
  have hA : DataW.TrodAll enc Tryz.prog W 0 (fun _ => true) true Tryz.f3.params.toList args.toList ds p := hA0
  rw [Tryz.params3] at hA hval
  obtain ⟨v0, v1, d0, d1, p0, p1, rfl, rfl, rfl, h0, h1⟩ := trodAll_two hA
  obtain ⟨s, rfl, rfl, rfl, ws⟩ := open_string Tryz.underlying9 (hval 0 9 v0 rfl rfl) h0
  obtain ⟨s2, rfl, rfl, rfl, ws2⟩ := open_int Tryz.underlying3 (hval 1 3 v1 rfl rfl) h1
  obtain ⟨E, bm, obj, hwld⟩ := of_lad hL
  clear hA0 hval0
  refine (fnComment_calls (Lib.hid hwld)).mono fun e W' ⟨he, hch⟩ => ?_
  subst he
  have hb : Below W.heap.size W W' := hch.below (Nat.le_refl _) (fun _ _ => id)
  obtain ⟨⟨g1, g2, rfl⟩, hvs⟩ := vars_below hb hV
  refine ⟨_, rfl, _, _, _, [], [], q, hW', ?_, ?_, hvs _ (fun p hp => by simpa using hV.lt p hp), hb.frame _, fun h => by cases h⟩
  · exact trodAll_mk1 (shut_bool Tryz.underlying4 true)
  · exact trodAll_mk2 (shut_string Tryz.underlying9 ws) (shut_int Tryz.underlying3 ws2)

theorem comment_holds : Rows.FnTokenCommentSaid :=
  OpenClaim.holds_of_wide 3 Tryz.f3 rfl rfl rfl rfl rfl rfl rfl ⟨rfl, rfl, rfl, rfl, rfl⟩ rfl rfl rfl rfl rfl (by kernel_rfl) Tryz.func3 (by kernel_rfl)
    (of_decide_eq_true (by kernel_rfl)) (by unfold Func.isWrapper; first | (rw [if_pos (by decide +kernel)]; kernel_rfl) | (rw [if_neg (by decide +kernel)]; exact ⟨rfl, rfl⟩))
    (fun os started H enc _ => comment_lifted os started H enc)

theorem comment_card : Rows.FnTokenCommentCardSaid :=
  Claim7.holds_tied_plain_at .later [] [.data, .data, .data, .sentinel, .sentinel, .sentinel, .sentinel, .sentinel, .sentinel, .sentinel, .mapped, .data] true (true, "1e318d33efc8e66f2f98dd01a229c6b403932e2980d8c2baf22c38025c2cffd9") true
    comment_holds (fun _ h => by cases h) (by kernel_rfl) (fun _ h => by cases h) fnTokenComment_row_tie rfl ⟨rfl, rfl⟩ (by kernel_rfl) rfl
    (fun f fn hf hfn => by
      obtain rfl : f = 3 := Option.some.inj ((show Tryz.prog.funcNamed "loop.example/pub-g01442/laws.FnTokenComment" = some 3 by kernel_rfl).symm.trans hf) |>.symm
      obtain rfl : fn = Tryz.f3 := (Option.some.inj (Tryz.func3.symm.trans hfn)).symm
      exact ⟨by kernel_rfl, fun j t ht => by
        rw [Tryz.params3] at ht
        have hm : t ∈ [9, 3] := by simpa using Array.mem_of_getElem? ht
        have hall : ([9, 3].all fun u => !Tryz.prog.wantsStandIn u) = true := by kernel_rfl
        exact (show Tryz.prog.wantsStandIn t = false by simpa using List.all_eq_true.1 hall t hm)⟩)
    (by kernel_rfl)
#print axioms comment_card
end Go.Proofs.YtbgjjbffpckimaaGreatDoor
