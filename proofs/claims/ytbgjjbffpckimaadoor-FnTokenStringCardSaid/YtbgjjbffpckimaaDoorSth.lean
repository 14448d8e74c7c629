/-
  laws.FnTokenString gives true for every text, and the text and the two tables of the scanner read behind the call as they did.
  Its condition: the package variables that the row lists hold what the program's own text lays (the tied card).
-/
import Derived.Test.YtbgjjbffpckimaaDoorStw
import Derived.Test.YtbgjjbffpckimaaDoorCards
import Derived.Stop.Joined
import Derived.Carry
import Derived.ChangeOld
import Derived.ChangeVars
import Derived.OpenShut
import Derived.SevenTiedAt
import Derived.ProofKit
import Derived.Below
import Derived.ChangeSame
namespace Go.Proofs.YtbgjjbffpckimaaDoor
set_option linter.all false
open Go.ChangeShapes Go.WideShapes Go.ChangeAt Go.WideMaps Go.WideElems Go.RowKit
open Go.ChangeMaps (open_string shut_string)

theorem Tryd.ownKnob : ownKnob Tryd.prog.godebug = none := by kernel_rfl
theorem Tryd.outB : laidOutB Tryd.prog = true := by kernel_rfl
theorem door_met (os : Os) (args : Array Value) : laidMetH Tryd.prog lad ((World.doorLaid Tryd.prog 277 os).forCall (fun _ _ => 0) ⟨#[], args, []⟩).memory :=
  laidMetH_of_parts3 (fuel := 8) (laidMet_of_run' 8 (by kernel_rfl) (by kernel_rfl)) (by kernel_rfl) (by kernel_rfl)

theorem Tryd.rd68 : Tryd.prog.readableRec 68 = true := by kernel_rfl
theorem Tryd.rd91 : Tryd.prog.readableRec 91 = true := by kernel_rfl
theorem Tryd.lt68 : 68 < Tryd.prog.types.size := of_decide_eq_true (by kernel_rfl)
theorem Tryd.lt91 : 91 < Tryd.prog.types.size := of_decide_eq_true (by kernel_rfl)
theorem var_below {P : Program} {W W' : World} (hb : Below W.heap.size W W') {n : String} {g : Nat} {cs : Array Value} (hg : P.globalNamed n = some g) (h : W.var? P n = some cs) : W'.var? P n = some cs := by
  unfold World.var? at h ⊢
  rw [hg] at h ⊢
  simp only [Option.bind_some] at h ⊢
  have hl : g < W.heap.size := by
    cases hh : W.heap[g]? with
    | none => rw [hh] at h; cases h
    | some o => exact (Array.getElem?_eq_some_iff.1 hh).1
  rw [hb.block g hl]
  exact h
theorem trod_below {H : Type} {enc : TypeId × Value → H} {W W' : World} (hb : Below W.heap.size W W') {t : TypeId} (hr : Tryd.prog.readableRec t = true) (hrow : t < Tryd.prog.types.size) {f : Nat} {cs : List Value} {x : DataW H × List MemPlace}
    (h : DataW.trod enc Tryd.prog W 0 (fun _ => true) true f t cs = some x) (hlt : ∀ p ∈ x.2, p.block < W.heap.size) {sp : Nat → Bool} (hs : ∀ p ∈ x.2, sp p.block = true) : DataW.trod enc Tryd.prog W' 0 sp true f t cs = some x :=
  DataW.trod_stays (kids_book Tryd.outB hr) (book_sized hr) (fun h => by cases h) ⟨hrow, book_self t⟩ h (fun p hp => hb.same (hlt p hp)) hs
/-- The two variables read as before. -/
theorem vars_below {H : Type} {enc : TypeId × Value → H} {W W' : World} (hb : Below W.heap.size W W') {gs : List (DataW H)} {q : List MemPlace}
    (hV : DataW.TrodVars enc Tryd.prog W (fun _ => true) ["loop.example/pub-g01442/pub/lua/parse.reservedWords", "loop.example/pub-g01442/pub/lua/parse.yyToknames"] gs q) :
    (∃ g1 g2, gs = [g1, g2]) ∧ ∀ sp : Nat → Bool, (∀ p ∈ q, sp p.block = true) → DataW.TrodVars enc Tryd.prog W' sp ["loop.example/pub-g01442/pub/lua/parse.reservedWords", "loop.example/pub-g01442/pub/lua/parse.yyToknames"] gs q := by
  have hlt := hV.lt
  obtain ⟨g0, t0, cs0, f0, d0, p0, g1, t1, cs1, f1, d1, p1, rfl, hg0, ht0, hv0, hd0, hg1, ht1, hv1, hd1, rfl⟩ := trodVars_two hV
  refine ⟨⟨d0, d1, rfl⟩, fun sp hsp => ?_⟩
  obtain rfl := Option.some.inj (Tryd.gKw.symm.trans hg0)
  obtain rfl := Option.some.inj (Tryd.gYy.symm.trans hg1)
  obtain rfl := Option.some.inj (Tryd.gKwT.symm.trans ht0)
  obtain rfl := Option.some.inj (Tryd.gYyT.symm.trans ht1)
  refine ⟨0, 68, cs0, f0, p0, _, hg0, ht0, var_below hb hg0 hv0, trod_below hb Tryd.rd68 Tryd.lt68 hd0 (fun p hp => hlt p (by simp [hp])) (fun p hp => hsp p (by simp [hp])), ?_, rfl⟩
  exact ⟨1, 91, cs1, f1, p1, [], hg1, ht1, var_below hb hg1 hv1, trod_below hb Tryd.rd91 Tryd.lt91 hd1 (fun p hp => hlt p (by simp [hp])) (fun p hp => hsp p (by simp [hp])), rfl, by simp⟩

set_option maxRecDepth 100000 in
theorem string_lifted (os : Os) (started : os.Started) (H : Type) (enc : TypeId × Value → H) :
    ReturnsInHanded {} Tryd.checked os 4 .any (fun w args => (Rows.fnTokenStringSpec.pre enc Tryd.prog Tryd.f4 [] false w args ∧ laidMetH Tryd.prog lad w) ∧ sizedMet enc Tryd.prog Tryd.f4 (OpenSpec.ofChange Rows.fnTokenStringSpec) false w args)
      (Rows.fnTokenStringSpec.post enc Tryd.prog Tryd.f4 false true false false) := by
  refine returnsInHanded_of_change_and (C := Tryd.checked) (X := fun w _ => laidMetH Tryd.prog lad w) (fun _ _ _ hh h => h.of_heap hh) Tryd.ownKnob started (by kernel_rfl) Tryd.func4
    (ChangeSpec.witness_shaped (enc := enc) (C := Tryd.checked) (os := os) (X := fun w _ => laidMetH Tryd.prog lad w) false (World.doorLaid Tryd.prog 277 os) #[.string ⟨#[]⟩] 8 rfl (World.shaped_of_RefB (by kernel_rfl) (by kernel_rfl)) (by kernel_rfl) (by kernel_rfl) (by kernel_rfl) (door_met os _)) ?_
  intro W base args ds gs before hval0 hW _ _ hL _
  have hval : ∀ (j : Nat) t v, Tryd.f4.params[j]? = some t → args[j]? = some v → Value.okWide Tryd.prog W .any base t v := hval0
  have hW' := hW
  obtain ⟨p, q, hA0, hV, rfl, hfz, hnd⟩ := hW
  have hA : DataW.TrodAll enc Tryd.prog W 0 (fun _ => true) true Tryd.f4.params.toList args.toList ds p := hA0
  rw [Tryd.params4] at hA hval
  obtain ⟨v0, d0, rfl, rfl, h0⟩ := trodAll_one hA
  obtain ⟨s, rfl, rfl, rfl, ws⟩ := open_string Tryd.underlying9 (hval 0 9 v0 rfl rfl) h0
  obtain ⟨E, bm, obj, hwld⟩ := of_lad hL
  clear hA0 hval0
  refine (fnString_calls (Lib.hid hwld)).mono fun e W' ⟨he, hch⟩ => ?_
  subst he
  have hb : Below W.heap.size W W' := hch.below (Nat.le_refl _) (fun _ _ => id)
  obtain ⟨⟨g1, g2, rfl⟩, hvs⟩ := vars_below hb hV
  refine ⟨_, rfl, _, _, _, [], [], q, hW', ?_, ?_, hvs _ (fun p hp => by simpa using hV.lt p hp), hb.frame _, fun h => by cases h⟩
  · exact trodAll_mk1 (shut_bool Tryd.underlying4 true)
  · exact trodAll_mk1 (shut_string Tryd.underlying9 ws)

theorem string_holds : Rows.FnTokenStringSaid :=
  OpenClaim.holds_of_wide 4 Tryd.f4 rfl rfl rfl rfl rfl rfl rfl ⟨rfl, rfl, rfl, rfl, rfl⟩ rfl rfl rfl rfl rfl (by kernel_rfl) Tryd.func4 (by kernel_rfl)
    (of_decide_eq_true (by kernel_rfl)) (by unfold Func.isWrapper; first | (rw [if_pos (by decide +kernel)]; kernel_rfl) | (rw [if_neg (by decide +kernel)]; exact ⟨rfl, rfl⟩))
    (fun os started H enc _ => string_lifted os started H enc)

theorem string_card : Rows.FnTokenStringCardSaid :=
  Claim7.holds_tied_plain_at .later [] [.data, .data, .data, .sentinel, .sentinel, .sentinel, .sentinel, .sentinel, .sentinel, .sentinel, .mapped, .data] true (true, "e1681348b8b2bfb2d7a300b7e89fc2bcbf7b0f348a797c8b7b37d1286e38b61a") true
    string_holds (fun _ h => by cases h) (by kernel_rfl) (fun _ h => by cases h) fnTokenString_row_tie rfl ⟨rfl, rfl⟩ (by kernel_rfl) rfl
    (fun f fn hf hfn => by
      obtain rfl : f = 4 := Option.some.inj ((show Tryd.prog.funcNamed "loop.example/pub-g01442/laws.FnTokenString" = some 4 by kernel_rfl).symm.trans hf) |>.symm
      obtain rfl : fn = Tryd.f4 := (Option.some.inj (Tryd.func4.symm.trans hfn)).symm
      exact ⟨by kernel_rfl, fun j t ht => by
        rw [Tryd.params4] at ht
        have hm : t ∈ [9] := by simpa using Array.mem_of_getElem? ht
        have hall : ([9].all fun u => !Tryd.prog.wantsStandIn u) = true := by kernel_rfl
        exact (show Tryd.prog.wantsStandIn t = false by simpa using List.all_eq_true.1 hall t hm)⟩)
    (by kernel_rfl)
#print axioms string_card
end Go.Proofs.YtbgjjbffpckimaaDoor
