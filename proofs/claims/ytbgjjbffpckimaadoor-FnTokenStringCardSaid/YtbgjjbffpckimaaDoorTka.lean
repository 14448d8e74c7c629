/-
  The scanner's tables, a token's block, TokenName; a scope with several labels.
-/
import Derived.Test.YtbgjjbffpckimaaDoorCom
namespace Go.Proofs.YtbgjjbffpckimaaDoor
set_option linter.all false
open Go.RowKit

/-- The types of the keywords. -/
def kwTab : List (Bs × Int) := [([97, 110, 100], 57346), ([98, 114, 101, 97, 107], 57347), ([100, 111], 57348), ([101, 108, 115, 101], 57349), ([101, 108, 115, 101, 105, 102], 57350), ([101, 110, 100], 57351), ([102, 97, 108, 115, 101], 57352), ([102, 111, 114], 57353), ([102, 117, 110, 99, 116, 105, 111, 110], 57354), ([105, 102], 57355), ([105, 110], 57356), ([108, 111, 99, 97, 108], 57357), ([110, 105, 108], 57358), ([110, 111, 116], 57359), ([111, 114], 57360), ([114, 101, 116, 117, 114, 110], 57361), ([114, 101, 112, 101, 97, 116], 57362), ([116, 104, 101, 110], 57363), ([116, 114, 117, 101], 57364), ([117, 110, 116, 105, 108], 57365), ([119, 104, 105, 108, 101], 57366), ([103, 111, 116, 111], 57367)]
def kwOf (s : Bs) : Int × Bool := match kwTab.lookup s with
  | some v => (v, true)
  | none => (0, false)

/-- The tables of the scanner: reserved words (as the map's look-up tells them), the tokens' names. -/
structure Tab (w : World) (bm : Nat) (obj : Obj) : Prop where
  g0 : w.cell? ⟨0, 0, none⟩ = some (.map (some bm))
  ob : w.heap[bm]? = some obj
  yy : ∀ k : Nat, k < 56 → ∃ t : ByteArray, w.cell? ⟨1, k, none⟩ = some (.string t) ∧ t.toList.isEmpty = false
  look : ∀ (s : Bs) (W : World), W.heap[bm]? = some obj → (Instr.lookup 68 (.map (some bm)) (.string ⟨s.toArray⟩) true).run Tryd.prog W = .ok (.tuple #[.int .i64 (kwOf s).1, .bool (kwOf s).2]) W

/-- A token's block. -/
structure TokAt (w : World) (T : Nat) (ty : Int) (nm st so : ByteArray) (ln cl : Int) : Prop where
  c0 : w.cell? ⟨T, 0, none⟩ = some (.int .i64 ty)
  c1 : w.cell? ⟨T, 1, none⟩ = some (.string nm)
  c2 : w.cell? ⟨T, 2, none⟩ = some (.string st)
  c3 : w.cell? ⟨T, 3, none⟩ = some (.string so)
  c4 : w.cell? ⟨T, 4, none⟩ = some (.int .i64 ln)
  c5 : w.cell? ⟨T, 5, none⟩ = some (.int .i64 cl)
  fz : ∀ j, w.frozen? ⟨T, j, none⟩ = false

section
variable {w w' : World} {T : Nat} {ty : Int} {nm st so : ByteArray} {ln cl : Int}
theorem TokAt.keep {U : Nat → Prop} (h : TokAt w T ty nm st so ln cl) (hc : Ch U w w') (hU : ¬ U T) : TokAt w' T ty nm st so ln cl :=
  ⟨hc.cell_some h.c0 hU, hc.cell_some h.c1 hU, hc.cell_some h.c2 hU, hc.cell_some h.c3 hU, hc.cell_some h.c4 hU, hc.cell_some h.c5 hU, fun j => (hc.frozen (p := ⟨T, j, none⟩) (show T < w.heap.size from World.block_lt_of_cell? w _ h.c0) hU).trans (h.fz j)⟩
theorem TokAt.lt (h : TokAt w T ty nm st so ln cl) : T < w.heap.size := World.block_lt_of_cell? w _ h.c0
theorem TokAt.set0 (h : TokAt w T ty nm st so ln cl) (v : Int) : TokAt (w.setCell ⟨T, 0, none⟩ (.int .i64 v)) T v nm st so ln cl :=
  ⟨cs h.c0, co h.c1 (addr_ne (by decide)), co h.c2 (addr_ne (by decide)), co h.c3 (addr_ne (by decide)), co h.c4 (addr_ne (by decide)), co h.c5 (addr_ne (by decide)), fun j => by rw [World.frozen?_setCell]; exact h.fz j⟩
theorem TokAt.set1 (h : TokAt w T ty nm st so ln cl) (v : ByteArray) : TokAt (w.setCell ⟨T, 1, none⟩ (.string v)) T ty v st so ln cl :=
  ⟨co h.c0 (addr_ne (by decide)), cs h.c1, co h.c2 (addr_ne (by decide)), co h.c3 (addr_ne (by decide)), co h.c4 (addr_ne (by decide)), co h.c5 (addr_ne (by decide)), fun j => by rw [World.frozen?_setCell]; exact h.fz j⟩
theorem TokAt.set2 (h : TokAt w T ty nm st so ln cl) (v : ByteArray) : TokAt (w.setCell ⟨T, 2, none⟩ (.string v)) T ty nm v so ln cl :=
  ⟨co h.c0 (addr_ne (by decide)), co h.c1 (addr_ne (by decide)), cs h.c2, co h.c3 (addr_ne (by decide)), co h.c4 (addr_ne (by decide)), co h.c5 (addr_ne (by decide)), fun j => by rw [World.frozen?_setCell]; exact h.fz j⟩
theorem TokAt.pos (h : TokAt w T ty nm st so ln cl) (s' : ByteArray) (l' c' : Int) : TokAt (((w.setCell ⟨T, 3, none⟩ (.string s')).setCell ⟨T, 4, none⟩ (.int .i64 l')).setCell ⟨T, 5, none⟩ (.int .i64 c')) T ty nm st s' l' c' := by
  have d : ∀ {j k : Nat}, ¬ j = k → ¬ (⟨T, j, none⟩ : Addr) = ⟨T, k, none⟩ := fun e => addr_ne e
  exact ⟨co (co (co h.c0 (d (by decide))) (d (by decide))) (d (by decide)), co (co (co h.c1 (d (by decide))) (d (by decide))) (d (by decide)), co (co (co h.c2 (d (by decide))) (d (by decide))) (d (by decide)), co (co (cs h.c3) (d (by decide))) (d (by decide)), co (cs (co h.c4 (d (by decide)))) (d (by decide)), cs (co (co h.c5 (d (by decide))) (d (by decide))), fun j => by rw [World.frozen?_setCell, World.frozen?_setCell, World.frozen?_setCell]; exact h.fz j⟩
theorem TokAt.fresh (w : World) : TokAt (w.alloc (.cells #[.int .i64 0, .string ⟨#[]⟩, .string ⟨#[]⟩, .string ⟨#[]⟩, .int .i64 0, .int .i64 0] 42)) w.heap.size 0 ⟨#[]⟩ ⟨#[]⟩ ⟨#[]⟩ 0 0 := by
  refine ⟨?_, ?_, ?_, ?_, ?_, ?_, fun j => ?_⟩ <;> simp [World.cell?_alloc_new, World.frozen?_alloc_new]
theorem Tab.keep {U : Nat → Prop} {bm : Nat} {obj : Obj} (h : Tab w bm obj) (hc : Ch U w w') (h0 : ¬ U 0) (h1 : ¬ U 1) (hb : ¬ U bm) : Tab w' bm obj :=
  ⟨hc.cell_some h.g0 h0, (hc.block bm (Array.getElem?_eq_some_iff.1 h.ob).1 hb).trans h.ob, fun k hk => by
    obtain ⟨t, ht, he⟩ := h.yy k hk
    exact ⟨t, hc.cell_some ht h1, he⟩, h.look⟩
end

set_option maxRecDepth 100000 in
set_option maxHeartbeats 4000000 in
theorem tokName_big {w : World} {c : Int} {t : ByteArray} (h0 : 57346 ≤ c) (h1 : c < 57402) (hc : w.cell? ⟨1, (c - 57346).toNat, none⟩ = some (.string t)) (ht : t.toList.isEmpty = false) :
    Calls Tryd.prog 28 #[.int .i64 c] w fun e w' => e = .returned (.string t) ∧ w' = w := by
  have g1 : c ≥ 57346 := h0
  have hw : IntKind.i64.wrap (c - 57346) = c - 57346 := by rw [IntKind.wrap_i64]; omega
  have g2 : c - 57346 < 56 := by omega
  have g3 : 0 ≤ c - 57346 := by omega
  go_enter Tryd.func28, Tryd.ntmps28
  go_wp2_with fail
  go_ret
  exact ⟨rfl, rfl⟩

set_option maxRecDepth 100000 in
set_option maxHeartbeats 4000000 in
theorem tokName_small {w : World} {c : Int} (h0 : c < 57346) : Calls Tryd.prog 28 #[.int .i64 c] w fun e w' => (∃ t, e = .returned (.string t)) ∧ Ch (fun _ => False) w w' := by
  have g1 : ¬ c ≥ 57346 := by omega
  have g2 : decide (57346 ≤ c) = false := by simp; omega
  obtain ⟨v, hv⟩ : ∃ v : UInt8, IntKind.u8.wrap c = (v.toNat : Int) := by
    refine ⟨UInt8.ofNat (IntKind.u8.wrap c).toNat, ?_⟩
    have h := IntKind.wrap_u8 c
    have hb : 0 ≤ IntKind.u8.wrap c ∧ IntKind.u8.wrap c < 256 := by rw [h]; omega
    rw [UInt8.toNat_ofNat_of_lt' (show (IntKind.u8.wrap c).toNat < 256 by omega)]
    omega
  have hcv : (convert 31 9 (.slice (some ⟨w.heap.size, 0, none⟩) 1 1)).run Tryd.prog (w.alloc (.cells #[.int .u8 (v.toNat : Int)] 5)) = .ok (.string ⟨#[v]⟩) (w.alloc (.cells #[.int .u8 (v.toNat : Int)] 5)) := by
    refine run_convert_bytes_back _ 31 9 5 ⟨w.heap.size, 0, none⟩ 1 [v] Tryd.underlying31 Tryd.underlying5 Tryd.underlying9 ?_
    intro k hk
    have hk0 : k = 0 := by simp at hk; omega
    subst hk0
    rw [Lib.addr_add]
    simp [World.cell?_alloc_new]
  go_enter Tryd.func28, Tryd.ntmps28
  go_wp2_with fail
  go_ret
  exact ⟨⟨_, rfl⟩, (Ch.refl _ _).alloc _⟩

theorem tokName_calls {w : World} {bm : Nat} {obj : Obj} {c : Int} (ht : Hid (Tab w bm obj)) (hc : c < 57402) : Calls Tryd.prog 28 #[.int .i64 c] w fun e w' => (∃ t, e = .returned (.string t)) ∧ Ch (fun _ => False) w w' := by
  by_cases h : c < 57346
  · exact tokName_small h
  · obtain ⟨t, h1, h2⟩ := ht.out.yy (c - 57346).toNat (by omega)
    refine (tokName_big (by omega) hc h1 h2).mono ?_
    rintro e w' ⟨rfl, rfl⟩
    exact ⟨⟨t, rfl⟩, Ch.refl _ _⟩

/-- As Q; by a goto to a label: J of it. -/
def Exit.jumps (J : Nat → Act → World → Prop) (Q : Exit → Act → World → Prop) : Exit → Act → World → Prop
  | .goto l, a, w => J l a w
  | e, a, w => Q e a w

theorem wp_scope_labels {P : Program} {Q : Exit → Act → World → Prop} {a : Act} {w : World} {c : Code} (R : Nat → Code) (I : Nat → Nat → Act → World → Prop) (hf : ∀ l n a w, I l n a w → findLabel c l = some (R l))
    (first : c.wp P (Exit.jumps (fun l a' w' => ∃ n, I l n a' w') Q) a w)
    (pass : ∀ l n a w, I l n a w → (R l).wp P (Exit.jumps (fun l' a' w' => ∃ n', n' < n ∧ I l' n' a' w') Q) a w) : (Code.scope c).wp P Q a w := by
  intro b k cs
  have key : ∀ n l a w, I l n a w → ∃ e a' w', Q e a' w' ∧ Arrives P (lone (b.at a (.code (R l) :: .inScope c :: k)) cs w) b k cs e a' w' := by
    intro n
    induction n using Nat.strongRecOn with
    | _ n ih =>
      intro l a w hJ
      obtain ⟨e, a₁, w₁, hq, harr⟩ := pass l n a w hJ b (.inScope c :: k) cs
      cases e with
      | normal => exact ⟨.normal, a₁, w₁, hq, Steps.trans harr (.one step_inScope)⟩
      | exit id => exact ⟨.exit id, a₁, w₁, hq, fun k' hk => harr k' (by simp [exitTo, hk])⟩
      | goto l' =>
        obtain ⟨n', hlt, hJ'⟩ := hq
        obtain ⟨e₂, a₂, w₂, hq₂, harr₂⟩ := ih n' hlt l' a₁ w₁ hJ'
        have hg : gotoIn l' (.inScope c :: k) = some (.code (R l') :: .inScope c :: k) := by simp [gotoIn, hf l' n' a₁ w₁ hJ']
        exact ⟨e₂, a₂, w₂, hq₂, .of_steps (harr _ hg) harr₂⟩
      | ret => exact ⟨_, a₁, w₁, hq, harr⟩
      | panic ch => exact ⟨_, a₁, w₁, hq, harr⟩
      | outgrown => exact ⟨_, a₁, w₁, hq, harr⟩
  obtain ⟨e, a₁, w₁, hq, harr⟩ := first b (.inScope c :: k) cs
  cases e with
  | normal => exact ⟨.normal, a₁, w₁, hq, .head step_scope (Steps.trans harr (.one step_inScope))⟩
  | exit id => exact ⟨.exit id, a₁, w₁, hq, fun k' hk => .head step_scope (harr k' (by simp [exitTo, hk]))⟩
  | goto l' =>
    obtain ⟨n', hJ'⟩ := hq
    obtain ⟨e₂, a₂, w₂, hq₂, harr₂⟩ := key n' l' a₁ w₁ hJ'
    have hg : gotoIn l' (.inScope c :: k) = some (.code (R l') :: .inScope c :: k) := by simp [gotoIn, hf l' n' a₁ w₁ hJ']
    exact ⟨e₂, a₂, w₂, hq₂, .of_steps (.head step_scope (harr _ hg)) harr₂⟩
  | ret => exact ⟨_, a₁, w₁, hq, .of_steps (.one step_scope) harr⟩
  | panic ch => exact ⟨_, a₁, w₁, hq, .of_steps (.one step_scope) harr⟩
  | outgrown => exact ⟨_, a₁, w₁, hq, .of_steps (.one step_scope) harr⟩

end Go.Proofs.YtbgjjbffpckimaaDoor
