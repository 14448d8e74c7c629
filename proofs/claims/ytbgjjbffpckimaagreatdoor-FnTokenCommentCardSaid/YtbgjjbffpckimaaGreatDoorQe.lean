/-
  The tokens of a text: the scanner: tokens.
-/
import Derived.Test.YtbgjjbffpckimaaGreatDoorQd
import Derived.Test.YtbgjjbffpckimaaGreatDoorQc
namespace Go.Proofs.YtbgjjbffpckimaaGreatDoor
set_option linter.all false
open Go.RowKit

/-- The types of the keywords. -/
def kwTab : List (Bs × Int) := [([97, 110, 100], 57346), ([98, 114, 101, 97, 107], 57347), ([100, 111], 57348), ([101, 108, 115, 101], 57349), ([101, 108, 115, 101, 105, 102], 57350), ([101, 110, 100], 57351), ([102, 97, 108, 115, 101], 57352), ([102, 111, 114], 57353), ([102, 117, 110, 99, 116, 105, 111, 110], 57354), ([105, 102], 57355), ([105, 110], 57356), ([108, 111, 99, 97, 108], 57357), ([110, 105, 108], 57358), ([110, 111, 116], 57359), ([111, 114], 57360), ([114, 101, 116, 117, 114, 110], 57361), ([114, 101, 112, 101, 97, 116], 57362), ([116, 104, 101, 110], 57363), ([116, 114, 117, 101], 57364), ([117, 110, 116, 105, 108], 57365), ([119, 104, 105, 108, 101], 57366), ([103, 111, 116, 111], 57367)]
def kwOf (s : Bs) : Int × Bool := match kwTab.lookup s with
  | some v => (v, true)
  | none => (0, false)

/-- The tables of the scanner: reserved words (as the map's look-up tells them), the tokens' names. -/
structure Tab (w : World) (bm : Nat) (obj : Obj) : Prop where
  g0 : w.cell? ⟨0, 0, none⟩ = some (.map (some bm))
  ob : w.heap[bm]? = some obj
  yy : ∀ k : Nat, k < 56 → ∃ t : ByteArray, w.cell? ⟨1, k, none⟩ = some (.string t) ∧ t.toList.isEmpty = false
  look : ∀ (s : Bs) (W : World), W.heap[bm]? = some obj → (Instr.lookup 85 (.map (some bm)) (.string ⟨s.toArray⟩) true).run Tryz.prog W = .ok (.tuple #[.int .i64 (kwOf s).1, .bool (kwOf s).2]) W

/-- A token's block. -/
structure TokAt (w : World) (T : Nat) (ty : Int) (nm st so : ByteArray) (ln cl : Int) : Prop where
  c0 : w.cell? ⟨T, 0, none⟩ = some (.int .i64 ty)
  c1 : w.cell? ⟨T, 1, none⟩ = some (.string nm)
  c2 : w.cell? ⟨T, 2, none⟩ = some (.string st)
  c3 : w.cell? ⟨T, 3, none⟩ = some (.string so)
  c4 : w.cell? ⟨T, 4, none⟩ = some (.int .i64 ln)
  c5 : w.cell? ⟨T, 5, none⟩ = some (.int .i64 cl)
  fz : ∀ j, w.frozen? ⟨T, j, none⟩ = false

section
variable {w w' : World} {T : Nat} {ty : Int} {nm st so : ByteArray} {ln cl : Int}
theorem TokAt.keep {U : Nat → Prop} (h : TokAt w T ty nm st so ln cl) (hc : Ch U w w') (hU : ¬ U T) : TokAt w' T ty nm st so ln cl :=
  ⟨hc.cell_some h.c0 hU, hc.cell_some h.c1 hU, hc.cell_some h.c2 hU, hc.cell_some h.c3 hU, hc.cell_some h.c4 hU, hc.cell_some h.c5 hU, fun j => (hc.frozen (p := ⟨T, j, none⟩) (show T < w.heap.size from World.block_lt_of_cell? w _ h.c0) hU).trans (h.fz j)⟩
theorem TokAt.lt (h : TokAt w T ty nm st so ln cl) : T < w.heap.size := World.block_lt_of_cell? w _ h.c0
theorem TokAt.set0 (h : TokAt w T ty nm st so ln cl) (v : Int) : TokAt (w.setCell ⟨T, 0, none⟩ (.int .i64 v)) T v nm st so ln cl :=
  ⟨cs h.c0, co h.c1 (addr_ne (by decide)), co h.c2 (addr_ne (by decide)), co h.c3 (addr_ne (by decide)), co h.c4 (addr_ne (by decide)), co h.c5 (addr_ne (by decide)), fun j => by rw [World.frozen?_setCell]; exact h.fz j⟩
theorem TokAt.set1 (h : TokAt w T ty nm st so ln cl) (v : ByteArray) : TokAt (w.setCell ⟨T, 1, none⟩ (.string v)) T ty v st so ln cl :=
  ⟨co h.c0 (addr_ne (by decide)), cs h.c1, co h.c2 (addr_ne (by decide)), co h.c3 (addr_ne (by decide)), co h.c4 (addr_ne (by decide)), co h.c5 (addr_ne (by decide)), fun j => by rw [World.frozen?_setCell]; exact h.fz j⟩
theorem TokAt.set2 (h : TokAt w T ty nm st so ln cl) (v : ByteArray) : TokAt (w.setCell ⟨T, 2, none⟩ (.string v)) T ty nm v so ln cl :=
  ⟨co h.c0 (addr_ne (by decide)), co h.c1 (addr_ne (by decide)), cs h.c2, co h.c3 (addr_ne (by decide)), co h.c4 (addr_ne (by decide)), co h.c5 (addr_ne (by decide)), fun j => by rw [World.frozen?_setCell]; exact h.fz j⟩
theorem TokAt.pos (h : TokAt w T ty nm st so ln cl) (s' : ByteArray) (l' c' : Int) : TokAt (((w.setCell ⟨T, 3, none⟩ (.string s')).setCell ⟨T, 4, none⟩ (.int .i64 l')).setCell ⟨T, 5, none⟩ (.int .i64 c')) T ty nm st s' l' c' := by
  have d : ∀ {j k : Nat}, ¬ j = k → ¬ (⟨T, j, none⟩ : Addr) = ⟨T, k, none⟩ := fun e => addr_ne e
  exact ⟨co (co (co h.c0 (d (by decide))) (d (by decide))) (d (by decide)), co (co (co h.c1 (d (by decide))) (d (by decide))) (d (by decide)), co (co (co h.c2 (d (by decide))) (d (by decide))) (d (by decide)), co (co (cs h.c3) (d (by decide))) (d (by decide)), co (cs (co h.c4 (d (by decide)))) (d (by decide)), cs (co (co h.c5 (d (by decide))) (d (by decide))), fun j => by rw [World.frozen?_setCell, World.frozen?_setCell, World.frozen?_setCell]; exact h.fz j⟩
theorem TokAt.fresh (w : World) : TokAt (w.alloc (.cells #[.int .i64 0, .string ⟨#[]⟩, .string ⟨#[]⟩, .string ⟨#[]⟩, .int .i64 0, .int .i64 0] 52)) w.heap.size 0 ⟨#[]⟩ ⟨#[]⟩ ⟨#[]⟩ 0 0 := by
  refine ⟨?_, ?_, ?_, ?_, ?_, ?_, fun j => ?_⟩ <;> simp [World.cell?_alloc_new, World.frozen?_alloc_new]
theorem Tab.keep {U : Nat → Prop} {bm : Nat} {obj : Obj} (h : Tab w bm obj) (hc : Ch U w w') (h0 : ¬ U 0) (h1 : ¬ U 1) (hb : ¬ U bm) : Tab w' bm obj :=
  ⟨hc.cell_some h.g0 h0, (hc.block bm (Array.getElem?_eq_some_iff.1 h.ob).1 hb).trans h.ob, fun k hk => by
    obtain ⟨t, ht, he⟩ := h.yy k hk
    exact ⟨t, hc.cell_some ht h1, he⟩, h.look⟩
end

set_option maxRecDepth 100000 in
set_option maxHeartbeats 4000000 in
theorem tokName_big {w : World} {c : Int} {t : ByteArray} (h0 : 57346 ≤ c) (h1 : c < 57402) (hc : w.cell? ⟨1, (c - 57346).toNat, none⟩ = some (.string t)) (ht : t.toList.isEmpty = false) :
    Calls Tryz.prog 41 #[.int .i64 c] w fun e w' => e = .returned (.string t) ∧ w' = w := by
  have g1 : c ≥ 57346 := h0
  have hw : IntKind.i64.wrap (c - 57346) = c - 57346 := by rw [IntKind.wrap_i64]; omega
  have g2 : c - 57346 < 56 := by omega
  have g3 : 0 ≤ c - 57346 := by omega
  go_enter Tryz.func41, Tryz.ntmps41
  go_wp2_with fail
  go_ret
  exact ⟨rfl, rfl⟩

set_option maxRecDepth 100000 in
set_option maxHeartbeats 4000000 in
theorem tokName_small {w : World} {c : Int} (h0 : c < 57346) : Calls Tryz.prog 41 #[.int .i64 c] w fun e w' => (∃ t, e = .returned (.string t)) ∧ Ch (fun _ => False) w w' := by
  have g1 : ¬ c ≥ 57346 := by omega
  have g2 : decide (57346 ≤ c) = false := by simp; omega
  obtain ⟨v, hv⟩ : ∃ v : UInt8, IntKind.u8.wrap c = (v.toNat : Int) := by
    refine ⟨UInt8.ofNat (IntKind.u8.wrap c).toNat, ?_⟩
    have h := IntKind.wrap_u8 c
    have hb : 0 ≤ IntKind.u8.wrap c ∧ IntKind.u8.wrap c < 256 := by rw [h]; omega
    rw [UInt8.toNat_ofNat_of_lt' (show (IntKind.u8.wrap c).toNat < 256 by omega)]
    omega
  have hcv : (convert 36 9 (.slice (some ⟨w.heap.size, 0, none⟩) 1 1)).run Tryz.prog (w.alloc (.cells #[.int .u8 (v.toNat : Int)] 5)) = .ok (.string ⟨#[v]⟩) (w.alloc (.cells #[.int .u8 (v.toNat : Int)] 5)) := by
    refine run_convert_bytes_back _ 36 9 5 ⟨w.heap.size, 0, none⟩ 1 [v] Tryz.underlying36 Tryz.underlying5 Tryz.underlying9 ?_
    intro k hk
    have hk0 : k = 0 := by simp at hk; omega
    subst hk0
    rw [Lib.addr_add]
    simp [World.cell?_alloc_new]
  go_enter Tryz.func41, Tryz.ntmps41
  go_wp2_with fail
  go_ret
  exact ⟨⟨_, rfl⟩, (Ch.refl _ _).alloc _⟩

theorem tokName_calls {w : World} {bm : Nat} {obj : Obj} {c : Int} (ht : Hid (Tab w bm obj)) (hc : c < 57402) : Calls Tryz.prog 41 #[.int .i64 c] w fun e w' => (∃ t, e = .returned (.string t)) ∧ Ch (fun _ => False) w w' := by
  by_cases h : c < 57346
  · exact tokName_small h
  · obtain ⟨t, h1, h2⟩ := ht.out.yy (c - 57346).toNat (by omega)
    refine (tokName_big (by omega) hc h1 h2).mono ?_
    rintro e w' ⟨rfl, rfl⟩
    exact ⟨⟨t, rfl⟩, Ch.refl _ _⟩

/-- As Q; by a goto to a label: J of it. -/
def Exit.jumps (J : Nat → Act → World → Prop) (Q : Exit → Act → World → Prop) : Exit → Act → World → Prop
  | .goto l, a, w => J l a w
  | e, a, w => Q e a w

theorem wp_scope_labels {P : Program} {Q : Exit → Act → World → Prop} {a : Act} {w : World} {c : Code} (R : Nat → Code) (I : Nat → Nat → Act → World → Prop) (hf : ∀ l n a w, I l n a w → findLabel c l = some (R l))
    (first : c.wp P (Exit.jumps (fun l a' w' => ∃ n, I l n a' w') Q) a w)
    (pass : ∀ l n a w, I l n a w → (R l).wp P (Exit.jumps (fun l' a' w' => ∃ n', n' < n ∧ I l' n' a' w') Q) a w) : (Code.scope c).wp P Q a w := by
  intro b k cs
  have key : ∀ n l a w, I l n a w → ∃ e a' w', Q e a' w' ∧ Arrives P (lone (b.at a (.code (R l) :: .inScope c :: k)) cs w) b k cs e a' w' := by
    intro n
    induction n using Nat.strongRecOn with
    | _ n ih =>
      intro l a w hJ
      obtain ⟨e, a₁, w₁, hq, harr⟩ := pass l n a w hJ b (.inScope c :: k) cs
      cases e with
      | normal => exact ⟨.normal, a₁, w₁, hq, Steps.trans harr (.one step_inScope)⟩
      | exit id => exact ⟨.exit id, a₁, w₁, hq, fun k' hk => harr k' (by simp [exitTo, hk])⟩
      | goto l' =>
        obtain ⟨n', hlt, hJ'⟩ := hq
        obtain ⟨e₂, a₂, w₂, hq₂, harr₂⟩ := ih n' hlt l' a₁ w₁ hJ'
        have hg : gotoIn l' (.inScope c :: k) = some (.code (R l') :: .inScope c :: k) := by simp [gotoIn, hf l' n' a₁ w₁ hJ']
        exact ⟨e₂, a₂, w₂, hq₂, .of_steps (harr _ hg) harr₂⟩
      | ret => exact ⟨_, a₁, w₁, hq, harr⟩
      | panic ch => exact ⟨_, a₁, w₁, hq, harr⟩
      | outgrown => exact ⟨_, a₁, w₁, hq, harr⟩
  obtain ⟨e, a₁, w₁, hq, harr⟩ := first b (.inScope c :: k) cs
  cases e with
  | normal => exact ⟨.normal, a₁, w₁, hq, .head step_scope (Steps.trans harr (.one step_inScope))⟩
  | exit id => exact ⟨.exit id, a₁, w₁, hq, fun k' hk => .head step_scope (harr k' (by simp [exitTo, hk]))⟩
  | goto l' =>
    obtain ⟨n', hJ'⟩ := hq
    obtain ⟨e₂, a₂, w₂, hq₂, harr₂⟩ := key n' l' a₁ w₁ hJ'
    have hg : gotoIn l' (.inScope c :: k) = some (.code (R l') :: .inScope c :: k) := by simp [gotoIn, hf l' n' a₁ w₁ hJ']
    exact ⟨e₂, a₂, w₂, hq₂, .of_steps (.head step_scope (harr _ hg)) harr₂⟩
  | ret => exact ⟨_, a₁, w₁, hq, .of_steps (.one step_scope) harr⟩
  | panic ch => exact ⟨_, a₁, w₁, hq, .of_steps (.one step_scope) harr⟩
  | outgrown => exact ⟨_, a₁, w₁, hq, .of_steps (.one step_scope) harr⟩

end Go.Proofs.YtbgjjbffpckimaaGreatDoor

namespace Go.Proofs.YtbgjjbffpckimaaGreatDoor
set_option linter.all false
open Go.RowKit

/-- The inside of a scope; the block of a number in a code. -/
def scp : Code → Option Code
  | .scope c => some c
  | .seq a b => (scp a).orElse fun _ => scp b
  | _ => none
def blk (n : Nat) : Code → Option Code
  | .block m c => if m = n then some (.block m c) else none
  | .seq a b => (blk n a).orElse fun _ => blk n b
  | _ => none
noncomputable def c12 : Code := ((Tryz.f17.body.bind scp)).getD .skip
noncomputable def rest12 (l : Nat) : Code := (findLabel c12 l).getD .skip
/-- The second part of a sequence. -/
def sqb : Code → Code
  | .seq _ b => b
  | c => c
noncomputable def fin12 : Code := sqb (rest12 1)
noncomputable def sw12 : Code := (blk 0 (rest12 0)).getD .skip

theorem results_c2 {fn : Func} {p u : Tmp} {ty : TypeId} (h : fn.results = #[.cell p ty, .tmp u]) (tmps : Array Value) (P : Program) (w : World) :
    (results fn tmps).run P w =
      ((asAddr (tmps.getD p undef)).run P w).andThen fun a w₁ => ((loadVar ty a).run P w₁).andThen fun x w₂ => .ok (.tuple #[x, tmps.getD u undef]) w₂ := by
  simp only [results, h]
  simp [Sem.run_bind, Result.andThen]

/-- The parser's part of the state that the scanner writes. -/
structure LxAt (w : World) (X : Nat) : Prop where
  c2 : ∃ v : Bool, w.cell? ⟨X, 2, none⟩ = some (.bool v)
  c9 : ∃ v : Int, w.cell? ⟨X, 9, none⟩ = some (.int .i64 v)
  fz : ∀ j, w.frozen? ⟨X, j, none⟩ = false
theorem LxAt.keep {U : Nat → Prop} {w w' : World} {X : Nat} (h : LxAt w X) (hc : Ch U w w') (hU : ¬ U X) : LxAt w' X := by
  obtain ⟨v2, h2⟩ := h.c2
  obtain ⟨v9, h9⟩ := h.c9
  exact ⟨⟨v2, hc.cell_some h2 hU⟩, ⟨v9, hc.cell_some h9 hU⟩, fun j => (hc.frozen (p := ⟨X, j, none⟩) (show X < w.heap.size from World.block_lt_of_cell? w _ h2) hU).trans (h.fz j)⟩
theorem LxAt.set2 {w : World} {X : Nat} (h : LxAt w X) (v : Bool) : LxAt (w.setCell ⟨X, 2, none⟩ (.bool v)) X := by
  obtain ⟨v2, h2⟩ := h.c2
  obtain ⟨v9, h9⟩ := h.c9
  exact ⟨⟨v, cs h2⟩, ⟨v9, co h9 (addr_ne (by decide))⟩, fun j => by rw [World.frozen?_setCell]; exact h.fz j⟩

/-- Where all lies when Scan begins. -/
structure Env (w0 : World) (b : Bl) (X bm : Nat) : Prop where
  xl : X < w0.heap.size
  ml : bm < w0.heap.size
  l2 : 2 < w0.heap.size
  tr : ∀ k, Tr b k → k < w0.heap.size
  nX : ¬ Tr b X
  low : ∀ k, (k = 0 ∨ k = 1 ∨ k = 2 ∨ k = bm) → ¬ (Tr b k ∨ k = X)
def Us (b : Bl) (X k : Nat) : Prop := Tr b k ∨ k = X

/-- The state at Scan's end: the token is laid, what is left is r'. -/
structure Fin (w0 : World) (b : Bl) (r' : Bs) (L' : Int) (X R T bm : Nat) (obj : Obj) (ty : Int) (st so : ByteArray) (ln cl : Int) (w : World) : Prop where
  rd : Rd w b r' L'
  tk : TokAt w T ty ⟨#[]⟩ st so ln cl
  rk : TokAt w R 0 ⟨#[]⟩ ⟨#[]⟩ ⟨#[]⟩ 0 0
  tb : Tab w bm obj
  lx : LxAt w X
  ch : Ch (Us b X) w0 w
  nT : w0.heap.size ≤ T
  nR : w0.heap.size ≤ R
  TR : T ≠ R
/-- What Scan gives. -/
def ScanOut (w0 : World) (b : Bl) (r' : Bs) (L' : Int) (X bm : Nat) (obj : Obj) (ty : Int) (st : ByteArray) (ln : Int) (er : Value) (e : Ending) (w' : World) : Prop :=
  ∃ nm so cl, e = .returned (.tuple #[.agg #[.int .i64 ty, .string nm, .string st, .string so, .int .i64 ln, .int .i64 cl], er]) ∧ Rd w' b r' L' ∧ Tab w' bm obj ∧ LxAt w' X ∧ Ch (Us b X) w0 w'

set_option maxRecDepth 100000 in
set_option maxHeartbeats 4000000 in
theorem scan_fin {w0 w : World} {b : Bl} {r' : Bs} {L' : Int} {X R T bm : Nat} {obj : Obj} {ty : Int} {st so : ByteArray} {ln cl : Int} {er : Value} {J : Nat → Act → World → Prop} {P : Ending → World → Prop} (u : Nat → Value) (HE : Hid (Env w0 b X bm)) (H : Hid (Fin w0 b r' L' X R T bm obj ty st so ln cl w)) (hty : ty < 57402) (hP : ∀ e w', ScanOut w0 b r' L' X bm obj ty st ln er e w' → P e w') :
    fin12.wp Tryz.prog (Exit.jumps J (bodyPost Tryz.prog Tryz.f17 P)) { tmps := #[ptr b.Z, ptr X, u 2, u 3, ptr R, u 5, er, ptr T, u 8, u 9, u 10, u 11, u 12, u 13, u 14, u 15, u 16, u 17, u 18, u 19, u 20, u 21, u 22, u 23, u 24, u 25, u 26, u 27, u 28, u 29, u 30, u 31, u 32, u 33, u 34, u 35, u 36, u 37, u 38, u 39, u 40, u 41, u 42, u 43, u 44, u 45, u 46, u 47, u 48, u 49, u 50, u 51, u 52, u 53, u 54, u 55, u 56, u 57, u 58, u 59, u 60, u 61, u 62, u 63, u 64, u 65, u 66, u 67, u 68, u 69, u 70, u 71, u 72, u 73, u 74, u 75, u 76, u 77, u 78, u 79, u 80, u 81, u 82, u 83, u 84, u 85, u 86, u 87, u 88, u 89, u 90, u 91, u 92, u 93, u 94, u 95, u 96, u 97, u 98, u 99, u 100, u 101, u 102, u 103, u 104, u 105, u 106, u 107, u 108, u 109, u 110, u 111, u 112, u 113, u 114, u 115, u 116, u 117, u 118, u 119, u 120, u 121, u 122, u 123, u 124, u 125, u 126, u 127, u 128, u 129, u 130, u 131, u 132, u 133, u 134, u 135, u 136, u 137, u 138, u 139, u 140, u 141, u 142, u 143, u 144, u 145, u 146, u 147, u 148, u 149, u 150, u 151, u 152, u 153, u 154, u 155, u 156, u 157, u 158, u 159, u 160, u 161, u 162, u 163, u 164, u 165, u 166, u 167, u 168, u 169, u 170, u 171, u 172, u 173, u 174, u 175, u 176, u 177, u 178, u 179, u 180, u 181, u 182, u 183, u 184, u 185, u 186, u 187, u 188, u 189, u 190, u 191, u 192, u 193, u 194, u 195, u 196, u 197, u 198, u 199, u 200, u 201, u 202, u 203, u 204, u 205, u 206, u 207, u 208, u 209, u 210, u 211, u 212, u 213, u 214, u 215, u 216, u 217, u 218, u 219, u 220, u 221, u 222, u 223, u 224, u 225, u 226, u 227, u 228, u 229, u 230, u 231, u 232, u 233, u 234, u 235, u 236, u 237, u 238, u 239, u 240, u 241, u 242, u 243, u 244, u 245, u 246, u 247, u 248, u 249, u 250, u 251, u 252, u 253, u 254, u 255, u 256, u 257, u 258, u 259, u 260, u 261, u 262, u 263, u 264, u 265, u 266, u 267, u 268, u 269, u 270, u 271, u 272, u 273, u 274, u 275, u 276, u 277, u 278, u 279, u 280, u 281, u 282], defers := [] } w := by
  have HP := Lib.hid hP
  have t0 := H.out.tk.c0
  clear hP
  conv => arg 2; whnf
  go_wp2_with fail
  refine (tokName_calls (Lib.hid H.out.tb) hty).mono ?_
  rintro e w1 ⟨⟨nm, rfl⟩, hc⟩
  have HR1 := Lib.hid (H.out.rd.moved hc)
  have HT1 := Lib.hid (H.out.tk.keep hc id)
  have HK1 := Lib.hid (H.out.rk.keep hc id)
  have HB1 := Lib.hid (H.out.tb.keep hc id id id)
  have HL1 := Lib.hid (H.out.lx.keep hc id)
  have HC1 := Lib.hid (H.out.ch.trans (hc.mono fun _ _ h => h.elim))
  have nT := H.out.nT
  have nR := H.out.nR
  have TR := H.out.TR
  clear hc H t0
  have t1 := HT1.out.c1
  have z1 := HT1.out.fz 1
  have HT2 := Lib.hid (HT1.out.set1 nm)
  have hcT : Ch (fun k => k = T) w1 (w1.setCell ⟨T, 1, none⟩ (.string nm)) := Ch.setCell (T := fun k => k = T) (Ch.refl _ _) (p := ⟨T, 1, none⟩) (fun _ => rfl) _
  have HK2 := Lib.hid (HK1.out.keep hcT (fun e => TR e.symm))
  have a0 := HT2.out.c0
  have a1 := HT2.out.c1
  have a2 := HT2.out.c2
  have a3 := HT2.out.c3
  have a4 := HT2.out.c4
  have a5 := HT2.out.c5
  have b0 := HK2.out.c0
  have b1 := HK2.out.c1
  have b2 := HK2.out.c2
  have b3 := HK2.out.c3
  have b4 := HK2.out.c4
  have b5 := HK2.out.c5
  have f0 := HK2.out.fz 0
  have f1 := HK2.out.fz 1
  have f2 := HK2.out.fz 2
  have f3 := HK2.out.fz 3
  have f4 := HK2.out.fz 4
  have f5 := HK2.out.fz 5
  have hcR := Lib.hid ((((((Ch.setCell (T := fun k => k = R) (Ch.refl _ (w1.setCell ⟨T, 1, none⟩ (.string nm))) (p := ⟨R, 0, none⟩) (fun _ => rfl) (.int .i64 ty)).setCell (p := ⟨R, 1, none⟩) (fun _ => rfl) (.string nm)).setCell (p := ⟨R, 2, none⟩) (fun _ => rfl) (.string st)).setCell (p := ⟨R, 3, none⟩) (fun _ => rfl) (.string so)).setCell (p := ⟨R, 4, none⟩) (fun _ => rfl) (.int .i64 ln)).setCell (p := ⟨R, 5, none⟩) (fun _ => rfl) (.int .i64 cl))
  have HCT := Lib.hid hcT
  clear hcT
  simp only []
  go_wp2_with fail
  show bodyPost Tryz.prog Tryz.f17 _ .ret _ _
  refine bodyPost_ret (v := .tuple #[.agg #[.int .i64 ty, .string nm, .string st, .string so, .int .i64 ln, .int .i64 cl], er]) (by rw [results_c2 rfl]; simp [go_sem, b0, b1, b2, b3, b4, b5]) rfl ?_
  have hx : ∀ k, k < w0.heap.size → ¬ k = T ∧ ¬ k = R := fun k hk => ⟨by omega, by omega⟩
  refine HP.out _ _ ⟨nm, so, cl, rfl, ?_, ?_, ?_, ?_⟩
  · exact (HR1.out.keep HCT.out (fun k hk e => (hx k (HE.out.tr k hk)).1 e) (hx 2 HE.out.l2).1).keep hcR.out (fun k hk e => (hx k (HE.out.tr k hk)).2 e) (hx 2 HE.out.l2).2
  · exact (HB1.out.keep HCT.out (hx 0 (by have := HE.out.l2; omega)).1 (hx 1 (by have := HE.out.l2; omega)).1 (hx bm HE.out.ml).1).keep hcR.out (hx 0 (by have := HE.out.l2; omega)).2 (hx 1 (by have := HE.out.l2; omega)).2 (hx bm HE.out.ml).2
  · exact (HL1.out.keep HCT.out (hx X HE.out.xl).1).keep hcR.out (hx X HE.out.xl).2
  · exact (HC1.out.trans' HCT.out fun k hk e => absurd e (hx k hk).1).trans' hcR.out fun k hk e => absurd e (hx k hk).2

end Go.Proofs.YtbgjjbffpckimaaGreatDoor

namespace Go.Proofs.YtbgjjbffpckimaaGreatDoor
set_option linter.all false
open Go.RowKit

set_option maxRecDepth 100000 in
theorem ofFn283 (f : Nat → Value) : Array.ofFn (n := 283) (fun i => f i.val) = #[f 0, f 1, f 2, f 3, f 4, f 5, f 6, f 7, f 8, f 9, f 10, f 11, f 12, f 13, f 14, f 15, f 16, f 17, f 18, f 19, f 20, f 21, f 22, f 23, f 24, f 25, f 26, f 27, f 28, f 29, f 30, f 31, f 32, f 33, f 34, f 35, f 36, f 37, f 38, f 39, f 40, f 41, f 42, f 43, f 44, f 45, f 46, f 47, f 48, f 49, f 50, f 51, f 52, f 53, f 54, f 55, f 56, f 57, f 58, f 59, f 60, f 61, f 62, f 63, f 64, f 65, f 66, f 67, f 68, f 69, f 70, f 71, f 72, f 73, f 74, f 75, f 76, f 77, f 78, f 79, f 80, f 81, f 82, f 83, f 84, f 85, f 86, f 87, f 88, f 89, f 90, f 91, f 92, f 93, f 94, f 95, f 96, f 97, f 98, f 99, f 100, f 101, f 102, f 103, f 104, f 105, f 106, f 107, f 108, f 109, f 110, f 111, f 112, f 113, f 114, f 115, f 116, f 117, f 118, f 119, f 120, f 121, f 122, f 123, f 124, f 125, f 126, f 127, f 128, f 129, f 130, f 131, f 132, f 133, f 134, f 135, f 136, f 137, f 138, f 139, f 140, f 141, f 142, f 143, f 144, f 145, f 146, f 147, f 148, f 149, f 150, f 151, f 152, f 153, f 154, f 155, f 156, f 157, f 158, f 159, f 160, f 161, f 162, f 163, f 164, f 165, f 166, f 167, f 168, f 169, f 170, f 171, f 172, f 173, f 174, f 175, f 176, f 177, f 178, f 179, f 180, f 181, f 182, f 183, f 184, f 185, f 186, f 187, f 188, f 189, f 190, f 191, f 192, f 193, f 194, f 195, f 196, f 197, f 198, f 199, f 200, f 201, f 202, f 203, f 204, f 205, f 206, f 207, f 208, f 209, f 210, f 211, f 212, f 213, f 214, f 215, f 216, f 217, f 218, f 219, f 220, f 221, f 222, f 223, f 224, f 225, f 226, f 227, f 228, f 229, f 230, f 231, f 232, f 233, f 234, f 235, f 236, f 237, f 238, f 239, f 240, f 241, f 242, f 243, f 244, f 245, f 246, f 247, f 248, f 249, f 250, f 251, f 252, f 253, f 254, f 255, f 256, f 257, f 258, f 259, f 260, f 261, f 262, f 263, f 264, f 265, f 266, f 267, f 268, f 269, f 270, f 271, f 272, f 273, f 274, f 275, f 276, f 277, f 278, f 279, f 280, f 281, f 282] := by kernel_rfl
theorem arr_ofFn (t : Array Value) {n : Nat} (h : t.size = n) : t = Array.ofFn (n := n) (fun i => t.getD i.val undef) := by
  subst h
  apply Array.ext
  · simp
  · intro i h1 h2
    simp [h1]
/-- A frame at Scan's end. -/
def FrE (b : Bl) (X R T : Nat) (er : Value) (a : Act) : Prop := ∃ u : Nat → Value, a = { tmps := #[ptr b.Z, ptr X, u 2, u 3, ptr R, u 5, er, ptr T, u 8, u 9, u 10, u 11, u 12, u 13, u 14, u 15, u 16, u 17, u 18, u 19, u 20, u 21, u 22, u 23, u 24, u 25, u 26, u 27, u 28, u 29, u 30, u 31, u 32, u 33, u 34, u 35, u 36, u 37, u 38, u 39, u 40, u 41, u 42, u 43, u 44, u 45, u 46, u 47, u 48, u 49, u 50, u 51, u 52, u 53, u 54, u 55, u 56, u 57, u 58, u 59, u 60, u 61, u 62, u 63, u 64, u 65, u 66, u 67, u 68, u 69, u 70, u 71, u 72, u 73, u 74, u 75, u 76, u 77, u 78, u 79, u 80, u 81, u 82, u 83, u 84, u 85, u 86, u 87, u 88, u 89, u 90, u 91, u 92, u 93, u 94, u 95, u 96, u 97, u 98, u 99, u 100, u 101, u 102, u 103, u 104, u 105, u 106, u 107, u 108, u 109, u 110, u 111, u 112, u 113, u 114, u 115, u 116, u 117, u 118, u 119, u 120, u 121, u 122, u 123, u 124, u 125, u 126, u 127, u 128, u 129, u 130, u 131, u 132, u 133, u 134, u 135, u 136, u 137, u 138, u 139, u 140, u 141, u 142, u 143, u 144, u 145, u 146, u 147, u 148, u 149, u 150, u 151, u 152, u 153, u 154, u 155, u 156, u 157, u 158, u 159, u 160, u 161, u 162, u 163, u 164, u 165, u 166, u 167, u 168, u 169, u 170, u 171, u 172, u 173, u 174, u 175, u 176, u 177, u 178, u 179, u 180, u 181, u 182, u 183, u 184, u 185, u 186, u 187, u 188, u 189, u 190, u 191, u 192, u 193, u 194, u 195, u 196, u 197, u 198, u 199, u 200, u 201, u 202, u 203, u 204, u 205, u 206, u 207, u 208, u 209, u 210, u 211, u 212, u 213, u 214, u 215, u 216, u 217, u 218, u 219, u 220, u 221, u 222, u 223, u 224, u 225, u 226, u 227, u 228, u 229, u 230, u 231, u 232, u 233, u 234, u 235, u 236, u 237, u 238, u 239, u 240, u 241, u 242, u 243, u 244, u 245, u 246, u 247, u 248, u 249, u 250, u 251, u 252, u 253, u 254, u 255, u 256, u 257, u 258, u 259, u 260, u 261, u 262, u 263, u 264, u 265, u 266, u 267, u 268, u 269, u 270, u 271, u 272, u 273, u 274, u 275, u 276, u 277, u 278, u 279, u 280, u 281, u 282], defers := [] }

set_option maxRecDepth 100000 in
theorem frE_mk {b : Bl} {X R T : Nat} {er : Value} {t : Array Value} (hs : t.size = 283) (h0 : t.getD 0 undef = ptr b.Z) (h1 : t.getD 1 undef = ptr X) (h4 : t.getD 4 undef = ptr R) (h6 : t.getD 6 undef = er) (h7 : t.getD 7 undef = ptr T) : FrE b X R T er { tmps := t, defers := [] } := by
  refine ⟨fun i => t.getD i undef, ?_⟩
  rw [← h0, ← h1, ← h4, ← h6, ← h7]
  have := (arr_ofFn t hs).trans (ofFn283 fun i => t.getD i undef)
  exact congrArg (fun x => ({ tmps := x, defers := [] } : Act)) this

/-- A frame at the first label. -/
def FrS (b : Bl) (X R : Nat) (a : Act) : Prop := ∃ u : Nat → Value, a = { tmps := #[ptr b.Z, ptr X, u 2, u 3, ptr R, u 5, u 6, u 7, u 8, u 9, u 10, u 11, u 12, u 13, u 14, u 15, u 16, u 17, u 18, u 19, u 20, u 21, u 22, u 23, u 24, u 25, u 26, u 27, u 28, u 29, u 30, u 31, u 32, u 33, u 34, u 35, u 36, u 37, u 38, u 39, u 40, u 41, u 42, u 43, u 44, u 45, u 46, u 47, u 48, u 49, u 50, u 51, u 52, u 53, u 54, u 55, u 56, u 57, u 58, u 59, u 60, u 61, u 62, u 63, u 64, u 65, u 66, u 67, u 68, u 69, u 70, u 71, u 72, u 73, u 74, u 75, u 76, u 77, u 78, u 79, u 80, u 81, u 82, u 83, u 84, u 85, u 86, u 87, u 88, u 89, u 90, u 91, u 92, u 93, u 94, u 95, u 96, u 97, u 98, u 99, u 100, u 101, u 102, u 103, u 104, u 105, u 106, u 107, u 108, u 109, u 110, u 111, u 112, u 113, u 114, u 115, u 116, u 117, u 118, u 119, u 120, u 121, u 122, u 123, u 124, u 125, u 126, u 127, u 128, u 129, u 130, u 131, u 132, u 133, u 134, u 135, u 136, u 137, u 138, u 139, u 140, u 141, u 142, u 143, u 144, u 145, u 146, u 147, u 148, u 149, u 150, u 151, u 152, u 153, u 154, u 155, u 156, u 157, u 158, u 159, u 160, u 161, u 162, u 163, u 164, u 165, u 166, u 167, u 168, u 169, u 170, u 171, u 172, u 173, u 174, u 175, u 176, u 177, u 178, u 179, u 180, u 181, u 182, u 183, u 184, u 185, u 186, u 187, u 188, u 189, u 190, u 191, u 192, u 193, u 194, u 195, u 196, u 197, u 198, u 199, u 200, u 201, u 202, u 203, u 204, u 205, u 206, u 207, u 208, u 209, u 210, u 211, u 212, u 213, u 214, u 215, u 216, u 217, u 218, u 219, u 220, u 221, u 222, u 223, u 224, u 225, u 226, u 227, u 228, u 229, u 230, u 231, u 232, u 233, u 234, u 235, u 236, u 237, u 238, u 239, u 240, u 241, u 242, u 243, u 244, u 245, u 246, u 247, u 248, u 249, u 250, u 251, u 252, u 253, u 254, u 255, u 256, u 257, u 258, u 259, u 260, u 261, u 262, u 263, u 264, u 265, u 266, u 267, u 268, u 269, u 270, u 271, u 272, u 273, u 274, u 275, u 276, u 277, u 278, u 279, u 280, u 281, u 282], defers := [] }
set_option maxRecDepth 100000 in
theorem frS_mk {b : Bl} {X R : Nat} {t : Array Value} (hs : t.size = 283) (h0 : t.getD 0 undef = ptr b.Z) (h1 : t.getD 1 undef = ptr X) (h4 : t.getD 4 undef = ptr R) : FrS b X R { tmps := t, defers := [] } := by
  refine ⟨fun i => t.getD i undef, ?_⟩
  rw [← h0, ← h1, ← h4]
  have := (arr_ofFn t hs).trans (ofFn283 fun i => t.getD i undef)
  exact congrArg (fun x => ({ tmps := x, defers := [] } : Act)) this

/-- In the midst of Scan: the scanner, its buffer g, the token's block T. -/
structure Mid (w0 : World) (b : Bl) (r : Bs) (L : Int) (g : Nat) (l : Bs) (X R T bm : Nat) (obj : Obj) (ty : Int) (st so : ByteArray) (ln cl : Int) (w : World) : Prop where
  sb : Sb w b r L g l
  tk : TokAt w T ty ⟨#[]⟩ st so ln cl
  rk : TokAt w R 0 ⟨#[]⟩ ⟨#[]⟩ ⟨#[]⟩ 0 0
  tb : Tab w bm obj
  lx : LxAt w X
  ch : Ch (Us b X) w0 w
  nT : w0.heap.size ≤ T
  nR : w0.heap.size ≤ R
  TR : T ≠ R
  Tg : T < g
  Rg : R < g
section
variable {w0 w w' : World} {b : Bl} {r r' : Bs} {L L' : Int} {g : Nat} {l l' : Bs} {X R T bm : Nat} {obj : Obj} {ty : Int} {st so : ByteArray} {ln cl : Int}
theorem Mid.step (h : Mid w0 b r L g l X R T bm obj ty st so ln cl w) (he : Env w0 b X bm) (hs : Sb w' b r' L' g l') (hc : Ch (Ub b g) w w') : Mid w0 b r' L' g l' X R T bm obj ty st so ln cl w' := by
  have hn : ∀ k, w0.heap.size ≤ k → k < g → ¬ Ub b g k := fun k h1 h2 hu => hu.elim (fun ht => by have := he.tr k ht; omega) (fun hg => by omega)
  have hg : w0.heap.size ≤ g := by have := h.nT; have := h.Tg; omega
  have ho : ∀ k, k < w0.heap.size → ¬ Tr b k → ¬ Ub b g k := fun k h1 h2 hu => hu.elim h2 (fun hg' => by omega)
  have h2 := he.l2
  exact ⟨hs, h.tk.keep hc (hn T h.nT h.Tg), h.rk.keep hc (hn R h.nR h.Rg), h.tb.keep hc (ho 0 (by omega) (fun ht => he.low 0 (by simp) (.inl ht))) (ho 1 (by omega) (fun ht => he.low 1 (by simp) (.inl ht))) (ho bm he.ml (fun ht => he.low bm (by simp) (.inl ht))), h.lx.keep hc (ho X he.xl he.nX), h.ch.trans' hc (fun k hk hu => hu.elim .inl (fun hg' => by omega)), h.nT, h.nR, h.TR, h.Tg, h.Rg⟩
theorem Mid.set0 (h : Mid w0 b r L g l X R T bm obj ty st so ln cl w) (he : Env w0 b X bm) (v : Int) : Mid w0 b r L g l X R T bm obj v st so ln cl (w.setCell ⟨T, 0, none⟩ (.int .i64 v)) := by
  have hc : Ch (fun k => k = T) w (w.setCell ⟨T, 0, none⟩ (.int .i64 v)) := Ch.setCell (T := fun k => k = T) (Ch.refl _ _) (p := ⟨T, 0, none⟩) (fun _ => rfl) _
  have hTg := h.Tg
  have hnT := h.nT
  have h2 := he.l2
  refine ⟨h.sb.keep hc ?_ (by omega), h.tk.set0 v, h.rk.keep hc (fun e => h.TR e.symm), h.tb.keep hc (by omega) (by omega) (by have := he.ml; omega), h.lx.keep hc (by have := he.xl; omega), h.ch.trans' hc (fun k hk e => by omega), h.nT, h.nR, h.TR, h.Tg, h.Rg⟩
  rintro k (hk | hk) e
  · have := he.tr k hk; omega
  · omega
theorem Mid.set2 (h : Mid w0 b r L g l X R T bm obj ty st so ln cl w) (he : Env w0 b X bm) (v : ByteArray) : Mid w0 b r L g l X R T bm obj ty v so ln cl (w.setCell ⟨T, 2, none⟩ (.string v)) := by
  have hc : Ch (fun k => k = T) w (w.setCell ⟨T, 2, none⟩ (.string v)) := Ch.setCell (T := fun k => k = T) (Ch.refl _ _) (p := ⟨T, 2, none⟩) (fun _ => rfl) _
  have hTg := h.Tg
  have hnT := h.nT
  have h2 := he.l2
  refine ⟨h.sb.keep hc ?_ (by omega), h.tk.set2 v, h.rk.keep hc (fun e => h.TR e.symm), h.tb.keep hc (by omega) (by omega) (by have := he.ml; omega), h.lx.keep hc (by have := he.xl; omega), h.ch.trans' hc (fun k hk e => by omega), h.nT, h.nR, h.TR, h.Tg, h.Rg⟩
  rintro k (hk | hk) e
  · have := he.tr k hk; omega
  · omega
theorem Mid.fin (h : Mid w0 b r L g l X R T bm obj ty st so ln cl w) : Fin w0 b r L X R T bm obj ty st so ln cl w := ⟨h.sb.rd, h.tk, h.rk, h.tb, h.lx, h.ch, h.nT, h.nR, h.TR⟩
theorem Mid.drew (h : Mid w0 b r L g l X R T bm obj ty st so ln cl w) (he : Env w0 b X bm) (n : Nat) : Mid w0 b r L g l X R T bm obj ty st so ln cl (w.drewN n) :=
  h.step he (h.sb.moved ((Ch.refl _ _).drewN n)) (((Ch.refl (fun _ => False) _).drewN n).mono fun _ _ h => h.elim)
end

/-- The contracts of the scanner's parts, in the midst of Scan. -/
theorem md_string {w0 w : World} {b : Bl} {r : Bs} {L : Int} {g : Nat} {l : Bs} {X R T bm : Nat} {obj : Obj} {ty : Int} {st so : ByteArray} {ln cl : Int} (HE : Hid (Env w0 b X bm)) (H : Hid (Mid w0 b r L g l X R T bm obj ty st so ln cl w)) :
    Calls Tryz.prog 31 #[ptr g] w fun e w' => e = .returned (.string ⟨l.toArray⟩) ∧ Mid w0 b r L g l X R T bm obj ty st so ln cl w' := by
  refine (Buffer_String g g l w H.out.sb.bf).mono ?_
  rintro e w' ⟨rfl, n, rfl⟩
  exact ⟨rfl, H.out.drew HE.out n⟩
theorem md_peek {w0 w : World} {b : Bl} {r : Bs} {L : Int} {g : Nat} {l : Bs} {X R T bm : Nat} {obj : Obj} {ty : Int} {st so : ByteArray} {ln cl : Int} (HE : Hid (Env w0 b X bm)) (H : Hid (Mid w0 b r L g l X R T bm obj ty st so ln cl w)) :
    Calls Tryz.prog 34 #[ptr b.Z] w fun e w' => e = .returned (.int .i64 (hd r)) ∧ Mid w0 b r L g l X R T bm obj ty st so ln cl w' := by
  refine (sb_peek (Lib.hid H.out.sb)).mono ?_
  rintro e w' ⟨rfl, hs, hc⟩
  exact ⟨rfl, H.out.step HE.out hs hc⟩
theorem md_next {w0 w : World} {b : Bl} {r : Bs} {L : Int} {g : Nat} {l : Bs} {X R T bm : Nat} {obj : Obj} {ty : Int} {st so : ByteArray} {ln cl : Int} (HE : Hid (Env w0 b X bm)) (H : Hid (Mid w0 b r L g l X R T bm obj ty st so ln cl w)) (h13 : NoCr r) :
    Calls Tryz.prog 36 #[ptr b.Z] w fun e w' => e = .returned (.int .i64 (hd r)) ∧ Mid w0 b (tl1 r) (ln1 r L) g l X R T bm obj ty st so ln cl w' := by
  refine (sb_next (Lib.hid H.out.sb) h13).mono ?_
  rintro e w' ⟨rfl, hs, hc⟩
  exact ⟨rfl, H.out.step HE.out hs hc⟩
theorem md_write {w0 w : World} {b : Bl} {r : Bs} {L : Int} {g : Nat} {l : Bs} {X R T bm : Nat} {obj : Obj} {ty : Int} {st so : ByteArray} {ln cl : Int} {c : UInt8} (HE : Hid (Env w0 b X bm)) (H : Hid (Mid w0 b r L g l X R T bm obj ty st so ln cl w)) (hl : l.length < 100000) :
    Calls Tryz.prog 40 #[ptr g, .int .i64 (c.toNat : Int)] w fun e w' => e = .returned (.tuple #[]) ∧ Mid w0 b r L g (l ++ [c]) X R T bm obj ty st so ln cl w' := by
  refine (sb_write (Lib.hid H.out.sb) hl).mono ?_
  rintro e w' ⟨rfl, hs, hc⟩
  exact ⟨rfl, H.out.step HE.out hs hc⟩
theorem md_err {w0 w : World} {b : Bl} {r : Bs} {L : Int} {g : Nat} {l : Bs} {X R T bm : Nat} {obj : Obj} {ty : Int} {st so : ByteArray} {ln cl : Int} {s1 s2 : ByteArray} (HE : Hid (Env w0 b X bm)) (H : Hid (Mid w0 b r L g l X R T bm obj ty st so ln cl w)) :
    Calls Tryz.prog 39 #[ptr b.Z, .string s1, .string s2] w fun e w' => (∃ p, e = .returned (ptr p)) ∧ Mid w0 b r L g l X R T bm obj ty st so ln cl w' := by
  refine (err_calls (Lib.hid H.out.sb.rd)).mono ?_
  rintro e w' ⟨⟨p, rfl⟩, hc⟩
  exact ⟨⟨p, rfl⟩, H.out.step HE.out (H.out.sb.moved hc) (hc.mono fun _ _ h => h.elim)⟩

end Go.Proofs.YtbgjjbffpckimaaGreatDoor

namespace Go.Proofs.YtbgjjbffpckimaaGreatDoor
set_option linter.all false
open Go.RowKit

/-- The types of the signs. -/
def sgTab : List (Bs × Int) := [([46, 46, 46], 57373), ([46, 46], 57372), ([61, 61], 57368), ([126, 61], 57369), ([60, 61], 57370), ([62, 61], 57371), ([43], 43), ([45], 45), ([42], 42), ([47], 47), ([37], 37), ([94], 94), ([35], 35), ([60], 60), ([62], 62), ([61], 61), ([40], 40), ([41], 41), ([123], 123), ([125], 125), ([91], 91), ([93], 93), ([59], 59), ([58], 58), ([44], 44), ([46], 46)]
/-- The type and the text by which Scan gives a token. -/
def TyOk (k : Nat) (raw : Bs) (ty : Int) (st : Bs) : Prop :=
  (k = 1 ∧ ty = 57375 ∧ st = raw) ∨ (k = 2 ∧ (raw, ty) ∈ kwTab.take 21) ∨ (k = 3 ∧ (raw, ty) ∈ sgTab) ∨ (k = 4 ∧ ty = 57376 ∧ st = raw) ∨ (k = 5 ∧ ty = 57377 ∧ st = raw)

theorem lookup_none {s : Bs} : ∀ {l : List (Bs × Int)}, (∀ p ∈ l, p.1 ≠ s) → l.lookup s = none
  | [], _ => rfl
  | (a, v) :: l, h => by
    have h1 : ¬ s = a := fun e => h (a, v) (by simp) e.symm
    rw [List.lookup_cons]
    have : (s == a) = false := by simpa using h1
    rw [this]
    exact lookup_none fun p hp => h p (by simp [hp])
theorem kwTab_fst : ∀ p ∈ kwTab, p.1 ∈ kws ∨ p.1 = gotoB := by decide
theorem kws_in : ∀ s ∈ kws, ∃ ty, kwOf s = (ty, true) ∧ (s, ty) ∈ kwTab.take 21 ∧ ty < 57402 := by
  have h : ∀ s ∈ kws, kwOf s = ((kwOf s).1, true) ∧ (s, (kwOf s).1) ∈ kwTab.take 21 ∧ (kwOf s).1 < 57402 := by decide
  intro s hs
  exact ⟨_, h s hs⟩
theorem kws_out {s : Bs} (h : s ∉ kws) (hg : s ≠ gotoB) : kwOf s = (0, false) := by
  unfold kwOf
  rw [lookup_none]
  intro p hp e
  rcases kwTab_fst p hp with h1 | h1
  · exact h (e ▸ h1)
  · exact hg (e ▸ h1)

set_option maxRecDepth 100000 in
set_option maxHeartbeats 4000000 in
theorem sw_word {w0 w : World} {b : Bl} {t : Bs} {L : Int} {g : Nat} {X R T bm : Nat} {obj : Obj} {so : ByteArray} {ln cl : Int} {Q : Exit → Act → World → Prop} (u : Nat → Value) (HE : Hid (Env w0 b X bm)) {c : UInt8} (H : Hid (Mid w0 b t L g [] X R T bm obj 0 ⟨#[]⟩ so ln cl w)) (hc : isLet c = true) (hk : (c :: t).takeWhile isIdc ∈ kws) (h13 : NoCr t)
    (hN : ∀ a' w' ty st, FrE b X R T .nilIface a' → TyOk 2 ((c :: t).takeWhile isIdc) ty st → ty < 57402 → Fin w0 b ((c :: t).dropWhile isIdc) L X R T bm obj ty ⟨st.toArray⟩ so ln cl w' → Q .normal a' w') :
    sw12.wp Tryz.prog Q { tmps := #[ptr b.Z, ptr X, u 2, u 3, ptr R, u 5, .nilIface, ptr T, u 8, .int .i64 (c.toNat : Int), ptr g, ptr g, u 12, u 13, u 14, u 15, u 16, u 17, u 18, u 19, u 20, u 21, u 22, u 23, u 24, u 25, u 26, u 27, u 28, u 29, u 30, u 31, u 32, u 33, u 34, u 35, u 36, u 37, u 38, u 39, u 40, u 41, u 42, u 43, u 44, u 45, u 46, u 47, u 48, u 49, u 50, u 51, u 52, u 53, u 54, u 55, u 56, u 57, u 58, u 59, u 60, u 61, u 62, u 63, u 64, u 65, u 66, u 67, u 68, u 69, u 70, u 71, u 72, u 73, u 74, u 75, u 76, u 77, u 78, u 79, u 80, u 81, u 82, u 83, u 84, u 85, u 86, u 87, u 88, u 89, u 90, u 91, u 92, u 93, u 94, u 95, u 96, u 97, u 98, u 99, u 100, u 101, u 102, u 103, u 104, u 105, u 106, u 107, u 108, u 109, u 110, u 111, u 112, u 113, u 114, u 115, u 116, u 117, u 118, u 119, u 120, u 121, u 122, u 123, u 124, u 125, u 126, u 127, u 128, u 129, u 130, u 131, u 132, u 133, u 134, u 135, u 136, u 137, u 138, u 139, u 140, u 141, u 142, u 143, u 144, u 145, u 146, u 147, u 148, u 149, u 150, u 151, u 152, u 153, u 154, u 155, u 156, u 157, u 158, u 159, u 160, u 161, u 162, u 163, u 164, u 165, u 166, u 167, u 168, u 169, u 170, u 171, u 172, u 173, u 174, u 175, u 176, u 177, u 178, u 179, u 180, u 181, u 182, u 183, u 184, u 185, u 186, u 187, u 188, u 189, u 190, u 191, u 192, u 193, u 194, u 195, u 196, u 197, u 198, u 199, u 200, u 201, u 202, u 203, u 204, u 205, u 206, u 207, u 208, u 209, u 210, u 211, u 212, u 213, u 214, u 215, u 216, u 217, u 218, u 219, u 220, u 221, u 222, u 223, u 224, u 225, u 226, u 227, u 228, u 229, u 230, u 231, u 232, u 233, u 234, u 235, u 236, u 237, u 238, u 239, u 240, u 241, u 242, u 243, u 244, u 245, u 246, u 247, u 248, u 249, u 250, u 251, u 252, u 253, u 254, u 255, u 256, u 257, u 258, u 259, u 260, u 261, u 262, u 263, u 264, u 265, u 266, u 267, u 268, u 269, u 270, u 271, u 272, u 273, u 274, u 275, u 276, u 277, u 278, u 279, u 280, u 281, u 282], defers := [] } w := by
  have HN := Lib.hid hN
  have H13 := Lib.hid h13
  have hid : isIdc c = true := by unfold isIdc; rw [hc]; rfl
  have htk : (c :: t).takeWhile isIdc = c :: t.takeWhile isIdc := by rw [List.takeWhile_cons, if_pos hid]
  have hdr : (c :: t).dropWhile isIdc = t.dropWhile isIdc := by rw [List.dropWhile_cons, if_pos hid]
  have hlen := H.out.sb.rd.len
  obtain ⟨ty, hkw, hin, hty⟩ := kws_in _ hk
  have HIN := Lib.hid hin
  have HTY := Lib.hid hty
  clear hin hty hk
  have HKW := Lib.hid hkw
  have HTK := Lib.hid htk
  have HDR := Lib.hid hdr
  clear hN h13 hid htk hdr hkw
  conv => arg 2; whnf
  go_wp2_with fail
  refine (isLet_calls (r := c :: t) (v := true) hc).mono ?_
  rintro e w1 ⟨rfl, rfl⟩
  clear hc
  have t0 := H.out.tk.c0
  have z0 := H.out.tk.fz 0
  have H1 := Lib.hid (H.out.set0 HE.out 57375)
  clear H
  simp only []
  go_wp2_with fail
  refine (scanIdent_calls (Lib.hid H1.out.sb) H13.out (by simp only [List.length_nil]; omega)).mono ?_
  rintro e w2 ⟨rfl, hs, hc⟩
  rw [List.nil_append, List.singleton_append, ← HTK.out, ← HDR.out] at hs
  have H2 := Lib.hid (H1.out.step HE.out hs hc)
  clear hs hc H1 t0 z0
  simp only []
  go_wp2_with fail
  refine (md_string HE H2).mono ?_
  rintro e w3 ⟨rfl, hm⟩
  have t2 := hm.tk.c2
  have z2 := hm.tk.fz 2
  have hm4 := hm.set2 HE.out ⟨((c :: t).takeWhile isIdc).toArray⟩
  have g0 := hm4.tb.g0
  have t24 := hm4.tk.c2
  have t04 := hm4.tk.c0
  have z04 := hm4.tk.fz 0
  have hlk := hm4.tb.look ((c :: t).takeWhile isIdc) _ hm4.tb.ob
  rw [HKW.out] at hlk
  have H4 := Lib.hid hm4
  clear hm hm4 H2
  simp only []
  go_wp2_with fail
  exact HN.out _ _ ty ((c :: t).takeWhile isIdc) (frE_mk rfl rfl rfl rfl rfl rfl) (.inr (.inl ⟨rfl, HIN.out⟩)) HTY.out (H4.out.set0 HE.out ty).fin

set_option maxRecDepth 100000 in
set_option maxHeartbeats 4000000 in
theorem sw_name {w0 w : World} {b : Bl} {t : Bs} {L : Int} {g : Nat} {X R T bm : Nat} {obj : Obj} {so : ByteArray} {ln cl : Int} {Q : Exit → Act → World → Prop} (u : Nat → Value) (HE : Hid (Env w0 b X bm)) {c : UInt8} (H : Hid (Mid w0 b t L g [] X R T bm obj 0 ⟨#[]⟩ so ln cl w)) (hc : isLet c = true) (hk : (c :: t).takeWhile isIdc ∉ kws) (hg : (c :: t).takeWhile isIdc ≠ gotoB) (h13 : NoCr t)
    (hN : ∀ a' w' ty st, FrE b X R T .nilIface a' → TyOk 1 ((c :: t).takeWhile isIdc) ty st → ty < 57402 → Fin w0 b ((c :: t).dropWhile isIdc) L X R T bm obj ty ⟨st.toArray⟩ so ln cl w' → Q .normal a' w') :
    sw12.wp Tryz.prog Q { tmps := #[ptr b.Z, ptr X, u 2, u 3, ptr R, u 5, .nilIface, ptr T, u 8, .int .i64 (c.toNat : Int), ptr g, ptr g, u 12, u 13, u 14, u 15, u 16, u 17, u 18, u 19, u 20, u 21, u 22, u 23, u 24, u 25, u 26, u 27, u 28, u 29, u 30, u 31, u 32, u 33, u 34, u 35, u 36, u 37, u 38, u 39, u 40, u 41, u 42, u 43, u 44, u 45, u 46, u 47, u 48, u 49, u 50, u 51, u 52, u 53, u 54, u 55, u 56, u 57, u 58, u 59, u 60, u 61, u 62, u 63, u 64, u 65, u 66, u 67, u 68, u 69, u 70, u 71, u 72, u 73, u 74, u 75, u 76, u 77, u 78, u 79, u 80, u 81, u 82, u 83, u 84, u 85, u 86, u 87, u 88, u 89, u 90, u 91, u 92, u 93, u 94, u 95, u 96, u 97, u 98, u 99, u 100, u 101, u 102, u 103, u 104, u 105, u 106, u 107, u 108, u 109, u 110, u 111, u 112, u 113, u 114, u 115, u 116, u 117, u 118, u 119, u 120, u 121, u 122, u 123, u 124, u 125, u 126, u 127, u 128, u 129, u 130, u 131, u 132, u 133, u 134, u 135, u 136, u 137, u 138, u 139, u 140, u 141, u 142, u 143, u 144, u 145, u 146, u 147, u 148, u 149, u 150, u 151, u 152, u 153, u 154, u 155, u 156, u 157, u 158, u 159, u 160, u 161, u 162, u 163, u 164, u 165, u 166, u 167, u 168, u 169, u 170, u 171, u 172, u 173, u 174, u 175, u 176, u 177, u 178, u 179, u 180, u 181, u 182, u 183, u 184, u 185, u 186, u 187, u 188, u 189, u 190, u 191, u 192, u 193, u 194, u 195, u 196, u 197, u 198, u 199, u 200, u 201, u 202, u 203, u 204, u 205, u 206, u 207, u 208, u 209, u 210, u 211, u 212, u 213, u 214, u 215, u 216, u 217, u 218, u 219, u 220, u 221, u 222, u 223, u 224, u 225, u 226, u 227, u 228, u 229, u 230, u 231, u 232, u 233, u 234, u 235, u 236, u 237, u 238, u 239, u 240, u 241, u 242, u 243, u 244, u 245, u 246, u 247, u 248, u 249, u 250, u 251, u 252, u 253, u 254, u 255, u 256, u 257, u 258, u 259, u 260, u 261, u 262, u 263, u 264, u 265, u 266, u 267, u 268, u 269, u 270, u 271, u 272, u 273, u 274, u 275, u 276, u 277, u 278, u 279, u 280, u 281, u 282], defers := [] } w := by
  have HN := Lib.hid hN
  have H13 := Lib.hid h13
  have hid : isIdc c = true := by unfold isIdc; rw [hc]; rfl
  have htk : (c :: t).takeWhile isIdc = c :: t.takeWhile isIdc := by rw [List.takeWhile_cons, if_pos hid]
  have hdr : (c :: t).dropWhile isIdc = t.dropWhile isIdc := by rw [List.dropWhile_cons, if_pos hid]
  have hlen := H.out.sb.rd.len
  have hkw := kws_out hk hg
  clear hk hg
  have HKW := Lib.hid hkw
  have HTK := Lib.hid htk
  have HDR := Lib.hid hdr
  clear hN h13 hid htk hdr hkw
  conv => arg 2; whnf
  go_wp2_with fail
  refine (isLet_calls (r := c :: t) (v := true) hc).mono ?_
  rintro e w1 ⟨rfl, rfl⟩
  clear hc
  have t0 := H.out.tk.c0
  have z0 := H.out.tk.fz 0
  have H1 := Lib.hid (H.out.set0 HE.out 57375)
  clear H
  simp only []
  go_wp2_with fail
  refine (scanIdent_calls (Lib.hid H1.out.sb) H13.out (by simp only [List.length_nil]; omega)).mono ?_
  rintro e w2 ⟨rfl, hs, hc⟩
  rw [List.nil_append, List.singleton_append, ← HTK.out, ← HDR.out] at hs
  have H2 := Lib.hid (H1.out.step HE.out hs hc)
  clear hs hc H1 t0 z0
  simp only []
  go_wp2_with fail
  refine (md_string HE H2).mono ?_
  rintro e w3 ⟨rfl, hm⟩
  have t2 := hm.tk.c2
  have z2 := hm.tk.fz 2
  have hm4 := hm.set2 HE.out ⟨((c :: t).takeWhile isIdc).toArray⟩
  have g0 := hm4.tb.g0
  have t24 := hm4.tk.c2
  have t04 := hm4.tk.c0
  have z04 := hm4.tk.fz 0
  have hlk := hm4.tb.look ((c :: t).takeWhile isIdc) _ hm4.tb.ob
  rw [HKW.out] at hlk
  have H4 := Lib.hid hm4
  clear hm hm4 H2
  simp only []
  go_wp2_with fail
  exact HN.out _ _ 57375 ((c :: t).takeWhile isIdc) (frE_mk rfl rfl rfl rfl rfl rfl) (.inl ⟨rfl, rfl, rfl⟩) (by omega) H4.out.fin

set_option maxRecDepth 100000 in
set_option maxHeartbeats 4000000 in
theorem sw_eof {w0 w : World} {b : Bl} {t : Bs} {L : Int} {g : Nat} {X R T bm : Nat} {obj : Obj} {so : ByteArray} {ln cl : Int} {Q : Exit → Act → World → Prop} (u : Nat → Value) (HE : Hid (Env w0 b X bm)) (H : Hid (Mid w0 b [] L g [] X R T bm obj 0 ⟨#[]⟩ so ln cl w))
    (hN : ∀ a' w', FrE b X R T .nilIface a' → Fin w0 b [] L X R T bm obj (-1) ⟨#[]⟩ so ln cl w' → Q .normal a' w') :
    sw12.wp Tryz.prog Q { tmps := #[ptr b.Z, ptr X, u 2, u 3, ptr R, u 5, .nilIface, ptr T, u 8, .int .i64 (-1), ptr g, ptr g, u 12, u 13, u 14, u 15, u 16, u 17, u 18, u 19, u 20, u 21, u 22, u 23, u 24, u 25, u 26, u 27, u 28, u 29, u 30, u 31, u 32, u 33, u 34, u 35, u 36, u 37, u 38, u 39, u 40, u 41, u 42, u 43, u 44, u 45, u 46, u 47, u 48, u 49, u 50, u 51, u 52, u 53, u 54, u 55, u 56, u 57, u 58, u 59, u 60, u 61, u 62, u 63, u 64, u 65, u 66, u 67, u 68, u 69, u 70, u 71, u 72, u 73, u 74, u 75, u 76, u 77, u 78, u 79, u 80, u 81, u 82, u 83, u 84, u 85, u 86, u 87, u 88, u 89, u 90, u 91, u 92, u 93, u 94, u 95, u 96, u 97, u 98, u 99, u 100, u 101, u 102, u 103, u 104, u 105, u 106, u 107, u 108, u 109, u 110, u 111, u 112, u 113, u 114, u 115, u 116, u 117, u 118, u 119, u 120, u 121, u 122, u 123, u 124, u 125, u 126, u 127, u 128, u 129, u 130, u 131, u 132, u 133, u 134, u 135, u 136, u 137, u 138, u 139, u 140, u 141, u 142, u 143, u 144, u 145, u 146, u 147, u 148, u 149, u 150, u 151, u 152, u 153, u 154, u 155, u 156, u 157, u 158, u 159, u 160, u 161, u 162, u 163, u 164, u 165, u 166, u 167, u 168, u 169, u 170, u 171, u 172, u 173, u 174, u 175, u 176, u 177, u 178, u 179, u 180, u 181, u 182, u 183, u 184, u 185, u 186, u 187, u 188, u 189, u 190, u 191, u 192, u 193, u 194, u 195, u 196, u 197, u 198, u 199, u 200, u 201, u 202, u 203, u 204, u 205, u 206, u 207, u 208, u 209, u 210, u 211, u 212, u 213, u 214, u 215, u 216, u 217, u 218, u 219, u 220, u 221, u 222, u 223, u 224, u 225, u 226, u 227, u 228, u 229, u 230, u 231, u 232, u 233, u 234, u 235, u 236, u 237, u 238, u 239, u 240, u 241, u 242, u 243, u 244, u 245, u 246, u 247, u 248, u 249, u 250, u 251, u 252, u 253, u 254, u 255, u 256, u 257, u 258, u 259, u 260, u 261, u 262, u 263, u 264, u 265, u 266, u 267, u 268, u 269, u 270, u 271, u 272, u 273, u 274, u 275, u 276, u 277, u 278, u 279, u 280, u 281, u 282], defers := [] } w := by
  have HN := Lib.hid hN
  clear hN
  conv => arg 2; whnf
  go_wp2_with fail
  refine (isLet_calls (r := []) (v := false) rfl).mono ?_
  rintro e w1 ⟨rfl, rfl⟩
  simp only []
  go_wp2_with fail
  refine (isDec_calls (r := []) (v := false) rfl).mono ?_
  rintro e w1 ⟨rfl, rfl⟩
  have t0 := H.out.tk.c0
  have z0 := H.out.tk.fz 0
  have H1 := Lib.hid (H.out.set0 HE.out (-1))
  clear H
  simp only []
  go_wp2_with fail
  exact HN.out _ _ (frE_mk rfl rfl rfl rfl rfl rfl) H1.out.fin

set_option maxRecDepth 100000 in
set_option maxHeartbeats 4000000 in
theorem sw_num {w0 w : World} {b : Bl} {t : Bs} {L : Int} {g : Nat} {X R T bm : Nat} {obj : Obj} {so : ByteArray} {ln cl : Int} {Q : Exit → Act → World → Prop} (u : Nat → Value) (HE : Hid (Env w0 b X bm)) {c : UInt8} {raw rest : Bs} (H : Hid (Mid w0 b t L g [] X R T bm obj 0 ⟨#[]⟩ so ln cl w)) (hc : isDec c = true)
    (hcall : ∀ w1, Sb w1 b t L g [] → Calls Tryz.prog 33 #[ptr b.Z, .int .i64 (c.toNat : Int), ptr g] w1 (NumPost w1 b L g raw rest))
    (hN : ∀ a' w', FrE b X R T .nilIface a' → Fin w0 b rest L X R T bm obj 57376 ⟨raw.toArray⟩ so ln cl w' → Q .normal a' w') :
    sw12.wp Tryz.prog Q { tmps := #[ptr b.Z, ptr X, u 2, u 3, ptr R, u 5, .nilIface, ptr T, u 8, .int .i64 (c.toNat : Int), ptr g, ptr g, u 12, u 13, u 14, u 15, u 16, u 17, u 18, u 19, u 20, u 21, u 22, u 23, u 24, u 25, u 26, u 27, u 28, u 29, u 30, u 31, u 32, u 33, u 34, u 35, u 36, u 37, u 38, u 39, u 40, u 41, u 42, u 43, u 44, u 45, u 46, u 47, u 48, u 49, u 50, u 51, u 52, u 53, u 54, u 55, u 56, u 57, u 58, u 59, u 60, u 61, u 62, u 63, u 64, u 65, u 66, u 67, u 68, u 69, u 70, u 71, u 72, u 73, u 74, u 75, u 76, u 77, u 78, u 79, u 80, u 81, u 82, u 83, u 84, u 85, u 86, u 87, u 88, u 89, u 90, u 91, u 92, u 93, u 94, u 95, u 96, u 97, u 98, u 99, u 100, u 101, u 102, u 103, u 104, u 105, u 106, u 107, u 108, u 109, u 110, u 111, u 112, u 113, u 114, u 115, u 116, u 117, u 118, u 119, u 120, u 121, u 122, u 123, u 124, u 125, u 126, u 127, u 128, u 129, u 130, u 131, u 132, u 133, u 134, u 135, u 136, u 137, u 138, u 139, u 140, u 141, u 142, u 143, u 144, u 145, u 146, u 147, u 148, u 149, u 150, u 151, u 152, u 153, u 154, u 155, u 156, u 157, u 158, u 159, u 160, u 161, u 162, u 163, u 164, u 165, u 166, u 167, u 168, u 169, u 170, u 171, u 172, u 173, u 174, u 175, u 176, u 177, u 178, u 179, u 180, u 181, u 182, u 183, u 184, u 185, u 186, u 187, u 188, u 189, u 190, u 191, u 192, u 193, u 194, u 195, u 196, u 197, u 198, u 199, u 200, u 201, u 202, u 203, u 204, u 205, u 206, u 207, u 208, u 209, u 210, u 211, u 212, u 213, u 214, u 215, u 216, u 217, u 218, u 219, u 220, u 221, u 222, u 223, u 224, u 225, u 226, u 227, u 228, u 229, u 230, u 231, u 232, u 233, u 234, u 235, u 236, u 237, u 238, u 239, u 240, u 241, u 242, u 243, u 244, u 245, u 246, u 247, u 248, u 249, u 250, u 251, u 252, u 253, u 254, u 255, u 256, u 257, u 258, u 259, u 260, u 261, u 262, u 263, u 264, u 265, u 266, u 267, u 268, u 269, u 270, u 271, u 272, u 273, u 274, u 275, u 276, u 277, u 278, u 279, u 280, u 281, u 282], defers := [] } w := by
  have HN := Lib.hid hN
  have HCALL := Lib.hid hcall
  have hc2 : 48 ≤ c.toNat ∧ c.toNat ≤ 57 := by simpa [isDec] using hc
  have hl : isLet c = false := by simp [isLet]; omega
  clear hN hcall
  conv => arg 2; whnf
  go_wp2_with fail
  refine (isLet_calls (r := c :: t) (v := false) hl).mono ?_
  rintro e w1 ⟨rfl, rfl⟩
  clear hl
  simp only []
  go_wp2_with fail
  refine (isDec_calls (r := c :: t) (v := true) hc).mono ?_
  rintro e w1 ⟨rfl, rfl⟩
  clear hc
  have t0 := H.out.tk.c0
  have z0 := H.out.tk.fz 0
  have H1 := Lib.hid (H.out.set0 HE.out 57376)
  clear H
  simp only []
  go_wp2_with fail
  refine (HCALL.out _ H1.out.sb).mono ?_
  rintro e w2 ⟨rfl, hs, hc⟩
  have H2 := Lib.hid (H1.out.step HE.out hs hc)
  clear hs hc H1 t0 z0
  simp only []
  go_wp2_with fail
  refine (md_string HE H2).mono ?_
  rintro e w3 ⟨rfl, hm⟩
  have t2 := hm.tk.c2
  have z2 := hm.tk.fz 2
  have H4 := Lib.hid (hm.set2 HE.out ⟨raw.toArray⟩)
  clear hm H2
  simp only []
  go_wp2_with fail
  exact HN.out _ _ (frE_mk rfl rfl rfl rfl rfl rfl) H4.out.fin

end Go.Proofs.YtbgjjbffpckimaaGreatDoor
