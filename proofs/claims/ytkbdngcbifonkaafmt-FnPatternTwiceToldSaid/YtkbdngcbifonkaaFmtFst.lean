/-
  laws.first9: the first match without captures, or none.
-/
import Derived.Test.YtkbdngcbifonkaaFmtMtc
import Derived.Laws.ResultCell
namespace Go.Proofs.YtkbdngcbifonkaaFmt
set_option linter.all false
open Go.RowKit

theorem cells4 {w w2 : World} {a b c d : Value} {T : TypeId} (h : Ch (fun _ => False) (w.alloc (.cells #[a, b, c, d] T)) w2) :
    w2.cell? ⟨w.heap.size, 0, none⟩ = some a ∧ w2.cell? ⟨w.heap.size, 1, none⟩ = some b ∧ w2.cell? ⟨w.heap.size, 2, none⟩ = some c ∧ w2.cell? ⟨w.heap.size, 3, none⟩ = some d ∧
      (∀ i, w2.frozen? ⟨w.heap.size, i, none⟩ = false) ∧ w.heap.size < w2.heap.size :=
  ⟨h.cell_some (World.cell?_alloc_at _ _ _ _ rfl) id, h.cell_some (World.cell?_alloc_at _ _ _ _ rfl) id, h.cell_some (World.cell?_alloc_at _ _ _ _ rfl) id, h.cell_some (World.cell?_alloc_at _ _ _ _ rfl) id,
    fun i => (h.frozen (p := ⟨w.heap.size, i, none⟩) (by simp) id).trans (World.frozen?_alloc_at _ _ _ _ rfl), by have := h.size; simp at this; omega⟩

theorem results_c3 {fn : Func} {p u v : Tmp} {ty : TypeId} (h : fn.results = #[.cell p ty, .tmp u, .tmp v]) (tmps : Array Value) (P : Program) (w : World) :
    (results fn tmps).run P w =
      ((asAddr (tmps.getD p undef)).run P w).andThen fun a w₁ => ((loadVar ty a).run P w₁).andThen fun x w₂ => .ok (.tuple #[x, tmps.getD u undef, tmps.getD v undef]) w₂ := by
  simp only [results, h]
  simp [Sem.run_bind, Result.andThen]

set_option maxRecDepth 100000 in
set_option maxHeartbeats 4000000 in
theorem first_none {w : World} {s t : ByteArray} {l : List UInt8} {sp0 f : Nat} {src : List UInt8} {ps : List Pm.Pat} {head : Bool} (hl : s.data.toList = l) (hll : l.length ≤ 1000) (ht : t.data.toList = src)
    (HP : Hid (Parses l head ps)) (HK : Hid (PatsOk ps)) (hsrc : src.length ≤ 100000) (hsp : sp0 ≤ src.length) (hf : f ≤ 1000000)
    (HF : Hid (Pm.find (Pm.code ps) src head f (src.length + 1 - sp0) sp0 = some none)) :
    Calls Tryf.prog 11 #[.string s, .string t, .int .i64 sp0] w fun e w' => Ch (fun _ => False) w w' ∧ e = .returned (.tuple #[.agg #[.int .i64 0, .int .i64 0, .slice none 0 0, .slice none 0 0], .bool true, .bool false]) := by
  have HL := Lib.hid hl
  have HT := Lib.hid ht
  clear hl ht
  go_enter Tryf.func11, Tryf.ntmps11
  go_wp2_with (go_at_call 18; refine (matches_none HL.out hll HT.out HP HK hsrc hsp hf HF).mono ?_; rintro e w2 ⟨hch2, A, c, rfl⟩; obtain ⟨z0, z1, z2, z3, z4, z5⟩ := cells4 hch2; have y0 := z4 0; have y1 := z4 1; have y2 := z4 2; have y3 := z4 3; have HCH2 := Lib.hid hch2; clear hch2 z4)
  refine bodyPost_ret (v := .tuple #[.agg #[.int .i64 0, .int .i64 0, .slice none 0 0, .slice none 0 0], .bool true, .bool false]) (by rw [results_c3 rfl]; simp [go_sem, z0, z1, z2, z3, z5]) rfl ?_
  exact ⟨((((((Ch.refl (fun _ => False) w).alloc _).trans HCH2.out).setCell (fun h => absurd h (Nat.lt_irrefl _)) _).setCell (fun h => absurd h (Nat.lt_irrefl _)) _).setCell (fun h => absurd h (Nat.lt_irrefl _)) _).setCell (fun h => absurd h (Nat.lt_irrefl _)) _, rfl⟩

set_option maxRecDepth 100000 in
set_option maxHeartbeats 4000000 in
theorem first_some {w : World} {s t : ByteArray} {l : List UInt8} {sp0 f a b : Nat} {src : List UInt8} {ps : List Pm.Pat} {head : Bool} (hl : s.data.toList = l) (hll : l.length ≤ 1000) (ht : t.data.toList = src)
    (HP : Hid (Parses l head ps)) (HK : Hid (PatsOk ps)) (hsrc : src.length ≤ 100000) (hsp : sp0 ≤ src.length) (hf : f ≤ 1000000) (ha : a ≤ 100000) (hb : b ≤ 100000)
    (HF : Hid (Pm.find (Pm.code ps) src head f (src.length + 1 - sp0) sp0 = some (some [2 * a, 2 * b]))) :
    Calls Tryf.prog 11 #[.string s, .string t, .int .i64 sp0] w fun e w' => Ch (fun _ => False) w w' ∧ ∃ x y, e = .returned (.tuple #[.agg #[.int .i64 (a : Int), .int .i64 (b : Int), sliceAt x 0 0, sliceAt y 0 0], .bool true, .bool true]) := by
  have HL := Lib.hid hl
  have HT := Lib.hid ht
  clear hl ht
  go_enter Tryf.func11, Tryf.ntmps11
  go_wp2_with (go_at_call 18; refine (matches_some HL.out hll HT.out HP HK hsrc hsp hf ha hb HF).mono ?_; rintro e w2 ⟨hch2, G, c, x, y, rfl, h0, h1, h2, h3⟩; obtain ⟨z0, z1, z2, z3, z4, z5⟩ := cells4 hch2; have y0 := z4 0; have y1 := z4 1; have y2 := z4 2; have y3 := z4 3; have HCH2 := Lib.hid hch2; clear hch2 z4)
  refine bodyPost_ret (v := .tuple #[.agg #[.int .i64 (a : Int), .int .i64 (b : Int), sliceAt x 0 0, sliceAt y 0 0], .bool true, .bool true]) (by rw [results_c3 rfl]; simp [go_sem, z0, z1, z2, z3, z5]) rfl ?_
  exact ⟨((((((Ch.refl (fun _ => False) w).alloc _).trans HCH2.out).setCell (fun h => absurd h (Nat.lt_irrefl _)) _).setCell (fun h => absurd h (Nat.lt_irrefl _)) _).setCell (fun h => absurd h (Nat.lt_irrefl _)) _).setCell (fun h => absurd h (Nat.lt_irrefl _)) _, _, _, rfl⟩
end Go.Proofs.YtkbdngcbifonkaaFmt
