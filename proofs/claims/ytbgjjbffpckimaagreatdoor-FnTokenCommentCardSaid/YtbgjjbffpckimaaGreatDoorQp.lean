/-
  The tokens of a text: a new scanner.
-/
import Derived.Test.YtbgjjbffpckimaaGreatDoorQa
import Derived.Deep.OwnRows
import Derived.Lib.Buffer
namespace Go.Proofs.YtbgjjbffpckimaaGreatDoor
set_option linter.all false
open Go.RowKit

set_option maxRecDepth 100000 in
set_option maxHeartbeats 4000000 in
theorem newReader_calls {w : World} {s : ByteArray} : Calls Tryz.prog 16 #[.string s] w fun e w' => e = .returned (ptr w.heap.size) ∧ w' = w.alloc (.cells #[.string s, .int .i64 0, .int .i64 (-1)] 74) := by
  go_enter Tryz.func16, Tryz.ntmps16
  go_wp2_with fail
  go_ret
  exact ⟨rfl, rfl⟩

set_option maxRecDepth 100000 in
set_option maxHeartbeats 4000000 in
theorem reset_calls {w : World} {B F S : Nat} {v0 v1 v2 v3 v4 v5 v6 : Value} (b0 : w.cell? ⟨B, 0, none⟩ = some v0) (b1 : w.cell? ⟨B, 1, none⟩ = some v1) (b2 : w.cell? ⟨B, 2, none⟩ = some v2) (b3 : w.cell? ⟨B, 3, none⟩ = some v3) (b4 : w.cell? ⟨B, 4, none⟩ = some v4) (b5 : w.cell? ⟨B, 5, none⟩ = some v5) (b6 : w.cell? ⟨B, 6, none⟩ = some v6) (bz : ∀ j, w.frozen? ⟨B, j, none⟩ = false) :
    Calls Tryz.prog 56 #[ptr B, .slice (some ⟨F, 0, none⟩) 4096 4096, .iface 45 (ptr S)] w fun e w' => e = .returned (.tuple #[]) ∧ w' = ((((((w.setCell ⟨B, 0, none⟩ (.slice (some ⟨F, 0, none⟩) 4096 4096)).setCell ⟨B, 1, none⟩ (.iface 45 (ptr S))).setCell ⟨B, 2, none⟩ (.int .i64 0)).setCell ⟨B, 3, none⟩ (.int .i64 0)).setCell ⟨B, 4, none⟩ .nilIface).setCell ⟨B, 5, none⟩ (.int .i64 (-1))).setCell ⟨B, 6, none⟩ (.int .i64 (-1)) := by
  have z0 := bz 0
  have z1 := bz 1
  have z2 := bz 2
  have z3 := bz 3
  have z4 := bz 4
  have z5 := bz 5
  have z6 := bz 6
  clear bz
  go_enter Tryz.func56, Tryz.ntmps56
  go_wp2_with fail
  refine bodyPost_end (results_none rfl _ _ _) rfl ?_
  exact ⟨rfl, rfl⟩

theorem mk4096 (w : World) : (Instr.makeSlice 36 (.int .i64 4096) (.int .i64 4096)).run Tryz.prog w = .ok (.slice (some ⟨w.heap.size, 0, none⟩) 4096 4096) (w.alloc (.cells (madeCells #[.int .u8 0] 4096) 5)) :=
  run_make_row' 36 5 (.int .u8 0) 1 und31 (by kernel_rfl) rfl .i64 .i64 4096 (by decide) (by decide) w
theorem assert_no (w : World) (S : Nat) : (Instr.typeAssert (.iface 45 (ptr S)) 68 69 true).run Tryz.prog w = .ok (.tuple #[.pointer none, .bool false]) w := by kernel_rfl

/-- A reader's new blocks. -/
def nw (w : World) : World := (w.alloc (.cells #[.slice none 0 0, .nilIface, .int .i64 0, .int .i64 0, .nilIface, .int .i64 0, .int .i64 0] 101)).alloc (.cells (madeCells #[.int .u8 0] 4096) 5)
theorem nw_old (w : World) (a : Addr) (h : a.block < w.heap.size) : (nw w).cell? a = w.cell? a := by
  unfold nw
  exact World.cell?_of_block (w := w) (((Ch.refl (fun _ => False) w).alloc _).alloc _ |>.block a.block h id)
theorem nw_cell (w : World) (j : Nat) : (nw w).cell? ⟨w.heap.size, j, none⟩ = #[Value.slice none 0 0, .nilIface, .int .i64 0, .int .i64 0, .nilIface, .int .i64 0, .int .i64 0][j]? := by
  have h : (nw w).heap[w.heap.size]? = some (.cells #[.slice none 0 0, .nilIface, .int .i64 0, .int .i64 0, .nilIface, .int .i64 0, .int .i64 0] 101) := by
    unfold nw
    rw [Below.heap_alloc _ _ _ (by simp)]
    exact heap_alloc_new w _
  rw [Lib.cell_of_heap h]
theorem nw_fr (w : World) (j : Nat) : (nw w).frozen? ⟨w.heap.size, j, none⟩ = false := by
  have h : (nw w).heap[w.heap.size]? = some (.cells #[.slice none 0 0, .nilIface, .int .i64 0, .int .i64 0, .nilIface, .int .i64 0, .int .i64 0] 101) := by
    unfold nw
    rw [Below.heap_alloc _ _ _ (by simp)]
    exact heap_alloc_new w _
  exact Lib.frozen_of_heap h j
theorem nw_buf (w : World) : (nw w).heap[w.heap.size + 1]? = some (.cells (madeCells #[.int .u8 0] 4096) 5) := by
  unfold nw
  have := heap_alloc_new (w.alloc (.cells #[.slice none 0 0, .nilIface, .int .i64 0, .int .i64 0, .nilIface, .int .i64 0, .int .i64 0] 101)) (.cells (madeCells #[.int .u8 0] 4096) 5)
  simpa using this

set_option maxRecDepth 100000 in
set_option maxHeartbeats 4000000 in
theorem newSize_calls {w : World} {S : Nat} {s : ByteArray} (s0 : w.cell? ⟨S, 0, none⟩ = some (.string s)) (s1 : w.cell? ⟨S, 1, none⟩ = some (.int .i64 0)) {v2 : Int} (s2 : w.cell? ⟨S, 2, none⟩ = some (.int .i64 v2)) (sz : ∀ j, w.frozen? ⟨S, j, none⟩ = false) :
    Calls Tryz.prog 27 #[.iface 45 (ptr S), .int .i64 4096] w fun e w' => e = .returned (ptr w.heap.size) ∧ BioAt w' w.heap.size (w.heap.size + 1) S s 0 0 0 (-1) ∧ Ch (fun _ => False) w w' := by
  have ta := assert_no w S
  have mk := fun w1 => mk4096 w1
  have SZ := Lib.hid sz
  clear sz
  go_enter Tryz.func27, Tryz.ntmps27
  go_wp2_with fail
  have lS : S < w.heap.size := World.block_lt_of_cell? w _ s0
  refine (reset_calls (w := nw w) (nw_cell w 0) (nw_cell w 1) (nw_cell w 2) (nw_cell w 3) (nw_cell w 4) (nw_cell w 5) (nw_cell w 6) (nw_fr w)).mono ?_
  rintro e w' ⟨rfl, hw'⟩
  simp only []
  go_wp2_with fail
  go_ret
  have d : ∀ {j k : Nat}, ¬ j = k → ¬ (⟨w.heap.size, j, none⟩ : Addr) = ⟨w.heap.size, k, none⟩ := fun e => addr_ne e
  have nF : ∀ {j k : Nat}, ¬ (⟨w.heap.size, j, none⟩ : Addr) = ⟨w.heap.size + 1, k, none⟩ := fun e => by have := congrArg Addr.block e; simp at this
  have nS : ∀ {j k : Nat}, ¬ (⟨w.heap.size, j, none⟩ : Addr) = ⟨S, k, none⟩ := fun e => by have : w.heap.size = S := congrArg Addr.block e; omega
  have hfr : ∀ a, w'.frozen? a = (nw w).frozen? a := fun a => by rw [hw']; rw [World.frozen?_setCell, World.frozen?_setCell, World.frozen?_setCell, World.frozen?_setCell, World.frozen?_setCell, World.frozen?_setCell, World.frozen?_setCell]
  have hc : Ch (fun b => b = w.heap.size) (nw w) w' := by
    rw [hw']
    exact ((((((Ch.setCell (T := fun b => b = w.heap.size) (Ch.refl _ _) (p := ⟨w.heap.size, 0, none⟩) (fun _ => rfl) _).setCell (p := ⟨w.heap.size, 1, none⟩) (fun _ => rfl) _).setCell (p := ⟨w.heap.size, 2, none⟩) (fun _ => rfl) _).setCell (p := ⟨w.heap.size, 3, none⟩) (fun _ => rfl) _).setCell (p := ⟨w.heap.size, 4, none⟩) (fun _ => rfl) _).setCell (p := ⟨w.heap.size, 5, none⟩) (fun _ => rfl) _).setCell (p := ⟨w.heap.size, 6, none⟩) (fun _ => rfl) _
  have hbuf : w'.heap[w.heap.size + 1]? = some (.cells (madeCells #[.int .u8 0] 4096) 5) := (hc.block _ (Lib.lt_of_heap (nw_buf w)) (by omega)).trans (nw_buf w)
  have hold : ∀ a : Addr, a.block < w.heap.size → w'.cell? a = w.cell? a := fun a ha => (hc.cell (by have : w.heap.size + 1 < (nw w).heap.size := Lib.lt_of_heap (nw_buf w); omega) (by omega)).trans (nw_old w a ha)
  have hcw : Ch (fun _ => False) w w' := (show Ch (fun _ => False) w (nw w) from ((Ch.refl _ _).alloc _).alloc _).trans' hc (fun i hi e => by omega)
  refine ⟨rfl, ⟨by rw [hw']; exact (co (co (co (co (co (co (cs (nw_cell w 0)) (d (by decide))) (d (by decide))) (d (by decide))) (d (by decide))) (d (by decide))) (d (by decide))), by rw [hw']; exact (co (co (co (co (co (cs (co (nw_cell w 1) (d (by decide)))) (d (by decide))) (d (by decide))) (d (by decide))) (d (by decide))) (d (by decide))), by rw [hw']; exact (co (co (co (co (cs (co (co (nw_cell w 2) (d (by decide))) (d (by decide)))) (d (by decide))) (d (by decide))) (d (by decide))) (d (by decide))), by rw [hw']; exact (co (co (co (cs (co (co (co (nw_cell w 3) (d (by decide))) (d (by decide))) (d (by decide)))) (d (by decide))) (d (by decide))) (d (by decide))), by rw [hw']; exact (co (co (cs (co (co (co (co (nw_cell w 4) (d (by decide))) (d (by decide))) (d (by decide))) (d (by decide)))) (d (by decide))) (d (by decide))), by rw [hw']; exact (co (cs (co (co (co (co (co (nw_cell w 5) (d (by decide))) (d (by decide))) (d (by decide))) (d (by decide))) (d (by decide)))) (d (by decide))), ⟨-1, by rw [hw']; exact (cs (co (co (co (co (co (co (nw_cell w 6) (d (by decide))) (d (by decide))) (d (by decide))) (d (by decide))) (d (by decide))) (d (by decide))))⟩, fun j => (hfr _).trans (nw_fr w j), fun k hk => ?_, fun k h1 h2 h3 => by omega, fun k => Lib.frozen_of_heap hbuf k, (hold _ lS).trans s0, (hold _ lS).trans s1, ⟨v2, (hold _ lS).trans s2⟩, fun j => (hcw.frozen (p := ⟨S, j, none⟩) lS id).trans (SZ.out j), Nat.le_refl _, Nat.zero_le _, Nat.zero_le _, by omega, by omega, by omega⟩, hcw⟩
  rw [Lib.cell_of_heap hbuf]
  rw [Array.getElem?_eq_getElem (by rw [size_madeCells]; simpa using hk)]
  rfl

set_option maxRecDepth 100000 in
set_option maxHeartbeats 4000000 in
theorem newScanner_calls {w : World} {S : Nat} {X : Addr} {s n : ByteArray} (s0 : w.cell? ⟨S, 0, none⟩ = some (.string s)) (s1 : w.cell? ⟨S, 1, none⟩ = some (.int .i64 0)) {v2 : Int} (s2 : w.cell? ⟨S, 2, none⟩ = some (.int .i64 v2)) (sz : ∀ j, w.frozen? ⟨S, j, none⟩ = false) (he : w.cell? ⟨2, 0, none⟩ = some (eofv X)) (hS : ¬ S = 2) (s4 : s.size < 4096) :
    Calls Tryz.prog 15 #[.iface 45 (ptr S), .string n] w fun e w' => ∃ Z B F, e = .returned (ptr Z) ∧ Sc w' Z B F S X s 0 ∧ Ch (fun _ => False) w w' ∧ (∀ k, Tz Z B F S k → k = S ∨ w.heap.size ≤ k) ∧ w'.cell? ⟨Z, 1, none⟩ = some (.int .i64 1) := by
  have SZ := Lib.hid sz
  go_enter Tryz.func15, Tryz.ntmps15
  go_wp2_with fail
  refine (newSize_calls s0 s1 s2 sz).mono ?_
  rintro e w' ⟨rfl, hb, hc⟩
  have HB := Lib.hid hb
  have HC := Lib.hid hc
  clear hb hc sz
  simp only []
  go_wp2_with fail
  go_ret
  have h2 : 2 < w.heap.size := World.block_lt_of_cell? w _ he
  have lS : S < w.heap.size := World.block_lt_of_cell? w _ s0
  have hsz := HC.out.size
  have lB : w.heap.size < w'.heap.size := World.block_lt_of_cell? w' _ HB.out.b0
  have lF : w.heap.size + 1 < w'.heap.size := by
    obtain ⟨v, hv⟩ := Option.isSome_iff_exists.1 (HB.out.f 0 (by omega))
    exact World.block_lt_of_cell? w' _ hv
  refine ⟨w'.heap.size, w.heap.size, w.heap.size + 1, rfl, ?_, HC.out.alloc _, ?_, ?_⟩
  · have hn := heap_alloc_new w' (.cells #[.string n, .int .i64 1, .int .i64 0, ptr w.heap.size] 72)
    have hca : Ch (fun _ => False) w' (w'.alloc (.cells #[.string n, .int .i64 1, .int .i64 0, ptr w.heap.size] 72)) := (Ch.refl _ _).alloc _
    refine ⟨⟨n, ?_⟩, ⟨1, ?_⟩, ⟨0, ?_⟩, ?_, fun j => Lib.frozen_of_heap hn j, ?_, hca.cell_some (HC.out.cell_some he id) id, ?_, s4, ⟨0, 0, _, HB.out.moved hca, Nat.zero_le _⟩⟩
    · rw [Lib.cell_of_heap hn]; rfl
    · rw [Lib.cell_of_heap hn]; rfl
    · rw [Lib.cell_of_heap hn]; rfl
    · rw [Lib.cell_of_heap hn]; rfl
    · rintro (h | h | h) <;> omega
    · rintro (h | h | h | h) <;> omega
  · rintro k (h | h | h | h)
    · right; omega
    · right; omega
    · right; omega
    · left; exact h
  · have hn := heap_alloc_new w' (.cells #[.string n, .int .i64 1, .int .i64 0, ptr w.heap.size] 72)
    rw [Lib.cell_of_heap hn]; rfl

end Go.Proofs.YtbgjjbffpckimaaGreatDoor
