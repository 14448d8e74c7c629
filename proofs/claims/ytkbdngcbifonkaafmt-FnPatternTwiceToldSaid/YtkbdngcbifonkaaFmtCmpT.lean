/-
  compilePattern: a sequence, a capture, and the whole. Lines laid by a program of this session (mkct.py).
-/
import Derived.Test.YtkbdngcbifonkaaFmtCmpL
import Derived.Test.YtkbdngcbifonkaaFmtCmpC
import Derived.Deep.Cut
namespace Go.Proofs.YtkbdngcbifonkaaFmt
set_option linter.all false
open Go.RowKit

set_option maxRecDepth 100000 in
set_option maxHeartbeats 8000000 in
theorem comp_seq {w0 : World} {I s n cap : Nat} {A : Option Addr} (st : Nat → List Pm.Ins × Nat) (hn : n ≤ 1000) (hs : w0.cell? ⟨s, 2, none⟩ = some (.slice A n cap))
    (hel : n ≠ 0 → ∃ a, A = some ⟨a, 0, none⟩ ∧ ∀ i, i < n → ∃ v, w0.cell? ⟨a, i, none⟩ = some v ∧ CompsTo w0 I v (st i) (st (i + 1))) : CompsTo w0 I (.iface 95 (ptr s)) (st 0) (st n) := by
  intro w B c us R mc hip hR
  have t1 := tp95_127
  have t2 := tp95_95
  have hs2 := hip.ch.cell_some hs id
  have HEL := Lib.hid hel
  clear hel
  have H := Lib.hid hip
  clear hip
  go_enter Tryf.func38, Tryf.ntmps38
  go_wp2_with fail
  refine comp_loop st hn HEL.out H.out ?_
  intro w' B' c' us' h _ _ _ _ _ _ _ _ _
  have q0 := h.c0
  have q1 := h.lt
  have H2 := Lib.hid h
  clear h
  go_wp2_with fail
  go_ret
  exact ⟨B', c', us', H2.out, rfl⟩

set_option maxRecDepth 100000 in
set_option maxHeartbeats 8000000 in
theorem comp_cap {w0 : World} {I b s k : Nat} {l l2 : List Pm.Ins} (hl : l.length ≤ 900) (hl2 : l2.length ≤ 900) (hk : k ≤ 100) (hb : w0.cell? ⟨b, 0, none⟩ = some (.iface 95 (ptr s))) (hin : CompsTo w0 I (.iface 95 (ptr s)) (l ++ [.save k], k + 2) (l2, k + 2)) :
    CompsTo w0 I (.iface 136 (ptr b)) (l, k) (l2 ++ [.save (k + 1)], k + 2) := by
  intro w B c us R mc hip hR
  have t1 := tp136_127
  have t2 := tp136_95
  have t3 := tp136_141
  have t4 := tp136_133
  have t5 := tp136_136
  have hb2 := hip.ch.cell_some hb id
  have q0 := hip.c1
  have q1 := hip.lt
  have q2 := hip.fz 1
  have hw1 : IntKind.i64.wrap ((k : Int) + 1) = ((k + 1 : Nat) : Int) := by rw [IntKind.wrap_i64]; omega
  have hw2 : IntKind.i64.wrap ((k : Int) + 2) = ((k + 2 : Nat) : Int) := by rw [IntKind.wrap_i64]; omega
  have HIN := Lib.hid hin
  clear hin
  have H := Lib.hid hip
  clear hip
  go_enter Tryf.func38, Tryf.ntmps38
  go_wp2_with fail
  go_quiet (fail)
  go_upto_region 38 with fail
  refine creg_save0 (Lib.hid ((H.out.moved ((Ch.refl _ _).drewN _)).next (k + 2))) (by omega) ?_
  intro w2 B2 c2 us2 _ _ _ _ _ _ _ _ _ _ _ h2
  have hb3 := h2.ch.cell_some hb id
  have H2 := Lib.hid h2
  clear h2
  go_wp2_with (go_at_call 38; refine (HIN.out _ _ _ _ _ _ (H2.out.alloc _) (World.cell?_alloc_at _ _ _ _ rfl)).mono ?_; rintro e w3 ⟨B3, c3, us3, h3, rfl⟩; have H3 := Lib.hid h3; clear h3; go_upto_region 40 with fail; refine creg_save1 (s := k + 1) H3 (by omega) ?_; intro w4 B4 c4 us4 _ _ _ _ _ _ _ _ _ _ _ h4; have r0 := h4.c0; have r1 := h4.lt; have H4 := Lib.hid h4; clear h4)
  go_ret
  exact ⟨_, _, _, H4.out, by rw [List.length_append]; rfl⟩

set_option maxRecDepth 100000 in
set_option maxHeartbeats 8000000 in
theorem comp_top {w0 : World} {s n cap : Nat} {A : Option Addr} (st : Nat → List Pm.Ins × Nat) (hn : n ≤ 1000) (hlen : (st n).1.length ≤ 900) (h0 : st 0 = ([.save 0], 2)) (ht : w0.cell? ⟨s, 1, none⟩ = some (.bool false)) (hs : w0.cell? ⟨s, 2, none⟩ = some (.slice A n cap))
    (hel : ∀ I, n ≠ 0 → ∃ a, A = some ⟨a, 0, none⟩ ∧ ∀ i, i < n → ∃ v, w0.cell? ⟨a, i, none⟩ = some v ∧ CompsTo w0 I v (st i) (st (i + 1))) :
    Calls Tryf.prog 38 #[.iface 95 (ptr s), .slice none 0 0] w0 fun e w' => ∃ I B' c' us', IpAt w0 I ((st n).1 ++ [.save 1, .done]) (st n).2 w' B' c' us' ∧ e = .returned (.slice B' ((st n).1.length + 2) c') := by
  have t1 := tp95_127
  have t2 := tp95_95
  have t3 : ∀ (v : Value) (w : World), (Instr.typeAssert (.iface 95 v) 137 95 false).run Tryf.prog w = .ok v w := fun v w => by kernel_rfl
  have hslt := World.block_lt_of_cell? _ _ hs
  have HEL := Lib.hid hel
  clear hel
  have H0 := Lib.hid h0
  clear h0
  go_enter Tryf.func38, Tryf.ntmps38
  go_wp2_with fail
  refine comp_loop (B := some ⟨w0.heap.size, 0, none⟩) (c := 1) (us := [.int .i64 5, .nilIface, .int .i64 0, .int .i64 (-1)]) st hn (HEL.out _) ?_ ?_
  · rw [H0.out]
    have := IpAt.start w0 (w0.alloc (.cells #[.int .i64 5, .nilIface, .int .i64 0, .int .i64 (-1)] 155)) w0.heap.size ((Ch.refl _ _).alloc _) (Nat.le_refl _) (heap_alloc_new w0 _)
    simpa using this
  · intro w' B' c' us' h _ _ _ _ _ _ _ _ _
    have ht2 := h.ch.cell_some ht id
    have H := Lib.hid h
    clear h
    go_upto_region 50 with fail
    refine creg_end H (by omega) ?_
    intro w4 B4 c4 us4 _ _ _ _ _ _ _ _ _ _ _ h4
    have r0 := h4.c0
    have r1 := h4.lt
    have H4 := Lib.hid h4
    clear h4
    go_wp2_with fail
    go_ret
    exact ⟨_, _, _, _, H4.out, rfl⟩

end Go.Proofs.YtkbdngcbifonkaaFmt
