/-
  The law on a string: the whole walk.
-/
import Derived.Test.YtbgjjbffpckimaaDoorQtd
namespace Go.Proofs.YtbgjjbffpckimaaDoor
set_option linter.all false
open Go.RowKit

/-- The four literals of a text. -/
def lits (s : Bs) : List Bs := [lit9 34 false s, lit9 39 false s, lit9 34 true s, lit9 39 true s]
def strV (b : Bs) : Value := .string ⟨b.toArray⟩
def litV (s : Bs) : Array Value := #[strV (lit9 34 false s), strV (lit9 39 false s), strV (lit9 34 true s), strV (lit9 39 true s)]
theorem litV_get (s : Bs) (k : Nat) (hk : k < 4) : ∃ (q : UInt8) (al : Bool), (q = 34 ∨ q = 39) ∧ (litV s)[k]? = some (.string ⟨(lit9 q al s).toArray⟩) := by
  rcases k with _|_|_|_|k
  · exact ⟨34, false, .inl rfl, rfl⟩
  · exact ⟨39, false, .inr rfl, rfl⟩
  · exact ⟨34, true, .inl rfl, rfl⟩
  · exact ⟨39, true, .inr rfl, rfl⟩
  · omega
def SwRel (s : ByteArray) (X n : Nat) (v21 : Value) (w0 wr : World) : Prop :=
  ∃ k : Nat, v21 = .int .i64 (k : Int) ∧ k ≤ 4 ∧ wr.heap[X]? = some (.cells (litV s.data.toList) 9 (0, 0)) ∧ Ch (fun _ => False) w0 wr ∧ n = 4 - k

set_option maxRecDepth 100000 in
set_option maxHeartbeats 2000000 in
theorem fnString_calls {w : World} {E : Addr} {bm : Nat} {obj : Obj} {s : ByteArray} (H : Hid (Wld w E bm obj)) :
    Calls Tryd.prog 4 #[.string s] w fun e w' => e = .returned (.bool true) ∧ Ch (fun _ => False) w w' := by
  go_enter Tryd.func4, Tryd.ntmps4
  by_cases h0 : s.size ≤ 100
  · go_wp2_with fail
    refine (quoted_calls (q := 34) (al := false) h0).mono ?_
    rintro e w1 ⟨rfl, hc1⟩
    have HC1 := Lib.hid hc1
    clear hc1
    simp only []
    go_wp2_with fail
    refine (quoted_calls (q := 39) (al := false) h0).mono ?_
    rintro e w2 ⟨rfl, hc2⟩
    have HC2 := Lib.hid (HC1.out.trans hc2)
    clear hc2 HC1
    simp only []
    go_wp2_with fail
    refine (quoted_calls (q := 34) (al := true) h0).mono ?_
    rintro e w3 ⟨rfl, hc3⟩
    have HC3 := Lib.hid (HC2.out.trans hc3)
    clear hc3 HC2
    simp only []
    go_wp2_with fail
    refine (quoted_calls (q := 39) (al := true) h0).mono ?_
    rintro e w4 ⟨rfl, hc4⟩
    have HC4 := Lib.hid (HC3.out.trans hc4)
    clear hc4 HC3
    simp only []
    go_wp2_with fail
    go_loopg [21] 4 (fun n v21 wr => SwRel s w4.heap.size n v21 w wr)
    case atStart => exact ⟨0, rfl, by omega, heap_alloc_new _ _, HC4.out.alloc _, rfl⟩
    case round =>
      obtain ⟨k, rfl, hk, hh, hc, hn⟩ := hrel
      have HC := Lib.hid hc
      have HN := Lib.hid hn
      have HH := Lib.hid hh
      have hlt4 : w4.heap.size < wr.heap.size := Lib.lt_of_heap hh
      clear hc hn
      by_cases hlt : k < 4
      · obtain ⟨q, al, hq, hv⟩ := litV_get s.data.toList k hlt
        have c0 : wr.cell? ⟨w4.heap.size, k, none⟩ = some (.string ⟨(lit9 q al s.data.toList).toArray⟩) := by rw [Lib.cell_of_heap hh]; exact hv
        have hls := lit9_len q al s.data.toList
        have hl2 : s.data.toList.length = s.size := Array.length_toList
        have hlx := Lx.of_lit hq al s.data.toList
        have hnc := lit9_nocr hq al s.data.toList
        generalize hL : lit9 q al s.data.toList = L at *
        have HLX := Lib.hid hlx
        have HNC := Lib.hid hnc
        have hsl : (⟨L.toArray⟩ : ByteArray).size < 4096 := by
          show L.toArray.size < 4096
          simp
          omega
        clear hh hlx hnc hv hL hls
        go_wp2_with fail
        refine (isOne_calls (t := ⟨5, s.data.toList, s.data.toList⟩) (Lib.hid (H.out.moved HC.out)) HLX.out HNC.out hsl (by simp)).mono ?_
        rintro e w9 ⟨rfl, hc9⟩
        have HC9 := Lib.hid (HC.out.trans hc9)
        have HH9 := Lib.hid ((hc9.block w4.heap.size hlt4 id).trans HH.out)
        clear hc9
        simp only []
        go_wp2_with fail
        have hgk : 0 < gk := by (have := HN.out; omega)
        go_roundg (gk - 1)
        case measure => omega
        case rel => exact ⟨k + 1, rfl, hlt, HH9.out, HC9.out, by have := HN.out; omega⟩
      · clear hh
        go_wp2_with fail
        go_ret
        exact ⟨rfl, HC.out⟩
  · go_wp2_with fail
    all_goals go_ret
    all_goals exact ⟨rfl, Ch.refl _ _⟩
end Go.Proofs.YtbgjjbffpckimaaDoor
