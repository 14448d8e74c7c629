/-
  scanEscape: an escape of a string goes into the buffer.
-/
import Derived.Test.YtbgjjbffpckimaaDoorSb
import Derived.Lib.BufferRead
import Derived.Deep.AppendLies
import Derived.Deep.Onto
import Derived.Laws.OwnMore
namespace Go.Proofs.YtbgjjbffpckimaaDoor
set_option linter.all false
open Go.RowKit

theorem Tryd.info5 : (Tryd.prog.info? 5).map (fun i => (i.zero, i.size, i.bytes)) = some (some (.int .u8 0), 1, 1) := by kernel_rfl

/-- 'string(b)' of a row of bytes. -/
theorem own_convert {w : World} {base : Nat} {v : Value} {l : Bs} (h : w.ownsRow base 5 1 v l.length (Lib.byteCells l)) : (convert 31 9 v).run Tryd.prog w = .ok (.string ⟨l.toArray⟩) w := by
  rcases h.2 with ⟨rfl, h0⟩ | ⟨g, cap, cur, rfl, _, hg, _, _, _, htk⟩
  · have : l = [] := List.length_eq_zero_iff.1 h0
    subst this
    exact Lib.run_convert_nil_bytes w 31 9 5 0 Tryd.underlying31 Tryd.underlying5 Tryd.underlying9
  · rw [Nat.mul_one] at htk
    exact run_convert_bytes_back w 31 9 5 ⟨g, 0, none⟩ cap l Tryd.underlying31 Tryd.underlying5 Tryd.underlying9 (Lib.bytes_of_row hg htk)

/-- A scanner with a buffer, behind work that leaves the buffer alone. -/
theorem Sb.via {w w' : World} {b : Bl} {r r' : Bs} {L L' : Int} {g : Nat} {l : Bs} (h : Sb w b r L g l) (hc : Ch (fun k => Tr b k ∨ w.heap.size ≤ k) w w') (hr : Rd w' b r' L') : Sb w' b r' L' g l ∧ Ch (Ub b g) w w' := by
  have hc' : Ch (Tr b) w w' := hc.mono fun k hk h => h.elim id fun h => by omega
  exact ⟨h.step hc' hr, ub_tr hc'⟩

set_option maxRecDepth 100000 in
set_option maxHeartbeats 4000000 in
theorem sb_byte {w : World} {b : Bl} {r : Bs} {L : Int} {g : Nat} {l : Bs} {c : UInt8} (H : Hid (Sb w b r L g l)) (hl : l.length < 100000) :
    Calls Tryd.prog 39 #[ptr g, .int .u8 (c.toNat : Int)] w fun e w' => e = .returned .nilIface ∧ Sb w' b r L g (l ++ [c]) ∧ Ch (Ub b g) w w' := by
  have hlen : (Lib.byteCells l).length = l.length := by simp [Lib.byteCells]
  refine (Buffer_WriteByte g g (Lib.byteCells l) (c.toNat : Int) w H.out.bf (Nat.le_of_lt H.out.bf.lt) (Lib.byteCells_one _) (by omega)).mono ?_
  rintro e w' ⟨rfl, h1, h2⟩
  refine ⟨rfl, H.out.write h2 ?_⟩
  have e : Lib.byteCells (l ++ [c]) = Lib.byteCells l ++ [.int .u8 (c.toNat : Int)] := by simp [Lib.byteCells]
  rw [e]
  exact h1

def EscPost (w : World) (b : Bl) (L : Int) (g : Nat) (l rest : Bs) (e : Ending) (w' : World) : Prop :=
  e = .returned .nilIface ∧ Sb w' b rest L g l ∧ Ch (Ub b g) w w'

set_option maxRecDepth 100000 in
set_option maxHeartbeats 4000000 in
theorem esc_97 {w : World} {b : Bl} {u : Bs} {L c : Int} {g : Nat} {l : Bs} (HS0 : Hid (Sb w b (97 :: u) L g l)) (h13 : NoCr ((97 : UInt8) :: u)) (hl : l.length < 100000) :
    Calls Tryd.prog 37 #[ptr b.Z, .int .i64 c, ptr g] w (EscPost w b (ln1 ((97 : UInt8) :: u) L) g (l ++ [7]) u) := by
  have H13 := Lib.hid h13
  have ed : ((UInt8.toNat 97 : Nat) : Int) = 97 := rfl
  clear h13
  go_enter Tryd.func37, Tryd.ntmps37
  go_wp2_with fail
  refine (sb_next HS0 H13.out).mono ?_
  rintro e w1 ⟨rfl, hs, hc⟩
  have HS1 := Lib.hid hs
  have HC1 := Lib.hid hc
  clear hs hc HS0
  simp only [hd, ed]
  go_wp2_with fail
  refine (sb_byte (c := 7) HS1 hl).mono ?_
  rintro e w2 ⟨rfl, hs, hc⟩
  have HS2 := Lib.hid hs
  have HC2 := Lib.hid (HC1.out.trans hc)
  clear hs hc HC1 HS1
  simp only []
  go_wp2_with fail
  go_ret
  exact ⟨rfl, HS2.out, HC2.out⟩

set_option maxRecDepth 100000 in
set_option maxHeartbeats 4000000 in
theorem esc_98 {w : World} {b : Bl} {u : Bs} {L c : Int} {g : Nat} {l : Bs} (HS0 : Hid (Sb w b (98 :: u) L g l)) (h13 : NoCr ((98 : UInt8) :: u)) (hl : l.length < 100000) :
    Calls Tryd.prog 37 #[ptr b.Z, .int .i64 c, ptr g] w (EscPost w b (ln1 ((98 : UInt8) :: u) L) g (l ++ [8]) u) := by
  have H13 := Lib.hid h13
  have ed : ((UInt8.toNat 98 : Nat) : Int) = 98 := rfl
  clear h13
  go_enter Tryd.func37, Tryd.ntmps37
  go_wp2_with fail
  refine (sb_next HS0 H13.out).mono ?_
  rintro e w1 ⟨rfl, hs, hc⟩
  have HS1 := Lib.hid hs
  have HC1 := Lib.hid hc
  clear hs hc HS0
  simp only [hd, ed]
  go_wp2_with fail
  refine (sb_byte (c := 8) HS1 hl).mono ?_
  rintro e w2 ⟨rfl, hs, hc⟩
  have HS2 := Lib.hid hs
  have HC2 := Lib.hid (HC1.out.trans hc)
  clear hs hc HC1 HS1
  simp only []
  go_wp2_with fail
  go_ret
  exact ⟨rfl, HS2.out, HC2.out⟩

set_option maxRecDepth 100000 in
set_option maxHeartbeats 4000000 in
theorem esc_102 {w : World} {b : Bl} {u : Bs} {L c : Int} {g : Nat} {l : Bs} (HS0 : Hid (Sb w b (102 :: u) L g l)) (h13 : NoCr ((102 : UInt8) :: u)) (hl : l.length < 100000) :
    Calls Tryd.prog 37 #[ptr b.Z, .int .i64 c, ptr g] w (EscPost w b (ln1 ((102 : UInt8) :: u) L) g (l ++ [12]) u) := by
  have H13 := Lib.hid h13
  have ed : ((UInt8.toNat 102 : Nat) : Int) = 102 := rfl
  clear h13
  go_enter Tryd.func37, Tryd.ntmps37
  go_wp2_with fail
  refine (sb_next HS0 H13.out).mono ?_
  rintro e w1 ⟨rfl, hs, hc⟩
  have HS1 := Lib.hid hs
  have HC1 := Lib.hid hc
  clear hs hc HS0
  simp only [hd, ed]
  go_wp2_with fail
  refine (sb_byte (c := 12) HS1 hl).mono ?_
  rintro e w2 ⟨rfl, hs, hc⟩
  have HS2 := Lib.hid hs
  have HC2 := Lib.hid (HC1.out.trans hc)
  clear hs hc HC1 HS1
  simp only []
  go_wp2_with fail
  go_ret
  exact ⟨rfl, HS2.out, HC2.out⟩

set_option maxRecDepth 100000 in
set_option maxHeartbeats 4000000 in
theorem esc_110 {w : World} {b : Bl} {u : Bs} {L c : Int} {g : Nat} {l : Bs} (HS0 : Hid (Sb w b (110 :: u) L g l)) (h13 : NoCr ((110 : UInt8) :: u)) (hl : l.length < 100000) :
    Calls Tryd.prog 37 #[ptr b.Z, .int .i64 c, ptr g] w (EscPost w b (ln1 ((110 : UInt8) :: u) L) g (l ++ [10]) u) := by
  have H13 := Lib.hid h13
  have ed : ((UInt8.toNat 110 : Nat) : Int) = 110 := rfl
  clear h13
  go_enter Tryd.func37, Tryd.ntmps37
  go_wp2_with fail
  refine (sb_next HS0 H13.out).mono ?_
  rintro e w1 ⟨rfl, hs, hc⟩
  have HS1 := Lib.hid hs
  have HC1 := Lib.hid hc
  clear hs hc HS0
  simp only [hd, ed]
  go_wp2_with fail
  refine (sb_byte (c := 10) HS1 hl).mono ?_
  rintro e w2 ⟨rfl, hs, hc⟩
  have HS2 := Lib.hid hs
  have HC2 := Lib.hid (HC1.out.trans hc)
  clear hs hc HC1 HS1
  simp only []
  go_wp2_with fail
  go_ret
  exact ⟨rfl, HS2.out, HC2.out⟩

set_option maxRecDepth 100000 in
set_option maxHeartbeats 4000000 in
theorem esc_114 {w : World} {b : Bl} {u : Bs} {L c : Int} {g : Nat} {l : Bs} (HS0 : Hid (Sb w b (114 :: u) L g l)) (h13 : NoCr ((114 : UInt8) :: u)) (hl : l.length < 100000) :
    Calls Tryd.prog 37 #[ptr b.Z, .int .i64 c, ptr g] w (EscPost w b (ln1 ((114 : UInt8) :: u) L) g (l ++ [13]) u) := by
  have H13 := Lib.hid h13
  have ed : ((UInt8.toNat 114 : Nat) : Int) = 114 := rfl
  clear h13
  go_enter Tryd.func37, Tryd.ntmps37
  go_wp2_with fail
  refine (sb_next HS0 H13.out).mono ?_
  rintro e w1 ⟨rfl, hs, hc⟩
  have HS1 := Lib.hid hs
  have HC1 := Lib.hid hc
  clear hs hc HS0
  simp only [hd, ed]
  go_wp2_with fail
  refine (sb_byte (c := 13) HS1 hl).mono ?_
  rintro e w2 ⟨rfl, hs, hc⟩
  have HS2 := Lib.hid hs
  have HC2 := Lib.hid (HC1.out.trans hc)
  clear hs hc HC1 HS1
  simp only []
  go_wp2_with fail
  go_ret
  exact ⟨rfl, HS2.out, HC2.out⟩

set_option maxRecDepth 100000 in
set_option maxHeartbeats 4000000 in
theorem esc_116 {w : World} {b : Bl} {u : Bs} {L c : Int} {g : Nat} {l : Bs} (HS0 : Hid (Sb w b (116 :: u) L g l)) (h13 : NoCr ((116 : UInt8) :: u)) (hl : l.length < 100000) :
    Calls Tryd.prog 37 #[ptr b.Z, .int .i64 c, ptr g] w (EscPost w b (ln1 ((116 : UInt8) :: u) L) g (l ++ [9]) u) := by
  have H13 := Lib.hid h13
  have ed : ((UInt8.toNat 116 : Nat) : Int) = 116 := rfl
  clear h13
  go_enter Tryd.func37, Tryd.ntmps37
  go_wp2_with fail
  refine (sb_next HS0 H13.out).mono ?_
  rintro e w1 ⟨rfl, hs, hc⟩
  have HS1 := Lib.hid hs
  have HC1 := Lib.hid hc
  clear hs hc HS0
  simp only [hd, ed]
  go_wp2_with fail
  refine (sb_byte (c := 9) HS1 hl).mono ?_
  rintro e w2 ⟨rfl, hs, hc⟩
  have HS2 := Lib.hid hs
  have HC2 := Lib.hid (HC1.out.trans hc)
  clear hs hc HC1 HS1
  simp only []
  go_wp2_with fail
  go_ret
  exact ⟨rfl, HS2.out, HC2.out⟩

set_option maxRecDepth 100000 in
set_option maxHeartbeats 4000000 in
theorem esc_118 {w : World} {b : Bl} {u : Bs} {L c : Int} {g : Nat} {l : Bs} (HS0 : Hid (Sb w b (118 :: u) L g l)) (h13 : NoCr ((118 : UInt8) :: u)) (hl : l.length < 100000) :
    Calls Tryd.prog 37 #[ptr b.Z, .int .i64 c, ptr g] w (EscPost w b (ln1 ((118 : UInt8) :: u) L) g (l ++ [11]) u) := by
  have H13 := Lib.hid h13
  have ed : ((UInt8.toNat 118 : Nat) : Int) = 118 := rfl
  clear h13
  go_enter Tryd.func37, Tryd.ntmps37
  go_wp2_with fail
  refine (sb_next HS0 H13.out).mono ?_
  rintro e w1 ⟨rfl, hs, hc⟩
  have HS1 := Lib.hid hs
  have HC1 := Lib.hid hc
  clear hs hc HS0
  simp only [hd, ed]
  go_wp2_with fail
  refine (sb_byte (c := 11) HS1 hl).mono ?_
  rintro e w2 ⟨rfl, hs, hc⟩
  have HS2 := Lib.hid hs
  have HC2 := Lib.hid (HC1.out.trans hc)
  clear hs hc HC1 HS1
  simp only []
  go_wp2_with fail
  go_ret
  exact ⟨rfl, HS2.out, HC2.out⟩

set_option maxRecDepth 100000 in
set_option maxHeartbeats 4000000 in
theorem esc_92 {w : World} {b : Bl} {u : Bs} {L c : Int} {g : Nat} {l : Bs} (HS0 : Hid (Sb w b (92 :: u) L g l)) (h13 : NoCr ((92 : UInt8) :: u)) (hl : l.length < 100000) :
    Calls Tryd.prog 37 #[ptr b.Z, .int .i64 c, ptr g] w (EscPost w b (ln1 ((92 : UInt8) :: u) L) g (l ++ [92]) u) := by
  have H13 := Lib.hid h13
  have ed : ((UInt8.toNat 92 : Nat) : Int) = 92 := rfl
  clear h13
  go_enter Tryd.func37, Tryd.ntmps37
  go_wp2_with fail
  refine (sb_next HS0 H13.out).mono ?_
  rintro e w1 ⟨rfl, hs, hc⟩
  have HS1 := Lib.hid hs
  have HC1 := Lib.hid hc
  clear hs hc HS0
  simp only [hd, ed]
  go_wp2_with fail
  refine (sb_byte (c := 92) HS1 hl).mono ?_
  rintro e w2 ⟨rfl, hs, hc⟩
  have HS2 := Lib.hid hs
  have HC2 := Lib.hid (HC1.out.trans hc)
  clear hs hc HC1 HS1
  simp only []
  go_wp2_with fail
  go_ret
  exact ⟨rfl, HS2.out, HC2.out⟩

set_option maxRecDepth 100000 in
set_option maxHeartbeats 4000000 in
theorem esc_34 {w : World} {b : Bl} {u : Bs} {L c : Int} {g : Nat} {l : Bs} (HS0 : Hid (Sb w b (34 :: u) L g l)) (h13 : NoCr ((34 : UInt8) :: u)) (hl : l.length < 100000) :
    Calls Tryd.prog 37 #[ptr b.Z, .int .i64 c, ptr g] w (EscPost w b (ln1 ((34 : UInt8) :: u) L) g (l ++ [34]) u) := by
  have H13 := Lib.hid h13
  have ed : ((UInt8.toNat 34 : Nat) : Int) = 34 := rfl
  clear h13
  go_enter Tryd.func37, Tryd.ntmps37
  go_wp2_with fail
  refine (sb_next HS0 H13.out).mono ?_
  rintro e w1 ⟨rfl, hs, hc⟩
  have HS1 := Lib.hid hs
  have HC1 := Lib.hid hc
  clear hs hc HS0
  simp only [hd, ed]
  go_wp2_with fail
  refine (sb_byte (c := 34) HS1 hl).mono ?_
  rintro e w2 ⟨rfl, hs, hc⟩
  have HS2 := Lib.hid hs
  have HC2 := Lib.hid (HC1.out.trans hc)
  clear hs hc HC1 HS1
  simp only []
  go_wp2_with fail
  go_ret
  exact ⟨rfl, HS2.out, HC2.out⟩

set_option maxRecDepth 100000 in
set_option maxHeartbeats 4000000 in
theorem esc_39 {w : World} {b : Bl} {u : Bs} {L c : Int} {g : Nat} {l : Bs} (HS0 : Hid (Sb w b (39 :: u) L g l)) (h13 : NoCr ((39 : UInt8) :: u)) (hl : l.length < 100000) :
    Calls Tryd.prog 37 #[ptr b.Z, .int .i64 c, ptr g] w (EscPost w b (ln1 ((39 : UInt8) :: u) L) g (l ++ [39]) u) := by
  have H13 := Lib.hid h13
  have ed : ((UInt8.toNat 39 : Nat) : Int) = 39 := rfl
  clear h13
  go_enter Tryd.func37, Tryd.ntmps37
  go_wp2_with fail
  refine (sb_next HS0 H13.out).mono ?_
  rintro e w1 ⟨rfl, hs, hc⟩
  have HS1 := Lib.hid hs
  have HC1 := Lib.hid hc
  clear hs hc HS0
  simp only [hd, ed]
  go_wp2_with fail
  refine (sb_byte (c := 39) HS1 hl).mono ?_
  rintro e w2 ⟨rfl, hs, hc⟩
  have HS2 := Lib.hid hs
  have HC2 := Lib.hid (HC1.out.trans hc)
  clear hs hc HC1 HS1
  simp only []
  go_wp2_with fail
  go_ret
  exact ⟨rfl, HS2.out, HC2.out⟩

set_option maxRecDepth 100000 in
set_option maxHeartbeats 4000000 in
theorem esc_10 {w : World} {b : Bl} {u : Bs} {L c : Int} {g : Nat} {l : Bs} (HS0 : Hid (Sb w b (10 :: u) L g l)) (h13 : NoCr ((10 : UInt8) :: u)) (hl : l.length < 100000) :
    Calls Tryd.prog 37 #[ptr b.Z, .int .i64 c, ptr g] w (EscPost w b (ln1 ((10 : UInt8) :: u) L) g (l ++ [10]) u) := by
  have H13 := Lib.hid h13
  have ed : ((UInt8.toNat 10 : Nat) : Int) = 10 := rfl
  clear h13
  go_enter Tryd.func37, Tryd.ntmps37
  go_wp2_with fail
  refine (sb_next HS0 H13.out).mono ?_
  rintro e w1 ⟨rfl, hs, hc⟩
  have HS1 := Lib.hid hs
  have HC1 := Lib.hid hc
  clear hs hc HS0
  simp only [hd, ed]
  go_wp2_with fail
  refine (sb_byte (c := 10) HS1 hl).mono ?_
  rintro e w2 ⟨rfl, hs, hc⟩
  have HS2 := Lib.hid hs
  have HC2 := Lib.hid (HC1.out.trans hc)
  clear hs hc HC1 HS1
  simp only []
  go_wp2_with fail
  go_ret
  exact ⟨rfl, HS2.out, HC2.out⟩

set_option maxRecDepth 100000 in
set_option maxHeartbeats 4000000 in
theorem sb_eof {w : World} {b : Bl} {r : Bs} {L : Int} {g : Nat} {l : Bs} (H : Hid (Sb w b r L g l)) (hl : l.length < 100000) :
    Calls Tryd.prog 27 #[ptr g, .int .i64 (-1)] w fun e w' => e = .returned (.tuple #[]) ∧ Sb w' b r L g (l ++ [255]) ∧ Ch (Ub b g) w w' := by
  have hw : IntKind.u8.wrap (-1) = 255 := by rfl
  go_enter Tryd.func27, Tryd.ntmps27
  go_wp2_with fail
  refine (sb_byte (c := 255) H hl).mono ?_
  rintro e w1 ⟨rfl, hs, hc⟩
  have HS1 := Lib.hid hs
  have HC1 := Lib.hid hc
  clear hs hc
  simp only []
  go_wp2_with fail
  refine bodyPost_end (results_none rfl _ _ _) rfl ?_
  exact ⟨rfl, HS1.out, HC1.out⟩

set_option maxRecDepth 100000 in
set_option maxHeartbeats 4000000 in
theorem esc_end {w : World} {b : Bl} {L c : Int} {g : Nat} {l : Bs} (HS0 : Hid (Sb w b [] L g l)) (hl : l.length < 100000) :
    Calls Tryd.prog 37 #[ptr b.Z, .int .i64 c, ptr g] w (EscPost w b (-1) g (l ++ [255]) []) := by
  go_enter Tryd.func37, Tryd.ntmps37
  go_wp2_with fail
  refine (sb_next HS0 (fun _ h => by cases h)).mono ?_
  rintro e w1 ⟨rfl, hs, hc⟩
  have HS1 := Lib.hid hs
  have HC1 := Lib.hid hc
  clear hs hc HS0
  simp only [hd, tl1, ln1]
  go_wp2_with fail
  refine (sb_eof HS1 hl).mono ?_
  rintro e w2 ⟨rfl, hs, hc⟩
  have HS2 := Lib.hid hs
  have HC2 := Lib.hid (HC1.out.trans hc)
  clear hs hc HC1 HS1
  simp only []
  go_wp2_with fail
  go_ret
  exact ⟨rfl, HS2.out, HC2.out⟩

theorem dig3_run : ∀ (k v : Nat) (a r1 : Bs), (∀ c ∈ a, isDec c = true) → a.length ≤ k → (a.length = k ∨ hdIs isDec r1 = false) → dig3 k v (a ++ r1) = (a.foldl (fun v c => 10 * v + (c.toNat - 48)) v, r1)
  | 0, v, a, r1, _, hl, _ => by
    have : a = [] := List.length_eq_zero_iff.1 (by omega)
    subst this
    rfl
  | k + 1, v, [], [], _, _, _ => rfl
  | k + 1, v, [], c :: t, _, _, h => by
    have h : isDec c = false := by
      rcases h with h | h
      · simp at h
      · exact h
    show dig3 (k + 1) v (c :: t) = _
    unfold dig3
    rw [if_neg (by simp [h])]
    rfl
  | k + 1, v, c :: a, r1, ha, hl, h => by
    show dig3 (k + 1) v (c :: (a ++ r1)) = _
    unfold dig3
    rw [if_pos (ha c (by simp)), dig3_run k _ a r1 (fun x hx => ha x (by simp [hx])) (by simp at hl; omega) (by
      rcases h with h | h
      · left; simp at h; omega
      · exact .inr h)]
    rfl
theorem dval_le : ∀ (a : Bs) (v n : Nat), (∀ c ∈ a, isDec c = true) → v ≤ n → a.foldl (fun v c => 10 * v + (c.toNat - 48)) v ≤ n * 10 ^ a.length + (10 ^ a.length - 1)
  | [], v, n, _, h => by simp; omega
  | c :: a, v, n, ha, h => by
    have hc := ha c (by simp)
    have h9 : c.toNat - 48 ≤ 9 := by
      have : 48 ≤ c.toNat ∧ c.toNat ≤ 57 := by simpa [isDec] using hc
      omega
    have := dval_le a (10 * v + (c.toNat - 48)) (10 * n + 9) (fun x hx => ha x (by simp [hx])) (by omega)
    simp only [List.foldl_cons, List.length_cons]
    refine Nat.le_trans this ?_
    have p : 10 ^ (a.length + 1) = 10 * 10 ^ a.length := by rw [Nat.pow_succ]; omega
    have hp : 0 < 10 ^ a.length := Nat.pos_of_ne_zero (by simp)
    rw [p]
    generalize 10 ^ a.length = q at *
    have e1 : (10 * n + 9) * q = 10 * (n * q) + 9 * q := by rw [Nat.add_mul, Nat.mul_assoc]
    have e2 : n * (10 * q) = 10 * (n * q) := by rw [← Nat.mul_assoc, Nat.mul_comm n 10, Nat.mul_assoc]
    rw [e1, e2]
    omega
theorem parseM_dec : ∀ (a : Bs) (acc : Nat), (∀ c ∈ a, isDec c = true) → (acc + 1) * 10 ^ a.length ≤ 10000 → Lib.parseUintM (2 ^ 32 - 1) acc a = .ok (a.foldl (fun v c => 10 * v + (c.toNat - 48)) acc)
  | [], acc, _, _ => rfl
  | c :: a, acc, ha, hl => by
    have hc : 48 ≤ c.toNat ∧ c.toNat ≤ 57 := by simpa [isDec] using ha c (by simp)
    have hp : 1 ≤ 10 ^ a.length := Nat.pos_of_ne_zero (by simp)
    have e : (acc + 1) * 10 ^ (c :: a).length = (10 * acc + 10) * 10 ^ a.length := by
      rw [List.length_cons, Nat.pow_succ, Nat.mul_comm (10 ^ a.length) 10, ← Nat.mul_assoc, Nat.add_mul]
      congr 1
      omega
    rw [e] at hl
    have hb : 10 * acc + 10 ≤ 10000 := Nat.le_trans (Nat.le_mul_of_pos_right _ hp) hl
    unfold Lib.parseUintM
    rw [if_pos hc, if_neg (by omega), if_neg (by omega), show acc * 10 + (c.toNat - 48) = 10 * acc + (c.toNat - 48) by omega]
    refine parseM_dec a _ (fun x hx => ha x (by simp [hx])) (Nat.le_trans (Nat.mul_le_mul_right _ ?_) hl)
    omega
theorem parse_dec {a : Bs} (ha : ∀ c ∈ a, isDec c = true) (h1 : a ≠ []) (h3 : a.length ≤ 3) : Lib.parseIntB 32 a = .ok ((a.foldl (fun v c => 10 * v + (c.toNat - 48)) 0 : Nat) : Int) := by
  have hv := dval_le a 0 0 ha (Nat.le_refl _)
  have hp : 10 ^ a.length ≤ 1000 := Nat.le_trans (Nat.pow_le_pow_right (by omega) h3) (by decide)
  have hm := parseM_dec a 0 ha (by omega)
  cases a with
  | nil => exact absurd rfl h1
  | cons c t =>
    have hc : 48 ≤ c.toNat ∧ c.toNat ≤ 57 := by simpa [isDec] using ha c (by simp)
    unfold Lib.parseIntB Lib.parseUintB
    simp only []
    rw [if_neg (show ¬ (c.toNat = 43 ∨ c.toNat = 45) by omega), if_neg (by simp), hm]
    simp only []
    rw [if_neg (by intro h; have := h.2; simp only [Nat.reduceSub, Nat.reducePow] at this; omega), if_neg (by intro h; omega), if_neg (by omega)]

/-- The loop over the digits of an escape. -/
def DgRel (w0 : World) (b : Bl) (ds : Bs) (L : Int) (k : Nat) (v i : Value) (wr : World) : Prop :=
  ∃ a r1, ds = a ++ r1 ∧ (∀ c ∈ a, isDec c = true) ∧ 1 ≤ a.length ∧ a.length ≤ 3 ∧ wr.ownsRow w0.heap.size 5 1 v a.length (Lib.byteCells a) ∧ i = .int .i64 ((a.length - 1 : Nat) : Int) ∧ Rd wr b r1 L ∧ Ch (fun k => Tr b k ∨ w0.heap.size ≤ k) w0 wr ∧ k + a.length = 3

theorem ch_bytes (w : World) (e : TypeId) (s : ByteArray) : Ch (fun _ => False) w (Lib.bytesWorld w e s) := by
  exact ⟨rfl, rfl, rfl, by rw [Lib.bytesWorld_size]; omega, fun k hk _ => Lib.bytesWorld_at_old w e s k hk⟩
theorem sb_write' {w : World} {b : Bl} {r : Bs} {L n : Int} {g : Nat} {l : Bs} {c : UInt8} (hn : n = (c.toNat : Int)) (H : Hid (Sb w b r L g l)) (hl : l.length < 100000) :
    Calls Tryd.prog 27 #[ptr g, .int .i64 n] w fun e w' => e = .returned (.tuple #[]) ∧ Sb w' b r L g (l ++ [c]) ∧ Ch (Ub b g) w w' := by
  subst hn
  exact sb_write H hl

set_option maxRecDepth 100000 in
set_option maxHeartbeats 4000000 in
theorem esc_dig {w : World} {b : Bl} {d : UInt8} {u r' : Bs} {L c : Int} {g v : Nat} {l : Bs} (HS0 : Hid (Sb w b (d :: u) L g l)) (hdd : isDec d = true) (h3 : dig3 3 0 (d :: u) = (v, r')) (hv : v ≤ 255) (h13 : NoCr (d :: u)) (hl : l.length < 100000) :
    Calls Tryd.prog 37 #[ptr b.Z, .int .i64 c, ptr g] w (EscPost w b L g (l ++ [UInt8.ofNat v]) r') := by
  obtain ⟨i0, hi0, hz0, hz1, hz2⟩ := info_parts Tryd.info5
  have I0 := Lib.hid hi0
  have Z0 := Lib.hid hz0
  have Z1 := Lib.hid hz1
  have Z2 := Lib.hid hz2
  clear hi0 hz0 hz1 hz2
  have H13 := Lib.hid h13
  have HD := Lib.hid hdd
  have H3 := Lib.hid h3
  have HSZ := Lib.hid HS0.out.rd.size
  have hd2 : 48 ≤ d.toNat ∧ d.toNat ≤ 57 := by simpa [isDec] using hdd
  have hd10 : d ≠ 10 := by rintro rfl; exact absurd HD.out (by decide)
  have gk1 : ∀ n : Nat, n ≠ d.toNat → (((d.toNat : Nat) : Int) == (n : Int)) = false := fun n hn => by simp; omega
  have q97 : ((d.toNat : Int) == 97) = false := gk1 97 (by omega)
  have q98 : ((d.toNat : Int) == 98) = false := gk1 98 (by omega)
  have q102 : ((d.toNat : Int) == 102) = false := gk1 102 (by omega)
  have q110 : ((d.toNat : Int) == 110) = false := gk1 110 (by omega)
  have q114 : ((d.toNat : Int) == 114) = false := gk1 114 (by omega)
  have q116 : ((d.toNat : Int) == 116) = false := gk1 116 (by omega)
  have q118 : ((d.toNat : Int) == 118) = false := gk1 118 (by omega)
  have q92 : ((d.toNat : Int) == 92) = false := gk1 92 (by omega)
  have q34 : ((d.toNat : Int) == 34) = false := gk1 34 (by omega)
  have q39 : ((d.toNat : Int) == 39) = false := gk1 39 (by omega)
  have q10 : ((d.toNat : Int) == 10) = false := gk1 10 (by omega)
  have q13 : ((d.toNat : Int) == 13) = false := gk1 13 (by omega)
  have g48 : (48 : Int) ≤ (d.toNat : Int) := by omega
  have g57 : (d.toNat : Int) ≤ 57 := by omega
  have hw : IntKind.u8.wrap (d.toNat : Int) = (d.toNat : Int) := by rw [IntKind.wrap_u8]; omega
  clear h13 hdd h3 gk1
  go_enter Tryd.func37, Tryd.ntmps37
  go_wp2_with fail
  refine (next_calls (Lib.hid HS0.out.rd) H13.out).mono ?_
  rintro e w1 ⟨rfl, hc, hs⟩
  rw [show tl1 (d :: u) = u from rfl, ln1_of (c := d) (t := u) rfl hd10] at hs
  have HR1 := Lib.hid hs
  have HC1 := Lib.hid hc
  clear hs hc
  simp only [hd]
  go_wp2_with fail
  go_loopg [7, 8] 2 (fun k v i wr => DgRel w b (d :: u) L k v i wr)
  case atStart =>
    refine ⟨[d], u, rfl, by intro x hx; rw [List.mem_singleton.1 hx]; exact HD.out, by simp, by simp, ?_, rfl, HR1.out.moved ((Ch.refl _ _).alloc _), (HC1.out.mono fun _ _ h => .inl h).alloc _, rfl⟩
    exact World.ownsRow_lit w1 #[.int .u8 (d.toNat : Int)] 1 HC1.out.size (by unfold maxLen; omega) rfl
  case round =>
    obtain ⟨a, r1, he, ha, ha1, ha3, ho, rfl, hr, hc, hk⟩ := hrel
    have HE := Lib.hid he
    have HA := Lib.hid ha
    have HO := Lib.hid ho
    have HR2 := Lib.hid hr
    have HC2 := Lib.hid hc
    have HK := Lib.hid hk
    clear he ha ho hr hc hk HR1 HC1
    have hcr : NoCr r1 := by have := H13.out; rw [HE.out] at this; exact this.app
    have HCR := Lib.hid hcr
    clear hcr
    by_cases h2 : a.length ≤ 2
    · have g2 : decide (((a.length - 1 : Nat) : Int) < 2) = true := by simp; omega
      go_wp2_with fail
      refine (peek_calls HR2).mono ?_
      rintro e w3 ⟨rfl, hc, hs⟩
      have HR3 := Lib.hid hs
      have HO3 := Lib.hid (Ch.owns hc HO.out (fun k hk ht => by have := HO.out.lt k hk; have := HSZ.out k ht; omega))
      have HC3 := Lib.hid (HC2.out.trans (hc.mono fun _ _ h => .inl h))
      clear hs hc HR2 HC2 HO
      simp only []
      go_wp2_with fail
      cases hv1 : hdIs isDec r1 with
      | false =>
        have HV := Lib.hid hv1
        refine (isDec_calls hv1).mono ?_
        rintro e w4 ⟨rfl, rfl⟩
        clear hv1
        simp only []
        have hcv := own_convert HO3.out
        have hval : (a.foldl (fun v c => 10 * v + (c.toNat - 48)) 0, r1) = (v, r') := by
          have := dig3_run 3 0 a r1 HA.out (by omega) (.inr HV.out)
          rw [← HE.out, H3.out] at this
          exact this.symm
        have hp := parse_dec HA.out (by intro e; rw [e] at ha1; simp at ha1) ha3
        injection hval with hv1 hv2
        subst hv2
        rw [hv1] at hp
        have HP := Lib.hid hp
        clear hp hv1
        go_wp2_with fail
        refine (strconv_ParseInt_10_at32_ok ⟨a.toArray⟩ (by simp [ByteArray.size]; omega) (v : Int) HP.out _).mono ?_
        rintro e w6 ⟨rfl, hw6⟩
        have hc6 : Ch (fun k => Tr b k ∨ w.heap.size ≤ k) w w6 := by
          rcases hw6 with rfl | ⟨t, rfl⟩
          · exact HC3.out
          · exact HC3.out.trans ((ch_bytes _ _ _).mono fun _ _ h => h.elim)
        have hr6 : Rd w6 b r1 L := by
          rcases hw6 with rfl | ⟨t, rfl⟩
          · exact HR3.out
          · exact HR3.out.moved (ch_bytes _ _ _)
        obtain ⟨hs6, hc6'⟩ := HS0.out.via hc6 hr6
        have HS6 := Lib.hid hs6
        have HC6 := Lib.hid hc6'
        clear hs6 hc6' hc6 hr6 hw6 HR3 HC3 HO3 hcv
        simp only []
        go_wp2_with fail
        have ev : (v : Int) = ((UInt8.ofNat v).toNat : Int) := by rw [UInt8.toNat_ofNat_of_lt' (show v < 256 by omega)]
        refine (sb_write' ev HS6 hl).mono ?_
        rintro e w7 ⟨rfl, hs, hc⟩
        have HS7 := Lib.hid hs
        have HC7 := Lib.hid (HC6.out.trans hc)
        clear hs hc HS6 HC6 ev
        simp only []
        go_wp2_with fail
        go_ret
        exact ⟨rfl, HS7.out, HC7.out⟩
      | true =>
        have HV := Lib.hid hv1
        refine (isDec_calls hv1).mono ?_
        rintro e w4 ⟨rfl, rfl⟩
        cases r1 with
        | nil => simp [hdIs] at hv1
        | cons x t =>
          clear hv1
          have hx2 : 48 ≤ x.toNat ∧ x.toNat ≤ 57 := by
            have : isDec x = true := HV.out
            simpa [isDec] using this
          have hx : x ≠ 10 := by
            rintro rfl
            exact absurd (show isDec 10 = true from HV.out) (by decide)
          have hwx : IntKind.u8.wrap (x.toNat : Int) = (x.toNat : Int) := by rw [IntKind.wrap_u8]; omega
          simp only []
          go_wp2_with fail
          refine (next_calls HR3 HCR.out).mono ?_
          rintro e w5 ⟨rfl, hc, hs⟩
          rw [show tl1 (x :: t) = t from rfl, ln1_of (c := x) (t := t) rfl hx] at hs
          have HR5 := Lib.hid hs
          have HO5 := Lib.hid (Ch.owns hc HO3.out (fun k hk ht => by have := HO3.out.lt k hk; have := HSZ.out k ht; omega))
          have HC5 := Lib.hid (HC3.out.trans (hc.mono fun _ _ h => .inl h))
          clear hs hc HR3 HC3 HO3
          simp only [hd]
          go_wp2_with (at_builtin; refine wpList_append_lies _ rfl (.tmp 32) (.tmp 36) 31 rfl w.heap.size 5 i0 _ 1 1 Tryd.underlying31 I0.out Z0.out Z1.out Z2.out rfl (by omega) _ _ (Lib.byteCells a) rfl (HO5.out.alloc _) ⟨w5.heap.size, 0, none⟩ 1 1 [.int .u8 (x.toNat : Int)] rfl rfl (World.news_of_block (heap_alloc_new w5 _)) (by intro y hy; simp at hy; subst hy; rfl) (by omega) (by unfold maxLen; omega) (by omega) (by have := HC5.out.size; simp; omega) (w5.heap.size + 1) (by simp) ?_; intro g' cap' w9 hown9 hgrow9 hat9 hlt9
                       have hcA : Ch (fun k => Tr b k ∨ w.heap.size ≤ k) w w9 := (HC5.out.alloc _).grown hgrow9 (fun k hk hlt => .inr (by have := HO5.out.lt k hk; omega))
                       have hrA : Rd w9 b t L := (HR5.out.moved ((Ch.refl _ _).alloc _)).keep (T := fun k => w.heap.size ≤ k) (Ch.grown (Ch.refl _ _) hgrow9 (fun k hk hlt => by have := HO5.out.lt k hk; omega)) (fun k hk e => by have := HSZ.out k hk; omega) (by have := HS0.out.rd.g2; omega)
                       have HOW := Lib.hid hown9
                       have HCA := Lib.hid hcA
                       have HRA := Lib.hid hrA
                       clear hown9 hgrow9 hat9 hlt9 hcA hrA)
          have hgk : 0 < gk := by have := HK.out; omega
          go_roundg (gk - 1)
          case measure => omega
          case rel =>
            refine ⟨a ++ [x], t, by rw [HE.out]; simp, run_more HA.out HV.out, by simp, by simp; omega, ?_, ?_, HRA.out, HCA.out, ?_⟩
            · have := HOW.out
              have e : Lib.byteCells (a ++ [x]) = Lib.byteCells a ++ [.int .u8 (x.toNat : Int)] := by simp [Lib.byteCells]
              rw [e, List.length_append]
              exact this
            · simp only [List.length_append, List.length_cons, List.length_nil]
              congr 1
              omega
            · have := HK.out
              simp only [List.length_append, List.length_cons, List.length_nil]
              omega
    · have g2 : decide (((a.length - 1 : Nat) : Int) < 2) = false := by simp; omega
      have hlen3 : a.length = 3 := by omega
      have HR3 := HR2
      have HC3 := HC2
      have HO3 := HO
      clear HR2 HC2 HO
      have hcv := own_convert HO3.out
      have hval : (a.foldl (fun v c => 10 * v + (c.toNat - 48)) 0, r1) = (v, r') := by
        have := dig3_run 3 0 a r1 HA.out (by omega) (.inl hlen3)
        rw [← HE.out, H3.out] at this
        exact this.symm
      have hp := parse_dec HA.out (by intro e; rw [e] at ha1; simp at ha1) ha3
      injection hval with hv1 hv2
      subst hv2
      rw [hv1] at hp
      have HP := Lib.hid hp
      clear hp hv1
      go_wp2_with fail
      refine (strconv_ParseInt_10_at32_ok ⟨a.toArray⟩ (by simp [ByteArray.size]; omega) (v : Int) HP.out _).mono ?_
      rintro e w6 ⟨rfl, hw6⟩
      have hc6 : Ch (fun k => Tr b k ∨ w.heap.size ≤ k) w w6 := by
        rcases hw6 with rfl | ⟨t, rfl⟩
        · exact HC3.out
        · exact HC3.out.trans ((ch_bytes _ _ _).mono fun _ _ h => h.elim)
      have hr6 : Rd w6 b r1 L := by
        rcases hw6 with rfl | ⟨t, rfl⟩
        · exact HR3.out
        · exact HR3.out.moved (ch_bytes _ _ _)
      obtain ⟨hs6, hc6'⟩ := HS0.out.via hc6 hr6
      have HS6 := Lib.hid hs6
      have HC6 := Lib.hid hc6'
      clear hs6 hc6' hc6 hr6 hw6 HR3 HC3 HO3 hcv
      simp only []
      go_wp2_with fail
      have ev : (v : Int) = ((UInt8.ofNat v).toNat : Int) := by rw [UInt8.toNat_ofNat_of_lt' (show v < 256 by omega)]
      refine (sb_write' ev HS6 hl).mono ?_
      rintro e w7 ⟨rfl, hs, hc⟩
      have HS7 := Lib.hid hs
      have HC7 := Lib.hid (HC6.out.trans hc)
      clear hs hc HS6 HC6 ev
      simp only []
      go_wp2_with fail
      go_ret
      exact ⟨rfl, HS7.out, HC7.out⟩

end Go.Proofs.YtbgjjbffpckimaaDoor
