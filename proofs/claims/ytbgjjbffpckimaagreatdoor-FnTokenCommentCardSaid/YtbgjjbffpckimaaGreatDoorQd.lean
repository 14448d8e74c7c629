/-
  The tokens of a text: the scanner: escapes, strings, comments.
-/
import Derived.Test.YtbgjjbffpckimaaGreatDoorQb
import Derived.Lib.BufferRead
import Derived.Deep.AppendLies
import Derived.Deep.Onto
import Derived.Laws.OwnMore
import Derived.ScopeJumps
import Derived.Stop.IfaceNil
namespace Go.Proofs.YtbgjjbffpckimaaGreatDoor
set_option linter.all false
open Go.RowKit

theorem Tryz.info5 : (Tryz.prog.info? 5).map (fun i => (i.zero, i.size, i.bytes)) = some (some (.int .u8 0), 1, 1) := by kernel_rfl

/-- 'string(b)' of a row of bytes. -/
theorem own_convert {w : World} {base : Nat} {v : Value} {l : Bs} (h : w.ownsRow base 5 1 v l.length (Lib.byteCells l)) : (convert 36 9 v).run Tryz.prog w = .ok (.string ⟨l.toArray⟩) w := by
  rcases h.2 with ⟨rfl, h0⟩ | ⟨g, cap, cur, rfl, _, hg, _, _, _, htk⟩
  · have : l = [] := List.length_eq_zero_iff.1 h0
    subst this
    exact Lib.run_convert_nil_bytes w 36 9 5 0 Tryz.underlying36 Tryz.underlying5 Tryz.underlying9
  · rw [Nat.mul_one] at htk
    exact run_convert_bytes_back w 36 9 5 ⟨g, 0, none⟩ cap l Tryz.underlying36 Tryz.underlying5 Tryz.underlying9 (Lib.bytes_of_row hg htk)

/-- A scanner with a buffer, behind work that leaves the buffer alone. -/
theorem Sb.via {w w' : World} {b : Bl} {r r' : Bs} {L L' : Int} {g : Nat} {l : Bs} (h : Sb w b r L g l) (hc : Ch (fun k => Tr b k ∨ w.heap.size ≤ k) w w') (hr : Rd w' b r' L') : Sb w' b r' L' g l ∧ Ch (Ub b g) w w' := by
  have hc' : Ch (Tr b) w w' := hc.mono fun k hk h => h.elim id fun h => by omega
  exact ⟨h.step hc' hr, ub_tr hc'⟩

set_option maxRecDepth 100000 in
set_option maxHeartbeats 4000000 in
theorem sb_byte {w : World} {b : Bl} {r : Bs} {L : Int} {g : Nat} {l : Bs} {c : UInt8} (H : Hid (Sb w b r L g l)) (hl : l.length < 100000) :
    Calls Tryz.prog 64 #[ptr g, .int .u8 (c.toNat : Int)] w fun e w' => e = .returned .nilIface ∧ Sb w' b r L g (l ++ [c]) ∧ Ch (Ub b g) w w' := by
  have hlen : (Lib.byteCells l).length = l.length := by simp [Lib.byteCells]
  refine (Buffer_WriteByte g g (Lib.byteCells l) (c.toNat : Int) w H.out.bf (Nat.le_of_lt H.out.bf.lt) (Lib.byteCells_one _) (by omega)).mono ?_
  rintro e w' ⟨rfl, h1, h2⟩
  refine ⟨rfl, H.out.write h2 ?_⟩
  have e : Lib.byteCells (l ++ [c]) = Lib.byteCells l ++ [.int .u8 (c.toNat : Int)] := by simp [Lib.byteCells]
  rw [e]
  exact h1

def EscPost (w : World) (b : Bl) (L : Int) (g : Nat) (l rest : Bs) (e : Ending) (w' : World) : Prop :=
  e = .returned .nilIface ∧ Sb w' b rest L g l ∧ Ch (Ub b g) w w'

set_option maxRecDepth 100000 in
set_option maxHeartbeats 4000000 in
theorem esc_97 {w : World} {b : Bl} {u : Bs} {L c : Int} {g : Nat} {l : Bs} (HS0 : Hid (Sb w b (97 :: u) L g l)) (h13 : NoCr ((97 : UInt8) :: u)) (hl : l.length < 100000) :
    Calls Tryz.prog 62 #[ptr b.Z, .int .i64 c, ptr g] w (EscPost w b (ln1 ((97 : UInt8) :: u) L) g (l ++ [7]) u) := by
  have H13 := Lib.hid h13
  have ed : ((UInt8.toNat 97 : Nat) : Int) = 97 := rfl
  clear h13
  go_enter Tryz.func62, Tryz.ntmps62
  go_wp2_with fail
  refine (sb_next HS0 H13.out).mono ?_
  rintro e w1 ⟨rfl, hs, hc⟩
  have HS1 := Lib.hid hs
  have HC1 := Lib.hid hc
  clear hs hc HS0
  simp only [hd, ed]
  go_wp2_with fail
  refine (sb_byte (c := 7) HS1 hl).mono ?_
  rintro e w2 ⟨rfl, hs, hc⟩
  have HS2 := Lib.hid hs
  have HC2 := Lib.hid (HC1.out.trans hc)
  clear hs hc HC1 HS1
  simp only []
  go_wp2_with fail
  go_ret
  exact ⟨rfl, HS2.out, HC2.out⟩

set_option maxRecDepth 100000 in
set_option maxHeartbeats 4000000 in
theorem esc_98 {w : World} {b : Bl} {u : Bs} {L c : Int} {g : Nat} {l : Bs} (HS0 : Hid (Sb w b (98 :: u) L g l)) (h13 : NoCr ((98 : UInt8) :: u)) (hl : l.length < 100000) :
    Calls Tryz.prog 62 #[ptr b.Z, .int .i64 c, ptr g] w (EscPost w b (ln1 ((98 : UInt8) :: u) L) g (l ++ [8]) u) := by
  have H13 := Lib.hid h13
  have ed : ((UInt8.toNat 98 : Nat) : Int) = 98 := rfl
  clear h13
  go_enter Tryz.func62, Tryz.ntmps62
  go_wp2_with fail
  refine (sb_next HS0 H13.out).mono ?_
  rintro e w1 ⟨rfl, hs, hc⟩
  have HS1 := Lib.hid hs
  have HC1 := Lib.hid hc
  clear hs hc HS0
  simp only [hd, ed]
  go_wp2_with fail
  refine (sb_byte (c := 8) HS1 hl).mono ?_
  rintro e w2 ⟨rfl, hs, hc⟩
  have HS2 := Lib.hid hs
  have HC2 := Lib.hid (HC1.out.trans hc)
  clear hs hc HC1 HS1
  simp only []
  go_wp2_with fail
  go_ret
  exact ⟨rfl, HS2.out, HC2.out⟩

set_option maxRecDepth 100000 in
set_option maxHeartbeats 4000000 in
theorem esc_102 {w : World} {b : Bl} {u : Bs} {L c : Int} {g : Nat} {l : Bs} (HS0 : Hid (Sb w b (102 :: u) L g l)) (h13 : NoCr ((102 : UInt8) :: u)) (hl : l.length < 100000) :
    Calls Tryz.prog 62 #[ptr b.Z, .int .i64 c, ptr g] w (EscPost w b (ln1 ((102 : UInt8) :: u) L) g (l ++ [12]) u) := by
  have H13 := Lib.hid h13
  have ed : ((UInt8.toNat 102 : Nat) : Int) = 102 := rfl
  clear h13
  go_enter Tryz.func62, Tryz.ntmps62
  go_wp2_with fail
  refine (sb_next HS0 H13.out).mono ?_
  rintro e w1 ⟨rfl, hs, hc⟩
  have HS1 := Lib.hid hs
  have HC1 := Lib.hid hc
  clear hs hc HS0
  simp only [hd, ed]
  go_wp2_with fail
  refine (sb_byte (c := 12) HS1 hl).mono ?_
  rintro e w2 ⟨rfl, hs, hc⟩
  have HS2 := Lib.hid hs
  have HC2 := Lib.hid (HC1.out.trans hc)
  clear hs hc HC1 HS1
  simp only []
  go_wp2_with fail
  go_ret
  exact ⟨rfl, HS2.out, HC2.out⟩

set_option maxRecDepth 100000 in
set_option maxHeartbeats 4000000 in
theorem esc_110 {w : World} {b : Bl} {u : Bs} {L c : Int} {g : Nat} {l : Bs} (HS0 : Hid (Sb w b (110 :: u) L g l)) (h13 : NoCr ((110 : UInt8) :: u)) (hl : l.length < 100000) :
    Calls Tryz.prog 62 #[ptr b.Z, .int .i64 c, ptr g] w (EscPost w b (ln1 ((110 : UInt8) :: u) L) g (l ++ [10]) u) := by
  have H13 := Lib.hid h13
  have ed : ((UInt8.toNat 110 : Nat) : Int) = 110 := rfl
  clear h13
  go_enter Tryz.func62, Tryz.ntmps62
  go_wp2_with fail
  refine (sb_next HS0 H13.out).mono ?_
  rintro e w1 ⟨rfl, hs, hc⟩
  have HS1 := Lib.hid hs
  have HC1 := Lib.hid hc
  clear hs hc HS0
  simp only [hd, ed]
  go_wp2_with fail
  refine (sb_byte (c := 10) HS1 hl).mono ?_
  rintro e w2 ⟨rfl, hs, hc⟩
  have HS2 := Lib.hid hs
  have HC2 := Lib.hid (HC1.out.trans hc)
  clear hs hc HC1 HS1
  simp only []
  go_wp2_with fail
  go_ret
  exact ⟨rfl, HS2.out, HC2.out⟩

set_option maxRecDepth 100000 in
set_option maxHeartbeats 4000000 in
theorem esc_114 {w : World} {b : Bl} {u : Bs} {L c : Int} {g : Nat} {l : Bs} (HS0 : Hid (Sb w b (114 :: u) L g l)) (h13 : NoCr ((114 : UInt8) :: u)) (hl : l.length < 100000) :
    Calls Tryz.prog 62 #[ptr b.Z, .int .i64 c, ptr g] w (EscPost w b (ln1 ((114 : UInt8) :: u) L) g (l ++ [13]) u) := by
  have H13 := Lib.hid h13
  have ed : ((UInt8.toNat 114 : Nat) : Int) = 114 := rfl
  clear h13
  go_enter Tryz.func62, Tryz.ntmps62
  go_wp2_with fail
  refine (sb_next HS0 H13.out).mono ?_
  rintro e w1 ⟨rfl, hs, hc⟩
  have HS1 := Lib.hid hs
  have HC1 := Lib.hid hc
  clear hs hc HS0
  simp only [hd, ed]
  go_wp2_with fail
  refine (sb_byte (c := 13) HS1 hl).mono ?_
  rintro e w2 ⟨rfl, hs, hc⟩
  have HS2 := Lib.hid hs
  have HC2 := Lib.hid (HC1.out.trans hc)
  clear hs hc HC1 HS1
  simp only []
  go_wp2_with fail
  go_ret
  exact ⟨rfl, HS2.out, HC2.out⟩

set_option maxRecDepth 100000 in
set_option maxHeartbeats 4000000 in
theorem esc_116 {w : World} {b : Bl} {u : Bs} {L c : Int} {g : Nat} {l : Bs} (HS0 : Hid (Sb w b (116 :: u) L g l)) (h13 : NoCr ((116 : UInt8) :: u)) (hl : l.length < 100000) :
    Calls Tryz.prog 62 #[ptr b.Z, .int .i64 c, ptr g] w (EscPost w b (ln1 ((116 : UInt8) :: u) L) g (l ++ [9]) u) := by
  have H13 := Lib.hid h13
  have ed : ((UInt8.toNat 116 : Nat) : Int) = 116 := rfl
  clear h13
  go_enter Tryz.func62, Tryz.ntmps62
  go_wp2_with fail
  refine (sb_next HS0 H13.out).mono ?_
  rintro e w1 ⟨rfl, hs, hc⟩
  have HS1 := Lib.hid hs
  have HC1 := Lib.hid hc
  clear hs hc HS0
  simp only [hd, ed]
  go_wp2_with fail
  refine (sb_byte (c := 9) HS1 hl).mono ?_
  rintro e w2 ⟨rfl, hs, hc⟩
  have HS2 := Lib.hid hs
  have HC2 := Lib.hid (HC1.out.trans hc)
  clear hs hc HC1 HS1
  simp only []
  go_wp2_with fail
  go_ret
  exact ⟨rfl, HS2.out, HC2.out⟩

set_option maxRecDepth 100000 in
set_option maxHeartbeats 4000000 in
theorem esc_118 {w : World} {b : Bl} {u : Bs} {L c : Int} {g : Nat} {l : Bs} (HS0 : Hid (Sb w b (118 :: u) L g l)) (h13 : NoCr ((118 : UInt8) :: u)) (hl : l.length < 100000) :
    Calls Tryz.prog 62 #[ptr b.Z, .int .i64 c, ptr g] w (EscPost w b (ln1 ((118 : UInt8) :: u) L) g (l ++ [11]) u) := by
  have H13 := Lib.hid h13
  have ed : ((UInt8.toNat 118 : Nat) : Int) = 118 := rfl
  clear h13
  go_enter Tryz.func62, Tryz.ntmps62
  go_wp2_with fail
  refine (sb_next HS0 H13.out).mono ?_
  rintro e w1 ⟨rfl, hs, hc⟩
  have HS1 := Lib.hid hs
  have HC1 := Lib.hid hc
  clear hs hc HS0
  simp only [hd, ed]
  go_wp2_with fail
  refine (sb_byte (c := 11) HS1 hl).mono ?_
  rintro e w2 ⟨rfl, hs, hc⟩
  have HS2 := Lib.hid hs
  have HC2 := Lib.hid (HC1.out.trans hc)
  clear hs hc HC1 HS1
  simp only []
  go_wp2_with fail
  go_ret
  exact ⟨rfl, HS2.out, HC2.out⟩

set_option maxRecDepth 100000 in
set_option maxHeartbeats 4000000 in
theorem esc_92 {w : World} {b : Bl} {u : Bs} {L c : Int} {g : Nat} {l : Bs} (HS0 : Hid (Sb w b (92 :: u) L g l)) (h13 : NoCr ((92 : UInt8) :: u)) (hl : l.length < 100000) :
    Calls Tryz.prog 62 #[ptr b.Z, .int .i64 c, ptr g] w (EscPost w b (ln1 ((92 : UInt8) :: u) L) g (l ++ [92]) u) := by
  have H13 := Lib.hid h13
  have ed : ((UInt8.toNat 92 : Nat) : Int) = 92 := rfl
  clear h13
  go_enter Tryz.func62, Tryz.ntmps62
  go_wp2_with fail
  refine (sb_next HS0 H13.out).mono ?_
  rintro e w1 ⟨rfl, hs, hc⟩
  have HS1 := Lib.hid hs
  have HC1 := Lib.hid hc
  clear hs hc HS0
  simp only [hd, ed]
  go_wp2_with fail
  refine (sb_byte (c := 92) HS1 hl).mono ?_
  rintro e w2 ⟨rfl, hs, hc⟩
  have HS2 := Lib.hid hs
  have HC2 := Lib.hid (HC1.out.trans hc)
  clear hs hc HC1 HS1
  simp only []
  go_wp2_with fail
  go_ret
  exact ⟨rfl, HS2.out, HC2.out⟩

set_option maxRecDepth 100000 in
set_option maxHeartbeats 4000000 in
theorem esc_34 {w : World} {b : Bl} {u : Bs} {L c : Int} {g : Nat} {l : Bs} (HS0 : Hid (Sb w b (34 :: u) L g l)) (h13 : NoCr ((34 : UInt8) :: u)) (hl : l.length < 100000) :
    Calls Tryz.prog 62 #[ptr b.Z, .int .i64 c, ptr g] w (EscPost w b (ln1 ((34 : UInt8) :: u) L) g (l ++ [34]) u) := by
  have H13 := Lib.hid h13
  have ed : ((UInt8.toNat 34 : Nat) : Int) = 34 := rfl
  clear h13
  go_enter Tryz.func62, Tryz.ntmps62
  go_wp2_with fail
  refine (sb_next HS0 H13.out).mono ?_
  rintro e w1 ⟨rfl, hs, hc⟩
  have HS1 := Lib.hid hs
  have HC1 := Lib.hid hc
  clear hs hc HS0
  simp only [hd, ed]
  go_wp2_with fail
  refine (sb_byte (c := 34) HS1 hl).mono ?_
  rintro e w2 ⟨rfl, hs, hc⟩
  have HS2 := Lib.hid hs
  have HC2 := Lib.hid (HC1.out.trans hc)
  clear hs hc HC1 HS1
  simp only []
  go_wp2_with fail
  go_ret
  exact ⟨rfl, HS2.out, HC2.out⟩

set_option maxRecDepth 100000 in
set_option maxHeartbeats 4000000 in
theorem esc_39 {w : World} {b : Bl} {u : Bs} {L c : Int} {g : Nat} {l : Bs} (HS0 : Hid (Sb w b (39 :: u) L g l)) (h13 : NoCr ((39 : UInt8) :: u)) (hl : l.length < 100000) :
    Calls Tryz.prog 62 #[ptr b.Z, .int .i64 c, ptr g] w (EscPost w b (ln1 ((39 : UInt8) :: u) L) g (l ++ [39]) u) := by
  have H13 := Lib.hid h13
  have ed : ((UInt8.toNat 39 : Nat) : Int) = 39 := rfl
  clear h13
  go_enter Tryz.func62, Tryz.ntmps62
  go_wp2_with fail
  refine (sb_next HS0 H13.out).mono ?_
  rintro e w1 ⟨rfl, hs, hc⟩
  have HS1 := Lib.hid hs
  have HC1 := Lib.hid hc
  clear hs hc HS0
  simp only [hd, ed]
  go_wp2_with fail
  refine (sb_byte (c := 39) HS1 hl).mono ?_
  rintro e w2 ⟨rfl, hs, hc⟩
  have HS2 := Lib.hid hs
  have HC2 := Lib.hid (HC1.out.trans hc)
  clear hs hc HC1 HS1
  simp only []
  go_wp2_with fail
  go_ret
  exact ⟨rfl, HS2.out, HC2.out⟩

set_option maxRecDepth 100000 in
set_option maxHeartbeats 4000000 in
theorem esc_10 {w : World} {b : Bl} {u : Bs} {L c : Int} {g : Nat} {l : Bs} (HS0 : Hid (Sb w b (10 :: u) L g l)) (h13 : NoCr ((10 : UInt8) :: u)) (hl : l.length < 100000) :
    Calls Tryz.prog 62 #[ptr b.Z, .int .i64 c, ptr g] w (EscPost w b (ln1 ((10 : UInt8) :: u) L) g (l ++ [10]) u) := by
  have H13 := Lib.hid h13
  have ed : ((UInt8.toNat 10 : Nat) : Int) = 10 := rfl
  clear h13
  go_enter Tryz.func62, Tryz.ntmps62
  go_wp2_with fail
  refine (sb_next HS0 H13.out).mono ?_
  rintro e w1 ⟨rfl, hs, hc⟩
  have HS1 := Lib.hid hs
  have HC1 := Lib.hid hc
  clear hs hc HS0
  simp only [hd, ed]
  go_wp2_with fail
  refine (sb_byte (c := 10) HS1 hl).mono ?_
  rintro e w2 ⟨rfl, hs, hc⟩
  have HS2 := Lib.hid hs
  have HC2 := Lib.hid (HC1.out.trans hc)
  clear hs hc HC1 HS1
  simp only []
  go_wp2_with fail
  go_ret
  exact ⟨rfl, HS2.out, HC2.out⟩

set_option maxRecDepth 100000 in
set_option maxHeartbeats 4000000 in
theorem sb_eof {w : World} {b : Bl} {r : Bs} {L : Int} {g : Nat} {l : Bs} (H : Hid (Sb w b r L g l)) (hl : l.length < 100000) :
    Calls Tryz.prog 40 #[ptr g, .int .i64 (-1)] w fun e w' => e = .returned (.tuple #[]) ∧ Sb w' b r L g (l ++ [255]) ∧ Ch (Ub b g) w w' := by
  have hw : IntKind.u8.wrap (-1) = 255 := by rfl
  go_enter Tryz.func40, Tryz.ntmps40
  go_wp2_with fail
  refine (sb_byte (c := 255) H hl).mono ?_
  rintro e w1 ⟨rfl, hs, hc⟩
  have HS1 := Lib.hid hs
  have HC1 := Lib.hid hc
  clear hs hc
  simp only []
  go_wp2_with fail
  refine bodyPost_end (results_none rfl _ _ _) rfl ?_
  exact ⟨rfl, HS1.out, HC1.out⟩

set_option maxRecDepth 100000 in
set_option maxHeartbeats 4000000 in
theorem esc_end {w : World} {b : Bl} {L c : Int} {g : Nat} {l : Bs} (HS0 : Hid (Sb w b [] L g l)) (hl : l.length < 100000) :
    Calls Tryz.prog 62 #[ptr b.Z, .int .i64 c, ptr g] w (EscPost w b (-1) g (l ++ [255]) []) := by
  go_enter Tryz.func62, Tryz.ntmps62
  go_wp2_with fail
  refine (sb_next HS0 (fun _ h => by cases h)).mono ?_
  rintro e w1 ⟨rfl, hs, hc⟩
  have HS1 := Lib.hid hs
  have HC1 := Lib.hid hc
  clear hs hc HS0
  simp only [hd, tl1, ln1]
  go_wp2_with fail
  refine (sb_eof HS1 hl).mono ?_
  rintro e w2 ⟨rfl, hs, hc⟩
  have HS2 := Lib.hid hs
  have HC2 := Lib.hid (HC1.out.trans hc)
  clear hs hc HC1 HS1
  simp only []
  go_wp2_with fail
  go_ret
  exact ⟨rfl, HS2.out, HC2.out⟩

theorem dig3_run : ∀ (k v : Nat) (a r1 : Bs), (∀ c ∈ a, isDec c = true) → a.length ≤ k → (a.length = k ∨ hdIs isDec r1 = false) → dig3 k v (a ++ r1) = (a.foldl (fun v c => 10 * v + (c.toNat - 48)) v, r1)
  | 0, v, a, r1, _, hl, _ => by
    have : a = [] := List.length_eq_zero_iff.1 (by omega)
    subst this
    rfl
  | k + 1, v, [], [], _, _, _ => rfl
  | k + 1, v, [], c :: t, _, _, h => by
    have h : isDec c = false := by
      rcases h with h | h
      · simp at h
      · exact h
    show dig3 (k + 1) v (c :: t) = _
    unfold dig3
    rw [if_neg (by simp [h])]
    rfl
  | k + 1, v, c :: a, r1, ha, hl, h => by
    show dig3 (k + 1) v (c :: (a ++ r1)) = _
    unfold dig3
    rw [if_pos (ha c (by simp)), dig3_run k _ a r1 (fun x hx => ha x (by simp [hx])) (by simp at hl; omega) (by
      rcases h with h | h
      · left; simp at h; omega
      · exact .inr h)]
    rfl
theorem dval_le : ∀ (a : Bs) (v n : Nat), (∀ c ∈ a, isDec c = true) → v ≤ n → a.foldl (fun v c => 10 * v + (c.toNat - 48)) v ≤ n * 10 ^ a.length + (10 ^ a.length - 1)
  | [], v, n, _, h => by simp; omega
  | c :: a, v, n, ha, h => by
    have hc := ha c (by simp)
    have h9 : c.toNat - 48 ≤ 9 := by
      have : 48 ≤ c.toNat ∧ c.toNat ≤ 57 := by simpa [isDec] using hc
      omega
    have := dval_le a (10 * v + (c.toNat - 48)) (10 * n + 9) (fun x hx => ha x (by simp [hx])) (by omega)
    simp only [List.foldl_cons, List.length_cons]
    refine Nat.le_trans this ?_
    have p : 10 ^ (a.length + 1) = 10 * 10 ^ a.length := by rw [Nat.pow_succ]; omega
    have hp : 0 < 10 ^ a.length := Nat.pos_of_ne_zero (by simp)
    rw [p]
    generalize 10 ^ a.length = q at *
    have e1 : (10 * n + 9) * q = 10 * (n * q) + 9 * q := by rw [Nat.add_mul, Nat.mul_assoc]
    have e2 : n * (10 * q) = 10 * (n * q) := by rw [← Nat.mul_assoc, Nat.mul_comm n 10, Nat.mul_assoc]
    rw [e1, e2]
    omega
theorem parseM_dec : ∀ (a : Bs) (acc : Nat), (∀ c ∈ a, isDec c = true) → (acc + 1) * 10 ^ a.length ≤ 10000 → Lib.parseUintM (2 ^ 32 - 1) acc a = .ok (a.foldl (fun v c => 10 * v + (c.toNat - 48)) acc)
  | [], acc, _, _ => rfl
  | c :: a, acc, ha, hl => by
    have hc : 48 ≤ c.toNat ∧ c.toNat ≤ 57 := by simpa [isDec] using ha c (by simp)
    have hp : 1 ≤ 10 ^ a.length := Nat.pos_of_ne_zero (by simp)
    have e : (acc + 1) * 10 ^ (c :: a).length = (10 * acc + 10) * 10 ^ a.length := by
      rw [List.length_cons, Nat.pow_succ, Nat.mul_comm (10 ^ a.length) 10, ← Nat.mul_assoc, Nat.add_mul]
      congr 1
      omega
    rw [e] at hl
    have hb : 10 * acc + 10 ≤ 10000 := Nat.le_trans (Nat.le_mul_of_pos_right _ hp) hl
    unfold Lib.parseUintM
    rw [if_pos hc, if_neg (by omega), if_neg (by omega), show acc * 10 + (c.toNat - 48) = 10 * acc + (c.toNat - 48) by omega]
    refine parseM_dec a _ (fun x hx => ha x (by simp [hx])) (Nat.le_trans (Nat.mul_le_mul_right _ ?_) hl)
    omega
theorem parse_dec {a : Bs} (ha : ∀ c ∈ a, isDec c = true) (h1 : a ≠ []) (h3 : a.length ≤ 3) : Lib.parseIntB 32 a = .ok ((a.foldl (fun v c => 10 * v + (c.toNat - 48)) 0 : Nat) : Int) := by
  have hv := dval_le a 0 0 ha (Nat.le_refl _)
  have hp : 10 ^ a.length ≤ 1000 := Nat.le_trans (Nat.pow_le_pow_right (by omega) h3) (by decide)
  have hm := parseM_dec a 0 ha (by omega)
  cases a with
  | nil => exact absurd rfl h1
  | cons c t =>
    have hc : 48 ≤ c.toNat ∧ c.toNat ≤ 57 := by simpa [isDec] using ha c (by simp)
    unfold Lib.parseIntB Lib.parseUintB
    simp only []
    rw [if_neg (show ¬ (c.toNat = 43 ∨ c.toNat = 45) by omega), if_neg (by simp), hm]
    simp only []
    rw [if_neg (by intro h; have := h.2; simp only [Nat.reduceSub, Nat.reducePow] at this; omega), if_neg (by intro h; omega), if_neg (by omega)]

/-- The loop over the digits of an escape. -/
def DgRel (w0 : World) (b : Bl) (ds : Bs) (L : Int) (k : Nat) (v i : Value) (wr : World) : Prop :=
  ∃ a r1, ds = a ++ r1 ∧ (∀ c ∈ a, isDec c = true) ∧ 1 ≤ a.length ∧ a.length ≤ 3 ∧ wr.ownsRow w0.heap.size 5 1 v a.length (Lib.byteCells a) ∧ i = .int .i64 ((a.length - 1 : Nat) : Int) ∧ Rd wr b r1 L ∧ Ch (fun k => Tr b k ∨ w0.heap.size ≤ k) w0 wr ∧ k + a.length = 3

theorem ch_bytes (w : World) (e : TypeId) (s : ByteArray) : Ch (fun _ => False) w (Lib.bytesWorld w e s) := by
  exact ⟨rfl, rfl, rfl, by rw [Lib.bytesWorld_size]; omega, fun k hk _ => Lib.bytesWorld_at_old w e s k hk⟩
theorem sb_write' {w : World} {b : Bl} {r : Bs} {L n : Int} {g : Nat} {l : Bs} {c : UInt8} (hn : n = (c.toNat : Int)) (H : Hid (Sb w b r L g l)) (hl : l.length < 100000) :
    Calls Tryz.prog 40 #[ptr g, .int .i64 n] w fun e w' => e = .returned (.tuple #[]) ∧ Sb w' b r L g (l ++ [c]) ∧ Ch (Ub b g) w w' := by
  subst hn
  exact sb_write H hl

set_option maxRecDepth 100000 in
set_option maxHeartbeats 4000000 in
theorem esc_dig {w : World} {b : Bl} {d : UInt8} {u r' : Bs} {L c : Int} {g v : Nat} {l : Bs} (HS0 : Hid (Sb w b (d :: u) L g l)) (hdd : isDec d = true) (h3 : dig3 3 0 (d :: u) = (v, r')) (hv : v ≤ 255) (h13 : NoCr (d :: u)) (hl : l.length < 100000) :
    Calls Tryz.prog 62 #[ptr b.Z, .int .i64 c, ptr g] w (EscPost w b L g (l ++ [UInt8.ofNat v]) r') := by
  obtain ⟨i0, hi0, hz0, hz1, hz2⟩ := info_parts Tryz.info5
  have I0 := Lib.hid hi0
  have Z0 := Lib.hid hz0
  have Z1 := Lib.hid hz1
  have Z2 := Lib.hid hz2
  clear hi0 hz0 hz1 hz2
  have H13 := Lib.hid h13
  have HD := Lib.hid hdd
  have H3 := Lib.hid h3
  have HSZ := Lib.hid HS0.out.rd.size
  have hd2 : 48 ≤ d.toNat ∧ d.toNat ≤ 57 := by simpa [isDec] using hdd
  have hd10 : d ≠ 10 := by rintro rfl; exact absurd HD.out (by decide)
  have gk1 : ∀ n : Nat, n ≠ d.toNat → (((d.toNat : Nat) : Int) == (n : Int)) = false := fun n hn => by simp; omega
  have q97 : ((d.toNat : Int) == 97) = false := gk1 97 (by omega)
  have q98 : ((d.toNat : Int) == 98) = false := gk1 98 (by omega)
  have q102 : ((d.toNat : Int) == 102) = false := gk1 102 (by omega)
  have q110 : ((d.toNat : Int) == 110) = false := gk1 110 (by omega)
  have q114 : ((d.toNat : Int) == 114) = false := gk1 114 (by omega)
  have q116 : ((d.toNat : Int) == 116) = false := gk1 116 (by omega)
  have q118 : ((d.toNat : Int) == 118) = false := gk1 118 (by omega)
  have q92 : ((d.toNat : Int) == 92) = false := gk1 92 (by omega)
  have q34 : ((d.toNat : Int) == 34) = false := gk1 34 (by omega)
  have q39 : ((d.toNat : Int) == 39) = false := gk1 39 (by omega)
  have q10 : ((d.toNat : Int) == 10) = false := gk1 10 (by omega)
  have q13 : ((d.toNat : Int) == 13) = false := gk1 13 (by omega)
  have g48 : (48 : Int) ≤ (d.toNat : Int) := by omega
  have g57 : (d.toNat : Int) ≤ 57 := by omega
  have hw : IntKind.u8.wrap (d.toNat : Int) = (d.toNat : Int) := by rw [IntKind.wrap_u8]; omega
  clear h13 hdd h3 gk1
  go_enter Tryz.func62, Tryz.ntmps62
  go_wp2_with fail
  refine (next_calls (Lib.hid HS0.out.rd) H13.out).mono ?_
  rintro e w1 ⟨rfl, hc, hs⟩
  rw [show tl1 (d :: u) = u from rfl, ln1_of (c := d) (t := u) rfl hd10] at hs
  have HR1 := Lib.hid hs
  have HC1 := Lib.hid hc
  clear hs hc
  simp only [hd]
  go_wp2_with fail
  go_loopg [7, 8] 2 (fun k v i wr => DgRel w b (d :: u) L k v i wr)
  case atStart =>
    refine ⟨[d], u, rfl, by intro x hx; rw [List.mem_singleton.1 hx]; exact HD.out, by simp, by simp, ?_, rfl, HR1.out.moved ((Ch.refl _ _).alloc _), (HC1.out.mono fun _ _ h => .inl h).alloc _, rfl⟩
    exact World.ownsRow_lit w1 #[.int .u8 (d.toNat : Int)] 1 HC1.out.size (by unfold maxLen; omega) rfl
  case round =>
    obtain ⟨a, r1, he, ha, ha1, ha3, ho, rfl, hr, hc, hk⟩ := hrel
    have HE := Lib.hid he
    have HA := Lib.hid ha
    have HO := Lib.hid ho
    have HR2 := Lib.hid hr
    have HC2 := Lib.hid hc
    have HK := Lib.hid hk
    clear he ha ho hr hc hk HR1 HC1
    have hcr : NoCr r1 := by have := H13.out; rw [HE.out] at this; exact this.app
    have HCR := Lib.hid hcr
    clear hcr
    by_cases h2 : a.length ≤ 2
    · have g2 : decide (((a.length - 1 : Nat) : Int) < 2) = true := by simp; omega
      go_wp2_with fail
      refine (peek_calls HR2).mono ?_
      rintro e w3 ⟨rfl, hc, hs⟩
      have HR3 := Lib.hid hs
      have HO3 := Lib.hid (Ch.owns hc HO.out (fun k hk ht => by have := HO.out.lt k hk; have := HSZ.out k ht; omega))
      have HC3 := Lib.hid (HC2.out.trans (hc.mono fun _ _ h => .inl h))
      clear hs hc HR2 HC2 HO
      simp only []
      go_wp2_with fail
      cases hv1 : hdIs isDec r1 with
      | false =>
        have HV := Lib.hid hv1
        refine (isDec_calls hv1).mono ?_
        rintro e w4 ⟨rfl, rfl⟩
        clear hv1
        simp only []
        have hcv := own_convert HO3.out
        have hval : (a.foldl (fun v c => 10 * v + (c.toNat - 48)) 0, r1) = (v, r') := by
          have := dig3_run 3 0 a r1 HA.out (by omega) (.inr HV.out)
          rw [← HE.out, H3.out] at this
          exact this.symm
        have hp := parse_dec HA.out (by intro e; rw [e] at ha1; simp at ha1) ha3
        injection hval with hv1 hv2
        subst hv2
        rw [hv1] at hp
        have HP := Lib.hid hp
        clear hp hv1
        go_wp2_with fail
        refine (strconv_ParseInt_10_at32_ok ⟨a.toArray⟩ (by simp [ByteArray.size]; omega) (v : Int) HP.out _).mono ?_
        rintro e w6 ⟨rfl, hw6⟩
        have hc6 : Ch (fun k => Tr b k ∨ w.heap.size ≤ k) w w6 := by
          rcases hw6 with rfl | ⟨t, rfl⟩
          · exact HC3.out
          · exact HC3.out.trans ((ch_bytes _ _ _).mono fun _ _ h => h.elim)
        have hr6 : Rd w6 b r1 L := by
          rcases hw6 with rfl | ⟨t, rfl⟩
          · exact HR3.out
          · exact HR3.out.moved (ch_bytes _ _ _)
        obtain ⟨hs6, hc6'⟩ := HS0.out.via hc6 hr6
        have HS6 := Lib.hid hs6
        have HC6 := Lib.hid hc6'
        clear hs6 hc6' hc6 hr6 hw6 HR3 HC3 HO3 hcv
        simp only []
        go_wp2_with fail
        have ev : (v : Int) = ((UInt8.ofNat v).toNat : Int) := by rw [UInt8.toNat_ofNat_of_lt' (show v < 256 by omega)]
        refine (sb_write' ev HS6 hl).mono ?_
        rintro e w7 ⟨rfl, hs, hc⟩
        have HS7 := Lib.hid hs
        have HC7 := Lib.hid (HC6.out.trans hc)
        clear hs hc HS6 HC6 ev
        simp only []
        go_wp2_with fail
        go_ret
        exact ⟨rfl, HS7.out, HC7.out⟩
      | true =>
        have HV := Lib.hid hv1
        refine (isDec_calls hv1).mono ?_
        rintro e w4 ⟨rfl, rfl⟩
        cases r1 with
        | nil => simp [hdIs] at hv1
        | cons x t =>
          clear hv1
          have hx2 : 48 ≤ x.toNat ∧ x.toNat ≤ 57 := by
            have : isDec x = true := HV.out
            simpa [isDec] using this
          have hx : x ≠ 10 := by
            rintro rfl
            exact absurd (show isDec 10 = true from HV.out) (by decide)
          have hwx : IntKind.u8.wrap (x.toNat : Int) = (x.toNat : Int) := by rw [IntKind.wrap_u8]; omega
          simp only []
          go_wp2_with fail
          refine (next_calls HR3 HCR.out).mono ?_
          rintro e w5 ⟨rfl, hc, hs⟩
          rw [show tl1 (x :: t) = t from rfl, ln1_of (c := x) (t := t) rfl hx] at hs
          have HR5 := Lib.hid hs
          have HO5 := Lib.hid (Ch.owns hc HO3.out (fun k hk ht => by have := HO3.out.lt k hk; have := HSZ.out k ht; omega))
          have HC5 := Lib.hid (HC3.out.trans (hc.mono fun _ _ h => .inl h))
          clear hs hc HR3 HC3 HO3
          simp only [hd]
          go_wp2_with (at_builtin; refine wpList_append_lies _ rfl (.tmp 32) (.tmp 36) 36 rfl w.heap.size 5 i0 _ 1 1 Tryz.underlying36 I0.out Z0.out Z1.out Z2.out rfl (by omega) _ _ (Lib.byteCells a) rfl (HO5.out.alloc _) ⟨w5.heap.size, 0, none⟩ 1 1 [.int .u8 (x.toNat : Int)] rfl rfl (World.news_of_block (heap_alloc_new w5 _)) (by intro y hy; simp at hy; subst hy; rfl) (by omega) (by unfold maxLen; omega) (by omega) (by have := HC5.out.size; simp; omega) (w5.heap.size + 1) (by simp) ?_; intro g' cap' w9 hown9 hgrow9 hat9 hlt9
                       have hcA : Ch (fun k => Tr b k ∨ w.heap.size ≤ k) w w9 := (HC5.out.alloc _).grown hgrow9 (fun k hk hlt => .inr (by have := HO5.out.lt k hk; omega))
                       have hrA : Rd w9 b t L := (HR5.out.moved ((Ch.refl _ _).alloc _)).keep (T := fun k => w.heap.size ≤ k) (Ch.grown (Ch.refl _ _) hgrow9 (fun k hk hlt => by have := HO5.out.lt k hk; omega)) (fun k hk e => by have := HSZ.out k hk; omega) (by have := HS0.out.rd.g2; omega)
                       have HOW := Lib.hid hown9
                       have HCA := Lib.hid hcA
                       have HRA := Lib.hid hrA
                       clear hown9 hgrow9 hat9 hlt9 hcA hrA)
          have hgk : 0 < gk := by have := HK.out; omega
          go_roundg (gk - 1)
          case measure => omega
          case rel =>
            refine ⟨a ++ [x], t, by rw [HE.out]; simp, run_more HA.out HV.out, by simp, by simp; omega, ?_, ?_, HRA.out, HCA.out, ?_⟩
            · have := HOW.out
              have e : Lib.byteCells (a ++ [x]) = Lib.byteCells a ++ [.int .u8 (x.toNat : Int)] := by simp [Lib.byteCells]
              rw [e, List.length_append]
              exact this
            · simp only [List.length_append, List.length_cons, List.length_nil]
              congr 1
              omega
            · have := HK.out
              simp only [List.length_append, List.length_cons, List.length_nil]
              omega
    · have g2 : decide (((a.length - 1 : Nat) : Int) < 2) = false := by simp; omega
      have hlen3 : a.length = 3 := by omega
      have HR3 := HR2
      have HC3 := HC2
      have HO3 := HO
      clear HR2 HC2 HO
      have hcv := own_convert HO3.out
      have hval : (a.foldl (fun v c => 10 * v + (c.toNat - 48)) 0, r1) = (v, r') := by
        have := dig3_run 3 0 a r1 HA.out (by omega) (.inl hlen3)
        rw [← HE.out, H3.out] at this
        exact this.symm
      have hp := parse_dec HA.out (by intro e; rw [e] at ha1; simp at ha1) ha3
      injection hval with hv1 hv2
      subst hv2
      rw [hv1] at hp
      have HP := Lib.hid hp
      clear hp hv1
      go_wp2_with fail
      refine (strconv_ParseInt_10_at32_ok ⟨a.toArray⟩ (by simp [ByteArray.size]; omega) (v : Int) HP.out _).mono ?_
      rintro e w6 ⟨rfl, hw6⟩
      have hc6 : Ch (fun k => Tr b k ∨ w.heap.size ≤ k) w w6 := by
        rcases hw6 with rfl | ⟨t, rfl⟩
        · exact HC3.out
        · exact HC3.out.trans ((ch_bytes _ _ _).mono fun _ _ h => h.elim)
      have hr6 : Rd w6 b r1 L := by
        rcases hw6 with rfl | ⟨t, rfl⟩
        · exact HR3.out
        · exact HR3.out.moved (ch_bytes _ _ _)
      obtain ⟨hs6, hc6'⟩ := HS0.out.via hc6 hr6
      have HS6 := Lib.hid hs6
      have HC6 := Lib.hid hc6'
      clear hs6 hc6' hc6 hr6 hw6 HR3 HC3 HO3 hcv
      simp only []
      go_wp2_with fail
      have ev : (v : Int) = ((UInt8.ofNat v).toNat : Int) := by rw [UInt8.toNat_ofNat_of_lt' (show v < 256 by omega)]
      refine (sb_write' ev HS6 hl).mono ?_
      rintro e w7 ⟨rfl, hs, hc⟩
      have HS7 := Lib.hid hs
      have HC7 := Lib.hid (HC6.out.trans hc)
      clear hs hc HS6 HC6 ev
      simp only []
      go_wp2_with fail
      go_ret
      exact ⟨rfl, HS7.out, HC7.out⟩

end Go.Proofs.YtbgjjbffpckimaaGreatDoor

namespace Go.Proofs.YtbgjjbffpckimaaGreatDoor
set_option linter.all false
open Go.RowKit

theorem hd_c (c : UInt8) (t : Bs) : hd (c :: t) = (c.toNat : Int) := rfl
theorem hd_e : hd [] = -1 := rfl
theorem strB_nil (q : UInt8) : strB q [] = .no 1 := by rw [strB]
theorem strB_10 (q : UInt8) (t : Bs) : strB q (10 :: t) = .no 1 := by rw [strB.eq_def]; simp only []; rw [if_pos trivial]
theorem strB_q (q : UInt8) (t : Bs) (h : q ≠ 10) : strB q (q :: t) = .ok [] t := by rw [strB.eq_def]; simp only []; rw [if_neg h, if_pos trivial]
theorem strB_bs (q : UInt8) (h : q ≠ 92) : strB q [92] = .no 1 := by rw [strB.eq_def]; simp only []; rw [if_neg (by decide), if_neg (fun e => h e.symm), if_pos trivial]
theorem strB_dig (q d : UInt8) (u : Bs) (h : q ≠ 92) (hdd : isDec d = true) : strB q (92 :: d :: u) = if (dig3 3 0 (d :: u)).1 ≤ 255 then (strB q (dig3 3 0 (d :: u)).2).map (UInt8.ofNat (dig3 3 0 (d :: u)).1 :: ·) else .no 2 := by
  rw [strB.eq_def]; simp only []; rw [if_neg (by decide), if_neg (fun e => h e.symm), if_pos trivial]; simp only [hdd, dif_pos]
theorem strB_esc (q d b : UInt8) (u : Bs) (h : q ≠ 92) (hdd : isDec d = false) (hb : esc d = some b) : strB q (92 :: d :: u) = (strB q u).map (b :: ·) := by
  rw [strB.eq_def]; simp only []; rw [if_neg (by decide), if_neg (fun e => h e.symm), if_pos trivial]; rw [dif_neg (by simp [hdd])]; simp only [hb]
theorem strB_none (q d : UInt8) (u : Bs) (h : q ≠ 92) (hdd : isDec d = false) (hb : esc d = none) : strB q (92 :: d :: u) = .no 2 := by
  rw [strB.eq_def]; simp only []; rw [if_neg (by decide), if_neg (fun e => h e.symm), if_pos trivial]; rw [dif_neg (by simp [hdd])]; simp only [hb]
theorem strB_chr (q c : UInt8) (t : Bs) (h1 : c ≠ 10) (h2 : c ≠ q) (h3 : c ≠ 92) : strB q (c :: t) = (strB q t).map (c :: ·) := by
  rw [strB.eq_def]; simp only []; rw [if_neg h1, if_neg h2, if_neg h3]
theorem Rz.map_map {α β γ : Type} (f : α → β) (g : β → γ) (x : Rz α) : (x.map f).map g = x.map (fun a => g (f a)) := by cases x <;> rfl
theorem Rz.map_id' (x : Rz Bs) : x.map (fun a => [] ++ a) = x := by cases x <;> rfl
theorem esc_cases {d v : UInt8} (h : esc d = some v) : (d = 97 ∧ v = 7) ∨ (d = 98 ∧ v = 8) ∨ (d = 102 ∧ v = 12) ∨ (d = 110 ∧ v = 10) ∨ (d = 10 ∧ v = 10) ∨ (d = 114 ∧ v = 13) ∨ (d = 116 ∧ v = 9) ∨ (d = 118 ∧ v = 11) ∨ (d = 92 ∧ v = 92) ∨ (d = 34 ∧ v = 34) ∨ (d = 39 ∧ v = 39) := by
  unfold esc at h
  by_cases h97 : d = 97
  · subst h97
    rw [if_pos rfl] at h
    injection h with h
    subst h
    simp
  by_cases h98 : d = 98
  · subst h98
    rw [if_neg (by decide), if_pos rfl] at h
    injection h with h
    subst h
    simp
  by_cases h102 : d = 102
  · subst h102
    rw [if_neg (by decide), if_neg (by decide), if_pos rfl] at h
    injection h with h
    subst h
    simp
  by_cases h110 : d = 110
  · subst h110
    rw [if_neg (by decide), if_neg (by decide), if_neg (by decide), if_pos rfl] at h
    injection h with h
    subst h
    simp
  by_cases h10 : d = 10
  · subst h10
    rw [if_neg (by decide), if_neg (by decide), if_neg (by decide), if_neg (by decide), if_pos rfl] at h
    injection h with h
    subst h
    simp
  by_cases h114 : d = 114
  · subst h114
    rw [if_neg (by decide), if_neg (by decide), if_neg (by decide), if_neg (by decide), if_neg (by decide), if_pos rfl] at h
    injection h with h
    subst h
    simp
  by_cases h116 : d = 116
  · subst h116
    rw [if_neg (by decide), if_neg (by decide), if_neg (by decide), if_neg (by decide), if_neg (by decide), if_neg (by decide), if_pos rfl] at h
    injection h with h
    subst h
    simp
  by_cases h118 : d = 118
  · subst h118
    rw [if_neg (by decide), if_neg (by decide), if_neg (by decide), if_neg (by decide), if_neg (by decide), if_neg (by decide), if_neg (by decide), if_pos rfl] at h
    injection h with h
    subst h
    simp
  rw [if_neg h97, if_neg h98, if_neg h102, if_neg h110, if_neg h10, if_neg h114, if_neg h116, if_neg h118] at h
  by_cases hx : d = 92 ∨ d = 34 ∨ d = 39
  · rw [if_pos hx] at h
    injection h with h
    subst h
    rcases hx with rfl | rfl | rfl <;> simp
  · rw [if_neg hx] at h
    cases h

set_option maxRecDepth 100000 in
set_option maxHeartbeats 4000000 in
theorem err_calls {w : World} {b : Bl} {r : Bs} {L : Int} {s1 s2 : ByteArray} (H : Hid (Rd w b r L)) :
    Calls Tryz.prog 39 #[ptr b.Z, .string s1, .string s2] w fun e w' => (∃ p, e = .returned (ptr p)) ∧ Ch (fun _ => False) w w' := by
  obtain ⟨v0, e0⟩ := H.out.z0
  obtain ⟨v2, e2⟩ := H.out.z2
  have e1 := H.out.ln
  go_enter Tryz.func39, Tryz.ntmps39
  go_wp2_with fail
  go_ret
  exact ⟨⟨_, rfl⟩, (Ch.refl _ _).alloc _⟩

def Erred (w : World) (b : Bl) (g : Nat) (e : Ending) (w' : World) : Prop :=
  ∃ p r' L' l', e = .returned (.iface 89 (ptr p)) ∧ Sb w' b r' L' g l' ∧ Ch (Ub b g) w w'
def StrPost (x : Rz Bs) (w : World) (b : Bl) (r : Bs) (L : Int) (g : Nat) (l : Bs) (e : Ending) (w' : World) : Prop :=
  match x with
  | .ok s r' => e = .returned .nilIface ∧ Sb w' b r' (L + nl r - nl r') g (l ++ s) ∧ Ch (Ub b g) w w'
  | .no _ => Erred w b g e w'
def StrRel (X : Rz Bs) (q : UInt8) (w : World) (b : Bl) (r : Bs) (L : Int) (g : Nat) (l : Bs) (k : Nat) (v : Value) (wr : World) : Prop :=
  ∃ r1 L1 a, v = .int .i64 (hd r1) ∧ Sb wr b (tl1 r1) (ln1 r1 L1) g (l ++ a) ∧ X = (strB q r1).map (a ++ ·) ∧ (r1 = [] ∨ L1 + nl r1 = L + nl r) ∧ NoCr r1 ∧ Ch (Ub b g) w wr ∧ k = r1.length ∧ a.length + r1.length ≤ r.length + 1
theorem map_no {α β : Type} {f : α → β} {x : Rz α} {k : Nat} (h : ∀ j, x.map f = .no j → j = k) : ∀ j, x = .no j → j = k := by
  rintro j rfl
  exact h j rfl
theorem dig3_le (d : UInt8) (u : Bs) (hd : isDec d = true) : (dig3 3 0 (d :: u)).2.length ≤ u.length := dig3_lt 0 d u hd
theorem dig3_suffix : ∀ (k v : Nat) (r : Bs), ∃ a, r = a ++ (dig3 k v r).2 ∧ (∀ c ∈ a, isDec c = true)
  | 0, v, r => ⟨[], rfl, by simp⟩
  | k + 1, v, [] => ⟨[], rfl, by simp⟩
  | k + 1, v, c :: t => by
    unfold dig3
    by_cases hc : isDec c = true
    · rw [if_pos hc]
      obtain ⟨a, ha, hb⟩ := dig3_suffix k (10 * v + (c.toNat - 48)) t
      refine ⟨c :: a, ?_, ?_⟩
      · rw [List.cons_append, ← ha]
      · intro x hx
        rcases List.mem_cons.1 hx with rfl | h
        · exact hc
        · exact hb x h
    · rw [if_neg hc]
      exact ⟨[], rfl, by simp⟩
theorem nl_app (a r : Bs) : nl (a ++ r) = nl a + nl r := by simp [nl]
theorem nl_dec {a : Bs} (h : ∀ c ∈ a, isDec c = true) : nl a = 0 := by
  induction a with
  | nil => rfl
  | cons c t ih =>
    rw [nl_cons, ih fun x hx => h x (by simp [hx]), if_neg]
    · rfl
    · rintro rfl
      exact absurd (h 10 (by simp)) (by decide)

theorem esc_any {w : World} {b : Bl} {d v : UInt8} {u : Bs} {L c : Int} {g : Nat} {l : Bs} (HS0 : Hid (Sb w b (d :: u) L g l)) (he : esc d = some v) (h13 : NoCr (d :: u)) (hl : l.length < 100000) :
    Calls Tryz.prog 62 #[ptr b.Z, .int .i64 c, ptr g] w (EscPost w b (ln1 (d :: u) L) g (l ++ [v]) u) := by
  rcases esc_cases he with ⟨rfl, rfl⟩ | ⟨rfl, rfl⟩ | ⟨rfl, rfl⟩ | ⟨rfl, rfl⟩ | ⟨rfl, rfl⟩ | ⟨rfl, rfl⟩ | ⟨rfl, rfl⟩ | ⟨rfl, rfl⟩ | ⟨rfl, rfl⟩ | ⟨rfl, rfl⟩ | ⟨rfl, rfl⟩
  · exact esc_97 HS0 h13 hl
  · exact esc_98 HS0 h13 hl
  · exact esc_102 HS0 h13 hl
  · exact esc_110 HS0 h13 hl
  · exact esc_10 HS0 h13 hl
  · exact esc_114 HS0 h13 hl
  · exact esc_116 HS0 h13 hl
  · exact esc_118 HS0 h13 hl
  · exact esc_92 HS0 h13 hl
  · exact esc_34 HS0 h13 hl
  · exact esc_39 HS0 h13 hl

set_option maxRecDepth 100000 in
set_option maxHeartbeats 4000000 in
theorem scanString_calls {w : World} {b : Bl} {q : UInt8} {r : Bs} {L : Int} {g : Nat} {l : Bs} (HS0 : Hid (Sb w b r L g l)) (hq : q = 34 ∨ q = 39) {X : Rz Bs} (hX : strB q r = X) (hno : ∀ k, X = .no k → k = 1) (h13 : NoCr r) (hl : l.length + r.length + 5 < 100000) :
    Calls Tryz.prog 37 #[ptr b.Z, .int .i64 (q.toNat : Int), ptr g] w (StrPost X w b r L g l) := by
  have HX0 := Lib.hid hX
  clear hX
  have H13 := Lib.hid h13
  have HNO := Lib.hid hno
  have q10 : q ≠ 10 := by rcases hq with rfl | rfl <;> decide
  have q92 : q ≠ 92 := by rcases hq with rfl | rfl <;> decide
  have qlo : 34 ≤ q.toNat := by rcases hq with rfl | rfl <;> decide
  clear h13 hno hq
  go_enter Tryz.func37, Tryz.ntmps37
  go_wp2_with fail
  refine (sb_next HS0 H13.out).mono ?_
  rintro e w1 ⟨rfl, hs, hc⟩
  have HS1 := Lib.hid hs
  have HC1 := Lib.hid hc
  clear hs hc
  simp only []
  go_wp2_with fail
  go_loopg [7] r.length (fun k v wr => StrRel X q w b r L g l k v wr)
  case atStart => exact ⟨r, L, [], rfl, by rw [List.append_nil]; exact HS1.out, by rw [HX0.out]; exact (Rz.map_id' _).symm, .inr rfl, H13.out, HC1.out, rfl, by simp⟩
  case round =>
    obtain ⟨r1, L1, a, rfl, hs, hb, hL, hcr, hc, hk, hal⟩ := hrel
    have HS2 := Lib.hid hs
    have HB := Lib.hid hb
    have HL := Lib.hid hL
    have HCR := Lib.hid hcr
    have HC2 := Lib.hid hc
    have HK := Lib.hid hk
    have hno1 : ∀ j, strB q r1 = .no j → j = 1 := map_no (f := (a ++ ·)) (by intro j hj; rw [← hb] at hj; exact HNO.out j hj)
    have HN1 := Lib.hid hno1
    have hla : (l ++ a).length < 99999 := by first | omega | (simp; done) | (simp; omega)
    clear hs hb hL hcr hc hk HS1 HC1 hno1
    cases r1 with
    | nil =>
      have g1 : ((-1 : Int) != (q.toNat : Int)) = true := by first | omega | (simp; done) | (simp; omega)
      simp only [hd_c, hd_e]
      go_wp2_with fail
      refine (Buffer_String g g (l ++ a) _ HS2.out.bf).mono ?_
      rintro e w5 ⟨rfl, n5, rfl⟩
      have HS5 := Lib.hid (HS2.out.moved ((Ch.refl _ _).drewN n5))
      have HC5 := Lib.hid (HC2.out.drewN n5)
      simp only []
      go_wp2_with fail
      refine (err_calls (Lib.hid HS5.out.rd)).mono ?_
      rintro e w6 ⟨⟨p, rfl⟩, hc⟩
      have HS6 := Lib.hid (HS5.out.moved hc)
      have HC6 := Lib.hid (HC5.out.trans (hc.mono fun _ _ h => h.elim))
      clear hc HS5 HC5
      simp only []
      go_wp2_with fail
      go_ret
      have hx := HB.out
      rw [strB_nil] at hx
      rw [hx]
      exact ⟨p, _, _, _, rfl, HS6.out, HC6.out⟩
    | cons c t =>
      by_cases c10 : c = 10
      · subst c10
        have g1 : ((10 : Int) != (q.toNat : Int)) = true := by first | omega | (simp; done) | (simp; omega)
        have e10 : ((UInt8.toNat 10 : Nat) : Int) = 10 := rfl
        simp only [hd_c, hd_e, e10]
        go_wp2_with fail
        refine (Buffer_String g g (l ++ a) _ HS2.out.bf).mono ?_
        rintro e w5 ⟨rfl, n5, rfl⟩
        have HS5 := Lib.hid (HS2.out.moved ((Ch.refl _ _).drewN n5))
        have HC5 := Lib.hid (HC2.out.drewN n5)
        simp only []
        go_wp2_with fail
        refine (err_calls (Lib.hid HS5.out.rd)).mono ?_
        rintro e w6 ⟨⟨p, rfl⟩, hc⟩
        have HS6 := Lib.hid (HS5.out.moved hc)
        have HC6 := Lib.hid (HC5.out.trans (hc.mono fun _ _ h => h.elim))
        clear hc HS5 HC5
        simp only []
        go_wp2_with fail
        go_ret
        have hx := HB.out
        rw [strB_10] at hx
        rw [hx]
        exact ⟨p, _, _, _, rfl, HS6.out, HC6.out⟩
      by_cases cq : c = q
      · subst cq
        have g1 : ((c.toNat : Int) != (c.toNat : Int)) = false := by simp
        simp only [hd_c, hd_e]
        go_wp2_with fail
        go_ret
        have hx := HB.out
        rw [strB_q c t q10] at hx
        rw [hx]
        refine ⟨rfl, ?_, HC2.out⟩
        have h2 := HS2.out
        rw [show tl1 (c :: t) = t from rfl, ln1_of (c := c) (t := t) rfl c10] at h2
        have hL2 : L1 = L + nl r - nl t := by
          rcases HL.out with h | h
          · cases h
          · rw [nl_cons, if_neg c10] at h; omega
        rw [← hL2]
        show Sb wr b t L1 g (l ++ (a ++ []))
        rw [List.append_nil]
        exact h2
      have ncq : (c.toNat : Int) ≠ (q.toNat : Int) := fun e => cq (UInt8.toNat_inj.1 (by omega))
      have g1 : ((c.toNat : Int) != (q.toNat : Int)) = true := by simpa using ncq
      have nc10 : c.toNat ≠ 10 := fun e => c10 (UInt8.toNat_inj.1 e)
      have nc13 : c.toNat ≠ 13 := fun e => HCR.out c (by simp) (UInt8.toNat_inj.1 e)
      have g2 : ((c.toNat : Int) == 10) = false := by first | omega | (simp; done) | (simp; omega)
      have g3 : ((c.toNat : Int) == 13) = false := by first | omega | (simp; done) | (simp; omega)
      have g4 : decide ((c.toNat : Int) < 0) = false := by first | omega | (simp; done) | (simp; omega)
      have HS3 := HS2
      have HCT := Lib.hid HCR.out.tail
      clear ncq nc10 nc13 HS2
      have hs3 := HS3.out
      rw [show tl1 (c :: t) = t from rfl, ln1_of (c := c) (t := t) rfl c10] at hs3
      have HS4 := Lib.hid hs3
      have hLt : Hid (L1 + nl t = L + nl r) := Lib.hid (by
        rcases HL.out with h | h
        · cases h
        · rw [nl_cons, if_neg c10] at h; omega)
      clear HS3 hs3 HL
      by_cases c92 : c = 92
      · subst c92
        have e92 : ((UInt8.toNat 92 : Nat) : Int) = 92 := rfl
        have hkk := HK.out
        simp only [List.length_cons] at hkk hal
        cases t with
        | nil =>
          simp only [hd_c, hd_e, e92] at g1 g2 g3 g4 ⊢
          go_wp2_with fail
          refine (esc_end HS4 (by omega)).mono ?_
          rintro e w5 ⟨rfl, hs, hc⟩
          have HS5 := Lib.hid hs
          have HC5 := Lib.hid (HC2.out.trans hc)
          clear hs hc HS4 HC2
          simp only []
          go_wp2_with fail
          refine (sb_next HS5 (fun _ h => by cases h)).mono ?_
          rintro e w6 ⟨rfl, hs, hc⟩
          have HS6 := Lib.hid hs
          have HC6 := Lib.hid (HC5.out.trans hc)
          clear hs hc HS5 HC5
          simp only []
          go_wp2_with fail
          go_roundg (gk - 1)
          case rel =>
            refine ⟨[], -1, a ++ [255], rfl, by rw [← List.append_assoc]; exact HS6.out, ?_, .inl rfl, (fun _ h => by cases h), HC6.out, by simp only [List.length_nil] at hkk ⊢; omega, by simp only [List.length_append, List.length_cons, List.length_nil] at hal ⊢; omega⟩
            rw [HB.out, strB_bs q q92, strB_nil]
            rfl
          case measure => omega
        | cons d u =>
          by_cases hdd : isDec d = true
          · have hx := strB_dig q d u q92 hdd
            by_cases hv : (dig3 3 0 (d :: u)).1 ≤ 255
            · rw [if_pos hv] at hx
              have hl3 := dig3_le d u hdd
              obtain ⟨ds, hds, hdd2⟩ := dig3_suffix 3 0 (d :: u)
              generalize h3 : dig3 3 0 (d :: u) = p at hx hv hl3 hds
              obtain ⟨v, r'⟩ := p
              have HX := Lib.hid hx
              have H3 := Lib.hid h3
              have HDD := Lib.hid hdd
              have hcr' : NoCr r' := by have := HCT.out; rw [hds] at this; exact this.app
              have HCR' := Lib.hid hcr'
              have hnl : nl (d :: u) = nl r' := by rw [hds, nl_app, nl_dec hdd2]; show 0 + nl r' = nl r'; omega
              have HNL := Lib.hid hnl
              clear hx h3 hdd hds hdd2 hcr' hnl
              simp only [hd_c, hd_e, e92] at g1 g2 g3 g4 ⊢
              go_wp2_with fail
              refine (esc_dig HS4 HDD.out H3.out hv HCT.out (by omega)).mono ?_
              rintro e w5 ⟨rfl, hs, hc⟩
              have HS5 := Lib.hid hs
              have HC5 := Lib.hid (HC2.out.trans hc)
              clear hs hc HS4 HC2
              simp only []
              go_wp2_with fail
              refine (sb_next HS5 HCR'.out).mono ?_
              rintro e w6 ⟨rfl, hs, hc⟩
              have HS6 := Lib.hid hs
              have HC6 := Lib.hid (HC5.out.trans hc)
              clear hs hc HS5 HC5
              simp only []
              go_wp2_with fail
              go_roundg r'.length
              case rel =>
                refine ⟨r', L1, a ++ [UInt8.ofNat v], rfl, by rw [← List.append_assoc]; exact HS6.out, ?_, .inr (by rw [← HNL.out]; exact hLt.out), HCR'.out, HC6.out, rfl, by simp only [List.length_append, List.length_cons, List.length_nil] at hl3 hal ⊢; omega⟩
                rw [HB.out, HX.out, Rz.map_map]
                congr 1
                funext x
                simp
              case measure => simp only [List.length_cons] at hl3 hkk; omega
            · rw [if_neg hv] at hx
              have := HN1.out 2 hx
              omega
          · have hdd' : isDec d = false := by simpa using hdd
            cases he : esc d with
            | none =>
              have := HN1.out 2 (strB_none q d u q92 hdd' he)
              omega
            | some v =>
              have HX := Lib.hid (strB_esc q d v u q92 hdd' he)
              have HE := Lib.hid he
              clear hdd hdd' he
              simp only [hd_c, hd_e, e92] at g1 g2 g3 g4 ⊢
              go_wp2_with fail
              refine (esc_any HS4 HE.out HCT.out (by omega)).mono ?_
              rintro e w5 ⟨rfl, hs, hc⟩
              have HS5 := Lib.hid hs
              have HC5 := Lib.hid (HC2.out.trans hc)
              clear hs hc HS4 HC2
              simp only []
              go_wp2_with fail
              refine (sb_next HS5 HCT.out.tail).mono ?_
              rintro e w6 ⟨rfl, hs, hc⟩
              have HS6 := Lib.hid hs
              have HC6 := Lib.hid (HC5.out.trans hc)
              clear hs hc HS5 HC5
              simp only []
              go_wp2_with fail
              go_roundg u.length
              case rel =>
                refine ⟨u, ln1 (d :: u) L1, a ++ [v], rfl, by rw [← List.append_assoc]; exact HS6.out, ?_, .inr (by rw [← hLt.out]; exact ln1_nl (d :: u) L1 (by simp)), HCT.out.tail, HC6.out, rfl, by simp only [List.length_append, List.length_cons, List.length_nil] at hal ⊢; omega⟩
                rw [HB.out, HX.out, Rz.map_map]
                congr 1
                funext x
                simp
              case measure => simp only [List.length_cons] at hkk; omega
      · have g5 : ((c.toNat : Int) == 92) = false := by
          simp
          intro e
          exact c92 (UInt8.toNat_inj.1 (by show c.toNat = 92; omega))
        have HX := Lib.hid (strB_chr q c t c10 cq c92)
        have hkk := HK.out
        simp only [List.length_cons] at hkk hal
        clear c92 cq c10
        simp only [hd_c, hd_e]
        go_wp2_with fail
        refine (sb_write HS4 (by omega)).mono ?_
        rintro e w5 ⟨rfl, hs, hc⟩
        have HS5 := Lib.hid hs
        have HC5 := Lib.hid (HC2.out.trans hc)
        clear hs hc HS4 HC2
        simp only []
        go_wp2_with fail
        refine (sb_next HS5 HCT.out).mono ?_
        rintro e w6 ⟨rfl, hs, hc⟩
        have HS6 := Lib.hid hs
        have HC6 := Lib.hid (HC5.out.trans hc)
        clear hs hc HS5 HC5
        simp only []
        go_wp2_with fail
        go_roundg t.length
        case rel =>
          refine ⟨t, L1, a ++ [c], rfl, by rw [← List.append_assoc]; exact HS6.out, ?_, .inr hLt.out, HCT.out, HC6.out, rfl, by simp only [List.length_append, List.length_cons, List.length_nil] at hal ⊢; omega⟩
          rw [HB.out, HX.out, Rz.map_map]
          congr 1
          funext x
          simp
        case measure => omega

end Go.Proofs.YtbgjjbffpckimaaGreatDoor

namespace Go.Proofs.YtbgjjbffpckimaaGreatDoor
set_option linter.all false
open Go.RowKit

theorem wp_scope_ghost {P : Program} {Q : Exit → Act → World → Prop} {a : Act} {w : World} {c rest : Code} (l : Nat) (I : Nat → Act → World → Prop) (hf : findLabel c l = some rest)
    (first : c.wp P (Exit.jump l (fun a' w' => ∃ n, I n a' w') Q) a w)
    (pass : ∀ n a w, I n a w → rest.wp P (Exit.jump l (fun a' w' => ∃ n', n' < n ∧ I n' a' w') Q) a w) : (Code.scope c).wp P Q a w := by
  refine wp_scope_jumps l (fun a w => ∃ n, I n a w) (fun a w => leastOf (fun n => I n a w)) hf first ?_
  intro a w hI
  refine wp_mono (pass _ a w (leastOf_spec hI).1) ?_
  intro e a' w' hq
  cases e with
  | goto l' =>
    obtain ⟨rfl, n', hlt, hI'⟩ := hq
    exact ⟨rfl, ⟨n', hI'⟩, Nat.lt_of_le_of_lt ((leastOf_spec ⟨n', hI'⟩).2 n' hI') hlt⟩
  | normal => exact hq
  | exit id => exact hq
  | ret => exact hq
  | panic ch => exact hq
  | outgrown => exact hq

theorem cut10_c (c : UInt8) (t : Bs) : cut10 (c :: t) = if c = 10 then t else c :: t := rfl
theorem brk_cons (s c : UInt8) (t : Bs) : brk s (c :: t) = if c = s ∧ (t.dropWhile (· == 61)).head? = some s then some (eqs t) else none := rfl
abbrev isEq (c : UInt8) : Bool := c == 61
theorem eqs_cons (c : UInt8) (t : Bs) : eqs (c :: t) = if c = 61 then eqs t + 1 else 0 := by
  unfold eqs
  by_cases h : c = 61
  · subst h; simp
  · simp [h]
theorem longB_eq (k : Nat) (t : Bs) : longB k (61 :: t) = (longB k t).map ([61] ++ ·) := by
  rw [longB, if_neg (by simp [brk]), if_neg (by rintro ⟨_, h, _⟩; exact absurd h (by decide))]
  rfl
theorem longB_eqs (k : Nat) (t : Bs) : longB k t = (longB k (t.dropWhile (· == 61))).map (List.replicate (eqs t) 61 ++ ·) := by
  induction t with
  | nil => exact (Rz.map_id' _).symm
  | cons c t ih =>
    by_cases h : c = 61
    · subst h
      rw [longB_eq, ih, Rz.map_map, eqs_cons, if_pos rfl]
      simp only [List.dropWhile_cons, beq_self_eq_true, if_true]
      congr 1
    · rw [eqs_cons, if_neg h]
      rw [List.dropWhile_cons, if_neg (by simpa using h)]
      exact (Rz.map_id' _).symm
theorem longB_nil (k : Nat) : longB k [] = .no 1 := rfl
theorem drop_eqs (t : Bs) : t.drop (eqs t) = t.dropWhile (· == 61) := by
  induction t with
  | nil => rfl
  | cons c t ih =>
    by_cases h : c = 61
    · subst h
      rw [eqs_cons, if_pos rfl]
      simpa using ih
    · rw [eqs_cons, if_neg h, List.dropWhile_cons, if_neg (by simpa using h)]
      rfl
theorem longB_end (k : Nat) (t u : Bs) (h1 : t.dropWhile (· == 61) = 93 :: u) (h2 : eqs t = k) : longB k (93 :: t) = .ok [] u := by
  have hb : brk 93 (93 :: t) = some k := by
    rw [brk_cons, if_pos ⟨rfl, by rw [h1]; rfl⟩, h2]
  rw [longB, if_pos hb, ← h2, ← List.drop_drop, drop_eqs, h1]
  rfl
theorem longB_go (k : Nat) (t : Bs) (h : ¬ (eqs t = k ∧ (t.dropWhile (· == 61)).head? = some 93)) : longB k (93 :: t) = (longB k (t.dropWhile (· == 61))).map ((93 :: List.replicate (eqs t) 61) ++ ·) := by
  have hb : ¬ brk 93 (93 :: t) = some k := by
    rw [brk_cons]
    intro hx
    split at hx
    · rename_i hc
      injection hx with hx
      exact h ⟨hx, hc.2⟩
    · cases hx
  rw [longB, if_neg hb, if_neg (by rintro ⟨_, h, _⟩; exact absurd h (by decide)), longB_eqs k t, Rz.map_map]
  rfl
theorem longB_chr (k : Nat) (c : UInt8) (t : Bs) (h : c ≠ 93) (hno : longB k (c :: t) ≠ .no 2) : longB k (c :: t) = (longB k t).map ([c] ++ ·) := by
  have hb : ¬ brk 93 (c :: t) = some k := by
    rw [brk_cons, if_neg (fun hx => h hx.1)]
    simp
  have h2 : ¬ (k = 0 ∧ c = 91 ∧ t.head? = some 91) := by
    intro hx
    apply hno
    rw [longB, if_neg hb, if_pos hx]
  rw [longB, if_neg hb, if_neg h2]
  rfl
theorem nl_drop_eq (t : Bs) : nl (t.dropWhile (· == 61)) = nl t := by
  induction t with
  | nil => rfl
  | cons c t ih =>
    by_cases h : c = 61
    · subst h
      rw [nl_cons, if_neg (by decide)]
      simp only [List.dropWhile_cons, beq_self_eq_true, if_true]
      omega
    · rw [List.dropWhile_cons, if_neg (by simpa using h)]
theorem repeat_eq (n : Nat) : Lib.repeatL [61] n = List.replicate n 61 := by
  induction n with
  | zero => rfl
  | succ n ih => rw [Lib.repeatL, ih]; rfl

def CsPost (w : World) (b : Bl) (r : Bs) (L : Int) (g : Nat) (l : Bs) (e : Ending) (w' : World) : Prop :=
  e = .returned (.tuple #[.int .i64 ((eqs r : Nat) : Int), .int .i64 (hd (r.dropWhile (· == 61)))]) ∧ Sb w' b (tl1 (r.dropWhile (· == 61))) (ln1 (r.dropWhile (· == 61)) L) g l ∧ Ch (Ub b g) w w'
def CsRel (w : World) (b : Bl) (r : Bs) (L : Int) (g : Nat) (l : Bs) (k : Nat) (v c : Value) (wr : World) : Prop :=
  ∃ (n : Nat) (r' : Bs), v = .int .i64 (hd r') ∧ c = .int .i64 (n : Int) ∧ Sb wr b (tl1 r') (ln1 r' L) g l ∧ n + eqs r' = eqs r ∧ r'.dropWhile (· == 61) = r.dropWhile (· == 61) ∧ NoCr r' ∧ Ch (Ub b g) w wr ∧ k = r'.length ∧ n + r'.length ≤ r.length
theorem CsRel.done {w wr : World} {b : Bl} {r r' : Bs} {L : Int} {g n : Nat} {l : Bs} (h : hdIs isEq r' = false) (hs : Sb wr b (tl1 r') (ln1 r' L) g l) (hn : n + eqs r' = eqs r) (hd' : r'.dropWhile (· == 61) = r.dropWhile (· == 61)) (hc : Ch (Ub b g) w wr) : CsPost w b r L g l (.returned (.tuple #[.int .i64 (n : Int), .int .i64 (hd r')])) wr := by
  have e : r'.dropWhile (· == 61) = r' := by
    cases r' with
    | nil => rfl
    | cons c t =>
      rw [List.dropWhile_cons, if_neg]
      have h : (c == 61) = false := h
      simpa using h
  have e0 : eqs r' = 0 := by
    cases r' with
    | nil => rfl
    | cons c t =>
      have h : (c == 61) = false := h
      rw [eqs_cons, if_neg (by simpa using h)]
  have e2 : r.dropWhile (· == 61) = r' := hd'.symm.trans e
  unfold CsPost
  rw [e2, ← hn, e0, Nat.add_zero]
  exact ⟨rfl, hs, hc⟩
theorem eq61 (r : Bs) : (hd r == 61) = hdIs isEq r := by
  cases r with
  | nil => rfl
  | cons c t =>
    rw [hd_c]
    show _ = (c == 61)
    rw [Bool.eq_iff_iff, beq_iff_eq, beq_iff_eq]
    constructor
    · intro e; exact UInt8.toNat_inj.1 (by show c.toNat = 61; omega)
    · rintro rfl; rfl

set_option maxRecDepth 100000 in
set_option maxHeartbeats 4000000 in
theorem countSep_calls {w : World} {b : Bl} {r : Bs} {L : Int} {g : Nat} {l : Bs} (HS0 : Hid (Sb w b (tl1 r) (ln1 r L) g l)) (h13 : NoCr r) (hlen : r.length < 100000) :
    Calls Tryz.prog 63 #[ptr b.Z, .int .i64 (hd r)] w (CsPost w b r L g l) := by
  have H13 := Lib.hid h13
  clear h13
  go_enter Tryz.func63, Tryz.ntmps63
  go_wp2_with fail
  go_loopg [1, 6] r.length (fun k v c wr => CsRel w b r L g l k v c wr)
  case atStart => exact ⟨0, r, rfl, rfl, HS0.out, by omega, rfl, H13.out, Ch.refl _ _, rfl, by omega⟩
  case round =>
    obtain ⟨n, r', rfl, rfl, hs, hn, hdr, hcr, hc, hk, hle⟩ := hrel
    have HS1 := Lib.hid hs
    have HN := Lib.hid hn
    have HD := Lib.hid hdr
    have HCR := Lib.hid hcr
    have HC1 := Lib.hid hc
    have HK := Lib.hid hk
    have hm := eq61 r'
    clear hs hn hdr hcr hc hk HS0
    cases hv : hdIs isEq r' with
    | false =>
      rw [hv] at hm
      have HV := Lib.hid hv
      clear hv
      go_wp2_with fail
      go_ret2
      exact CsRel.done HV.out HS1.out HN.out HD.out HC1.out
    | true =>
      rw [hv] at hm
      cases r' with
      | nil => simp [hdIs] at hv
      | cons c t =>
        have hc61 : c = 61 := by
          have : (c == 61) = true := hv
          simpa using this
        subst hc61
        have HKK := HK.out
        simp only [List.length_cons] at HKK hle
        have hs2 := HS1.out
        rw [show tl1 ((61 : UInt8) :: t) = t from rfl, ln1_of (c := 61) (t := t) rfl (by decide)] at hs2
        have HS2 := Lib.hid hs2
        clear hv hs2 HS1
        have hn1 : (n : Int) + 1 ≤ 100001 := by omega
        go_wp2_with fail
        refine (sb_next HS2 HCR.out.tail).mono ?_
        rintro e w3 ⟨rfl, hs, hc⟩
        have HS3 := Lib.hid hs
        have HC3 := Lib.hid (HC1.out.trans hc)
        clear hs hc HS2 HC1
        simp only []
        go_wp2_with fail
        go_roundg (gk - 1)
        case rel =>
          refine ⟨n + 1, t, rfl, by go_num, HS3.out, ?_, ?_, HCR.out.tail, HC3.out, by omega, by omega⟩
          · have := HN.out
            rw [eqs_cons, if_pos rfl] at this
            omega
          · rw [← HD.out]
            simp
        case measure => omega

theorem ch_below {w w' : World} (h : Below w.heap.size w w') : Ch (fun _ => False) w w' := ⟨h.os, h.tape, h.output, h.size, fun k hk _ => h.block k hk⟩

set_option maxRecDepth 100000 in
set_option maxHeartbeats 4000000 in
theorem sb_repeat {w : World} {b : Bl} {r : Bs} {L : Int} {g n : Nat} {l : Bs} (H : Hid (Sb w b r L g l)) (hn : n < 100000) :
    Calls Tryz.prog 66 #[.string ⟨#[61]⟩, .int .i64 (n : Int)] w fun e w' => e = .returned (.string ⟨(List.replicate n 61).toArray⟩) ∧ Sb w' b r L g l ∧ Ch (Ub b g) w w' := by
  refine (strings_Repeat ⟨#[61]⟩ n w (by omega) (by simp [ByteArray.size]; omega)).mono ?_
  rintro e w' ⟨rfl, hb⟩
  rw [show (⟨#[61]⟩ : ByteArray).data.toList = [61] from rfl, repeat_eq]
  exact ⟨rfl, H.out.moved (ch_below hb), (ch_below hb).mono fun _ _ h => h.elim⟩
theorem sb_wstr {w : World} {b : Bl} {r : Bs} {L : Int} {g : Nat} {l s : Bs} (H : Hid (Sb w b r L g l)) (hl : l.length + s.length < 100000) :
    Calls Tryz.prog 65 #[ptr g, .string ⟨s.toArray⟩] w fun e w' => e = .returned (.tuple #[.int .i64 ((s.length : Nat) : Int), .nilIface]) ∧ Sb w' b r L g (l ++ s) ∧ Ch (Ub b g) w w' := by
  have hsz : (⟨s.toArray⟩ : ByteArray).size = s.length := by simp [ByteArray.size]
  refine (Buffer_WriteString g g (Lib.byteCells l) ⟨s.toArray⟩ w H.out.bf (Nat.le_of_lt H.out.bf.lt) (Lib.byteCells_one _) (by rw [hsz, Lib.byteCells_length]; omega)).mono ?_
  rintro e w' ⟨rfl, h1, h2⟩
  rw [hsz]
  refine ⟨rfl, H.out.write h2 ?_⟩
  have e : Lib.byteCells (l ++ s) = Lib.byteCells l ++ Lib.byteCells (⟨s.toArray⟩ : ByteArray).data.toList := by simp [Lib.byteCells]
  rw [e]
  exact h1

/-- What comes of a long bracket. -/
def MlPost (X : Rz Bs) (C : Int) (w : World) (b : Bl) (g : Nat) (l : Bs) (e : Ending) (w' : World) : Prop :=
  match X with
  | .ok s r' => e = .returned .nilIface ∧ Sb w' b r' (C - nl r') g (l ++ s) ∧ Ch (Ub b g) w w'
  | .no _ => Erred w b g e w'
def MlEnd (X : Rz Bs) (C : Int) (w : World) (b : Bl) (g : Nat) (l : Bs) (w' : World) : Prop :=
  ∃ s r', X = .ok s r' ∧ Sb w' b r' (C - nl r') g (l ++ s) ∧ Ch (Ub b g) w w'
def MlRel (X : Rz Bs) (C : Int) (n : Nat) (w : World) (b : Bl) (g : Nat) (l : Bs) (N : Nat) (k : Nat) (v : Value) (wr : World) : Prop :=
  ∃ r1 L1 a, v = .int .i64 (hd r1) ∧ Sb wr b (tl1 r1) (ln1 r1 L1) g (l ++ a) ∧ X = (longB n r1).map (a ++ ·) ∧ (r1 = [] ∨ L1 + nl r1 = C) ∧ NoCr r1 ∧ Ch (Ub b g) w wr ∧ k = r1.length ∧ a.length + r1.length ≤ N

set_option maxRecDepth 100000 in
def MlJ (X : Rz Bs) (C : Int) (w : World) (b : Bl) (g : Nat) (l : Bs) (n : Nat) (a : Act) (w' : World) : Prop :=
  ∃ y0 y1 y2 y3 y4 y5 y6 y7 y8 y9 y10 y11 y12 y13 y14 y15 y16 y17 y18 y19 y20 y21 y22 y23 y24 y25 y26 y27 y28 y29 y30 y31 y32 y33 y34 y35 y36 y37 y38 y39 y40 y41 y42 y43 y44 y45 y46 y47 y48 y49 y50 y51 y52 y53 y54 y55 y56 y57 y58 y59 y60 y61 y62 y63 y64 y65 y66 : Value, a = { tmps := #[y0, y1, y2, y3, y4, y5, y6, y7, y8, y9, y10, y11, y12, y13, y14, y15, y16, y17, y18, y19, y20, y21, y22, y23, y24, y25, y26, y27, y28, y29, y30, y31, y32, y33, y34, y35, y36, y37, y38, y39, y40, y41, y42, y43, y44, y45, y46, y47, y48, y49, y50, y51, y52, y53, y54, y55, y56, y57, y58, y59, y60, y61, y62, y63, y64, y65, y66], defers := [] } ∧ MlEnd X C w b g l w'

set_option maxRecDepth 100000 in
set_option maxHeartbeats 4000000 in
theorem ml_calls {w : World} {b : Bl} {r0 r1 : Bs} {L C : Int} {g n : Nat} {l : Bs} (HS0 : Hid (Sb w b (tl1 r0) (ln1 r0 L) g l)) (hr : r0.dropWhile (· == 61) = 91 :: r1) (hn : eqs r0 = n) {X : Rz Bs} (hX : longB n (cut10 r1) = X) (hno : ∀ k, X = .no k → k = 1) (hC : L + nl r0 = C) (h13 : NoCr r0) (hl : l.length + r0.length + 5 < 100000) :
    Calls Tryz.prog 38 #[ptr b.Z, .int .i64 (hd r0), ptr g] w (MlPost X C w b g l) := by
  have H13 := Lib.hid h13
  have HNO := Lib.hid hno
  have HX := Lib.hid hX
  have HR := Lib.hid hr
  have hle : r1.length + 1 ≤ r0.length := by
    have := (List.dropWhile_sublist (l := r0) (fun c : UInt8 => c == 61)).length_le
    rw [hr] at this
    simpa using this
  have hcr1 : NoCr ((91 : UInt8) :: r1) := by rw [← hr]; exact h13.drop
  have HC1R := Lib.hid hcr1.tail
  have hnl : L + nl r1 = C := by
    have := nl_drop_eq r0
    rw [hr, nl_cons, if_neg (by decide)] at this
    omega
  have HNL := Lib.hid hnl
  have hnn : n ≤ r0.length := by rw [← hn]; unfold eqs; exact (List.takeWhile_sublist _).length_le
  clear h13 hno hX hr hcr1 hnl hC
  go_enter Tryz.func38, Tryz.ntmps38
  go_wp2_with fail
  refine wp_scope_ghost 0 (fun n a w' => MlJ X C w b g l n a w') (by rfl) ?_ ?_
  · go_wp2_with fail
    refine (countSep_calls HS0 H13.out (by omega)).mono ?_
    rintro e w1 ⟨rfl, hs, hc⟩
    rw [HR.out, show tl1 ((91 : UInt8) :: r1) = r1 from rfl, ln1_of (c := 91) (t := r1) rfl (by decide)] at hs
    have HS1 := Lib.hid hs
    have HC1 := Lib.hid hc
    have e91 : ((UInt8.toNat 91 : Nat) : Int) = 91 := rfl
    clear hs hc HS0
    rw [HR.out, hn]
    simp only [hd_c, e91]
    go_wp2_with fail
    refine (sb_next HS1 HC1R.out).mono ?_
    rintro e w2 ⟨rfl, hs, hc⟩
    have HS2 := Lib.hid hs
    have HC2 := Lib.hid (HC1.out.trans hc)
    clear hs hc HS1 HC1
    simp only []
    by_cases h10 : hdIs (· == 10) r1 = true
    · obtain ⟨t, rfl⟩ : ∃ t, r1 = 10 :: t := by
        cases r1 with
        | nil => simp [hdIs] at h10
        | cons c t =>
          have : c = 10 := by simpa [hdIs] using h10
          exact ⟨t, by rw [this]⟩
      clear h10
      have e10 : ((UInt8.toNat 10 : Nat) : Int) = 10 := rfl
      have hs2 := HS2.out
      rw [show tl1 ((10 : UInt8) :: t) = t from rfl, show ln1 ((10 : UInt8) :: t) L = L + 1 from rfl] at hs2
      have HS3 := Lib.hid hs2
      have hx := HX.out
      rw [show cut10 ((10 : UInt8) :: t) = t from rfl] at hx
      have HX3 := Lib.hid hx
      have hnl3 : L + 1 + nl t = C := by
        have := HNL.out
        rw [nl_cons, if_pos rfl] at this
        omega
      have HNL3 := Lib.hid hnl3
      have HT := Lib.hid HC1R.out.tail
      simp only [List.length_cons] at hle
      clear hs2 HS2 hx HX hnl3 HNL
      simp only [hd_c, e10]
      go_wp2_with fail
      refine (sb_next HS3 HT.out).mono ?_
      rintro e w4 ⟨rfl, hs, hc⟩
      have HS4 := Lib.hid hs
      have HC4 := Lib.hid (HC2.out.trans hc)
      clear hs hc HS3 HC2
      simp only []
      go_wp2_with fail
      go_loopg [1] t.length (fun k v wr => MlRel X C n w b g l t.length k v wr)
      case atStart => exact ⟨t, L + 1, [], rfl, by rw [List.append_nil]; exact HS4.out, by rw [HX3.out]; exact (Rz.map_id' _).symm, .inr HNL3.out, HT.out, HC4.out, rfl, by simp⟩
      case round =>
        clear HS4 HC4
        have hN : l.length + t.length + 5 < 100000 := by omega
        obtain ⟨rc, Lc, a, rfl, hs, hb, hL, hcr, hc, hk, hal⟩ := hrel
        have HSa := Lib.hid hs
        have HB := Lib.hid hb
        have HL := Lib.hid hL
        have HCR := Lib.hid hcr
        have HCa := Lib.hid hc
        have HK := Lib.hid hk
        have hno1 : ∀ j, longB n rc = .no j → j = 1 := map_no (f := (a ++ ·)) (by intro j hj; rw [← hb] at hj; exact HNO.out j hj)
        have HN1 := Lib.hid hno1
        have hla : (l ++ a).length < 99999 := by simp only [List.length_append]; omega
        clear hs hb hL hcr hc hk hno1
        cases rc with
        | nil =>
          simp only [hd_e]
          go_wp2_with fail
          refine (Buffer_String g g (l ++ a) _ HSa.out.bf).mono ?_
          rintro e w5 ⟨rfl, n5, rfl⟩
          have HS5 := Lib.hid (HSa.out.moved ((Ch.refl _ _).drewN n5))
          have HC5 := Lib.hid (HCa.out.drewN n5)
          simp only []
          go_wp2_with fail
          refine (err_calls (Lib.hid HS5.out.rd)).mono ?_
          rintro e w6 ⟨⟨p, rfl⟩, hc⟩
          have HS6 := Lib.hid (HS5.out.moved hc)
          have HC6 := Lib.hid (HC5.out.trans (hc.mono fun _ _ h => h.elim))
          clear hc HS5 HC5
          simp only []
          go_wp2_with fail
          go_ret
          have hx := HB.out
          rw [longB_nil] at hx
          rw [hx]
          exact ⟨p, _, _, _, rfl, HS6.out, HC6.out⟩
        | cons c t =>
          have g0 : decide ((c.toNat : Int) < 0) = false := by first | omega | (simp; done) | (simp; omega)
          by_cases c93 : c = 93
          · subst c93
            have e93 : ((UInt8.toNat 93 : Nat) : Int) = 93 := rfl
            have hsa := HSa.out
            rw [show tl1 ((93 : UInt8) :: t) = t from rfl, ln1_of (c := 93) (t := t) rfl (by decide)] at hsa
            have HS5 := Lib.hid hsa
            have hLt : Hid (Lc + nl t = C) := Lib.hid (by
              rcases HL.out with h | h
              · cases h
              · rw [nl_cons, if_neg (by decide)] at h; omega)
            have HCT := Lib.hid HCR.out.tail
            have hkk := HK.out
            simp only [List.length_cons] at hkk hal
            clear hsa HSa HL
            simp only [hd_c, e93] at g0 ⊢
            go_wp2_with fail
            refine (sb_next HS5 HCT.out).mono ?_
            rintro e w6 ⟨rfl, hs, hc⟩
            have HS6 := Lib.hid hs
            have HC6 := Lib.hid (HCa.out.trans hc)
            clear hs hc HS5 HCa
            simp only []
            go_wp2_with fail
            refine (countSep_calls HS6 HCT.out (by omega)).mono ?_
            rintro e w7 ⟨rfl, hs, hc⟩
            have HS7 := Lib.hid hs
            have HC7 := Lib.hid (HC6.out.trans hc)
            clear hs hc HS6 HC6
            by_cases hend : eqs t = n ∧ (t.dropWhile (· == 61)).head? = some 93
            · obtain ⟨hen, hhd⟩ := hend
              obtain ⟨u, hu⟩ : ∃ u, t.dropWhile (· == 61) = 93 :: u := by
                cases h : t.dropWhile (· == 61) with
                | nil => rw [h] at hhd; cases hhd
                | cons x u =>
                  rw [h] at hhd
                  injection hhd with hx
                  exact ⟨u, by rw [hx]⟩
              have HXE := Lib.hid (longB_end n t u hu hen)
              have HU := Lib.hid hu
              have hnu : nl u = nl t := by
                have := nl_drop_eq t
                rw [hu, nl_cons, if_neg (by decide)] at this
                omega
              have HNU := Lib.hid hnu
              clear hhd hnu
              rw [hu, hen]
              have geq : ((n : Int) == (n : Int)) = true := by simp
              simp only [hd_c, e93]
              clear hu
              go_wp2_with fail
              go_step3
              simp (config := { zetaDelta := true }) only [Exit.jump, Exit.inBlock, Exit.then]
              refine ⟨by trivial, 0, ?_⟩
              unfold MlJ
              refine ⟨_, _, _, _, _, _, _, _, _, _, _, _, _, _, _, _, _, _, _, _, _, _, _, _, _, _, _, _, _, _, _, _, _, _, _, _, _, _, _, _, _, _, _, _, _, _, _, _, _, _, _, _, _, _, _, _, _, _, _, _, _, _, _, _, _, _, _, rfl, a ++ [], u, ?_, ?_, HC7.out⟩
              · rw [HB.out, HXE.out]
                rfl
              · have h7 := HS7.out
                rw [HU.out, show tl1 ((93 : UInt8) :: u) = u from rfl, ln1_of (c := 93) (t := u) rfl (by decide)] at h7
                rw [List.append_nil, show C - nl u = Lc by have := hLt.out; have := HNU.out; omega]
                exact h7
            · have HXG := Lib.hid (longB_go n t hend)
              have hdl := (List.dropWhile_sublist (l := t) (fun c : UInt8 => c == 61)).length_le
              have hel : eqs t + (t.dropWhile (· == 61)).length = t.length := by
                have := congrArg List.length (List.takeWhile_append_dropWhile (p := fun c : UInt8 => c == 61) (l := t))
                rw [List.length_append] at this
                exact this
              have hnd := nl_drop_eq t
              have hcd : NoCr (t.dropWhile (· == 61)) := HCT.out.drop
              have hend2 : eqs t = n → (hd (t.dropWhile (· == 61)) == 93) = false := by
                intro he
                have : ¬ (t.dropWhile (· == 61)).head? = some 93 := fun h => hend ⟨he, h⟩
                cases h : t.dropWhile (· == 61) with
                | nil => rfl
                | cons x u =>
                  rw [h] at this
                  rw [hd_c]
                  simp
                  intro e
                  exact this (by rw [show x = 93 from UInt8.toNat_inj.1 (by show x.toNat = 93; omega)]; rfl)
              generalize hg : t.dropWhile (· == 61) = rd at HS7 HXG hel hnd hcd hend2 hdl ⊢
              generalize hge : eqs t = m at HXG hel hend2 hend ⊢
              have HND := Lib.hid hnd
              have HCD := Lib.hid hcd
              clear hg hge hnd hcd hend
              have hmm : m < 100000 := by omega
              by_cases hmn : m = n
              · have g93 := hend2 hmn
                subst hmn
                have geq : ((m : Int) == (m : Int)) = true := by simp
                clear hend2
                simp only []
                go_wp2_with fail
                refine (sb_byte (c := 93) HS7 (by omega)).mono ?_
                rintro e w8 ⟨rfl, hs, hc⟩
                have HS8 := Lib.hid hs
                have HC8 := Lib.hid (HC7.out.trans hc)
                clear hs hc HS7 HC7
                simp only []
                go_wp2_with fail
                refine (sb_repeat HS8 hmm).mono ?_
                rintro e w9 ⟨rfl, hs, hc⟩
                have HS9 := Lib.hid hs
                have HC9 := Lib.hid (HC8.out.trans hc)
                clear hs hc HS8 HC8
                simp only []
                go_wp2_with fail
                refine (sb_wstr HS9 (by simp only [List.length_append, List.length_cons, List.length_nil, List.length_replicate] at hla ⊢; omega)).mono ?_
                rintro e w10 ⟨rfl, hs, hc⟩
                have HS10 := Lib.hid hs
                have HC10 := Lib.hid (HC9.out.trans hc)
                clear hs hc HS9 HC9
                simp only []
                go_wp2_with fail
                go_roundg rd.length
                case rel =>
                  refine ⟨rd, Lc, a ++ (93 :: List.replicate m 61), rfl, by rw [show l ++ (a ++ 93 :: List.replicate m 61) = l ++ a ++ [93] ++ List.replicate m 61 by simp]; exact HS10.out, ?_, .inr (by rw [HND.out]; exact hLt.out), HCD.out, HC10.out, rfl, by simp only [List.length_append, List.length_cons, List.length_replicate]; omega⟩
                  rw [HB.out, HXG.out, Rz.map_map]
                  congr 1
                  funext x
                  simp
                case measure => omega
              · have geq : ((n : Int) == (m : Int)) = false := by simp; omega
                clear hend2
                simp only []
                go_wp2_with fail
                refine (sb_byte (c := 93) HS7 (by omega)).mono ?_
                rintro e w8 ⟨rfl, hs, hc⟩
                have HS8 := Lib.hid hs
                have HC8 := Lib.hid (HC7.out.trans hc)
                clear hs hc HS7 HC7
                simp only []
                go_wp2_with fail
                refine (sb_repeat HS8 hmm).mono ?_
                rintro e w9 ⟨rfl, hs, hc⟩
                have HS9 := Lib.hid hs
                have HC9 := Lib.hid (HC8.out.trans hc)
                clear hs hc HS8 HC8
                simp only []
                go_wp2_with fail
                refine (sb_wstr HS9 (by simp only [List.length_append, List.length_cons, List.length_nil, List.length_replicate] at hla ⊢; omega)).mono ?_
                rintro e w10 ⟨rfl, hs, hc⟩
                have HS10 := Lib.hid hs
                have HC10 := Lib.hid (HC9.out.trans hc)
                clear hs hc HS9 HC9
                simp only []
                go_wp2_with fail
                go_roundg rd.length
                case rel =>
                  refine ⟨rd, Lc, a ++ (93 :: List.replicate m 61), rfl, by rw [show l ++ (a ++ 93 :: List.replicate m 61) = l ++ a ++ [93] ++ List.replicate m 61 by simp]; exact HS10.out, ?_, .inr (by rw [HND.out]; exact hLt.out), HCD.out, HC10.out, rfl, by simp only [List.length_append, List.length_cons, List.length_replicate]; omega⟩
                  rw [HB.out, HXG.out, Rz.map_map]
                  congr 1
                  funext x
                  simp
                case measure => omega
          · have hns : longB n (c :: t) ≠ .no 2 := fun h => by have := HN1.out 2 h; omega
            have HXC := Lib.hid (longB_chr n c t c93 hns)
            have g93 : ((c.toNat : Int) == 93) = false := by
              simp
              intro e
              exact c93 (UInt8.toNat_inj.1 (by show c.toNat = 93; omega))
            have hkk := HK.out
            have HCT := Lib.hid HCR.out.tail
            simp only [List.length_cons] at hkk hal
            have hsa := HSa.out
            rw [show tl1 (c :: t) = t from rfl] at hsa
            have HS5 := Lib.hid hsa
            clear hsa HSa hns c93
            simp only [hd_c]
            go_wp2_with fail
            refine (sb_write HS5 (by omega)).mono ?_
            rintro e w6 ⟨rfl, hs, hc⟩
            have HS6 := Lib.hid hs
            have HC6 := Lib.hid (HCa.out.trans hc)
            clear hs hc HS5 HCa
            simp only []
            go_wp2_with fail
            refine (sb_next HS6 HCT.out).mono ?_
            rintro e w7 ⟨rfl, hs, hc⟩
            have HS7 := Lib.hid hs
            have HC7 := Lib.hid (HC6.out.trans hc)
            clear hs hc HS6 HC6
            simp only []
            go_wp2_with fail
            go_roundg t.length
            case rel =>
              refine ⟨t, ln1 (c :: t) Lc, a ++ [c], rfl, by rw [← List.append_assoc]; exact HS7.out, ?_, ?_, HCT.out, HC7.out, rfl, by simp only [List.length_append, List.length_cons, List.length_nil]; omega⟩
              · rw [HB.out, HXC.out, Rz.map_map]
                congr 1
                funext x
                simp
              · rcases HL.out with h | h
                · cases h
                · exact .inr (by rw [← h]; exact ln1_nl (c :: t) Lc (by simp))
            case measure => omega
    · have h10f : hdIs (· == 10) r1 = false := by simpa using h10
      have g10 : (hd r1 == 10) = false := by
        rw [← h10f]
        cases r1 with
        | nil => rfl
        | cons c t =>
          rw [hd_c]
          show _ = (c == 10)
          rw [Bool.eq_iff_iff, beq_iff_eq, beq_iff_eq]
          constructor
          · intro e; exact UInt8.toNat_inj.1 (by show c.toNat = 10; omega)
          · rintro rfl; rfl
      have g13 : (hd r1 == 13) = false := by have := HC1R.out.hd; simpa using this
      have hcut : cut10 r1 = r1 := by
        cases r1 with
        | nil => rfl
        | cons c t =>
          have : (c == 10) = false := h10f
          rw [cut10_c, if_neg (by simpa using this)]
      have hx := HX.out
      rw [hcut] at hx
      have HX3 := Lib.hid hx
      clear h10 h10f hcut hx HX
      go_wp2_with fail
      go_loopg [1] r1.length (fun k v wr => MlRel X C n w b g l r1.length k v wr)
      case atStart => exact ⟨r1, L, [], rfl, by rw [List.append_nil]; exact HS2.out, by rw [HX3.out]; exact (Rz.map_id' _).symm, .inr HNL.out, HC1R.out, HC2.out, rfl, by simp⟩
      case round =>
        clear HS2 HC2
        have hN : l.length + r1.length + 5 < 100000 := by omega
        clear g10 g13
        obtain ⟨rc, Lc, a, rfl, hs, hb, hL, hcr, hc, hk, hal⟩ := hrel
        have HSa := Lib.hid hs
        have HB := Lib.hid hb
        have HL := Lib.hid hL
        have HCR := Lib.hid hcr
        have HCa := Lib.hid hc
        have HK := Lib.hid hk
        have hno1 : ∀ j, longB n rc = .no j → j = 1 := map_no (f := (a ++ ·)) (by intro j hj; rw [← hb] at hj; exact HNO.out j hj)
        have HN1 := Lib.hid hno1
        have hla : (l ++ a).length < 99999 := by simp only [List.length_append]; omega
        clear hs hb hL hcr hc hk hno1
        cases rc with
        | nil =>
          simp only [hd_e]
          go_wp2_with fail
          refine (Buffer_String g g (l ++ a) _ HSa.out.bf).mono ?_
          rintro e w5 ⟨rfl, n5, rfl⟩
          have HS5 := Lib.hid (HSa.out.moved ((Ch.refl _ _).drewN n5))
          have HC5 := Lib.hid (HCa.out.drewN n5)
          simp only []
          go_wp2_with fail
          refine (err_calls (Lib.hid HS5.out.rd)).mono ?_
          rintro e w6 ⟨⟨p, rfl⟩, hc⟩
          have HS6 := Lib.hid (HS5.out.moved hc)
          have HC6 := Lib.hid (HC5.out.trans (hc.mono fun _ _ h => h.elim))
          clear hc HS5 HC5
          simp only []
          go_wp2_with fail
          go_ret
          have hx := HB.out
          rw [longB_nil] at hx
          rw [hx]
          exact ⟨p, _, _, _, rfl, HS6.out, HC6.out⟩
        | cons c t =>
          have g0 : decide ((c.toNat : Int) < 0) = false := by first | omega | (simp; done) | (simp; omega)
          by_cases c93 : c = 93
          · subst c93
            have e93 : ((UInt8.toNat 93 : Nat) : Int) = 93 := rfl
            have hsa := HSa.out
            rw [show tl1 ((93 : UInt8) :: t) = t from rfl, ln1_of (c := 93) (t := t) rfl (by decide)] at hsa
            have HS5 := Lib.hid hsa
            have hLt : Hid (Lc + nl t = C) := Lib.hid (by
              rcases HL.out with h | h
              · cases h
              · rw [nl_cons, if_neg (by decide)] at h; omega)
            have HCT := Lib.hid HCR.out.tail
            have hkk := HK.out
            simp only [List.length_cons] at hkk hal
            clear hsa HSa HL
            simp only [hd_c, e93] at g0 ⊢
            go_wp2_with fail
            refine (sb_next HS5 HCT.out).mono ?_
            rintro e w6 ⟨rfl, hs, hc⟩
            have HS6 := Lib.hid hs
            have HC6 := Lib.hid (HCa.out.trans hc)
            clear hs hc HS5 HCa
            simp only []
            go_wp2_with fail
            refine (countSep_calls HS6 HCT.out (by omega)).mono ?_
            rintro e w7 ⟨rfl, hs, hc⟩
            have HS7 := Lib.hid hs
            have HC7 := Lib.hid (HC6.out.trans hc)
            clear hs hc HS6 HC6
            by_cases hend : eqs t = n ∧ (t.dropWhile (· == 61)).head? = some 93
            · obtain ⟨hen, hhd⟩ := hend
              obtain ⟨u, hu⟩ : ∃ u, t.dropWhile (· == 61) = 93 :: u := by
                cases h : t.dropWhile (· == 61) with
                | nil => rw [h] at hhd; cases hhd
                | cons x u =>
                  rw [h] at hhd
                  injection hhd with hx
                  exact ⟨u, by rw [hx]⟩
              have HXE := Lib.hid (longB_end n t u hu hen)
              have HU := Lib.hid hu
              have hnu : nl u = nl t := by
                have := nl_drop_eq t
                rw [hu, nl_cons, if_neg (by decide)] at this
                omega
              have HNU := Lib.hid hnu
              clear hhd hnu
              rw [hu, hen]
              have geq : ((n : Int) == (n : Int)) = true := by simp
              simp only [hd_c, e93]
              clear hu
              go_wp2_with fail
              go_step3
              simp (config := { zetaDelta := true }) only [Exit.jump, Exit.inBlock, Exit.then]
              refine ⟨by trivial, 0, ?_⟩
              unfold MlJ
              refine ⟨_, _, _, _, _, _, _, _, _, _, _, _, _, _, _, _, _, _, _, _, _, _, _, _, _, _, _, _, _, _, _, _, _, _, _, _, _, _, _, _, _, _, _, _, _, _, _, _, _, _, _, _, _, _, _, _, _, _, _, _, _, _, _, _, _, _, _, rfl, a ++ [], u, ?_, ?_, HC7.out⟩
              · rw [HB.out, HXE.out]
                rfl
              · have h7 := HS7.out
                rw [HU.out, show tl1 ((93 : UInt8) :: u) = u from rfl, ln1_of (c := 93) (t := u) rfl (by decide)] at h7
                rw [List.append_nil, show C - nl u = Lc by have := hLt.out; have := HNU.out; omega]
                exact h7
            · have HXG := Lib.hid (longB_go n t hend)
              have hdl := (List.dropWhile_sublist (l := t) (fun c : UInt8 => c == 61)).length_le
              have hel : eqs t + (t.dropWhile (· == 61)).length = t.length := by
                have := congrArg List.length (List.takeWhile_append_dropWhile (p := fun c : UInt8 => c == 61) (l := t))
                rw [List.length_append] at this
                exact this
              have hnd := nl_drop_eq t
              have hcd : NoCr (t.dropWhile (· == 61)) := HCT.out.drop
              have hend2 : eqs t = n → (hd (t.dropWhile (· == 61)) == 93) = false := by
                intro he
                have : ¬ (t.dropWhile (· == 61)).head? = some 93 := fun h => hend ⟨he, h⟩
                cases h : t.dropWhile (· == 61) with
                | nil => rfl
                | cons x u =>
                  rw [h] at this
                  rw [hd_c]
                  simp
                  intro e
                  exact this (by rw [show x = 93 from UInt8.toNat_inj.1 (by show x.toNat = 93; omega)]; rfl)
              generalize hg : t.dropWhile (· == 61) = rd at HS7 HXG hel hnd hcd hend2 hdl ⊢
              generalize hge : eqs t = m at HXG hel hend2 hend ⊢
              have HND := Lib.hid hnd
              have HCD := Lib.hid hcd
              clear hg hge hnd hcd hend
              have hmm : m < 100000 := by omega
              by_cases hmn : m = n
              · have g93 := hend2 hmn
                subst hmn
                have geq : ((m : Int) == (m : Int)) = true := by simp
                clear hend2
                simp only []
                go_wp2_with fail
                refine (sb_byte (c := 93) HS7 (by omega)).mono ?_
                rintro e w8 ⟨rfl, hs, hc⟩
                have HS8 := Lib.hid hs
                have HC8 := Lib.hid (HC7.out.trans hc)
                clear hs hc HS7 HC7
                simp only []
                go_wp2_with fail
                refine (sb_repeat HS8 hmm).mono ?_
                rintro e w9 ⟨rfl, hs, hc⟩
                have HS9 := Lib.hid hs
                have HC9 := Lib.hid (HC8.out.trans hc)
                clear hs hc HS8 HC8
                simp only []
                go_wp2_with fail
                refine (sb_wstr HS9 (by simp only [List.length_append, List.length_cons, List.length_nil, List.length_replicate] at hla ⊢; omega)).mono ?_
                rintro e w10 ⟨rfl, hs, hc⟩
                have HS10 := Lib.hid hs
                have HC10 := Lib.hid (HC9.out.trans hc)
                clear hs hc HS9 HC9
                simp only []
                go_wp2_with fail
                go_roundg rd.length
                case rel =>
                  refine ⟨rd, Lc, a ++ (93 :: List.replicate m 61), rfl, by rw [show l ++ (a ++ 93 :: List.replicate m 61) = l ++ a ++ [93] ++ List.replicate m 61 by simp]; exact HS10.out, ?_, .inr (by rw [HND.out]; exact hLt.out), HCD.out, HC10.out, rfl, by simp only [List.length_append, List.length_cons, List.length_replicate]; omega⟩
                  rw [HB.out, HXG.out, Rz.map_map]
                  congr 1
                  funext x
                  simp
                case measure => omega
              · have geq : ((n : Int) == (m : Int)) = false := by simp; omega
                clear hend2
                simp only []
                go_wp2_with fail
                refine (sb_byte (c := 93) HS7 (by omega)).mono ?_
                rintro e w8 ⟨rfl, hs, hc⟩
                have HS8 := Lib.hid hs
                have HC8 := Lib.hid (HC7.out.trans hc)
                clear hs hc HS7 HC7
                simp only []
                go_wp2_with fail
                refine (sb_repeat HS8 hmm).mono ?_
                rintro e w9 ⟨rfl, hs, hc⟩
                have HS9 := Lib.hid hs
                have HC9 := Lib.hid (HC8.out.trans hc)
                clear hs hc HS8 HC8
                simp only []
                go_wp2_with fail
                refine (sb_wstr HS9 (by simp only [List.length_append, List.length_cons, List.length_nil, List.length_replicate] at hla ⊢; omega)).mono ?_
                rintro e w10 ⟨rfl, hs, hc⟩
                have HS10 := Lib.hid hs
                have HC10 := Lib.hid (HC9.out.trans hc)
                clear hs hc HS9 HC9
                simp only []
                go_wp2_with fail
                go_roundg rd.length
                case rel =>
                  refine ⟨rd, Lc, a ++ (93 :: List.replicate m 61), rfl, by rw [show l ++ (a ++ 93 :: List.replicate m 61) = l ++ a ++ [93] ++ List.replicate m 61 by simp]; exact HS10.out, ?_, .inr (by rw [HND.out]; exact hLt.out), HCD.out, HC10.out, rfl, by simp only [List.length_append, List.length_cons, List.length_replicate]; omega⟩
                  rw [HB.out, HXG.out, Rz.map_map]
                  congr 1
                  funext x
                  simp
                case measure => omega
          · have hns : longB n (c :: t) ≠ .no 2 := fun h => by have := HN1.out 2 h; omega
            have HXC := Lib.hid (longB_chr n c t c93 hns)
            have g93 : ((c.toNat : Int) == 93) = false := by
              simp
              intro e
              exact c93 (UInt8.toNat_inj.1 (by show c.toNat = 93; omega))
            have hkk := HK.out
            have HCT := Lib.hid HCR.out.tail
            simp only [List.length_cons] at hkk hal
            have hsa := HSa.out
            rw [show tl1 (c :: t) = t from rfl] at hsa
            have HS5 := Lib.hid hsa
            clear hsa HSa hns c93
            simp only [hd_c]
            go_wp2_with fail
            refine (sb_write HS5 (by omega)).mono ?_
            rintro e w6 ⟨rfl, hs, hc⟩
            have HS6 := Lib.hid hs
            have HC6 := Lib.hid (HCa.out.trans hc)
            clear hs hc HS5 HCa
            simp only []
            go_wp2_with fail
            refine (sb_next HS6 HCT.out).mono ?_
            rintro e w7 ⟨rfl, hs, hc⟩
            have HS7 := Lib.hid hs
            have HC7 := Lib.hid (HC6.out.trans hc)
            clear hs hc HS6 HC6
            simp only []
            go_wp2_with fail
            go_roundg t.length
            case rel =>
              refine ⟨t, ln1 (c :: t) Lc, a ++ [c], rfl, by rw [← List.append_assoc]; exact HS7.out, ?_, ?_, HCT.out, HC7.out, rfl, by simp only [List.length_append, List.length_cons, List.length_nil]; omega⟩
              · rw [HB.out, HXC.out, Rz.map_map]
                congr 1
                funext x
                simp
              · rcases HL.out with h | h
                · cases h
                · exact .inr (by rw [← h]; exact ln1_nl (c :: t) Lc (by simp))
            case measure => omega
  · rintro m a w' hJ
    obtain ⟨y0, y1, y2, y3, y4, y5, y6, y7, y8, y9, y10, y11, y12, y13, y14, y15, y16, y17, y18, y19, y20, y21, y22, y23, y24, y25, y26, y27, y28, y29, y30, y31, y32, y33, y34, y35, y36, y37, y38, y39, y40, y41, y42, y43, y44, y45, y46, y47, y48, y49, y50, y51, y52, y53, y54, y55, y56, y57, y58, y59, y60, y61, y62, y63, y64, y65, y66, rfl, s, r', rfl, hs, hc⟩ := hJ
    have HS := Lib.hid hs
    have HC := Lib.hid hc
    clear hs hc
    go_wp2_with fail
    go_ret
    exact ⟨rfl, HS.out, HC.out⟩

end Go.Proofs.YtbgjjbffpckimaaGreatDoor

namespace Go.Proofs.YtbgjjbffpckimaaGreatDoor
set_option linter.all false
open Go.RowKit

theorem iface46 : Tryz.prog.isIface 56 = true := by kernel_rfl
/-- Behind a comment. -/
def ComEnd (r' : Bs) (C : Int) (w : World) (b : Bl) (e : Ending) (w' : World) : Prop :=
  ∃ r2 L2, e = .returned .nilIface ∧ Rd w' b r2 L2 ∧ Ch (Tr b) w w' ∧ (r2 = r' ∨ r' = 10 :: r2) ∧ (r2 = [] ∨ L2 + nl r2 = C)
def ComErr (w : World) (b : Bl) (e : Ending) (w' : World) : Prop :=
  ∃ p r2 L2, e = .returned (.iface 89 (ptr p)) ∧ Rd w' b r2 L2 ∧ Ch (Tr b) w w'
def ComPost (X : Rz Unit) (C : Int) (w : World) (b : Bl) (e : Ending) (w' : World) : Prop :=
  match X with
  | .ok _ r' => ComEnd r' C w b e w'
  | .no _ => ComErr w b e w'

/-- A scanner under a new buffer. -/
theorem Rd.buf {w : World} {b : Bl} {r : Bs} {L : Int} (h : Rd w b r L) : Sb (w.alloc (.cells #[.slice none 0 0, .int .i64 0, .int .i8 0] 79)) b r L w.heap.size [] :=
  ⟨h.moved ((Ch.refl _ _).alloc _), Lib.fresh_isBuffer 79 5 w, h.size, h.g2⟩
theorem ub_new {w w1 w' : World} {b : Bl} {g : Nat} (h1 : Ch (Tr b) w w1) (hg : w.heap.size ≤ g) (h : Ch (Ub b g) w1 w') : Ch (Tr b) w w' :=
  h1.trans' h fun i hi hu => hu.elim id fun hg' => by omega

def ShRel (w : World) (b : Bl) (rest : Bs) (C : Int) (k : Nat) (v : Value) (wr : World) : Prop :=
  ∃ (c : Int) (r1 : Bs) (L1 : Int), v = .int .i64 c ∧ ((c = hd r1 ∧ Rd wr b (tl1 r1) (ln1 r1 L1) ∧ r1.dropWhile (· != 10) = rest ∧ k = r1.length + 1 ∧ NoCr r1 ∧ (r1 = [] ∨ L1 + nl r1 = C)) ∨ (0 ≤ c ∧ c ≠ 10 ∧ c ≠ 13 ∧ Rd wr b r1 L1 ∧ r1.dropWhile (· != 10) = rest ∧ k = r1.length + 2 ∧ NoCr r1 ∧ L1 + nl r1 = C)) ∧ Ch (Tr b) w wr

set_option maxRecDepth 100000 in
set_option maxHeartbeats 4000000 in
theorem com_short {w : World} {b : Bl} {r : Bs} {L C : Int} (HR : Hid (Rd w b r L)) (h91 : hd r ≠ 91) (h13 : NoCr r) (hC : L + nl r = C) :
    Calls Tryz.prog 35 #[ptr b.Z, .int .i64 45] w (ComEnd (r.dropWhile (· != 10)) C w b) := by
  have H13 := Lib.hid h13
  have HCC := Lib.hid hC
  have g91 : (hd r == 91) = false := by simpa using h91
  generalize hrest : r.dropWhile (· != 10) = rest
  have HREST := Lib.hid hrest
  clear h13 h91 hC hrest
  go_enter Tryz.func35, Tryz.ntmps35
  go_wp2_with fail
  refine (peek_calls HR).mono ?_
  rintro e w1 ⟨rfl, hc, hs⟩
  have HS1 := Lib.hid hs
  have HC1 := Lib.hid hc
  clear hs hc
  simp only []
  go_wp2_with fail
  go_loopg [1] (r.length + 2) (fun k v wr => ShRel w b rest C k v wr)
  case atStart => exact ⟨45, r, L, rfl, .inr ⟨by omega, by omega, by omega, HS1.out, HREST.out, rfl, H13.out, HCC.out⟩, HC1.out⟩
  case round =>
    obtain ⟨c, r1, L1, rfl, hcase, hc⟩ := hrel
    have HC := Lib.hid hc
    clear hc HR HS1 HC1
    rcases hcase with ⟨rfl, hs, hdr, hk, hcr, hL⟩ | ⟨c0, c10, c13, hs, hdr, hk, hcr, hL⟩
    · have HS := Lib.hid hs
      have HD := Lib.hid hdr
      have HK := Lib.hid hk
      have HCR := Lib.hid hcr
      have HL := Lib.hid hL
      clear hs hdr hk hcr hL
      cases r1 with
      | nil =>
        simp only [hd_e]
        go_wp2_with fail
        go_ret
        refine ⟨[], -1, rfl, HS.out, HC.out, ?_, .inl rfl⟩
        exact .inl HD.out
      | cons x t =>
        by_cases x10 : x = 10
        · subst x10
          have e10 : ((UInt8.toNat 10 : Nat) : Int) = 10 := rfl
          simp only [hd_c, e10]
          go_wp2_with fail
          go_ret
          refine ⟨t, L1 + 1, rfl, HS.out, HC.out, .inr ?_, .inr ?_⟩
          · rw [← HD.out]; rfl
          · rcases HL.out with h | h
            · cases h
            · rw [nl_cons, if_pos rfl] at h; omega
        · have g1 : ((x.toNat : Int) == 10) = false := by
            simp
            intro e
            exact x10 (UInt8.toNat_inj.1 (by show x.toNat = 10; omega))
          have g2 : ((x.toNat : Int) == 13) = false := by
            simp
            intro e
            exact HCR.out x (by simp) (UInt8.toNat_inj.1 (by show x.toNat = 13; omega))
          have g3 : decide ((x.toNat : Int) < 0) = false := by first | omega | (simp; done) | (simp; omega)
          have hs := HS.out
          rw [show tl1 (x :: t) = t from rfl, ln1_of (c := x) (t := t) rfl x10] at hs
          have HS2 := Lib.hid hs
          have hk := HK.out
          simp only [List.length_cons] at hk
          clear hs HS
          simp only [hd_c]
          go_wp2_with fail
          refine (next_calls HS2 HCR.out.tail).mono ?_
          rintro e w3 ⟨rfl, hc, hs⟩
          have HS3 := Lib.hid hs
          have HC3 := Lib.hid (HC.out.trans hc)
          clear hs hc HS2 HC
          simp only []
          go_wp2_with fail
          go_roundg (t.length + 1)
          case rel =>
            refine ⟨_, t, L1, rfl, .inl ⟨rfl, HS3.out, ?_, rfl, HCR.out.tail, ?_⟩, HC3.out⟩
            · rw [← HD.out, List.dropWhile_cons, if_pos (by simpa using x10)]
            · rcases HL.out with h | h
              · cases h
              · exact .inr (by rw [nl_cons, if_neg x10] at h; omega)
          case measure => omega
    · have HS := Lib.hid hs
      have HD := Lib.hid hdr
      have HCR := Lib.hid hcr
      have HL := Lib.hid hL
      have g1 : (c == 10) = false := by simpa using c10
      have g2 : (c == 13) = false := by simpa using c13
      have g3 : decide (c < 0) = false := by simp; omega
      clear hs hdr hcr hL c10 c13
      go_wp2_with fail
      refine (next_calls HS HCR.out).mono ?_
      rintro e w3 ⟨rfl, hc, hs⟩
      have HS3 := Lib.hid hs
      have HC3 := Lib.hid (HC.out.trans hc)
      clear hs hc HS HC
      simp only []
      go_wp2_with fail
      go_roundg (r1.length + 1)
      case rel => exact ⟨_, r1, L1, rfl, .inl ⟨rfl, HS3.out, HD.out, rfl, HCR.out, .inr HL.out⟩, HC3.out⟩
      case measure => omega

set_option maxRecDepth 100000 in
set_option maxHeartbeats 4000000 in
theorem com_short91 {w : World} {b : Bl} {r : Bs} {L C : Int} (HR : Hid (Rd w b (91 :: r) L)) (h91 : hd r ≠ 91) (h61 : hd r ≠ 61) (h13 : NoCr ((91 : UInt8) :: r)) (hC : L + nl r = C) :
    Calls Tryz.prog 35 #[ptr b.Z, .int .i64 45] w (ComEnd (r.dropWhile (· != 10)) C w b) := by
  have H13 := Lib.hid h13
  have HCC := Lib.hid hC
  have e91 : ((UInt8.toNat 91 : Nat) : Int) = 91 := rfl
  have g91 : (hd r == 91) = false := by simpa using h91
  have g61 : (hd r == 61) = false := by simpa using h61
  generalize hrest : r.dropWhile (· != 10) = rest
  have HREST := Lib.hid hrest
  clear h13 h91 h61 hC hrest
  go_enter Tryz.func35, Tryz.ntmps35
  go_wp2_with fail
  refine (peek_calls HR).mono ?_
  rintro e w1 ⟨rfl, hc, hs⟩
  have HS1 := Lib.hid hs
  have HC1 := Lib.hid hc
  clear hs hc
  simp only [hd_c, e91]
  go_wp2_with fail
  refine (next_calls HS1 H13.out).mono ?_
  rintro e w2 ⟨rfl, hc, hs⟩
  rw [show tl1 ((91 : UInt8) :: r) = r from rfl, ln1_of (c := 91) (t := r) rfl (by decide)] at hs
  have HS2 := Lib.hid hs
  have HC2 := Lib.hid (HC1.out.trans hc)
  clear hs hc HS1 HC1
  simp only [hd_c, e91]
  go_wp2_with fail
  refine (peek_calls HS2).mono ?_
  rintro e w3 ⟨rfl, hc, hs⟩
  have HS3 := Lib.hid hs
  have HC3 := Lib.hid (HC2.out.trans hc)
  clear hs hc HS2 HC2
  simp only []
  go_wp2_with fail
  refine (peek_calls HS3).mono ?_
  rintro e w4 ⟨rfl, hc, hs⟩
  have HS4 := Lib.hid hs
  have HC4 := Lib.hid (HC3.out.trans hc)
  clear hs hc HS3 HC3
  simp only []
  go_wp2_with fail
  go_loopg [1] (r.length + 2) (fun k v wr => ShRel w b rest C k v wr)
  case atStart => exact ⟨91, r, L, rfl, .inr ⟨by omega, by omega, by omega, HS4.out, HREST.out, rfl, H13.out.tail, HCC.out⟩, HC4.out⟩
  case round =>
    obtain ⟨c, r1, L1, rfl, hcase, hc⟩ := hrel
    have HC := Lib.hid hc
    clear hc HR HS4 HC4
    rcases hcase with ⟨rfl, hs, hdr, hk, hcr, hL⟩ | ⟨c0, c10, c13, hs, hdr, hk, hcr, hL⟩
    · have HS := Lib.hid hs
      have HD := Lib.hid hdr
      have HK := Lib.hid hk
      have HCR := Lib.hid hcr
      have HL := Lib.hid hL
      clear hs hdr hk hcr hL
      cases r1 with
      | nil =>
        simp only [hd_e]
        go_wp2_with fail
        go_ret
        refine ⟨[], -1, rfl, HS.out, HC.out, ?_, .inl rfl⟩
        exact .inl HD.out
      | cons x t =>
        by_cases x10 : x = 10
        · subst x10
          have e10 : ((UInt8.toNat 10 : Nat) : Int) = 10 := rfl
          simp only [hd_c, e10]
          go_wp2_with fail
          go_ret
          refine ⟨t, L1 + 1, rfl, HS.out, HC.out, .inr ?_, .inr ?_⟩
          · rw [← HD.out]; rfl
          · rcases HL.out with h | h
            · cases h
            · rw [nl_cons, if_pos rfl] at h; omega
        · have g1 : ((x.toNat : Int) == 10) = false := by
            simp
            intro e
            exact x10 (UInt8.toNat_inj.1 (by show x.toNat = 10; omega))
          have g2 : ((x.toNat : Int) == 13) = false := by
            simp
            intro e
            exact HCR.out x (by simp) (UInt8.toNat_inj.1 (by show x.toNat = 13; omega))
          have g3 : decide ((x.toNat : Int) < 0) = false := by first | omega | (simp; done) | (simp; omega)
          have hs := HS.out
          rw [show tl1 (x :: t) = t from rfl, ln1_of (c := x) (t := t) rfl x10] at hs
          have HS2 := Lib.hid hs
          have hk := HK.out
          simp only [List.length_cons] at hk
          clear hs HS
          simp only [hd_c]
          go_wp2_with fail
          refine (next_calls HS2 HCR.out.tail).mono ?_
          rintro e w3 ⟨rfl, hc, hs⟩
          have HS3 := Lib.hid hs
          have HC3 := Lib.hid (HC.out.trans hc)
          clear hs hc HS2 HC
          simp only []
          go_wp2_with fail
          go_roundg (t.length + 1)
          case rel =>
            refine ⟨_, t, L1, rfl, .inl ⟨rfl, HS3.out, ?_, rfl, HCR.out.tail, ?_⟩, HC3.out⟩
            · rw [← HD.out, List.dropWhile_cons, if_pos (by simpa using x10)]
            · rcases HL.out with h | h
              · cases h
              · exact .inr (by rw [nl_cons, if_neg x10] at h; omega)
          case measure => omega
    · have HS := Lib.hid hs
      have HD := Lib.hid hdr
      have HCR := Lib.hid hcr
      have HL := Lib.hid hL
      have g1 : (c == 10) = false := by simpa using c10
      have g2 : (c == 13) = false := by simpa using c13
      have g3 : decide (c < 0) = false := by simp; omega
      clear hs hdr hcr hL c10 c13
      go_wp2_with fail
      refine (next_calls HS HCR.out).mono ?_
      rintro e w3 ⟨rfl, hc, hs⟩
      have HS3 := Lib.hid hs
      have HC3 := Lib.hid (HC.out.trans hc)
      clear hs hc HS HC
      simp only []
      go_wp2_with fail
      go_roundg (r1.length + 1)
      case rel => exact ⟨_, r1, L1, rfl, .inl ⟨rfl, HS3.out, HD.out, rfl, HCR.out, .inr HL.out⟩, HC3.out⟩
      case measure => omega

set_option maxRecDepth 100000 in
set_option maxHeartbeats 4000000 in
theorem com_long {w : World} {b : Bl} {r0 r1 : Bs} {L C : Int} {n : Nat} (HR : Hid (Rd w b (91 :: r0) L)) (hr : r0.dropWhile (· == 61) = 91 :: r1) (hn : eqs r0 = n) {X : Rz Bs} (hX : longB n (cut10 r1) = X) (hno : ∀ k, X = .no k → k = 1) (hC : L + nl r0 = C) (h13 : NoCr ((91 : UInt8) :: r0)) :
    Calls Tryz.prog 35 #[ptr b.Z, .int .i64 45] w (ComPost (X.map fun _ => ()) C w b) := by
  have H13 := Lib.hid h13
  have HCC := Lib.hid hC
  have HRR := Lib.hid hr
  have HN := Lib.hid hn
  have HX := Lib.hid hX
  have HNO := Lib.hid hno
  have hlen := HR.out.len
  have e91 : ((UInt8.toNat 91 : Nat) : Int) = 91 := rfl
  have hq : hd r0 = 91 ∨ hd r0 = 61 := by
    cases r0 with
    | nil => simp at hr
    | cons c t =>
      by_cases h : c = 61
      · subst h; exact .inr rfl
      · rw [List.dropWhile_cons, if_neg (by simpa using h)] at hr
        injection hr with h1 _
        subst h1
        exact .inl rfl
  have hn10 : ln1 r0 L + nl (tl1 r0) = L + nl r0 := ln1_nl r0 L (by rintro rfl; simp at hr)
  clear h13 hC hr hn hX hno hn10
  go_enter Tryz.func35, Tryz.ntmps35
  go_wp2_with fail
  refine (peek_calls HR).mono ?_
  rintro e w1 ⟨rfl, hc, hs⟩
  have HS1 := Lib.hid hs
  have HC1 := Lib.hid hc
  clear hs hc HR
  simp only [hd_c, e91]
  go_wp2_with fail
  refine (next_calls HS1 H13.out).mono ?_
  rintro e w2 ⟨rfl, hc, hs⟩
  rw [show tl1 ((91 : UInt8) :: r0) = r0 from rfl, ln1_of (c := 91) (t := r0) rfl (by decide)] at hs
  have HS2 := Lib.hid hs
  have HC2 := Lib.hid (HC1.out.trans hc)
  clear hs hc HS1 HC1
  simp only [hd_c, e91]
  go_wp2_with fail
  refine (peek_calls HS2).mono ?_
  rintro e w3 ⟨rfl, hc, hs⟩
  have HS3 := Lib.hid hs
  have HC3 := Lib.hid (HC2.out.trans hc)
  clear hs hc HS2 HC2
  rcases hq with hq | hq
  · have g1 : (hd r0 == 91) = true := by simpa using hq
    have HQ := Lib.hid hq
    clear hq
    simp only []
    go_wp2_with fail
    have HS4 := HS3
    have HC4 := HC3
    have HS5 := Lib.hid HS4.out.buf
    have HC5 := Lib.hid (HC4.out.alloc (.cells #[.slice none 0 0, .int .i64 0, .int .i8 0] 79))
    have hg := HC4.out.size
    generalize hgg : (w3.alloc (.cells #[.slice none 0 0, .int .i64 0, .int .i8 0] 79)) = w5 at HS5 HC5 ⊢
    clear hgg
    refine (sb_next HS5 H13.out.tail).mono ?_
    rintro e w6 ⟨rfl, hs, hc⟩
    have HS6 := Lib.hid hs
    have HC6 := Lib.hid (ub_new HC5.out hg hc)
    clear hs hc HS5 HC5
    simp only []
    go_wp2_with fail
    refine (ml_calls HS6 HRR.out HN.out HX.out HNO.out HCC.out H13.out.tail (by simp only [List.length_cons, List.length_nil] at hlen ⊢; omega)).mono ?_
    rintro e w7 hml
    cases X with
    | ok s r' =>
      obtain ⟨rfl, hs, hc⟩ := hml
      have HS7 := Lib.hid hs
      have HC7 := Lib.hid (ub_new HC6.out hg hc)
      clear hs hc HS6 HC6
      simp only []
      go_wp2_with fail
      go_ret
      exact ⟨r', _, rfl, HS7.out.rd, HC7.out, .inl rfl, .inr (by omega)⟩
    | no k =>
      obtain ⟨p, r', L', l', rfl, hs, hc⟩ := hml
      have HS7 := Lib.hid hs
      have HC7 := Lib.hid (ub_new HC6.out hg hc)
      have gq : ∀ w, (binOp .neq 56 (.iface 89 (ptr p)) .nilIface).run Tryz.prog w = .ok (.bool true) w := fun w => run_neq_iface_nil (P := Tryz.prog) (w := w) 56 iface46 89 (ptr p)
      clear hs hc HS6 HC6
      simp only []
      go_wp2_with fail
      refine (Buffer_String _ _ l' _ HS7.out.bf).mono ?_
      rintro e w8 ⟨rfl, n8, rfl⟩
      have HS8 := Lib.hid (HS7.out.rd.moved ((Ch.refl _ _).drewN n8))
      have HC8 := Lib.hid (HC7.out.drewN n8)
      clear HS7 HC7
      simp only []
      go_wp2_with fail
      refine (err_calls HS8).mono ?_
      rintro e w9 ⟨⟨p2, rfl⟩, hc⟩
      have HS9 := Lib.hid (HS8.out.moved hc)
      have HC9 := Lib.hid (HC8.out.trans (hc.mono fun _ _ h => h.elim))
      clear hc HS8 HC8
      simp only []
      go_wp2_with fail
      go_ret
      exact ⟨p2, _, _, rfl, HS9.out, HC9.out⟩
  · have g1 : (hd r0 == 91) = false := by simp; omega
    have g2 : (hd r0 == 61) = true := by simpa using hq
    have HQ := Lib.hid hq
    clear hq
    simp only []
    go_wp2_with fail
    refine (peek_calls HS3).mono ?_
    rintro e w4 ⟨rfl, hc, hs⟩
    have HS4 := Lib.hid hs
    have HC4 := Lib.hid (HC3.out.trans hc)
    clear hs hc HS3 HC3
    simp only []
    go_wp2_with fail
    have HS5 := Lib.hid HS4.out.buf
    have HC5 := Lib.hid (HC4.out.alloc (.cells #[.slice none 0 0, .int .i64 0, .int .i8 0] 79))
    have hg := HC4.out.size
    generalize hgg : (w4.alloc (.cells #[.slice none 0 0, .int .i64 0, .int .i8 0] 79)) = w5 at HS5 HC5 ⊢
    clear hgg
    refine (sb_next HS5 H13.out.tail).mono ?_
    rintro e w6 ⟨rfl, hs, hc⟩
    have HS6 := Lib.hid hs
    have HC6 := Lib.hid (ub_new HC5.out hg hc)
    clear hs hc HS5 HC5
    simp only []
    go_wp2_with fail
    refine (ml_calls HS6 HRR.out HN.out HX.out HNO.out HCC.out H13.out.tail (by simp only [List.length_cons, List.length_nil] at hlen ⊢; omega)).mono ?_
    rintro e w7 hml
    cases X with
    | ok s r' =>
      obtain ⟨rfl, hs, hc⟩ := hml
      have HS7 := Lib.hid hs
      have HC7 := Lib.hid (ub_new HC6.out hg hc)
      clear hs hc HS6 HC6
      simp only []
      go_wp2_with fail
      go_ret
      exact ⟨r', _, rfl, HS7.out.rd, HC7.out, .inl rfl, .inr (by omega)⟩
    | no k =>
      obtain ⟨p, r', L', l', rfl, hs, hc⟩ := hml
      have HS7 := Lib.hid hs
      have HC7 := Lib.hid (ub_new HC6.out hg hc)
      have gq : ∀ w, (binOp .neq 56 (.iface 89 (ptr p)) .nilIface).run Tryz.prog w = .ok (.bool true) w := fun w => run_neq_iface_nil (P := Tryz.prog) (w := w) 56 iface46 89 (ptr p)
      clear hs hc HS6 HC6
      simp only []
      go_wp2_with fail
      refine (Buffer_String _ _ l' _ HS7.out.bf).mono ?_
      rintro e w8 ⟨rfl, n8, rfl⟩
      have HS8 := Lib.hid (HS7.out.rd.moved ((Ch.refl _ _).drewN n8))
      have HC8 := Lib.hid (HC7.out.drewN n8)
      clear HS7 HC7
      simp only []
      go_wp2_with fail
      refine (err_calls HS8).mono ?_
      rintro e w9 ⟨⟨p2, rfl⟩, hc⟩
      have HS9 := Lib.hid (HS8.out.moved hc)
      have HC9 := Lib.hid (HC8.out.trans (hc.mono fun _ _ h => h.elim))
      clear hc HS8 HC8
      simp only []
      go_wp2_with fail
      go_ret
      exact ⟨p2, _, _, rfl, HS9.out, HC9.out⟩

theorem com_calls {w : World} {b : Bl} {r : Bs} {L C : Int} (HR : Hid (Rd w b r L)) {X : Rz Unit} (hX : comP r = X) (hno : ∀ k, X = .no k → k = 1) (hC : L + nl r = C) (h13 : NoCr r) :
    Calls Tryz.prog 35 #[ptr b.Z, .int .i64 45] w (ComPost X C w b) := by
  cases r with
  | nil =>
    subst hX
    exact com_short HR (by simp [hd]) h13 hC
  | cons c t =>
    by_cases hc : c = 91
    · subst hc
      have hC' : L + nl t = C := by rw [nl_cons, if_neg (by decide)] at hC; omega
      unfold comP at hX
      rw [brk_cons] at hX
      by_cases hb : (t.dropWhile (· == 61)).head? = some 91
      · obtain ⟨r1, hr1⟩ : ∃ r1, t.dropWhile (· == 61) = 91 :: r1 := by
          cases h : t.dropWhile (· == 61) with
          | nil => rw [h] at hb; cases hb
          | cons x u =>
            rw [h] at hb
            injection hb with hx
            exact ⟨u, by rw [hx]⟩
        rw [if_pos ⟨rfl, hb⟩] at hX
        simp only [] at hX
        have hdrop : ((91 : UInt8) :: t).drop (eqs t + 2) = r1 := by
          rw [show eqs t + 2 = (eqs t + 1) + 1 by omega, List.drop_succ_cons, ← List.drop_drop, drop_eqs, hr1]
          rfl
        rw [hdrop] at hX
        subst hX
        refine com_long HR hr1 rfl rfl ?_ hC' h13
        intro k hk
        apply hno k
        rw [hk]
        rfl
      · rw [if_neg (fun h => hb h.2)] at hX
        simp only [] at hX
        by_cases h61 : ((91 : UInt8) :: t).take 2 = [91, 61]
        · rw [if_pos h61] at hX
          have := hno 2 hX.symm
          omega
        · rw [if_neg h61] at hX
          subst hX
          have q91 : hd t ≠ 91 := by
            intro e
            cases t with
            | nil => simp [hd] at e
            | cons x u =>
              have hx : x = 91 := UInt8.toNat_inj.1 (by rw [hd_c] at e; show x.toNat = 91; omega)
              subst hx
              exact hb rfl
          have q61 : hd t ≠ 61 := by
            intro e
            cases t with
            | nil => simp [hd] at e
            | cons x u =>
              have hx : x = 61 := UInt8.toNat_inj.1 (by rw [hd_c] at e; show x.toNat = 61; omega)
              subst hx
              exact h61 rfl
          have := com_short91 HR q91 q61 h13 hC'
          show Calls Tryz.prog 35 _ w (ComEnd (((91 : UInt8) :: t).dropWhile (· != 10)) C w b)
          rw [List.dropWhile_cons, if_pos (by decide)]
          exact this
    · have hb : brk 91 (c :: t) = none := by rw [brk_cons, if_neg (fun h => hc h.1)]
      unfold comP at hX
      rw [hb] at hX
      simp only [] at hX
      rw [if_neg (by intro h; simp at h; exact hc h.1)] at hX
      subst hX
      refine com_short HR ?_ h13 hC
      rw [hd_c]
      intro e
      exact hc (UInt8.toNat_inj.1 (by show c.toNat = 91; omega))

end Go.Proofs.YtbgjjbffpckimaaGreatDoor
