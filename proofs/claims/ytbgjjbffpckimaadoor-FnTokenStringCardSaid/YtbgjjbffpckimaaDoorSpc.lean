/-
  skipWhiteSpace.
-/
import Derived.Test.YtbgjjbffpckimaaDoorChr
namespace Go.Proofs.YtbgjjbffpckimaaDoor
set_option linter.all false
open Go.RowKit

def sp1 (c : UInt8) : Bool := c == 32 || c == 9
def sp2 (c : UInt8) : Bool := c == 32 || c == 9 || c == 10 || c == 13
def nl (r : Bs) : Int := ((r.filter (· == 10)).length : Nat)
theorem nl_cons (c : UInt8) (r : Bs) : nl (c :: r) = (if c = 10 then 1 else 0) + nl r := by
  unfold nl
  by_cases h : c = 10
  · simp [h]; omega
  · simp [h]
theorem ln1_nl (r : Bs) (L : Int) (h : r ≠ []) : ln1 r L + nl (tl1 r) = L + nl r := by
  cases r with
  | nil => exact absurd rfl h
  | cons c t =>
    simp only [ln1, tl1, nl_cons]
    split <;> omega

theorem bit1 : ∀ c : Fin 256, (bits BinOp.and IntKind.i64 4294967808 (wrap64 (2 ^ min (IntKind.u64.wrap (c.val : Int)).toNat 64)) != 0) = (c.val == 32 || c.val == 9) := by decide +kernel
theorem bit2 : ∀ c : Fin 256, (bits BinOp.and IntKind.i64 4294977024 (wrap64 (2 ^ min (IntKind.u64.wrap (c.val : Int)).toNat 64)) != 0) = (c.val == 32 || c.val == 9 || c.val == 10 || c.val == 13) := by decide +kernel
theorem bit1e : (bits BinOp.and IntKind.i64 4294967808 (wrap64 (2 ^ min (IntKind.u64.wrap (-1)).toNat 64)) != 0) = false := by decide +kernel
theorem bit2e : (bits BinOp.and IntKind.i64 4294977024 (wrap64 (2 ^ min (IntKind.u64.wrap (-1)).toNat 64)) != 0) = false := by decide +kernel
theorem eq_nat (c : UInt8) (n : Nat) (h : n < 256) : (c.toNat == n) = (c == UInt8.ofNat n) := by
  rw [Bool.eq_iff_iff, beq_iff_eq, beq_iff_eq]
  constructor
  · intro e
    apply UInt8.toNat_inj.1
    rw [e, UInt8.toNat_ofNat_of_lt' h]
  · rintro rfl
    rw [UInt8.toNat_ofNat_of_lt' h]
theorem mask1 (r : Bs) : (bits BinOp.and IntKind.i64 4294967808 (wrap64 (2 ^ min (IntKind.u64.wrap (hd r)).toNat 64)) != 0) = hdIs sp1 r := by
  cases r with
  | nil => exact bit1e
  | cons c t =>
    refine (bit1 ⟨c.toNat, c.toNat_lt⟩).trans ?_
    simp only [hdIs, sp1, eq_nat c 32 (by decide), eq_nat c 9 (by decide)]
    rfl
theorem mask2 (r : Bs) : (bits BinOp.and IntKind.i64 4294977024 (wrap64 (2 ^ min (IntKind.u64.wrap (hd r)).toNat 64)) != 0) = hdIs sp2 r := by
  cases r with
  | nil => exact bit2e
  | cons c t =>
    refine (bit2 ⟨c.toNat, c.toNat_lt⟩).trans ?_
    simp only [hdIs, sp2, eq_nat c 32 (by decide), eq_nat c 9 (by decide), eq_nat c 10 (by decide), eq_nat c 13 (by decide)]
    rfl

/-- What is skipped. -/
def SkPost (p : UInt8 → Bool) (w : World) (b : Bl) (r : Bs) (L : Int) (e : Ending) (w' : World) : Prop :=
  e = .returned (.int .i64 (hd (r.dropWhile p))) ∧ Ch (Tr b) w w' ∧ Rd w' b (tl1 (r.dropWhile p)) (ln1 (r.dropWhile p) (L + nl r - nl (r.dropWhile p)))

/-- The state of the loop: what is left with the current byte ahead. -/
def SkRel (p : UInt8 → Bool) (w : World) (b : Bl) (r : Bs) (L : Int) (k : Nat) (v : Value) (wr : World) : Prop :=
  ∃ r' L', v = .int .i64 (hd r') ∧ Ch (Tr b) w wr ∧ Rd wr b (tl1 r') (ln1 r' L') ∧ r'.dropWhile p = r.dropWhile p ∧ L' + nl r' = L + nl r ∧ k = r'.length ∧ NoCr r'

theorem SkRel.done {p : UInt8 → Bool} {w : World} {b : Bl} {r : Bs} {L : Int} {r' : Bs} {L' : Int} {wr : World} (h : hdIs p r' = false) (hc : Ch (Tr b) w wr) (hs : Rd wr b (tl1 r') (ln1 r' L')) (hd' : r'.dropWhile p = r.dropWhile p) (hn : L' + nl r' = L + nl r) : SkPost p w b r L (.returned (.int .i64 (hd r'))) wr := by
  have e : r'.dropWhile p = r' := by
    cases r' with
    | nil => rfl
    | cons c t =>
      rw [List.dropWhile_cons, if_neg]
      simpa [hdIs] using h
  have e2 : r.dropWhile p = r' := hd'.symm.trans e
  have e3 : L' = L + nl r - nl r' := by omega
  unfold SkPost
  rw [e2, ← e3]
  exact ⟨rfl, hc, hs⟩

set_option maxRecDepth 100000 in
set_option maxHeartbeats 4000000 in
theorem skip1_calls {w : World} {b : Bl} {r : Bs} {L : Int} (H : Hid (Rd w b r L)) (hcr : NoCr r) :
    Calls Tryd.prog 15 #[ptr b.Z, .int .i64 4294967808] w (SkPost sp1 w b r L) := by
  go_enter Tryd.func15, Tryd.ntmps15
  go_wp2_with fail
  refine (next_calls H hcr).mono ?_
  rintro e w' ⟨rfl, hc, hs⟩
  have HC := Lib.hid hc
  have HS := Lib.hid hs
  have HCR := Lib.hid hcr
  clear hc hs hcr
  simp only []
  go_wp2_with fail
  go_loopg [5] r.length (fun k s5 wr => SkRel sp1 w b r L k s5 wr)
  case atStart => exact ⟨r, L, rfl, HC.out, HS.out, rfl, rfl, rfl, HCR.out⟩
  case round =>
    obtain ⟨r', L', rfl, hc, hs, hdr, hn, hk, hcr⟩ := hrel
    have HC1 := Lib.hid hc
    have HS1 := Lib.hid hs
    have HD := Lib.hid hdr
    have HN := Lib.hid hn
    have HK := Lib.hid hk
    have HCR1 := Lib.hid hcr
    have hm := mask1 r'
    clear hc hs hdr hn hk hcr HC HS HCR H
    cases hv : hdIs sp1 r' with
    | false =>
      rw [hv] at hm
      have HV := Lib.hid hv
      clear hv
      go_wp2_with fail
      go_ret
      exact SkRel.done HV.out HC1.out HS1.out HD.out HN.out
    | true =>
      rw [hv] at hm
      cases r' with
      | nil => simp [hdIs] at hv
      | cons c t =>
        have HV := Lib.hid hv
        clear hv
        go_wp2_with fail
        refine (next_calls HS1 HCR1.out.tail).mono ?_
        rintro e w2 ⟨rfl, hc2, hs2⟩
        have HC2 := Lib.hid (HC1.out.trans hc2)
        have HS2 := Lib.hid hs2
        clear hc2 hs2
        simp only [tl1]
        go_wp2_with fail
        go_roundg (gk - 1)
        case rel =>
          refine ⟨t, ln1 (c :: t) L', rfl, HC2.out, HS2.out, ?_, ?_, ?_, HCR1.out.tail⟩
          · rw [← HD.out, List.dropWhile_cons, if_pos (show sp1 c = true from HV.out)]
          · rw [← HN.out]
            exact ln1_nl (c :: t) L' (by simp)
          · have := HK.out
            simp only [List.length_cons] at this
            omega
        case measure =>
          have := HK.out
          simp only [List.length_cons] at this
          omega

set_option maxRecDepth 100000 in
set_option maxHeartbeats 4000000 in
theorem skip2_calls {w : World} {b : Bl} {r : Bs} {L : Int} (H : Hid (Rd w b r L)) (hcr : NoCr r) :
    Calls Tryd.prog 15 #[ptr b.Z, .int .i64 4294977024] w (SkPost sp2 w b r L) := by
  go_enter Tryd.func15, Tryd.ntmps15
  go_wp2_with fail
  refine (next_calls H hcr).mono ?_
  rintro e w' ⟨rfl, hc, hs⟩
  have HC := Lib.hid hc
  have HS := Lib.hid hs
  have HCR := Lib.hid hcr
  clear hc hs hcr
  simp only []
  go_wp2_with fail
  go_loopg [5] r.length (fun k s5 wr => SkRel sp2 w b r L k s5 wr)
  case atStart => exact ⟨r, L, rfl, HC.out, HS.out, rfl, rfl, rfl, HCR.out⟩
  case round =>
    obtain ⟨r', L', rfl, hc, hs, hdr, hn, hk, hcr⟩ := hrel
    have HC1 := Lib.hid hc
    have HS1 := Lib.hid hs
    have HD := Lib.hid hdr
    have HN := Lib.hid hn
    have HK := Lib.hid hk
    have HCR1 := Lib.hid hcr
    have hm := mask2 r'
    clear hc hs hdr hn hk hcr HC HS HCR H
    cases hv : hdIs sp2 r' with
    | false =>
      rw [hv] at hm
      have HV := Lib.hid hv
      clear hv
      go_wp2_with fail
      go_ret
      exact SkRel.done HV.out HC1.out HS1.out HD.out HN.out
    | true =>
      rw [hv] at hm
      cases r' with
      | nil => simp [hdIs] at hv
      | cons c t =>
        have HV := Lib.hid hv
        clear hv
        go_wp2_with fail
        refine (next_calls HS1 HCR1.out.tail).mono ?_
        rintro e w2 ⟨rfl, hc2, hs2⟩
        have HC2 := Lib.hid (HC1.out.trans hc2)
        have HS2 := Lib.hid hs2
        clear hc2 hs2
        simp only [tl1]
        go_wp2_with fail
        go_roundg (gk - 1)
        case rel =>
          refine ⟨t, ln1 (c :: t) L', rfl, HC2.out, HS2.out, ?_, ?_, ?_, HCR1.out.tail⟩
          · rw [← HD.out, List.dropWhile_cons, if_pos (show sp2 c = true from HV.out)]
          · rw [← HN.out]
            exact ln1_nl (c :: t) L' (by simp)
          · have := HK.out
            simp only [List.length_cons] at this
            omega
        case measure =>
          have := HK.out
          simp only [List.length_cons] at this
          omega

end Go.Proofs.YtbgjjbffpckimaaDoor
