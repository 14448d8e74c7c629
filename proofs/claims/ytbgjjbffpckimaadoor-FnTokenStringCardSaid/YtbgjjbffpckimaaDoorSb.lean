/-
  THE SCANNER WITH A BUFFER ABOVE IT: writeChar, scanIdent, scanDecimal.
-/
import Derived.Test.YtbgjjbffpckimaaDoorSpc
import Derived.Test.YtbgjjbffpckimaaDoorShf
namespace Go.Proofs.YtbgjjbffpckimaaDoor
set_option linter.all false
open Go.RowKit

theorem buf_keep {T : Nat → Prop} {w w' : World} {b : Nat} {bs : List Value} (h : Lib.IsBuffer 62 5 b b bs w) (hc : Ch T w w') (hT : ∀ k, b ≤ k → ¬ T k) : Lib.IsBuffer 62 5 b b bs w' := by
  have hl := h.lt
  obtain ⟨h0, v, lr, h1, h2, h3⟩ := h
  refine ⟨h0, v, lr, (hc.block b hl (hT b (Nat.le_refl _))).trans h1, hc.owns h2 (fun k hk => ?_), h3⟩
  rcases h2.2 with hz | ⟨g, cap, cur, rfl, hb, _⟩
  · rw [hz.1] at hk; simp [Value.ownBlock] at hk
  · simp [Value.ownBlock] at hk
    subst hk
    exact hT g hb

/-- A scanner and a buffer g above it that holds l. -/
structure Sb (w : World) (b : Bl) (r : Bs) (L : Int) (g : Nat) (l : Bs) : Prop where
  rd : Rd w b r L
  bf : Lib.IsBuffer 62 5 g g (Lib.byteCells l) w
  up : ∀ k, Tr b k → k < g
  u2 : 2 < g
def Ub (b : Bl) (g k : Nat) : Prop := Tr b k ∨ g ≤ k

section
variable {w w' : World} {b : Bl} {r r' : Bs} {L L' : Int} {g : Nat} {l : Bs}
theorem Sb.keep {T : Nat → Prop} (h : Sb w b r L g l) (hc : Ch T w w') (hT : ∀ k, Ub b g k → ¬ T k) (h2 : ¬ T 2) : Sb w' b r L g l :=
  ⟨h.rd.keep hc (fun k hk => hT k (.inl hk)) h2, buf_keep h.bf hc (fun k hk => hT k (.inr hk)), h.up, h.u2⟩
theorem Sb.moved (h : Sb w b r L g l) (hc : Ch (fun _ => False) w w') : Sb w' b r L g l := h.keep hc (fun _ _ => id) id
theorem Sb.step (h : Sb w b r L g l) (hc : Ch (Tr b) w w') (hr : Rd w' b r' L') : Sb w' b r' L' g l :=
  ⟨hr, buf_keep h.bf hc (fun k hk ht => by have := h.up k ht; omega), h.up, h.u2⟩
theorem ub_tr (h : Ch (Tr b) w w') : Ch (Ub b g) w w' := h.mono fun _ _ h => .inl h
theorem Sb.write {l' : Bs} (h : Sb w b r L g l) (hb : Below g w w') (hl : Lib.IsBuffer 62 5 g g (Lib.byteCells l') w') : Sb w' b r L g l' ∧ Ch (Ub b g) w w' := by
  have hc : Ch (fun k => g ≤ k) w w' := Ch.of_below hb fun _ h _ => h
  have h2 := h.u2
  exact ⟨⟨h.rd.keep hc (fun k hk e => by have := h.up k hk; omega) (by omega), hl, h.up, h.u2⟩, hc.mono fun _ _ h => .inr h⟩
end

/-- The steps of a scanner with a buffer. -/
theorem sb_peek {w : World} {b : Bl} {r : Bs} {L : Int} {g : Nat} {l : Bs} (H : Hid (Sb w b r L g l)) :
    Calls Tryd.prog 21 #[ptr b.Z] w fun e w' => e = .returned (.int .i64 (hd r)) ∧ Sb w' b r L g l ∧ Ch (Ub b g) w w' := by
  refine (peek_calls (Lib.hid H.out.rd)).mono ?_
  rintro e w' ⟨rfl, hc, hs⟩
  exact ⟨rfl, H.out.step hc hs, ub_tr hc⟩
theorem sb_next {w : World} {b : Bl} {r : Bs} {L : Int} {g : Nat} {l : Bs} (H : Hid (Sb w b r L g l)) (h13 : NoCr r) :
    Calls Tryd.prog 23 #[ptr b.Z] w fun e w' => e = .returned (.int .i64 (hd r)) ∧ Sb w' b (tl1 r) (ln1 r L) g l ∧ Ch (Ub b g) w w' := by
  refine (next_calls (Lib.hid H.out.rd) h13).mono ?_
  rintro e w' ⟨rfl, hc, hs⟩
  exact ⟨rfl, H.out.step hc hs, ub_tr hc⟩

set_option maxRecDepth 100000 in
set_option maxHeartbeats 4000000 in
theorem sb_write {w : World} {b : Bl} {r : Bs} {L : Int} {g : Nat} {l : Bs} {c : UInt8} (H : Hid (Sb w b r L g l)) (hl : l.length < 100000) :
    Calls Tryd.prog 27 #[ptr g, .int .i64 (c.toNat : Int)] w fun e w' => e = .returned (.tuple #[]) ∧ Sb w' b r L g (l ++ [c]) ∧ Ch (Ub b g) w w' := by
  have hw : IntKind.u8.wrap (c.toNat : Int) = (c.toNat : Int) := by rw [IntKind.wrap_u8]; have := c.toNat_lt; omega
  have hlen : (Lib.byteCells l).length = l.length := by simp [Lib.byteCells]
  go_enter Tryd.func27, Tryd.ntmps27
  go_wp2_with fail
  refine (Buffer_WriteByte g g (Lib.byteCells l) (c.toNat : Int) w H.out.bf (Nat.le_of_lt H.out.bf.lt) (Lib.byteCells_one _) (by omega)).mono ?_
  rintro e w' ⟨rfl, h1, h2⟩
  have H1 := Lib.hid h1
  have H2 := Lib.hid h2
  clear h1 h2
  simp only []
  go_wp2_with fail
  refine bodyPost_end (results_none rfl _ _ _) rfl ?_
  refine ⟨rfl, H.out.write H2.out ?_⟩
  have e : Lib.byteCells (l ++ [c]) = Lib.byteCells l ++ [.int .u8 (c.toNat : Int)] := by simp [Lib.byteCells]
  rw [e]
  exact H1.out

/-- A run of bytes of a class goes into the buffer. -/
def RunRel (p : UInt8 → Bool) (w : World) (b : Bl) (r : Bs) (L : Int) (g : Nat) (l : Bs) (k : Nat) (wr : World) : Prop :=
  ∃ a r', r = a ++ r' ∧ (∀ c ∈ a, p c = true) ∧ Sb wr b r' L g (l ++ a) ∧ Ch (Ub b g) w wr ∧ k = r'.length
def RunPost (p : UInt8 → Bool) (w : World) (b : Bl) (r : Bs) (L : Int) (g : Nat) (l : Bs) (e : Ending) (w' : World) : Prop :=
  e = .returned .nilIface ∧ Sb w' b (r.dropWhile p) L g (l ++ r.takeWhile p) ∧ Ch (Ub b g) w w'
theorem take_all {p : UInt8 → Bool} {a r' : Bs} (ha : ∀ c ∈ a, p c = true) (hr : hdIs p r' = false) : (a ++ r').takeWhile p = a ∧ (a ++ r').dropWhile p = r' := by
  induction a with
  | nil =>
    cases r' with
    | nil => exact ⟨rfl, rfl⟩
    | cons c t =>
      have h : p c = false := hr
      simp [List.takeWhile_cons, List.dropWhile_cons, h]
  | cons c t ih =>
    have h := ih fun x hx => ha x (by simp [hx])
    have hc := ha c (by simp)
    simp [List.takeWhile_cons, List.dropWhile_cons, hc, h.1, h.2]
theorem RunRel.done {p : UInt8 → Bool} {w wr : World} {b : Bl} {r a r' : Bs} {L : Int} {g : Nat} {l : Bs} (hr : r = a ++ r') (ha : ∀ c ∈ a, p c = true) (hp : hdIs p r' = false) (hs : Sb wr b r' L g (l ++ a)) (hc : Ch (Ub b g) w wr) : RunPost p w b r L g l (.returned .nilIface) wr := by
  obtain ⟨h1, h2⟩ := take_all ha hp
  subst hr
  unfold RunPost
  rw [h1, h2]
  exact ⟨rfl, hs, hc⟩
theorem run_more {a : Bs} {c : UInt8} {p : UInt8 → Bool} (ha : ∀ c ∈ a, p c = true) (hc : p c = true) : ∀ x ∈ a ++ [c], p x = true := by
  intro x hx
  rcases List.mem_append.1 hx with h | h
  · exact ha x h
  · rw [List.mem_singleton.1 h]; exact hc
theorem NoCr.app {a r : Bs} (h : NoCr (a ++ r)) : NoCr r := fun x hx => h x (List.mem_append_right _ hx)
theorem NoCr.tl1 {r : Bs} (h : NoCr r) : NoCr (YtbgjjbffpckimaaDoor.tl1 r) := by
  cases r with
  | nil => exact h
  | cons c t => exact h.tail
theorem NoCr.drop {p : UInt8 → Bool} {r : Bs} (h : NoCr r) : NoCr (r.dropWhile p) := fun x hx => h x ((List.dropWhile_sublist p).mem hx)
theorem ln1_of {r : Bs} {L : Int} {c : UInt8} {t : Bs} (h : r = c :: t) (h10 : c ≠ 10) : ln1 r L = L := by subst h; exact if_neg h10

set_option maxRecDepth 100000 in
set_option maxHeartbeats 4000000 in
theorem scanIdent_calls {w : World} {b : Bl} {r : Bs} {L : Int} {g : Nat} {l : Bs} {c : UInt8} (H : Hid (Sb w b r L g l)) (h13 : NoCr r) (hl : l.length + 1 + r.length < 100000) :
    Calls Tryd.prog 17 #[ptr b.Z, .int .i64 (c.toNat : Int), ptr g] w (RunPost isIdc w b r L g (l ++ [c])) := by
  have H13 := Lib.hid h13
  clear h13
  go_enter Tryd.func17, Tryd.ntmps17
  go_wp2_with fail
  refine (sb_write H (by omega)).mono ?_
  rintro e w1 ⟨rfl, hs, hc⟩
  have HS := Lib.hid hs
  have HC := Lib.hid hc
  clear hs hc
  simp only []
  go_wp2_with fail
  go_loopg [] r.length (fun k wr => RunRel isIdc w b r L g (l ++ [c]) k wr)
  case atStart => exact ⟨[], r, rfl, by simp, by rw [List.append_nil]; exact HS.out, HC.out, rfl⟩
  case round =>
    obtain ⟨a, r', hr, ha, hs, hc, hk⟩ := hrel
    have HR := Lib.hid hr
    have HA := Lib.hid ha
    have HS1 := Lib.hid hs
    have HC1 := Lib.hid hc
    have HK := Lib.hid hk
    clear hr ha hs hc hk HS HC H
    have hcr : NoCr r' := by have := H13.out; rw [HR.out] at this; exact this.app
    have HCR := Lib.hid hcr
    clear hcr
    go_wp2_with fail
    refine (sb_peek HS1).mono ?_
    rintro e w2 ⟨rfl, hs2, hc2⟩
    have HS2 := Lib.hid hs2
    have HC2 := Lib.hid (HC1.out.trans hc2)
    clear hs2 hc2 HS1 HC1
    simp only []
    go_wp2_with fail
    cases hv : hdIs isIdc r' with
    | false =>
      have HV := Lib.hid hv
      refine (isIdc_calls hv).mono ?_
      rintro e w3 ⟨rfl, rfl⟩
      clear hv
      simp only []
      go_wp2_with fail
      go_ret
      exact RunRel.done HR.out HA.out HV.out HS2.out HC2.out
    | true =>
      have HV := Lib.hid hv
      refine (isIdc_calls hv).mono ?_
      rintro e w3 ⟨rfl, rfl⟩
      cases r' with
      | nil => simp [hdIs] at hv
      | cons x t =>
        clear hv
        have hx : x ≠ 10 := by
          rintro rfl
          exact absurd (show isIdc 10 = true from HV.out) (by decide)
        have hlen : (l ++ [c] ++ a).length < 100000 := by
          have := congrArg List.length HR.out
          simp at this ⊢
          omega
        simp only []
        go_wp2_with fail
        refine (sb_next HS2 HCR.out).mono ?_
        rintro e w4 ⟨rfl, hs4, hc4⟩
        have HS4 := Lib.hid hs4
        have HC4 := Lib.hid (HC2.out.trans hc4)
        clear hs4 hc4 HS2 HC2
        simp only [hd]
        go_wp2_with fail
        refine (sb_write HS4 hlen).mono ?_
        rintro e w5 ⟨rfl, hs5, hc5⟩
        have HS5 := Lib.hid hs5
        have HC5 := Lib.hid (HC4.out.trans hc5)
        clear hs5 hc5 HS4 HC4
        simp only []
        go_wp2_with fail
        go_roundg (gk - 1)
        case rel =>
          refine ⟨a ++ [x], t, by rw [HR.out]; simp, run_more HA.out HV.out, ?_, HC5.out, ?_⟩
          · have := HS5.out
            rw [ln1_of rfl hx] at this
            simpa [tl1] using this
          · have := HK.out
            simp only [List.length_cons] at this
            omega
        case measure =>
          have := HK.out
          simp only [List.length_cons] at this
          omega

set_option maxRecDepth 100000 in
set_option maxHeartbeats 4000000 in
theorem scanDecimal_calls {w : World} {b : Bl} {r : Bs} {L : Int} {g : Nat} {l : Bs} {c : UInt8} (H : Hid (Sb w b r L g l)) (h13 : NoCr r) (hl : l.length + 1 + r.length < 100000) :
    Calls Tryd.prog 33 #[ptr b.Z, .int .i64 (c.toNat : Int), ptr g] w (RunPost isDec w b r L g (l ++ [c])) := by
  have H13 := Lib.hid h13
  clear h13
  go_enter Tryd.func33, Tryd.ntmps33
  go_wp2_with fail
  refine (sb_write H (by omega)).mono ?_
  rintro e w1 ⟨rfl, hs, hc⟩
  have HS := Lib.hid hs
  have HC := Lib.hid hc
  clear hs hc
  simp only []
  go_wp2_with fail
  go_loopg [] r.length (fun k wr => RunRel isDec w b r L g (l ++ [c]) k wr)
  case atStart => exact ⟨[], r, rfl, by simp, by rw [List.append_nil]; exact HS.out, HC.out, rfl⟩
  case round =>
    obtain ⟨a, r', hr, ha, hs, hc, hk⟩ := hrel
    have HR := Lib.hid hr
    have HA := Lib.hid ha
    have HS1 := Lib.hid hs
    have HC1 := Lib.hid hc
    have HK := Lib.hid hk
    clear hr ha hs hc hk HS HC H
    have hcr : NoCr r' := by have := H13.out; rw [HR.out] at this; exact this.app
    have HCR := Lib.hid hcr
    clear hcr
    go_wp2_with fail
    refine (sb_peek HS1).mono ?_
    rintro e w2 ⟨rfl, hs2, hc2⟩
    have HS2 := Lib.hid hs2
    have HC2 := Lib.hid (HC1.out.trans hc2)
    clear hs2 hc2 HS1 HC1
    simp only []
    go_wp2_with fail
    cases hv : hdIs isDec r' with
    | false =>
      have HV := Lib.hid hv
      refine (isDec_calls hv).mono ?_
      rintro e w3 ⟨rfl, rfl⟩
      clear hv
      simp only []
      go_wp2_with fail
      go_ret
      exact RunRel.done HR.out HA.out HV.out HS2.out HC2.out
    | true =>
      have HV := Lib.hid hv
      refine (isDec_calls hv).mono ?_
      rintro e w3 ⟨rfl, rfl⟩
      cases r' with
      | nil => simp [hdIs] at hv
      | cons x t =>
        clear hv
        have hx : x ≠ 10 := by
          rintro rfl
          exact absurd (show isDec 10 = true from HV.out) (by decide)
        have hlen : (l ++ [c] ++ a).length < 100000 := by
          have := congrArg List.length HR.out
          simp at this ⊢
          omega
        simp only []
        go_wp2_with fail
        refine (sb_next HS2 HCR.out).mono ?_
        rintro e w4 ⟨rfl, hs4, hc4⟩
        have HS4 := Lib.hid hs4
        have HC4 := Lib.hid (HC2.out.trans hc4)
        clear hs4 hc4 HS2 HC2
        simp only [hd]
        go_wp2_with fail
        refine (sb_write HS4 hlen).mono ?_
        rintro e w5 ⟨rfl, hs5, hc5⟩
        have HS5 := Lib.hid hs5
        have HC5 := Lib.hid (HC4.out.trans hc5)
        clear hs5 hc5 HS4 HC4
        simp only []
        go_wp2_with fail
        go_roundg (gk - 1)
        case rel =>
          refine ⟨a ++ [x], t, by rw [HR.out]; simp, run_more HA.out HV.out, ?_, HC5.out, ?_⟩
          · have := HS5.out
            rw [ln1_of rfl hx] at this
            simpa [tl1] using this
          · have := HK.out
            simp only [List.length_cons] at this
            omega
        case measure =>
          have := HK.out
          simp only [List.length_cons] at this
          omega

end Go.Proofs.YtbgjjbffpckimaaDoor
