/-
  The tokens of a text: the tokens are those of the manual.
-/
import Derived.Test.YtbgjjbffpckimaaGreatDoorQm
namespace Go.Proofs.YtbgjjbffpckimaaGreatDoor
set_option linter.all false

theorem pl_span {p : UInt8 → Bool} {z : Bs} (hz : hdIs p z = false) : ∀ {A : Bs}, (∀ c ∈ A, p c = true) → (A ++ z).takeWhile p = A ∧ (A ++ z).dropWhile p = z
  | [], _ => by
    cases z with
    | nil => exact ⟨rfl, rfl⟩
    | cons c t =>
      have hc : p c = false := hz
      simp [List.takeWhile_cons, List.dropWhile_cons, hc]
  | a :: A, h => by
    have ha := h a (by simp)
    have ih := pl_span hz (A := A) fun c hc => h c (by simp [hc])
    simp [List.takeWhile_cons, List.dropWhile_cons, ha, ih.1, ih.2]
theorem pl_tw {p : UInt8 → Bool} {z : Bs} (hz : hdIs p z = false) : ∀ r : Bs, (r ++ z).takeWhile p = r.takeWhile p ∧ (r ++ z).dropWhile p = r.dropWhile p ++ z
  | [] => by
    cases z with
    | nil => exact ⟨rfl, rfl⟩
    | cons c t =>
      have hc : p c = false := hz
      simp [List.takeWhile_cons, List.dropWhile_cons, hc]
  | a :: r => by
    have ih := pl_tw hz r
    cases ha : p a
    · simp [List.takeWhile_cons, List.dropWhile_cons, ha]
    · simp [List.takeWhile_cons, List.dropWhile_cons, ha, ih.1, ih.2]
theorem pl_not {p : UInt8 → Bool} (r : Bs) : hdIs p (r.dropWhile p) = false := by
  induction r with
  | nil => rfl
  | cons c t ih =>
    rw [List.dropWhile_cons]
    cases hc : p c
    · rw [if_neg (by decide)]; exact hc
    · rw [if_pos rfl]; exact ih
/-- What may stand behind a numeral. -/
theorem numEnd_hd {z : Bs} (h : numEnd z = true) : hdIs isDec z = false ∧ hdIs isLet z = false ∧ hdIs isHex z = false ∧ (∀ c, isDec c = true ∨ isLet c = true ∨ c = 46 → z.head? ≠ some c) := by
  cases z with
  | nil => exact ⟨rfl, rfl, rfl, fun c _ => by simp⟩
  | cons c t =>
    have hc : (!(isDec c || isLet c || c == 46)) = true := h
    simp only [Bool.not_eq_true', Bool.or_eq_false_iff] at hc
    refine ⟨hc.1.1, hc.1.2, ?_, fun d hd e => ?_⟩
    · show isHex c = false
      cases hx : isHex c
      · rfl
      · unfold isHex at hx
        simp only [Bool.or_eq_true, Bool.and_eq_true, decide_eq_true_eq] at hx
        rcases hx with (hx | hx) | hx
        · rw [hc.1.1] at hx; cases hx
        · have : isLet c = true := by unfold isLet; simp; omega
          rw [hc.1.2] at this; cases this
        · have : isLet c = true := by unfold isLet; simp; omega
          rw [hc.1.2] at this; cases this
    · simp at e
      subst e
      rcases hd with hd | hd | hd
      · rw [hc.1.1] at hd; cases hd
      · rw [hc.1.2] at hd; cases hd
      · rw [hd] at hc; exact absurd hc.2 (by decide)
theorem ptB_t {q : Bs} (h : hasDot q = true) : ptB q = ((ptR1 q).drop 1).takeWhile isDec := by unfold ptB; rw [h]; rfl
theorem ptR2_t {q : Bs} (h : hasDot q = true) : ptR2 q = ((ptR1 q).drop 1).dropWhile isDec := by unfold ptR2; rw [h]; rfl
theorem ptP_t {q : Bs} (h : hasE q = true) : ptP q = (ptR4 q).takeWhile isDec := by unfold ptP; rw [h]; rfl
theorem ptR5_t {q : Bs} (h : hasE q = true) : ptR5 q = (ptR4 q).dropWhile isDec := by unfold ptR5; rw [h]; rfl
/-- The whole part and the fraction. -/
theorem dec_front (r : Bs) : ∃ pre, r = pre ++ ptR2 r ∧ ∀ w : Bs, hdIs isDec w = false → w.head? ≠ some 46 → ptA (pre ++ w) = ptA r ∧ hasDot (pre ++ w) = hasDot r ∧ ptB (pre ++ w) = ptB r ∧ ptR2 (pre ++ w) = w := by
  have hA : ∀ c ∈ ptA r, isDec c = true := mem_takeW
  have hr : r = ptA r ++ ptR1 r := (List.takeWhile_append_dropWhile).symm
  cases hd : hasDot r with
  | false =>
    have h2 : ptR2 r = ptR1 r := by unfold ptR2; rw [hd]; rfl
    have hb : ptB r = [] := by unfold ptB; rw [hd]; rfl
    refine ⟨ptA r, by rw [h2]; exact hr, fun w hw h46 => ?_⟩
    have hs := pl_span hw hA
    have e1 : ptA (ptA r ++ w) = ptA r := hs.1
    have e2 : ptR1 (ptA r ++ w) = w := hs.2
    have e3 : hasDot (ptA r ++ w) = false := by
      unfold hasDot
      rw [e2]
      cases hq : (w.head? == some 46)
      · rfl
      · exact absurd (eq_of_beq hq) h46
    refine ⟨e1, e3, ?_, ?_⟩
    · rw [hb]; unfold ptB; rw [e3]; rfl
    · unfold ptR2; rw [e3]; exact e2
  | true =>
    have h0 : (ptR1 r).head? = some 46 := by
      unfold hasDot at hd
      exact eq_of_beq hd
    obtain ⟨v, hv⟩ : ∃ v, ptR1 r = 46 :: v := by
      cases hq : ptR1 r with
      | nil => rw [hq] at h0; cases h0
      | cons c v => rw [hq] at h0; simp at h0; exact ⟨v, by rw [h0]⟩
    have h2 : ptR2 r = v.dropWhile isDec := by unfold ptR2; rw [hd, hv]; rfl
    have hb : ptB r = v.takeWhile isDec := by unfold ptB; rw [hd, hv]; rfl
    refine ⟨ptA r ++ 46 :: ptB r, ?_, fun w hw h46 => ?_⟩
    · rw [h2, hb, List.append_assoc, List.cons_append, List.takeWhile_append_dropWhile, ← hv]
      exact hr
    have hB : ∀ c ∈ ptB r, isDec c = true := by rw [hb]; exact mem_takeW
    have hs := pl_span (p := isDec) (z := 46 :: (ptB r ++ w)) rfl hA
    have hs2 := pl_span hw hB
    have ea : ptA r ++ 46 :: ptB r ++ w = ptA r ++ 46 :: (ptB r ++ w) := by simp
    rw [ea]
    have e1 : ptA (ptA r ++ 46 :: (ptB r ++ w)) = ptA r := hs.1
    have e2 : ptR1 (ptA r ++ 46 :: (ptB r ++ w)) = 46 :: (ptB r ++ w) := hs.2
    have e3 : hasDot (ptA r ++ 46 :: (ptB r ++ w)) = true := by unfold hasDot; rw [e2]; rfl
    refine ⟨e1, e3, ?_, ?_⟩
    · rw [ptB_t e3, e2]; exact hs2.1
    · rw [ptR2_t e3, e2]; exact hs2.2
/-- A decimal numeral reads the same ahead of whatever ends it. -/
theorem decP_loc {r x r' : Bs} (h : decP r = .ok x r') : ∃ a, r = a ++ r' ∧ ∀ z, numEnd z = true → decP (a ++ z) = .ok x z := by
  unfold decP at h
  by_cases hok : decOk r
  rotate_left
  · rw [if_neg hok] at h; cases h
  rw [if_pos hok] at h
  cases hn : numeral (runv (runv 0 (ptA r)) (ptB r)) (expo r) with
  | none => rw [hn] at h; cases h
  | some y =>
    rw [hn] at h
    injection h with hx hr'
    subst hx
    subst hr'
    obtain ⟨pre, hpre, hfr⟩ := dec_front r
    have fin : ∀ q z : Bs, ptA q = ptA r → hasDot q = hasDot r → ptB q = ptB r → hasE q = hasE r → ptP q = ptP r → expo q = expo r → ptR5 q = z → decP q = .ok y z := by
      intro q z e1 e2 e3 e4 e5 e6 e7
      have hq : decOk q := by
        unfold decOk
        rw [e1, e2, e3, e4, e5]
        exact hok
      unfold decP
      rw [if_pos hq, e1, e3, e6, hn, e7]
    cases he : hasE r with
    | false =>
      have hP : ptP r = [] := by unfold ptP; rw [he]; rfl
      have h5 : ptR5 r = ptR2 r := by unfold ptR5; rw [he]; rfl
      refine ⟨pre, by rw [h5]; exact hpre, fun z hz => ?_⟩
      have hz2 := numEnd_hd hz
      obtain ⟨e1, e2, e3, e4⟩ := hfr z hz2.1 (hz2.2.2.2 46 (.inr (.inr rfl)))
      have e5 : hasE (pre ++ z) = false := by
        unfold hasE
        rw [e4, Bool.or_eq_false_iff]
        refine ⟨?_, ?_⟩
        · cases hq : (z.head? == some 101)
          · rfl
          · exact absurd (eq_of_beq hq) (hz2.2.2.2 101 (.inr (.inl (by decide))))
        · cases hq : (z.head? == some 69)
          · rfl
          · exact absurd (eq_of_beq hq) (hz2.2.2.2 69 (.inr (.inl (by decide))))
      have e6 : ptP (pre ++ z) = [] := by unfold ptP; rw [e5]; rfl
      refine fin _ z e1 e2 e3 (e5.trans he.symm) (e6.trans hP.symm) ?_ (by unfold ptR5; rw [e5]; exact e4)
      unfold expo
      rw [e6, hP, e3]
      simp [runv]
    | true =>
      obtain ⟨c, t, hct⟩ : ∃ c t, ptR2 r = c :: t := by
        cases hq : ptR2 r with
        | nil => unfold hasE at he; rw [hq] at he; cases he
        | cons c t => exact ⟨c, t, rfl⟩
      have hce : c = 101 ∨ c = 69 := by
        unfold hasE at he
        rw [hct] at he
        simpa using he
      have hcd : isDec c = false := by rcases hce with rfl | rfl <;> decide
      have hc46 : c ≠ 46 := by rcases hce with rfl | rfl <;> decide
      have hP0 : 1 ≤ (ptP r).length := (hok.2.2.1 he).1
      have hP : ptP r = (ptR4 r).takeWhile isDec := by unfold ptP; rw [he]; rfl
      have h5 : ptR5 r = (ptR4 r).dropWhile isDec := by unfold ptR5; rw [he]; rfl
      have h45 : ptR4 r = ptP r ++ ptR5 r := by rw [hP, h5]; exact (List.takeWhile_append_dropWhile).symm
      have hPd : ∀ c ∈ ptP r, isDec c = true := by rw [hP]; exact mem_takeW
      cases hs : hasS r with
      | true =>
        obtain ⟨g, t2, rfl⟩ : ∃ g t2, t = g :: t2 := by
          cases t with
          | nil => unfold hasS at hs; rw [hct] at hs; cases hs
          | cons g t2 => exact ⟨g, t2, rfl⟩
        have h4 : ptR4 r = t2 := by unfold ptR4; rw [hs, hct]; rfl
        refine ⟨pre ++ c :: g :: ptP r, ?_, fun z hz => ?_⟩
        · rw [List.append_assoc, List.cons_append, List.cons_append, ← h45, h4, ← hct]; exact hpre
        have hz2 := numEnd_hd hz
        have ea : pre ++ c :: g :: ptP r ++ z = pre ++ (c :: g :: (ptP r ++ z)) := by simp
        rw [ea]
        obtain ⟨e1, e2, e3, e4⟩ := hfr (c :: g :: (ptP r ++ z)) hcd (by simp [hc46])
        have e5 : hasE (pre ++ (c :: g :: (ptP r ++ z))) = true := by unfold hasE; rw [e4]; simpa using hce
        have e6 : hasS (pre ++ (c :: g :: (ptP r ++ z))) = true := by
          unfold hasS at hs ⊢
          rw [hct] at hs
          rw [e4]
          simpa using hs
        have e7 : isNeg (pre ++ (c :: g :: (ptP r ++ z))) = isNeg r := by
          unfold isNeg
          rw [e4, hct]
          rfl
        have e8 : ptR4 (pre ++ (c :: g :: (ptP r ++ z))) = ptP r ++ z := by unfold ptR4; rw [e6, e4]; rfl
        have hsp := pl_span hz2.1 hPd
        have e9 : ptP (pre ++ (c :: g :: (ptP r ++ z))) = ptP r := by rw [ptP_t e5, e8]; exact hsp.1
        have e10 : ptR5 (pre ++ (c :: g :: (ptP r ++ z))) = z := by rw [ptR5_t e5, e8]; exact hsp.2
        exact fin _ z e1 e2 e3 (e5.trans he.symm) e9 (by unfold expo; rw [e7, e9, e3]) e10
      | false =>
        have h4 : ptR4 r = t := by unfold ptR4; rw [hs, hct]; rfl
        obtain ⟨g, P2, hgP⟩ : ∃ g P2, ptP r = g :: P2 := by
          cases hq : ptP r with
          | nil => rw [hq] at hP0; exact absurd hP0 (by decide)
          | cons g P2 => exact ⟨g, P2, rfl⟩
        have hgt : t = g :: (P2 ++ ptR5 r) := by rw [← h4, h45, hgP]; rfl
        refine ⟨pre ++ c :: ptP r, ?_, fun z hz => ?_⟩
        · rw [List.append_assoc, List.cons_append, ← h45, h4, ← hct]; exact hpre
        have hz2 := numEnd_hd hz
        have ea : pre ++ c :: ptP r ++ z = pre ++ (c :: (ptP r ++ z)) := by simp
        rw [ea]
        obtain ⟨e1, e2, e3, e4⟩ := hfr (c :: (ptP r ++ z)) hcd (by simp [hc46])
        have e5 : hasE (pre ++ (c :: (ptP r ++ z))) = true := by unfold hasE; rw [e4]; simpa using hce
        have e6 : hasS (pre ++ (c :: (ptP r ++ z))) = false := by
          unfold hasS at hs ⊢
          rw [hct, hgt] at hs
          rw [e4, hgP]
          simpa using hs
        have e7 : isNeg (pre ++ (c :: (ptP r ++ z))) = isNeg r := by
          unfold isNeg
          rw [e4, hct, hgt, hgP]
          rfl
        have e8 : ptR4 (pre ++ (c :: (ptP r ++ z))) = ptP r ++ z := by unfold ptR4; rw [e6, e4]; rfl
        have hsp := pl_span hz2.1 hPd
        have e9 : ptP (pre ++ (c :: (ptP r ++ z))) = ptP r := by rw [ptP_t e5, e8]; exact hsp.1
        have e10 : ptR5 (pre ++ (c :: (ptP r ++ z))) = z := by rw [ptR5_t e5, e8]; exact hsp.2
        exact fin _ z e1 e2 e3 (e5.trans he.symm) e9 (by unfold expo; rw [e7, e9, e3]) e10
theorem take2_end {a z : Bs} {d : UInt8} (hd : isLet d = true) (hz : numEnd z = true) (h : a.take 2 ≠ [48, d] ∨ a.length < 2) (h2 : (a ++ z).take 2 = [48, d]) : False := by
  have hz2 := numEnd_hd hz
  match a, h, h2 with
  | [], _, h2 =>
    cases z with
    | nil => cases h2
    | cons c t =>
      simp at h2
      exact hz2.2.2.2 48 (.inl (by decide)) (by rw [h2.1]; rfl)
  | [c], _, h2 =>
    cases z with
    | nil => simp at h2
    | cons g t =>
      simp at h2
      exact hz2.2.2.2 d (.inr (.inl hd)) (by rw [h2.2]; rfl)
  | c :: g :: t, h, h2 =>
    rcases h with h | h
    · exact h (by simpa using h2)
    · simp only [List.length_cons] at h
      omega
/-- A numeral reads the same ahead of whatever ends it. -/
theorem numP_loc {r x r' : Bs} (h : numP r = .ok x r') : numEnd r' = true ∧ ∃ a, r = a ++ r' ∧ ∀ z, numEnd z = true → numP (a ++ z) = .ok x z := by
  rw [numP_eq] at h
  cases hq : numQ r with
  | no k => rw [hq] at h; cases h
  | ok y r2 =>
    rw [hq] at h
    dsimp only at h
    by_cases hne : numEnd r2 = true
    rotate_left
    · rw [if_neg hne] at h; cases h
    rw [if_pos hne] at h
    injection h with hx hr
    subst hx
    subst hr
    refine ⟨hne, ?_⟩
    unfold numQ at hq
    by_cases h1 : r.take 2 = [48, 120]
    · rw [if_pos h1] at hq
      unfold hexP at hq
      by_cases hg : 1 ≤ ((r.drop 2).takeWhile isHex).length ∧ ((r.drop 2).takeWhile isHex).length ≤ 12
      rotate_left
      · rw [if_neg hg] at hq; cases hq
      rw [if_pos hg] at hq
      injection hq with hq1 hq2
      refine ⟨[48, 120] ++ (r.drop 2).takeWhile isHex, ?_, fun z hz => ?_⟩
      · rw [← hq2, List.append_assoc, List.takeWhile_append_dropWhile, ← h1, List.take_append_drop]
      · have hz2 := numEnd_hd hz
        have hsp := pl_span hz2.2.2.1 (A := (r.drop 2).takeWhile isHex) mem_takeW
        rw [numP_eq]
        have e : numQ ([48, 120] ++ (r.drop 2).takeWhile isHex ++ z) = .ok y z := by
          unfold numQ
          rw [if_pos (by simp)]
          have ed : ([48, 120] ++ (r.drop 2).takeWhile isHex ++ z).drop 2 = (r.drop 2).takeWhile isHex ++ z := rfl
          rw [ed]
          unfold hexP
          rw [hsp.1, hsp.2, if_pos hg, hq1]
        rw [e]
        dsimp only
        rw [if_pos hz]
    · rw [if_neg h1] at hq
      by_cases h2 : r.take 2 = [48, 88]
      · rw [if_pos h2] at hq; cases hq
      · rw [if_neg h2] at hq
        obtain ⟨a, ha, hloc⟩ := decP_loc hq
        refine ⟨a, ha, fun z hz => ?_⟩
        have hcond : ∀ d : UInt8, r.take 2 ≠ [48, d] → a.take 2 ≠ [48, d] ∨ a.length < 2 := fun d hd => by
          by_cases hl : a.length < 2
          · exact .inr hl
          · refine .inl fun e => hd ?_
            rw [ha, List.take_append_of_le_length (by omega), e]
        rw [numP_eq]
        have e : numQ (a ++ z) = .ok y z := by
          unfold numQ
          rw [if_neg (fun e => take2_end (by decide) hz (hcond _ h1) e), if_neg (fun e => take2_end (by decide) hz (hcond _ h2) e)]
          exact hloc z hz
        rw [e]
        dsimp only
        rw [if_pos hz]
end Go.Proofs.YtbgjjbffpckimaaGreatDoor

namespace Go.Proofs.YtbgjjbffpckimaaGreatDoor
set_option linter.all false

section
variable {b : Bs}
theorem head_app {X : Bs} {s : UInt8} (hs : s ≠ 10) : (X ++ 10 :: b).head? = some s ↔ X.head? = some s := by
  cases X with
  | nil => simp; exact fun h => hs h.symm
  | cons c t => simp
theorem brk_loc {s : UInt8} (hs : s ≠ 10) (r : Bs) : brk s (r ++ 10 :: b) = brk s r := by
  cases r with
  | nil =>
    show brk s (10 :: b) = none
    simp only [brk]
    rw [if_neg (fun h => hs h.1.symm)]
  | cons c t =>
    show brk s (c :: (t ++ 10 :: b)) = brk s (c :: t)
    simp only [brk]
    have h := pl_tw (p := (· == 61)) (z := 10 :: b) rfl t
    have he : eqs (t ++ 10 :: b) = eqs t := by unfold eqs; rw [h.1]
    rw [h.2, he]
    simp only [head_app hs]
theorem longB_loc {k : Nat} : ∀ {r x r' : Bs}, longB k r = .ok x r' → longB k (r ++ 10 :: b) = .ok x (r' ++ 10 :: b)
  | [], x, r', h => by cases h
  | c :: t, x, r', h => by
    have hb := brk_loc (b := b) (s := 93) (by decide) (c :: t)
    rw [List.cons_append] at hb ⊢
    rw [longB] at h ⊢
    rw [hb]
    simp only [head_app (show (91 : UInt8) ≠ 10 by decide)]
    by_cases h1 : brk 93 (c :: t) = some k
    · rw [if_pos h1] at h ⊢
      injection h with h2 h3
      have hl := brk_len h1
      rw [List.length_cons] at hl
      rw [← h2, ← h3, List.drop_append_of_le_length (by omega)]
    · rw [if_neg h1] at h ⊢
      by_cases h2 : k = 0 ∧ c = 91 ∧ t.head? = some 91
      · rw [if_pos h2] at h; cases h
      · rw [if_neg h2] at h ⊢
        cases hq : longB k t with
        | no kk => rw [hq] at h; cases h
        | ok y r2 =>
          rw [hq] at h
          injection h with h3 h4
          rw [longB_loc hq, ← h3, ← h4]
          rfl
theorem dig3_loc : ∀ (k v : Nat) (r : Bs), dig3 k v (r ++ 10 :: b) = ((dig3 k v r).1, (dig3 k v r).2 ++ 10 :: b)
  | 0, _, _ => rfl
  | k + 1, v, [] => by
    show dig3 (k + 1) v (10 :: b) = (v, 10 :: b)
    rw [dig3, if_neg (by decide)]
  | k + 1, v, c :: t => by
    rw [List.cons_append, dig3, dig3]
    cases hc : isDec c
    · rw [if_neg (by decide), if_neg (by decide)]; rfl
    · rw [if_pos rfl, if_pos rfl]; exact dig3_loc k _ t
theorem strB_loc {q : UInt8} (hq10 : q ≠ 10) (hq92 : q ≠ 92) (n : Nat) : ∀ {r x r' : Bs}, r.length ≤ n → strB q r = .ok x r' → strB q (r ++ 10 :: b) = .ok x (r' ++ 10 :: b) := by
  induction n with
  | zero =>
    intro r x r' hl h
    obtain rfl : r = [] := List.length_eq_zero_iff.1 (by omega)
    rw [strB_nil] at h
    cases h
  | succ n ih =>
    intro r x r' hl h
    have mp : ∀ {t : Bs} {f : Bs → Bs}, t.length ≤ n → (strB q t).map f = .ok x r' → (strB q (t ++ 10 :: b)).map f = .ok x (r' ++ 10 :: b) := by
      intro t f ht he
      cases hs : strB q t with
      | no k => rw [hs] at he; cases he
      | ok y r2 =>
        rw [hs] at he
        injection he with h1 h2
        rw [ih ht hs, ← h1, ← h2]
        rfl
    cases r with
    | nil => rw [strB_nil] at h; cases h
    | cons c t =>
      rw [List.length_cons] at hl
      rw [List.cons_append]
      by_cases h1 : c = 10
      · rw [h1, strB_10] at h; cases h
      by_cases h2 : c = q
      · rw [h2] at h ⊢
        rw [strB_q _ _ hq10] at h ⊢
        injection h with h3 h4
        rw [← h3, ← h4]
      by_cases h3 : c = 92
      · subst h3
        cases t with
        | nil => rw [strB_bs _ hq92] at h; cases h
        | cons d u =>
          rw [List.length_cons] at hl
          rw [List.cons_append]
          cases hd : isDec d with
          | true =>
            rw [strB_dig _ _ _ hq92 hd] at h ⊢
            have hdl := dig3_loc (b := b) 3 0 (d :: u)
            rw [List.cons_append] at hdl
            rw [hdl]
            by_cases h255 : (dig3 3 0 (d :: u)).1 ≤ 255
            · rw [if_pos h255] at h ⊢
              exact mp (by have := dig3_lt 0 d u hd; omega) h
            · rw [if_neg h255] at h; cases h
          | false =>
            cases he : esc d with
            | some y =>
              rw [strB_esc _ _ _ _ hq92 hd he] at h ⊢
              exact mp (by omega) h
            | none => rw [strB_none _ _ _ hq92 hd he] at h; cases h
      · rw [strB_chr _ _ _ h1 h2 h3] at h ⊢
        exact mp (by omega) h
theorem pre_loc {s : Bs} (hs : (10 : UInt8) ∉ s) : ∀ r : Bs, s.isPrefixOf (r ++ 10 :: b) = s.isPrefixOf r := by
  induction s with
  | nil => intro r; cases r <;> rfl
  | cons c s ih =>
    intro r
    have hc : c ≠ 10 := fun e => hs (by rw [e]; simp)
    have hs' : (10 : UInt8) ∉ s := fun h => hs (by simp [h])
    cases r with
    | nil =>
      show (c == 10 && s.isPrefixOf b) = false
      have : (c == 10) = false := by simpa using hc
      rw [this]
      rfl
    | cons d t =>
      show (c == d && s.isPrefixOf (t ++ 10 :: b)) = (c == d && s.isPrefixOf t)
      rw [ih hs']
theorem sgns_10 : ∀ s ∈ sgns, (10 : UInt8) ∉ s := by decide
theorem signT_loc {r r' : Bs} {t : Tok} (h : signT r = .ok t r') : signT (r ++ 10 :: b) = .ok t (r' ++ 10 :: b) ∧ t.raw = t.text ∧ t.kind = 3 ∧ ∃ p, r = p ++ r' := by
  have hf : sgns.find? (fun s => s.isPrefixOf (r ++ 10 :: b)) = sgns.find? (fun s => s.isPrefixOf r) := by
    have : ∀ (l : List Bs), (∀ s ∈ l, (10 : UInt8) ∉ s) → l.find? (fun s => s.isPrefixOf (r ++ 10 :: b)) = l.find? (fun s => s.isPrefixOf r) := by
      intro l
      induction l with
      | nil => intro _; rfl
      | cons s l ih =>
        intro hl
        rw [List.find?_cons, List.find?_cons, pre_loc (hl s (by simp)), ih fun x hx => hl x (by simp [hx])]
    exact this sgns sgns_10
  have ho : sgO (r ++ 10 :: b) = sgO r := by unfold sgO; rw [pre_loc (by decide), pre_loc (by decide)]
  unfold signT at h ⊢
  rw [signP_eq] at h ⊢
  rw [ho, hf]
  cases hs : sgO r with
  | true => rw [hs] at h; cases h
  | false =>
    rw [hs] at h
    cases hg : sgns.find? (fun s => s.isPrefixOf r) with
    | none =>
      rw [hg] at h
      dsimp only at h
      rw [if_neg (by decide)] at h
      split at h <;> cases h
    | some y =>
      rw [hg] at h
      have hp := List.find?_some hg
      have hl := (List.isPrefixOf_iff_prefix.1 hp).length_le
      rw [if_neg (by decide)] at h ⊢
      injection h with h1 h2
      rw [← h1, ← h2]
      refine ⟨?_, rfl, rfl, r.take y.length, (List.take_append_drop _ _).symm⟩
      rw [← List.drop_append_of_le_length hl]
      rfl
theorem comP_loc {r r' : Bs} (h : comP r = .ok () r') : comP (r ++ 10 :: b) = .ok () (r' ++ 10 :: b) := by
  unfold comP at h ⊢
  rw [brk_loc (by decide)]
  cases hk : brk 91 r with
  | some k =>
    rw [hk] at h
    dsimp only at h ⊢
    have hl := brk_len hk
    cases hq : longB k (cut10 (r.drop (k + 2))) with
    | no kk => rw [hq] at h; cases h
    | ok y r2 =>
      rw [hq] at h
      injection h with _ h2
      have hc : cut10 ((r ++ 10 :: b).drop (k + 2)) = cut10 (r.drop (k + 2)) ++ 10 :: b := by
        rw [List.drop_append_of_le_length hl]
        cases hd : r.drop (k + 2) with
        | nil => rw [hd] at hq; cases hq
        | cons c t =>
          show cut10 (c :: (t ++ 10 :: b)) = cut10 (c :: t) ++ 10 :: b
          simp only [cut10]
          split <;> rfl
      rw [hc, longB_loc hq, h2]
      rfl
  | none =>
    rw [hk] at h
    dsimp only at h ⊢
    have ht : (r ++ 10 :: b).take 2 = [91, 61] ↔ r.take 2 = [91, 61] := by rw [← pre2, ← pre2, pre_loc (by decide)]
    by_cases h2 : r.take 2 = [91, 61]
    · rw [if_pos h2] at h; cases h
    · rw [if_neg h2] at h
      rw [if_neg (fun e => h2 (ht.1 e))]
      injection h with _ h3
      rw [(pl_tw (p := (· != 10)) (z := 10 :: b) rfl r).2, h3]
theorem nameP_loc {r r' : Bs} {t : Tok} (h : nameP r = .ok t r') : nameP (r ++ 10 :: b) = .ok t (r' ++ 10 :: b) ∧ t.raw = t.text ∧ t.kind ≠ 4 ∧ ∃ p, r = p ++ r' := by
  unfold nameP at h ⊢
  have hs := pl_tw (p := isIdc) (z := 10 :: b) rfl r
  rw [hs.1, hs.2]
  by_cases hg : r.takeWhile isIdc = gotoB
  · rw [if_pos hg] at h; cases h
  · rw [if_neg hg] at h ⊢
    injection h with h1 h2
    rw [← h1, ← h2]
    refine ⟨rfl, rfl, ?_, r.takeWhile isIdc, (List.takeWhile_append_dropWhile).symm⟩
    show (if _ then 2 else 1) ≠ 4
    split <;> decide
theorem strK_loc {z z' : Rz Bs} {r' : Bs} {t : Tok} (hz : ∀ x, z = .ok x r' → z' = .ok x (r' ++ 10 :: b)) (h : strK z = .ok t r') : strK z' = .ok t (r' ++ 10 :: b) ∧ t.raw = t.text ∧ t.kind = 5 := by
  unfold strK at h ⊢
  cases z with
  | no k => cases h
  | ok x r2 =>
    injection h with h1 h2
    subst h2
    rw [hz x rfl, ← h1]
    exact ⟨rfl, rfl, rfl⟩
end
/-- A numeral that is read alone. -/
def NumAlone (x raw : Bs) : Prop := Lx raw [(⟨4, x, raw⟩, raw)] 0
theorem numT_loc {c : UInt8} {u r' : Bs} {t : Tok} (hl : isLet c = false) (hc : (isDec c || (c == 46 && u.head?.any isDec)) = true) (h : numT (c :: u) = .ok t r') :
    (∀ b : Bs, numT (c :: u ++ 10 :: b) = .ok t (r' ++ 10 :: b)) ∧ t.kind = 4 ∧ NumAlone t.text t.raw ∧ c :: u = t.raw ++ r' := by
  unfold numT at h
  cases hn : numP (c :: u) with
  | no k => rw [hn] at h; cases h
  | ok x r2 =>
    rw [hn] at h
    injection h with h1 h2
    subst h2
    obtain ⟨hne, a, ha, hloc⟩ := numP_loc hn
    have htk : (c :: u).take ((c :: u).length - r2.length) = a := by
      rw [ha, List.length_append, show a.length + r2.length - r2.length = a.length by omega, List.take_left]
    rw [htk] at h1
    subst h1
    have hr2 := numEnd_hd hne
    have ha0 : ∃ u2, a = c :: u2 := by
      cases a with
      | nil =>
        exfalso
        have hc2 : numEnd (c :: u) = true := by rw [ha]; exact hne
        have h3 := (numEnd_hd hc2).2.2.2 c
        rcases (Bool.or_eq_true _ _).mp hc with h4 | h4
        · exact h3 (.inl h4) rfl
        · exact h3 (.inr (.inr (by simpa using (Bool.and_eq_true_iff.1 h4).1))) rfl
      | cons d u2 =>
        rw [List.cons_append] at ha
        injection ha with h3 h4
        exact ⟨u2, by rw [h3]⟩
    obtain ⟨u2, rfl⟩ := ha0
    have hu : u = u2 ++ r2 := by simpa using ha
    have hc2 : (isDec c || (c == 46 && u2.head?.any isDec)) = true := by
      rcases (Bool.or_eq_true _ _).mp hc with h4 | h4
      · rw [h4]; rfl
      · rw [Bool.and_eq_true_iff] at h4
        cases u2 with
        | nil =>
          exfalso
          rw [List.nil_append] at hu
          rw [hu] at h4
          have h5 : hdIs isDec r2 = true := by
            cases r2 with
            | nil => exact absurd h4.2 (by decide)
            | cons d v => exact h4.2
          rw [hr2.1] at h5
          cases h5
        | cons d v =>
          rw [hu] at h4
          rw [h4.1]
          have : (d :: v).head?.any isDec = true := h4.2
          rw [this]
          simp
    refine ⟨fun b => ?_, rfl, ?_, ha⟩
    · unfold numT
      have hz : numEnd (r2 ++ 10 :: b) = true := by
        cases r2 with
        | nil => rfl
        | cons d v => exact hne
      have e1 : c :: u ++ 10 :: b = c :: u2 ++ (r2 ++ 10 :: b) := by rw [ha, List.append_assoc]
      rw [e1, hloc _ hz]
      dsimp only
      rw [List.length_append, show (c :: u2).length + (r2 ++ 10 :: b).length - (r2 ++ 10 :: b).length = (c :: u2).length by omega, List.take_left]
    · have hsp : isSp c = false := by
        cases hs : isSp c
        · rfl
        · exfalso
          unfold isSp at hs
          simp only [Bool.or_eq_true, beq_iff_eq] at hs
          rcases (Bool.or_eq_true _ _).mp hc with h4 | h4
          · rcases hs with (rfl | rfl) | rfl <;> exact absurd h4 (by decide)
          · have h5 : c = 46 := by simpa using (Bool.and_eq_true_iff.1 h4).1
            subst h5
            rcases hs with (hs | hs) | hs <;> exact absurd hs (by decide)
      have h45 : ¬ (c = 45 ∧ u2.head? = some 45) := fun h => by
        rw [h.1] at hc
        have e1 : isDec 45 = false := by decide
        have e2 : ((45 : UInt8) == 46) = false := by decide
        rw [e1, e2] at hc
        simp at hc
      have hz := hloc [] rfl
      rw [List.append_nil] at hz
      refine Lx.tok hsp h45 ?_ Lx.nil
      rw [nextP_num hl hc2]
      unfold numT
      rw [hz]
      simp
/-- What a token that is read is. -/
def TokOk (t : Tok) (c : Bs) : Prop := (t.kind = 4 ∧ NumAlone t.text t.raw ∧ ∃ r', c = t.raw ++ r') ∨ (t.kind ≠ 4 ∧ t.raw = t.text)
theorem nextP_loc {c : UInt8} {u r' : Bs} {t : Tok} (h : nextP (c :: u) = .ok t r') : (∀ b : Bs, nextP (c :: u ++ 10 :: b) = .ok t (r' ++ 10 :: b)) ∧ TokOk t (c :: u) ∧ ∃ p, c :: u = p ++ r' := by
  cases hl : isLet c with
  | true =>
    rw [nextP_let hl] at h
    have h1 := nameP_loc (b := []) h
    refine ⟨fun b => ?_, .inr ⟨h1.2.2.1, h1.2.1⟩, h1.2.2.2⟩
    rw [List.cons_append, nextP_let hl, ← List.cons_append]
    exact (nameP_loc h).1
  | false =>
    have hany : ∀ b : Bs, (u ++ 10 :: b).head?.any isDec = u.head?.any isDec := by
      intro b
      cases u <;> rfl
    cases hd : (isDec c || (c == 46 && u.head?.any isDec)) with
    | true =>
      rw [nextP_num hl hd] at h
      obtain ⟨h1, h2, h3, h4⟩ := numT_loc hl hd h
      refine ⟨fun b => ?_, .inl ⟨h2, h3, r', h4⟩, t.raw, h4⟩
      rw [List.cons_append, nextP_num hl (by rw [hany]; exact hd), ← List.cons_append]
      exact h1 b
    | false =>
      by_cases hq : c = 34 ∨ c = 39
      · rw [nextP_quo hl hd hq] at h
        have hq10 : c ≠ 10 := by rcases hq with rfl | rfl <;> decide
        have hq92 : c ≠ 92 := by rcases hq with rfl | rfl <;> decide
        have hz : ∀ b x, strB c u = .ok x r' → strB c (u ++ 10 :: b) = .ok x (r' ++ 10 :: b) := fun b x hx => strB_loc hq10 hq92 _ (Nat.le_refl _) hx
        have h1 := strK_loc (hz []) h
        refine ⟨fun b => ?_, .inr ⟨by rw [h1.2.2]; decide, h1.2.1⟩, ?_⟩
        · rw [List.cons_append, nextP_quo hl (by rw [hany]; exact hd) hq]
          exact (strK_loc (hz b) h).1
        · cases hs : strB c u with
          | no k => rw [hs] at h; cases h
          | ok x r2 =>
            rw [hs] at h
            injection h with _ h3
            subst h3
            obtain ⟨p, hp⟩ := strB_suf _ (Nat.le_refl _) hs
            exact ⟨c :: p, by rw [hp]; rfl⟩
      · cases hk : brk 91 (c :: u) with
        | some k =>
          rw [nextP_long hl hd hq hk] at h
          have hlen := brk_len hk
          have hz : ∀ b x, longB k (cut10 ((c :: u).drop (k + 2))) = .ok x r' → longB k (cut10 ((c :: (u ++ 10 :: b)).drop (k + 2))) = .ok x (r' ++ 10 :: b) := by
            intro b x hx
            have hc : cut10 ((c :: (u ++ 10 :: b)).drop (k + 2)) = cut10 ((c :: u).drop (k + 2)) ++ 10 :: b := by
              rw [← List.cons_append, List.drop_append_of_le_length hlen]
              cases hd2 : (c :: u).drop (k + 2) with
              | nil => rw [hd2] at hx; cases hx
              | cons d v =>
                show cut10 (d :: (v ++ 10 :: b)) = cut10 (d :: v) ++ 10 :: b
                simp only [cut10]
                split <;> rfl
            rw [hc]
            exact longB_loc hx
          have h1 := strK_loc (hz []) h
          refine ⟨fun b => ?_, .inr ⟨by rw [h1.2.2]; decide, h1.2.1⟩, ?_⟩
          · have hkb : brk 91 (c :: (u ++ 10 :: b)) = some k := by
              rw [← List.cons_append, brk_loc (by decide)]; exact hk
            rw [List.cons_append, nextP_long hl (by rw [hany]; exact hd) hq hkb]
            exact (strK_loc (hz b) h).1
          · cases hs : longB k (cut10 ((c :: u).drop (k + 2))) with
            | no kk => rw [hs] at h; cases h
            | ok x r2 =>
              rw [hs] at h
              injection h with _ h3
              subst h3
              obtain ⟨p, hp⟩ := longB_suf hs
              have hcut : ∃ p2, (c :: u).drop (k + 2) = p2 ++ cut10 ((c :: u).drop (k + 2)) := by
                cases (c :: u).drop (k + 2) with
                | nil => exact ⟨[], rfl⟩
                | cons d v =>
                  simp only [cut10]
                  split
                  · exact ⟨[d], rfl⟩
                  · exact ⟨[], rfl⟩
              obtain ⟨p2, hp2⟩ := hcut
              refine ⟨(c :: u).take (k + 2) ++ p2 ++ p, ?_⟩
              rw [List.append_assoc, ← hp, List.append_assoc, ← hp2, List.take_append_drop]
        | none =>
          rw [nextP_sign hl hd hq hk] at h
          have h1 := signT_loc (b := []) h
          refine ⟨fun b => ?_, .inr ⟨by rw [h1.2.2.1]; decide, h1.2.1⟩, h1.2.2.2⟩
          have hkb : brk 91 (c :: (u ++ 10 :: b)) = none := by
            rw [← List.cons_append, brk_loc (by decide)]; exact hk
          rw [List.cons_append, nextP_sign hl (by rw [hany]; exact hd) hq hkb, ← List.cons_append]
          exact (signT_loc h).1
/-- THE LAW: two texts on lines of their own. -/
theorem Lx.joined {b : Bs} {us : List (Tok × Bs)} (hb : Lx (10 :: b) us 0) : ∀ {a : Bs} {ts : List (Tok × Bs)} {k : Nat}, Lx a ts k → k = 0 → Lx (a ++ 10 :: b) (ts.map (fun p => (p.1, p.2 ++ 10 :: b)) ++ us) 0 := by
  intro a ts k h
  induction h with
  | nil => intro _; exact hb
  | ws hc _ ih => intro hk; exact Lx.ws hc (ih hk)
  | com hc _ ih => intro hk; exact Lx.com (comP_loc hc) (ih hk)
  | comNo hc =>
    intro hk
    subst hk
    rcases comP_no hc with h | h <;> cases h
  | tok h0 h1 hn _ ih =>
    intro hk
    exact Lx.tok h0 (fun h => h1 ⟨h.1, (head_app (by decide)).1 h.2⟩) ((nextP_loc hn).1 b) (ih hk)
  | no h0 h1 hn =>
    intro hk
    subst hk
    rcases nextP_no hn with h | h <;> cases h
/-- THE LAW: each token's text, and the text from there on is a part of the whole. -/
theorem Lx.toks : ∀ {r : Bs} {ts : List (Tok × Bs)} {k : Nat}, Lx r ts k → ∀ p ∈ ts, TokOk p.1 p.2 ∧ ∃ q, r = q ++ p.2 := by
  intro r ts k h
  induction h with
  | nil => intro p hp; cases hp
  | ws hc _ ih =>
    intro p hp
    obtain ⟨h1, q, h2⟩ := ih p hp
    exact ⟨h1, _ :: q, by rw [h2]; rfl⟩
  | com hc _ ih =>
    intro p hp
    obtain ⟨h1, q, h2⟩ := ih p hp
    obtain ⟨q2, h3⟩ := comP_suf hc
    exact ⟨h1, 45 :: 45 :: (q2 ++ q), by rw [h3, h2]; simp⟩
  | comNo hc => intro p hp; cases hp
  | tok h0 h1 hn _ ih =>
    intro p hp
    obtain ⟨_, h2, q2, h3⟩ := nextP_loc hn
    rcases List.mem_cons.1 hp with rfl | hp
    · exact ⟨h2, [], rfl⟩
    · obtain ⟨h4, q, h5⟩ := ih p hp
      exact ⟨h4, q2 ++ q, by rw [h3, h5]; simp⟩
  | no h0 h1 hn => intro p hp; cases hp
/-- A numeral alone is not open where the text is not. -/
theorem opened_part {S q x raw r' : Bs} (h : opened S = false) (hs : S = q ++ raw ++ r') (hna : NumAlone x raw) : opened raw = false := by
  unfold opened at h ⊢
  rw [Bool.or_eq_false_iff, Bool.or_eq_false_iff] at h ⊢
  refine ⟨⟨?_, ?_⟩, ?_⟩
  · have h1 := h.1.1
    rw [hs] at h1
    simp at h1 ⊢
    omega
  · unfold NumAlone at hna
    cases raw with
    | nil => rfl
    | cons c u =>
      show (c == 35) = false
      cases hc : (c == 35)
      · rfl
      · exfalso
        have h35 : c = 35 := by simpa using hc
        subst h35
        cases hna with
        | ws hc2 _ => exact absurd hc2 (by decide)
        | tok _ _ hn _ =>
          rw [nextP_sign (by decide) (by simp [isDec]) (by decide) (brk_not91 (by decide))] at hn
          have := (signT_loc (b := []) hn).2.2.1
          exact absurd (show (4 : Nat) = 3 from this) (by decide)
  · rw [hs] at h
    rw [List.any_eq_false]
    intro c hc
    exact List.any_eq_false.1 h.2 c (by simp [hc])
end Go.Proofs.YtbgjjbffpckimaaGreatDoor

namespace Go.Proofs.YtbgjjbffpckimaaGreatDoor
set_option linter.all false
open Go.RowKit

set_option maxRecDepth 100000 in
set_option maxHeartbeats 4000000 in
theorem isToken9_calls {w : World} {t : Tok} {c : Bs} {l1 l2 : Int} (hok : TokOk t c) (hop : t.kind = 4 → opened t.raw = false) :
    Calls Tryz.prog 19 #[.agg #[.int .i64 (t.kind : Int), .string ⟨t.raw.toArray⟩, .int .i64 l1], .agg #[.int .i64 (t.kind : Int), .string ⟨t.text.toArray⟩, .int .i64 l2]] w fun e w' => e = .returned (.bool true) ∧ Ch (fun _ => False) w w' := by
  obtain ⟨kind, text, raw⟩ := t
  rcases hok with ⟨h4, hna, _⟩ | ⟨h4, hrt⟩
  · have h5 := hop h4
    simp only at h4 h5 hna
    unfold NumAlone at hna
    subst h4
    have HNA : Hid (Lx (⟨raw.toArray⟩ : ByteArray).data.toList [(⟨4, text, raw⟩, raw)] 0) := Lib.hid (by simpa using hna)
    have HOP : Hid (opened (⟨raw.toArray⟩ : ByteArray).data.toList = false) := Lib.hid (by simpa using h5)
    clear hna h5 hop
    go_enter Tryz.func19, Tryz.ntmps19
    go_wp2_with fail
    refine (numeralText_calls HNA.out HOP.out).mono ?_
    rintro e w1 ⟨rfl, hc⟩
    have HC := Lib.hid (((Ch.refl (fun _ => False) w).alloc (.cells #[.int .i64 4, .string ⟨raw.toArray⟩, .int .i64 l1] 32)).alloc (.cells #[.int .i64 4, .string ⟨text.toArray⟩, .int .i64 l2] 32) |>.trans hc)
    have hs2 : ((w.alloc (.cells #[.int .i64 4, .string ⟨raw.toArray⟩, .int .i64 l1] 32)).alloc (.cells #[.int .i64 4, .string ⟨text.toArray⟩, .int .i64 l2] 32)).heap.size = w.heap.size + 1 + 1 := by simp
    have hb2 : ((w.alloc (.cells #[.int .i64 4, .string ⟨raw.toArray⟩, .int .i64 l1] 32)).alloc (.cells #[.int .i64 4, .string ⟨text.toArray⟩, .int .i64 l2] 32)).heap[w.heap.size + 1]? = some (.cells #[.int .i64 4, .string ⟨text.toArray⟩, .int .i64 l2] 32 (0, 0)) := by
      have e := heap_alloc_new (w.alloc (.cells #[.int .i64 4, .string ⟨raw.toArray⟩, .int .i64 l1] 32)) (.cells #[.int .i64 4, .string ⟨text.toArray⟩, .int .i64 l2] 32)
      rw [show (w.alloc (.cells #[.int .i64 4, .string ⟨raw.toArray⟩, .int .i64 l1] 32)).heap.size = w.heap.size + 1 by simp] at e
      exact e
    have hb3 : ((w.alloc (.cells #[.int .i64 4, .string ⟨raw.toArray⟩, .int .i64 l1] 32)).alloc (.cells #[.int .i64 4, .string ⟨text.toArray⟩, .int .i64 l2] 32)).heap[w.heap.size]? = some (.cells #[.int .i64 4, .string ⟨raw.toArray⟩, .int .i64 l1] 32 (0, 0)) := by
      rw [((Ch.refl (fun _ => False) (w.alloc (.cells #[.int .i64 4, .string ⟨raw.toArray⟩, .int .i64 l1] 32))).alloc (.cells #[.int .i64 4, .string ⟨text.toArray⟩, .int .i64 l2] 32)).block w.heap.size (by simp) id]
      exact heap_alloc_new w _
    have c1 := (hc.block w.heap.size (by rw [hs2]; omega) id).trans hb3
    have c2 := (hc.block (w.heap.size + 1) (by rw [hs2]; omega) id).trans hb2
    have d0 : w1.cell? ⟨w.heap.size, 0, none⟩ = some (.int .i64 4) := by rw [Lib.cell_of_heap c1]; rfl
    have e0 : w1.cell? ⟨w.heap.size + 1, 0, none⟩ = some (.int .i64 4) := by rw [Lib.cell_of_heap c2]; rfl
    have e1 : w1.cell? ⟨w.heap.size + 1, 1, none⟩ = some (.string ⟨text.toArray⟩) := by rw [Lib.cell_of_heap c2]; rfl
    clear hc hb2 hb3 hs2 c1 c2
    simp only []
    go_wp2_with fail
    go_ret
    exact ⟨rfl, HC.out⟩
  · simp only at h4 hrt
    subst hrt
    have g4 : ((kind : Int) == 4) = false := by simp; omega
    clear hop h4
    go_enter Tryz.func19, Tryz.ntmps19
    go_wp2_with fail
    go_ret
    exact ⟨rfl, ((Ch.refl _ _).alloc _).alloc _⟩

set_option maxRecDepth 100000 in
set_option maxHeartbeats 4000000 in
theorem areTokens9_calls {w : World} {v1 v2 : Value} {ts : List (Tok × Bs)} {C : Int} {X1 X2 : Nat} (h1 : w.ownsRow X1 32 3 v1 ts.length (tokCells C ts)) (h2 : w.ownsRow X2 32 3 v2 ts.length (dueCells C ts)) (hlen : ts.length ≤ 2000)
    (hok : ∀ p ∈ ts, TokOk p.1 p.2 ∧ (p.1.kind = 4 → opened p.1.raw = false)) :
    Calls Tryz.prog 12 #[v1, v2] w fun e w' => e = .returned (.bool true) ∧ Ch (fun _ => False) w w' := by
  obtain ⟨pb1, cap1, g1, rfl, hn1, hm1, hrow1⟩ := row_any h1
  obtain ⟨pb2, cap2, g2, rfl, hn2, hm2, hrow2⟩ := row_any h2
  have HW1 := Lib.hid hrow1
  have HW2 := Lib.hid hrow2
  have HOK := Lib.hid hok
  clear h1 h2 hrow1 hrow2 hm1 hm2 hok
  go_enter Tryz.func12, Tryz.ntmps12
  go_wp2_with fail
  go_loopg [14] ts.length (fun m v14 wr => LnRel ts.length m v14 w wr)
  case atStart => exact ⟨0, rfl, Nat.zero_le _, Ch.refl _ _, rfl⟩
  case round =>
    obtain ⟨k, rfl, hk, hc, hm⟩ := hrel
    have HCr := Lib.hid hc
    have HM := Lib.hid hm
    clear hc hm
    by_cases hlt : k < ts.length
    · obtain ⟨t, a, hta⟩ : ∃ t a, ts[k]? = some (t, a) := ⟨_, _, List.getElem?_eq_getElem hlt⟩
      obtain ⟨rfl, hgl1, _, hcell1⟩ := HW1.out (by omega)
      obtain ⟨rfl, hgl2, _, hcell2⟩ := HW2.out (by omega)
      obtain ⟨x0, x1, x2⟩ := tokCells_get C hta
      obtain ⟨y0, y1, y2⟩ := dueCells_get C hta
      have c0 := HCr.out.cell_some (hcell1 _ _ x0) id
      have c1 := HCr.out.cell_some (hcell1 _ _ x1) id
      have c2 := HCr.out.cell_some (hcell1 _ _ x2) id
      have d0 := HCr.out.cell_some (hcell2 _ _ y0) id
      have d1 := HCr.out.cell_some (hcell2 _ _ y1) id
      have d2 := HCr.out.cell_some (hcell2 _ _ y2) id
      have l1 : g1 < wr.heap.size := Nat.lt_of_lt_of_le hgl1 HCr.out.size
      have l2 : g2 < wr.heap.size := Nat.lt_of_lt_of_le hgl2 HCr.out.size
      have HT := Lib.hid (HOK.out (t, a) (List.mem_of_getElem? hta))
      clear x0 x1 x2 y0 y1 y2 hcell1 hcell2 hta
      go_wp2_with fail
      refine wp_region_noPanic ?_
      go_region_law (go_simp; go_at_call 19; refine (isToken9_calls HT.out.1 HT.out.2).mono ?_; rintro e wz ⟨rfl, hcz⟩
                     have HCz := Lib.hid (Ch.trans (T := fun _ => False) (by first | exact HCr.out.alloc _ | exact (HCr.out.alloc _).drew | exact (HCr.out.alloc _).drew.drew) hcz)
                     clear hcz)
      all_goals refine NoPanic.normal ?_
      all_goals go_wp2_with fail
      all_goals (have hgk : ts.length - (k + 1) < gk := by have := HM.out; omega)
      all_goals go_roundg (ts.length - (k + 1))
      all_goals first | (case measure => omega) | skip
      all_goals exact ⟨k + 1, rfl, hlt, by first | exact HCz.out | exact HCz.out.drewN _ | exact HCz.out.drew, rfl⟩
    · go_wp2_with fail
      go_ret
      exact ⟨rfl, HCr.out⟩

set_option maxRecDepth 100000 in
set_option maxHeartbeats 4000000 in
theorem fnTokens_calls {w : World} {E : Addr} {bm : Nat} {obj : Obj} {s : ByteArray} (H : Hid (Wld w E bm obj)) :
    Calls Tryz.prog 5 #[.string s] w fun e w' => e = .returned (.bool true) ∧ Ch (fun _ => False) w w' := by
  go_enter Tryz.func5, Tryz.ntmps5
  by_cases hz : decide ((2147483647 : Int) < (s.size : Int)) = true
  · go_wp2_with fail
    go_ret
    exact ⟨rfl, Ch.refl _ _⟩
  · have hz2 : decide ((2147483647 : Int) < (s.size : Int)) = false := by simpa using hz
    clear hz
    go_wp2_with fail
    refine lexemes_calls.mono ?_
    intro e w1 hp
    obtain ⟨hc, v, cd, rfl, hr⟩ := hp
    have HC := Lib.hid hc
    clear hc
    simp only []
    rcases hr with rfl | ⟨hop, hsz, ts, ⟨rfl, hlx⟩ | ⟨rfl, hlx, htl, hown⟩⟩
    · go_wp2_with fail
      go_ret
      exact ⟨rfl, HC.out⟩
    · have HLX := Lib.hid hlx
      have H13 := Lib.hid (opened_no hop).2
      have HSZ : Hid (s.size < 4096) := Lib.hid (by omega)
      clear hop hlx
      go_wp2_with fail
      refine (tokens_calls (Lib.hid (H.out.moved HC.out)) HLX.out (by decide) H13.out HSZ.out).mono ?_
      rintro e w2 (⟨h0, _⟩ | ⟨_, rfl, hc2⟩)
      · exact absurd h0 (by decide)
      · have HC2 := Lib.hid (HC.out.trans hc2)
        clear hc2
        simp only []
        go_wp2_with fail
        go_ret
        exact ⟨rfl, HC2.out⟩
    · have HLX := Lib.hid hlx
      have HOP := Lib.hid hop
      have H13 := Lib.hid (opened_no hop).2
      have HSZ : Hid (s.size < 4096) := Lib.hid (by omega)
      have HOD := Lib.hid hown
      clear hop hlx hown
      go_wp2_with fail
      refine (tokens_calls (Lib.hid (H.out.moved HC.out)) HLX.out (by decide) H13.out HSZ.out).mono ?_
      rintro e w2 (⟨_, v1, rfl, ho, hc2⟩ | ⟨h0, _⟩)
      · have HO1 := Lib.hid ho
        have HO2 := Lib.hid (hc2.owns HOD.out fun _ _ => id)
        have HC2 := Lib.hid (HC.out.trans hc2)
        clear ho hc2 HOD
        simp only []
        go_wp2_with fail
        refine (areTokens9_calls HO1.out HO2.out htl ?_).mono ?_
        · intro p hp
          obtain ⟨h1, q, h2⟩ := HLX.out.toks p hp
          refine ⟨h1, fun h4 => ?_⟩
          rcases h1 with ⟨_, hna, r', hr'⟩ | ⟨h5, _⟩
          · have hs : s.data.toList = q ++ p.1.raw ++ r' := by rw [h2, hr', List.append_assoc]
            exact opened_part HOP.out hs hna
          · exact absurd h4 h5
        · rintro e w3 ⟨rfl, hc3⟩
          have HC3 := Lib.hid (HC2.out.trans hc3)
          clear hc3
          simp only []
          go_wp2_with fail
          go_ret
          exact ⟨rfl, HC3.out⟩
      · exact absurd rfl h0
end Go.Proofs.YtbgjjbffpckimaaGreatDoor
