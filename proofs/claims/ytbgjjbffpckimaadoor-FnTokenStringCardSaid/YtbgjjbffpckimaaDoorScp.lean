/-
  PLAIN: the parts of numerals and signs.
-/
import Derived.Test.YtbgjjbffpckimaaDoorPre
namespace Go.Proofs.YtbgjjbffpckimaaDoor
set_option linter.all false
open Go.RowKit

theorem span_app (p : UInt8 → Bool) (r : Bs) : r = r.takeWhile p ++ r.dropWhile p := (List.takeWhile_append_dropWhile).symm
theorem take_mem {p : UInt8 → Bool} {r : Bs} : ∀ c ∈ r.takeWhile p, p c = true := by
  induction r with
  | nil => intro c hc; cases hc
  | cons x t ih =>
    intro c hc
    rw [List.takeWhile_cons] at hc
    by_cases h : p x = true
    · rw [if_pos h] at hc
      rcases List.mem_cons.1 hc with rfl | hc
      · exact h
      · exact ih c hc
    · rw [if_neg h] at hc
      cases hc
theorem drop_hd {p : UInt8 → Bool} {r : Bs} : hdIs p (r.dropWhile p) = false := by
  induction r with
  | nil => rfl
  | cons x t ih =>
    rw [List.dropWhile_cons]
    by_cases h : p x = true
    · rw [if_pos h]; exact ih
    · rw [if_neg h]
      show p x = false
      simpa using h
theorem head_hd {r : Bs} {c : UInt8} : (r.head? == some c) = true ↔ ∃ t, r = c :: t := by
  cases r with
  | nil => simp
  | cons x t =>
    simp
theorem head_no {r : Bs} {c : UInt8} (h : (r.head? == some c) = false) : hd r ≠ (c.toNat : Int) := by
  cases r with
  | nil => rw [hd_e]; omega
  | cons x t =>
    rw [hd_c]
    intro e
    have : x = c := UInt8.toNat_inj.1 (by omega)
    subst this
    simp at h
theorem isDec_not_s {c : UInt8} (h : isDec c = true) : c ≠ 45 ∧ c ≠ 43 := by
  constructor <;> (rintro rfl; exact absurd h (by decide))

theorem tail_of (r : Bs) (h : hasE r = true → 1 ≤ (ptP r).length) : ∃ raw, TailOk (ptR2 r) raw (ptR5 r) ∧ ptR2 r = raw ++ ptR5 r := by
  by_cases he : hasE r = true
  · have hp := h he
    have hP : ptP r = (ptR4 r).takeWhile isDec := by unfold ptP; rw [if_pos he]
    have h5 : ptR5 r = (ptR4 r).dropWhile isDec := by unfold ptR5; rw [if_pos he]
    have h4 : ptR4 r = ptP r ++ ptR5 r := by rw [hP, h5]; exact span_app isDec _
    have hdec : ∀ c ∈ ptP r, isDec c = true := by rw [hP]; exact take_mem
    have hne : ptP r ≠ [] := by intro e; rw [e] at hp; simp at hp
    have hrest : hdIs isDec (ptR5 r) = false := by rw [h5]; exact drop_hd
    obtain ⟨m, r3, hm, h2⟩ : ∃ m r3, (m = 101 ∨ m = 69) ∧ ptR2 r = m :: r3 := by
      unfold hasE at he
      rw [Bool.or_eq_true] at he
      rcases he with he | he
      · obtain ⟨t, ht⟩ := head_hd.1 he
        exact ⟨101, t, .inl rfl, ht⟩
      · obtain ⟨t, ht⟩ := head_hd.1 he
        exact ⟨69, t, .inr rfl, ht⟩
    by_cases hs : hasS r = true
    · have e4 : ptR4 r = (ptR2 r).drop 2 := by unfold ptR4; rw [if_pos hs]
      obtain ⟨s, r4, hs', h3⟩ : ∃ s r4, (s = 45 ∨ s = 43) ∧ r3 = s :: r4 := by
        unfold hasS at hs
        rw [h2] at hs
        simp only [List.drop_succ_cons, List.drop_zero] at hs
        rw [Bool.or_eq_true] at hs
        rcases hs with hs | hs
        · obtain ⟨t, ht⟩ := head_hd.1 hs
          exact ⟨45, t, .inl rfl, ht⟩
        · obtain ⟨t, ht⟩ := head_hd.1 hs
          exact ⟨43, t, .inr rfl, ht⟩
      subst h3
      have e4' : r4 = ptP r ++ ptR5 r := by rw [← h4, e4, h2]; rfl
      refine ⟨m :: s :: ptP r, .inr ⟨m, ptP r, hm, hdec, hne, hrest, .inr ⟨s, hs', ?_, rfl⟩⟩, ?_⟩
      · rw [h2, ← e4']
      · rw [h2, List.cons_append, List.cons_append, ← e4']
    · have e4 : ptR4 r = (ptR2 r).drop 1 := by unfold ptR4; rw [if_neg hs]
      have e4' : r3 = ptP r ++ ptR5 r := by rw [← h4, e4, h2]; rfl
      refine ⟨m :: ptP r, .inr ⟨m, ptP r, hm, hdec, hne, hrest, .inl ⟨?_, rfl⟩⟩, ?_⟩
      · rw [h2, ← e4']
      · rw [h2, List.cons_append, ← e4']
  · have h5 : ptR5 r = ptR2 r := by unfold ptR5; rw [if_neg he]
    have he' : hasE r = false := by simpa using he
    unfold hasE at he'
    rw [Bool.or_eq_false_iff] at he'
    refine ⟨[], .inl ⟨head_no he'.1, head_no he'.2, rfl, h5⟩, ?_⟩
    rw [h5]
    rfl
theorem mid_of (r : Bs) (h : decOk r) : ∃ raw, MidOk (ptR1 r) raw (ptR5 r) ∧ ptR1 r = raw ++ ptR5 r := by
  obtain ⟨raw2, ht, he⟩ := tail_of r (fun hh => (h.2.2.1 hh).1)
  by_cases hdt : hasDot r = true
  · obtain ⟨t, h1⟩ := head_hd.1 (show ((ptR1 r).head? == some 46) = true from hdt)
    have hB : ptB r = t.takeWhile isDec := by unfold ptB; rw [if_pos hdt, h1]; rfl
    have h2 : ptR2 r = t.dropWhile isDec := by unfold ptR2; rw [if_pos hdt, h1]; rfl
    refine ⟨46 :: (ptB r ++ raw2), .inr ⟨ptB r, ptR2 r, raw2, ?_, ?_, ?_, rfl, ht⟩, ?_⟩
    · rw [h1, hB, h2, ← span_app]
    · rw [hB]; exact take_mem
    · rw [h2]; exact drop_hd
    · rw [h1, List.cons_append, List.append_assoc, ← he, hB, h2, ← span_app]
  · have h2 : ptR2 r = ptR1 r := by unfold ptR2; rw [if_neg hdt]
    have hdt' : hasDot r = false := by simpa using hdt
    rw [h2] at ht he
    exact ⟨raw2, .inl ⟨head_no hdt', ht⟩, he⟩

theorem numP_46 (t : Bs) : numP (46 :: t) = .no 2 := by
  unfold numP
  rw [if_neg (by intro h; simp at h), if_neg (by intro h; simp at h)]
  unfold decP
  rw [if_neg]
  intro h
  have hA : ptA (46 :: t) = [] := by unfold ptA; rw [List.takeWhile_cons, if_neg (by decide)]
  have hR : ptR1 (46 :: t) = 46 :: t := by unfold ptR1; rw [List.dropWhile_cons, if_neg (by decide)]
  have hd' : hasDot (46 :: t) = true := by unfold hasDot; rw [hR]; rfl
  exact (h.2.1 hd').1 hA

/-- scanNumber at a numeral that is not open. -/
theorem num_call {c : UInt8} {t rest x : Bs} (h : numP (c :: t) = .ok x rest) (hc : isDec c = true) (h13 : NoCr (c :: t)) (hl : t.length < 5000) :
    ∃ raw, c :: t = raw ++ rest ∧ raw ≠ [] ∧ nl raw = 0 ∧ ∀ (w : World) (b : Bl) (L : Int) (g : Nat), Sb w b t L g [] → Calls Tryd.prog 20 #[ptr b.Z, .int .i64 (c.toNat : Int), ptr g] w (NumPost w b L g raw rest) := by
  unfold numP at h
  by_cases hx : (c :: t).take 2 = [48, 120]
  · rw [if_pos hx] at h
    obtain ⟨u, rfl, rfl⟩ : ∃ u, c = 48 ∧ t = 120 :: u := by
      cases t with
      | nil => simp at hx
      | cons y u =>
        simp at hx
        exact ⟨u, hx.1, by rw [hx.2]⟩
    unfold hexP at h
    simp only [List.drop_succ_cons, List.drop_zero] at h
    by_cases hh : 1 ≤ (u.takeWhile isHex).length ∧ (u.takeWhile isHex).length ≤ 12
    · rw [if_pos hh] at h
      simp only [] at h
      by_cases hne : numEnd (u.dropWhile isHex) = true
      · rw [if_pos hne] at h
        injection h with h1 h2
        subst h2
        refine ⟨48 :: 120 :: u.takeWhile isHex, ?_, by simp, ?_, ?_⟩
        · rw [List.cons_append, List.cons_append, ← span_app]
        · rw [nl_cons, nl_cons, if_neg (by decide), if_neg (by decide)]
          have : ∀ a : Bs, (∀ c ∈ a, isHex c = true) → nl a = 0 := by
            intro a
            induction a with
            | nil => intro _; rfl
            | cons y a ih =>
              intro ha
              rw [nl_cons, ih fun x hx => ha x (by simp [hx]), if_neg]
              · rfl
              · rintro rfl
                exact absurd (ha 10 (by simp)) (by decide)
          rw [this _ take_mem]
          rfl
        · intro w b L g hs
          have e := span_app isHex u
          rw [e] at hs
          have := num_hex (Lib.hid hs) take_mem (by intro e0; rw [e0] at hh; simp at hh) drop_hd (by rw [← e]; exact h13.tail) (by rw [← e]; simp at hl ⊢; omega)
          simpa using this
      · rw [if_neg hne] at h
        cases h
    · rw [if_neg hh] at h
      cases h
  · rw [if_neg hx] at h
    by_cases hX : (c :: t).take 2 = [48, 88]
    · rw [if_pos hX] at h
      cases h
    · rw [if_neg hX] at h
      unfold decP at h
      by_cases hok : decOk (c :: t)
      · rw [if_pos hok] at h
        cases hnm : numeral (runv (runv 0 (ptA (c :: t))) (ptB (c :: t))) (expo (c :: t)) with
        | none => rw [hnm] at h; cases h
        | some y =>
          rw [hnm] at h
          simp only [] at h
          by_cases hne : numEnd (ptR5 (c :: t)) = true
          · rw [if_pos hne] at h
            injection h with h1 h2
            subst h2
            obtain ⟨raw1, hm, he⟩ := mid_of _ hok
            have hA : ptA (c :: t) = c :: t.takeWhile isDec := by unfold ptA; rw [List.takeWhile_cons, if_pos hc]
            have hR : ptR1 (c :: t) = t.dropWhile isDec := by unfold ptR1; rw [List.dropWhile_cons, if_pos hc]
            rw [hR] at hm he
            have hsplit : t = t.takeWhile isDec ++ t.dropWhile isDec := span_app isDec t
            have hnl1 : nl raw1 = 0 := by
              rcases hm with ⟨_, ht⟩ | ⟨f, r2, raw2, _, hf, _, rfl, ht⟩
              · rcases ht with ⟨_, _, rfl, _⟩ | ⟨m, p, hmm, hp, _, _, ⟨_, rfl⟩ | ⟨s, hs, _, rfl⟩⟩
                · rfl
                · rw [nl_cons, nl_dec hp, if_neg (by rcases hmm with rfl | rfl <;> decide)]; rfl
                · rw [nl_cons, nl_cons, nl_dec hp, if_neg (by rcases hmm with rfl | rfl <;> decide), if_neg (by rcases hs with rfl | rfl <;> decide)]; rfl
              · rw [nl_cons, nl_app, nl_dec hf, if_neg (by decide)]
                rcases ht with ⟨_, _, rfl, _⟩ | ⟨m, p, hmm, hp, _, _, ⟨_, rfl⟩ | ⟨s, hs, _, rfl⟩⟩
                · rfl
                · rw [nl_cons, nl_dec hp, if_neg (by rcases hmm with rfl | rfl <;> decide)]; rfl
                · rw [nl_cons, nl_cons, nl_dec hp, if_neg (by rcases hmm with rfl | rfl <;> decide), if_neg (by rcases hs with rfl | rfl <;> decide)]; rfl
            refine ⟨c :: (t.takeWhile isDec ++ raw1), ?_, by simp, ?_, ?_⟩
            · rw [List.cons_append, List.append_assoc, ← he, ← hsplit]
            · rw [nl_cons, nl_app, nl_dec take_mem, hnl1, if_neg (by rintro rfl; exact absurd hc (by decide))]; rfl
            · intro w b L g hs
              by_cases h48 : c = 48
              · subst h48
                have ha : t.takeWhile isDec = [] := by
                  have := hok.1
                  rw [hA] at this
                  cases h0 : t.takeWhile isDec with
                  | nil => rfl
                  | cons y u => rw [h0] at this; simp at this
                have hd0 : t.dropWhile isDec = t := by
                  have := hsplit
                  rw [ha, List.nil_append] at this
                  exact this.symm
                rw [hd0] at hm
                have q120 : hd t ≠ 120 := by
                  cases t with
                  | nil => simp [hd]
                  | cons y u =>
                    rw [hd_c]
                    intro e
                    have : y = 120 := UInt8.toNat_inj.1 (by show y.toNat = 120; omega)
                    subst this
                    exact hx rfl
                have q88 : hd t ≠ 88 := by
                  cases t with
                  | nil => simp [hd]
                  | cons y u =>
                    rw [hd_c]
                    intro e
                    have : y = 88 := UInt8.toNat_inj.1 (by show y.toNat = 88; omega)
                    subst this
                    exact hX rfl
                have hdd : hdIs isDec t = false := by rw [← hd0]; exact drop_hd
                have := num_dec0 (Lib.hid hs) hdd q120 q88 hm h13.tail (by simp; omega)
                rw [ha]
                simpa using this
              · rw [hsplit] at hs
                have := num_dec (c := c) (Lib.hid hs) hc h48 take_mem drop_hd hm (by rw [← hsplit]; exact h13.tail) (by rw [← hsplit]; simp; omega)
                simpa using this
          · rw [if_neg hne] at h
            cases h
      · rw [if_neg hok] at h
        cases h

theorem numP_no {r : Bs} {k : Nat} (h : numP r = .no k) : k = 2 := by
  unfold numP at h
  have h1 : ∀ j, (if r.take 2 = [48, 120] then hexP (r.drop 2) else if r.take 2 = [48, 88] then .no 2 else decP r) = .no j → j = 2 := by
    intro j hj
    by_cases hx : r.take 2 = [48, 120]
    · rw [if_pos hx] at hj
      unfold hexP at hj
      split at hj
      · cases hj
      · injection hj with hj; exact hj.symm
    · rw [if_neg hx] at hj
      by_cases hX : r.take 2 = [48, 88]
      · rw [if_pos hX] at hj
        injection hj with hj; exact hj.symm
      · rw [if_neg hX] at hj
        unfold decP at hj
        split at hj
        · split at hj
          · cases hj
          · injection hj with hj; exact hj.symm
        · injection hj with hj; exact hj.symm
  generalize (if r.take 2 = [48, 120] then hexP (r.drop 2) else if r.take 2 = [48, 88] then .no 2 else decP r) = y at h h1
  cases y with
  | ok x r' =>
    simp only [] at h
    split at h
    · cases h
    · injection h with h; exact h.symm
  | no j =>
    simp only [] at h
    injection h with h
    subst h
    exact h1 j rfl

theorem sg_43 (t : Bs) : signP (43 :: t) = .ok [43] t := by
  unfold signP
  rw [if_neg (by intro h; simp at h)]
  rfl

theorem sg_42 (t : Bs) : signP (42 :: t) = .ok [42] t := by
  unfold signP
  rw [if_neg (by intro h; simp at h)]
  rfl

theorem sg_47 (t : Bs) : signP (47 :: t) = .ok [47] t := by
  unfold signP
  rw [if_neg (by intro h; simp at h)]
  rfl

theorem sg_37 (t : Bs) : signP (37 :: t) = .ok [37] t := by
  unfold signP
  rw [if_neg (by intro h; simp at h)]
  rfl

theorem sg_94 (t : Bs) : signP (94 :: t) = .ok [94] t := by
  unfold signP
  rw [if_neg (by intro h; simp at h)]
  rfl

theorem sg_35 (t : Bs) : signP (35 :: t) = .ok [35] t := by
  unfold signP
  rw [if_neg (by intro h; simp at h)]
  rfl

theorem sg_40 (t : Bs) : signP (40 :: t) = .ok [40] t := by
  unfold signP
  rw [if_neg (by intro h; simp at h)]
  rfl

theorem sg_41 (t : Bs) : signP (41 :: t) = .ok [41] t := by
  unfold signP
  rw [if_neg (by intro h; simp at h)]
  rfl

theorem sg_123 (t : Bs) : signP (123 :: t) = .ok [123] t := by
  unfold signP
  rw [if_neg (by intro h; simp at h)]
  rfl

theorem sg_125 (t : Bs) : signP (125 :: t) = .ok [125] t := by
  unfold signP
  rw [if_neg (by intro h; simp at h)]
  rfl

theorem sg_93 (t : Bs) : signP (93 :: t) = .ok [93] t := by
  unfold signP
  rw [if_neg (by intro h; simp at h)]
  rfl

theorem sg_59 (t : Bs) : signP (59 :: t) = .ok [59] t := by
  unfold signP
  rw [if_neg (by intro h; simp at h)]
  rfl

theorem sg_44 (t : Bs) : signP (44 :: t) = .ok [44] t := by
  unfold signP
  rw [if_neg (by intro h; simp at h)]
  rfl

theorem sg_45a (t : Bs) (h : hd t ≠ 45) : signP (45 :: t) = .ok [45] t := by
  unfold signP
  rw [if_neg (by intro h; simp at h)]
  cases t with
  | nil => rfl
  | cons x u =>
    have hx : (45 == x) = false := by
      rw [beq_eq_false_iff_ne]
      rintro rfl
      exact h rfl
    simp [sgns, List.find?, List.isPrefixOf, hx]

theorem sg_61a (t : Bs) (h : hd t ≠ 61) : signP (61 :: t) = .ok [61] t := by
  unfold signP
  rw [if_neg (by intro h; simp at h)]
  cases t with
  | nil => rfl
  | cons x u =>
    have hx : (61 == x) = false := by
      rw [beq_eq_false_iff_ne]
      rintro rfl
      exact h rfl
    simp [sgns, List.find?, List.isPrefixOf, hx]

theorem sg_60a (t : Bs) (h : hd t ≠ 61) : signP (60 :: t) = .ok [60] t := by
  unfold signP
  rw [if_neg (by intro h; simp at h)]
  cases t with
  | nil => rfl
  | cons x u =>
    have hx : (61 == x) = false := by
      rw [beq_eq_false_iff_ne]
      rintro rfl
      exact h rfl
    simp [sgns, List.find?, List.isPrefixOf, hx]

theorem sg_62a (t : Bs) (h : hd t ≠ 61) : signP (62 :: t) = .ok [62] t := by
  unfold signP
  rw [if_neg (by intro h; simp at h)]
  cases t with
  | nil => rfl
  | cons x u =>
    have hx : (61 == x) = false := by
      rw [beq_eq_false_iff_ne]
      rintro rfl
      exact h rfl
    simp [sgns, List.find?, List.isPrefixOf, hx]

theorem sg_61b (t : Bs) : signP (61 :: 61 :: t) = .ok [61, 61] t := by
  unfold signP
  rw [if_neg (by intro h; simp at h)]
  rfl

theorem sg_126b (t : Bs) : signP (126 :: 61 :: t) = .ok [126, 61] t := by
  unfold signP
  rw [if_neg (by intro h; simp at h)]
  rfl

theorem sg_60b (t : Bs) : signP (60 :: 61 :: t) = .ok [60, 61] t := by
  unfold signP
  rw [if_neg (by intro h; simp at h)]
  rfl

theorem sg_62b (t : Bs) : signP (62 :: 61 :: t) = .ok [62, 61] t := by
  unfold signP
  rw [if_neg (by intro h; simp at h)]
  rfl

theorem sg_126a (t : Bs) (h : hd t ≠ 61) : signP (126 :: t) = .no 1 := by
  unfold signP
  rw [if_neg (by intro h; simp at h)]
  cases t with
  | nil => rfl
  | cons x u =>
    have hx : (61 == x) = false := by
      rw [beq_eq_false_iff_ne]
      rintro rfl
      exact h rfl
    simp [sgns, List.find?, List.isPrefixOf, hx]
theorem sg_58 (t : Bs) (h : hd t ≠ 58) : signP (58 :: t) = .ok [58] t := by
  unfold signP
  cases t with
  | nil => rfl
  | cons x u =>
    have hx : x ≠ 58 := by
      rintro rfl
      exact h rfl
    rw [if_neg (by intro h; simp at h; exact hx h)]
    rfl
theorem sg_58b (t : Bs) (h : hd t = 58) : signP (58 :: t) = .no 2 := by
  cases t with
  | nil => simp [hd] at h
  | cons x u =>
    have hx : x = 58 := UInt8.toNat_inj.1 (by rw [hd_c] at h; show x.toNat = 58; omega)
    subst hx
    rfl
theorem sg_91 (t : Bs) (h : hd t ≠ 61) : signP (91 :: t) = .ok [91] t := by
  unfold signP
  cases t with
  | nil => rfl
  | cons x u =>
    have hx : x ≠ 61 := by
      rintro rfl
      exact h rfl
    rw [if_neg (by intro h; simp at h; exact hx h)]
    rfl
theorem sg_91b (t : Bs) (h : hd t = 61) : signP (91 :: t) = .no 2 := by
  cases t with
  | nil => simp [hd] at h
  | cons x u =>
    have hx : x = 61 := UInt8.toNat_inj.1 (by rw [hd_c] at h; show x.toNat = 61; omega)
    subst hx
    rfl
theorem sg_46c (t : Bs) : signP (46 :: 46 :: 46 :: t) = .ok [46, 46, 46] t := by
  unfold signP
  rw [if_neg (by intro h; simp at h)]
  rfl
theorem sg_46b (t : Bs) (h : hd t ≠ 46) : signP (46 :: 46 :: t) = .ok [46, 46] t := by
  unfold signP
  rw [if_neg (by intro h; simp at h)]
  cases t with
  | nil => rfl
  | cons x u =>
    have hx : (46 == x) = false := by
      rw [beq_eq_false_iff_ne]
      rintro rfl
      exact h rfl
    simp [sgns, List.find?, List.isPrefixOf, hx]
theorem sg_46a (t : Bs) (h : hd t ≠ 46) : signP (46 :: t) = .ok [46] t := by
  unfold signP
  rw [if_neg (by intro h; simp at h)]
  cases t with
  | nil => rfl
  | cons x u =>
    have hx : (46 == x) = false := by
      rw [beq_eq_false_iff_ne]
      rintro rfl
      exact h rfl
    simp [sgns, List.find?, List.isPrefixOf, hx]
theorem sgns_fst : ∀ s ∈ sgns, ∃ c t, s = c :: t ∧ c.toNat ∈ [45, 91, 61, 126, 60, 62, 46, 58, 43, 42, 47, 37, 94, 35, 40, 41, 123, 125, 93, 59, 44] := by
  have h : ∀ s ∈ sgns, s.head?.any (fun c => [45, 91, 61, 126, 60, 62, 46, 58, 43, 42, 47, 37, 94, 35, 40, 41, 123, 125, 93, 59, 44].contains c.toNat) = true := by decide
  intro s hs
  have := h s hs
  cases s with
  | nil => simp at this
  | cons c t => exact ⟨c, t, rfl, by simpa using this⟩
theorem sg_bad {c : UInt8} {t s r' : Bs} (hc : ∀ n ∈ [45, 91, 61, 126, 60, 62, 46, 58, 43, 42, 47, 37, 94, 35, 40, 41, 123, 125, 93, 59, 44], c.toNat ≠ n) : signP (c :: t) ≠ .ok s r' := by
  unfold signP
  intro h
  split at h
  · cases h
  · split at h
    · rename_i s' hf
      have hm := List.mem_of_find?_eq_some hf
      have hp := List.find?_some hf
      obtain ⟨x, u, rfl, hx⟩ := sgns_fst _ hm
      simp only [List.isPrefixOf, Bool.and_eq_true, beq_iff_eq] at hp
      exact hc x.toNat hx (by rw [hp.1])
    · split at h <;> cases h

end Go.Proofs.YtbgjjbffpckimaaDoor
