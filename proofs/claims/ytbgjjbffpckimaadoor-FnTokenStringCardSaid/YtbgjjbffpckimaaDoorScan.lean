/-
  Scan, whole.
-/
import Derived.Test.YtbgjjbffpckimaaDoorSgn
namespace Go.Proofs.YtbgjjbffpckimaaDoor
set_option linter.all false
open Go.RowKit

theorem First.cons_inv {c : UInt8} {t : Bs} {o : Option (Tok × Bs × Bs)} {k : Nat} (h : First (c :: t) o k) (h0 : isSp c = false) :
    (∃ u r', c = 45 ∧ t = 45 :: u ∧ comP u = .ok () r' ∧ First r' o k) ∨ (∃ u, c = 45 ∧ t = 45 :: u ∧ comP u = .no k ∧ o = none) ∨
    (¬ (c = 45 ∧ t.head? = some 45) ∧ ∃ tk r', nextP (c :: t) = .ok tk r' ∧ o = some (tk, c :: t, r') ∧ k = 0) ∨ (¬ (c = 45 ∧ t.head? = some 45) ∧ nextP (c :: t) = .no k ∧ o = none) := by
  generalize hr : c :: t = r at h
  cases h with
  | nil => cases hr
  | ws hc h => injection hr with h1 h2; subst h1; rw [h0] at hc; cases hc
  | com hc h => injection hr with h1 h2; subst h1; exact .inl ⟨_, _, rfl, h2, hc, h⟩
  | comNo hc => injection hr with h1 h2; subst h1; exact .inr (.inl ⟨_, rfl, h2, hc, rfl⟩)
  | tok h0 h1 hn => injection hr with e1 e2; subst e1; subst e2; exact .inr (.inr (.inl ⟨h1, _, _, hn, rfl, rfl⟩))
  | no h0 h1 hn => injection hr with e1 e2; subst e1; subst e2; exact .inr (.inr (.inr ⟨h1, hn, rfl⟩))

theorem NoCr.suf {p r : Bs} (h : NoCr (p ++ r)) : NoCr r := h.app
theorem comP_len {r r' : Bs} (h : comP r = .ok () r') : r'.length ≤ r.length := by
  obtain ⟨p, hp⟩ := comP_suf h
  rw [hp, List.length_append]
  omega
theorem strB_suf {q : UInt8} (n : Nat) : ∀ {t s r : Bs}, t.length ≤ n → strB q t = .ok s r → ∃ p, t = p ++ r := by
  induction n with
  | zero =>
    intro t s r hl h
    have : t = [] := List.length_eq_zero_iff.1 (by omega)
    subst this
    rw [strB_nil] at h
    cases h
  | succ n ih =>
    intro t s r hl h
    rw [strB.eq_def] at h
    cases t with
    | nil => cases h
    | cons c t =>
      simp only [List.length_cons] at hl
      simp only [] at h
      split at h
      · cases h
      · split at h
        · injection h with h1 h2
          exact ⟨[c], by rw [h2]; rfl⟩
        · split at h
          · cases t with
            | nil => cases h
            | cons d u =>
              simp only [List.length_cons] at hl
              simp only [] at h
              split at h
              · rename_i hd
                split at h
                · obtain ⟨a, ha, _⟩ := map_ok h
                  have hl3 := dig3_le d u hd
                  obtain ⟨p, hp⟩ := ih (by omega) ha
                  obtain ⟨ds, hds, _⟩ := dig3_suffix 3 0 (d :: u)
                  exact ⟨c :: (ds ++ p), by rw [List.cons_append, List.append_assoc, ← hp, ← hds]⟩
                · cases h
              · split at h
                · obtain ⟨a, ha, _⟩ := map_ok h
                  obtain ⟨p, hp⟩ := ih (by omega) ha
                  exact ⟨c :: d :: p, by rw [List.cons_append, List.cons_append, ← hp]⟩
                · cases h
          · obtain ⟨a, ha, _⟩ := map_ok h
            obtain ⟨p, hp⟩ := ih (by omega) ha
            exact ⟨c :: p, by rw [List.cons_append, ← hp]⟩

/-- The switch at any text that begins with no blank. -/
theorem sw_first {w0 w : World} {b : Bl} {c : UInt8} {t : Bs} {L : Int} {g : Nat} {X R T bm : Nat} {obj : Obj} {so : ByteArray} {cl C : Int} {Q : Exit → Act → World → Prop} {o : Option (Tok × Bs × Bs)} {k : Nat} {a : Act} (HE : Hid (Env w0 b X bm))
    (hF : FrW b X R T g (.int .i64 (hd (c :: t))) a) (HM : Hid (Mid w0 b t L g [] X R T bm obj 0 ⟨#[]⟩ so (C - nl (c :: t)) cl w)) (hL : L + nl (c :: t) = C) (h13 : NoCr (c :: t))
    (h0 : isSp c = false) (hf : First (c :: t) o k) (hk : k ≠ 2)
    (cN : ∀ a' w', Told (ScanPost o k C w0 b X bm obj) w0 b X R bm obj a' w' → Q .normal a' w')
    (cE : ∀ a' w', Told (ScanPost o k C w0 b X bm obj) w0 b X R bm obj a' w' → Q (.goto 1) a' w')
    (cR : ∀ a' w' n, n < (c :: t).length → Again w0 b X R bm obj o k C n a' w' → Q (.goto 0) a' w') :
    sw12.wp Tryd.prog Q a w := by
  have c10 := isSp_no h0
  have hnl : nl (c :: t) = nl t := by rw [nl_cons, if_neg c10]; omega
  have hLt : L + nl t = C := by omega
  have hlen := HM.out.sb.rd.len
  rcases hf.cons_inv h0 with ⟨u, r', rfl, rfl, hc, hf'⟩ | ⟨u, rfl, rfl, hc, rfl⟩ | ⟨h1, tk, r', hn, rfl, rfl⟩ | ⟨h1, hn, rfl⟩
  · obtain ⟨uu, rfl⟩ := hF
    have hnu : nl ((45 : UInt8) :: u) = nl u := by rw [nl_cons, if_neg (by decide)]; omega
    refine sw_com uu HE HM hc (by intro j hj; cases hj) h13.tail ?_ ?_
    · intro a' w' r1 r2 L2 he hfr hfin hr2 hL2
      injection he with _ he
      subst he
      have hcr : NoCr r' := by
        obtain ⟨p, hp⟩ := comP_suf hc
        have := h13.tail.tail
        rw [hp] at this
        exact this.suf
      have hlr := comP_len hc
      refine cR a' w' r2.length ?_ ⟨r2, L2, hfr, ⟨hfin.rd, hfin.rk, hfin.tb, hfin.lx, hfin.ch, hfin.nR⟩, ?_, ?_, ?_, rfl⟩
      · have : r2.length ≤ r'.length := by
          rcases hr2 with rfl | rfl
          · omega
          · simp
        simp only [List.length_cons]
        omega
      · rcases hr2 with rfl | rfl
        · exact hf'
        · exact hf'.tail10
      · rcases hr2 with rfl | rfl
        · exact hcr
        · exact hcr.tail
      · rcases hL2 with h | h
        · exact .inl h
        · exact .inr (by omega)
    · intro a' w' p j r2 L2 he
      cases he
  · obtain ⟨uu, rfl⟩ := hF
    have hk1 : k = 1 := by
      rcases comP_no hc with h | h
      · exact h
      · exact absurd h hk
    subst hk1
    refine sw_com uu HE HM hc (by intro j hj; injection hj with hj; exact hj.symm) h13.tail ?_ ?_
    · intro a' w' r1 r2 L2 he
      cases he
    · intro a' w' p j r2 L2 he hfr hfin
      exact cE a' w' (told_err (by decide) hfr (by decide) hfin)
  · rw [nextP_cons] at hn
    by_cases hl : isLet c = true
    · rw [if_pos hl] at hn
      unfold nameP at hn
      obtain ⟨uu, rfl⟩ := hF
      by_cases hg : (c :: t).takeWhile isIdc = gotoB
      · rw [if_pos hg] at hn
        cases hn
      · rw [if_neg hg] at hn
        injection hn with hn1 hn2
        subst hn2
        have hnn := nl_let (t := t) hl
        have h13d : NoCr ((c :: t).dropWhile isIdc) := h13.drop
        by_cases hkw : (c :: t).takeWhile isIdc ∈ kws
        · refine sw_word uu HE HM hl hkw h13.tail fun a' w' ty st hfr hty hty2 hfin => cN a' w' (told_tok hfr ?_ hty2 ?_ hfin (by omega) h13d)
          · rw [← hn1, if_pos hkw]
            exact hty
          · rcases hty with h | ⟨_, h⟩ | h | h | h
            · omega
            · intro e
              rw [e] at h
              revert h
              have : ∀ s : Bs, (s, (-1 : Int)) ∉ kwTab.take 21 := by
                intro s hs
                have h2 : ∀ p ∈ kwTab.take 21, p.2 ≠ -1 := by decide
                exact h2 _ hs rfl
              exact this _
            · omega
            · omega
            · omega
        · refine sw_name uu HE HM hl hkw hg h13.tail fun a' w' ty st hfr hty hty2 hfin => cN a' w' (told_tok hfr ?_ hty2 ?_ hfin (by omega) h13d)
          · rw [← hn1, if_neg hkw]
            exact hty
          · rcases hty with h | h | h | h | h <;> omega
    have hl' : isLet c = false := by simpa using hl
    rw [if_neg hl] at hn
    by_cases hdd : (isDec c || (c == 46 && t.head?.any isDec)) = true
    · rw [if_pos hdd] at hn
      by_cases hdc : isDec c = true
      · cases hnm : numP (c :: t) with
        | no j => rw [hnm] at hn; cases hn
        | ok x rest =>
          rw [hnm] at hn
          simp only [] at hn
          injection hn with hn1 hn2
          subst hn2
          obtain ⟨raw, hraw, hne, hnr, hcall⟩ := num_call hnm hdc h13 (by omega)
          obtain ⟨uu, rfl⟩ := hF
          have hnn : nl (c :: t) = nl rest := by rw [hraw, nl_app, hnr]; omega
          refine sw_num uu HE HM hdc (fun w1 hs => hcall w1 b L g hs) fun a' w' hfr hfin => cN a' w' (told_tok hfr ?_ (by decide) (by decide) hfin (by omega) ?_)
          · rw [← hn1]
            simp only []
            rw [raw_take hraw]
            exact .inr (.inr (.inr (.inl ⟨rfl, rfl, rfl⟩)))
          · have := h13
            rw [hraw] at this
            exact this.suf
      · have hdc' : isDec c = false := by simpa using hdc
        rw [hdc', Bool.false_or, Bool.and_eq_true, beq_iff_eq] at hdd
        rw [hdd.1, numP_46] at hn
        cases hn
    have hdd2 : ¬ (c = 46 ∧ hdIs isDec t = true) := by
      rintro ⟨rfl, h⟩
      apply hdd
      have : t.head?.any isDec = true := by
        cases t with
        | nil => cases h
        | cons y u => exact h
      rw [this]
      rfl
    have hdc' : isDec c = false := by
      cases h : isDec c with
      | false => rfl
      | true => rw [h] at hdd; exact absurd rfl hdd
    rw [if_neg hdd] at hn
    by_cases hq : c = 34 ∨ c = 39
    · rw [if_pos hq] at hn
      obtain ⟨s, hs, hs2⟩ := map_ok hn
      obtain ⟨p, hp⟩ := strB_suf t.length (Nat.le_refl _) hs
      have hcr : NoCr r' := by have := h13.tail; rw [hp] at this; exact this.suf
      subst hs2
      obtain ⟨uu, rfl⟩ := hF
      rcases hq with rfl | rfl
      · refine sw_34 uu HE HM hs (by intro j hj; cases hj) h13.tail ?_ (by intro a' w' p j r2 L2 l2 he; cases he)
        intro a' w' s2 r2 he hfr hfin
        injection he with he1 he2
        subst he1
        subst he2
        exact cN a' w' (told_tok hfr (.inr (.inr (.inr (.inr ⟨rfl, rfl, rfl⟩)))) (by decide) (by decide) hfin (by omega) hcr)
      · refine sw_39 uu HE HM hs (by intro j hj; cases hj) h13.tail ?_ (by intro a' w' p j r2 L2 l2 he; cases he)
        intro a' w' s2 r2 he hfr hfin
        injection he with he1 he2
        subst he1
        subst he2
        exact cN a' w' (told_tok hfr (.inr (.inr (.inr (.inr ⟨rfl, rfl, rfl⟩)))) (by decide) (by decide) hfin (by omega) hcr)
    rw [if_neg hq] at hn
    by_cases hb : ∃ n, brk 91 (c :: t) = some n
    · obtain ⟨n, hb⟩ := hb
      rw [hb] at hn
      simp only [] at hn
      rw [brk_cons] at hb
      by_cases hcc : c = 91 ∧ (t.dropWhile (· == 61)).head? = some 91
      · rw [if_pos hcc] at hb
        injection hb with hb
        obtain ⟨rfl, hh⟩ := hcc
        obtain ⟨r1, hr1⟩ : ∃ r1, t.dropWhile (· == 61) = 91 :: r1 := by
          cases h : t.dropWhile (· == 61) with
          | nil => rw [h] at hh; cases hh
          | cons x u =>
            rw [h] at hh
            injection hh with hx
            exact ⟨u, by rw [hx]⟩
        have hdrop : ((91 : UInt8) :: t).drop (n + 2) = r1 := by
          rw [← hb, show eqs t + 2 = (eqs t + 1) + 1 by omega, List.drop_succ_cons, ← List.drop_drop, drop_eqs, hr1]
          rfl
        rw [hdrop] at hn
        obtain ⟨s, hs, hs2⟩ := map_ok hn
        obtain ⟨p, hp⟩ := longB_suf hs
        have hcr : NoCr r' := by
          obtain ⟨q, hq'⟩ := cut10_suf r1
          have h2 : NoCr ((91 : UInt8) :: r1) := by rw [← hr1]; exact h13.tail.drop
          have := h2.tail
          rw [hq', hp] at this
          exact this.suf.suf
        subst hs2
        obtain ⟨uu, rfl⟩ := hF
        refine sw_91b uu HE HM hr1 hb hs (by intro j hj; cases hj) h13.tail ?_ (by intro a' w' p j r2 L2 l2 he; cases he)
        intro a' w' s2 r2 he hfr hfin
        injection he with he1 he2
        subst he1
        subst he2
        exact cN a' w' (told_tok hfr (.inr (.inr (.inr (.inr ⟨rfl, rfl, rfl⟩)))) (by decide) (by decide) hfin (by omega) hcr)
      · rw [if_neg hcc] at hb
        cases hb
    · have hb' : brk 91 (c :: t) = none := by
        cases h : brk 91 (c :: t) with
        | none => rfl
        | some n => exact absurd ⟨n, h⟩ hb
      rw [hb'] at hn
      simp only [] at hn
      obtain ⟨s, hs, hs2⟩ := map_ok hn
      subst hs2
      refine sw_sign (n := 0) HE hF HM hL h13 h0 h1 hl' hdc' ⟨fun e => hq (.inl e), fun e => hq (.inr e)⟩ hdd2 hb' hs (by intro j hj; cases hj) ?_ ?_
      · rintro o k a' w' ⟨rfl, rfl⟩ h
        exact cN a' w' h
      · rintro o k a' w' ⟨rfl, rfl⟩ h
        exact cE a' w' h
  · have hk1 : k = 1 := by
      rcases nextP_no hn with h | h
      · exact h
      · exact absurd h hk
    subst hk1
    rw [nextP_cons] at hn
    by_cases hl : isLet c = true
    · rw [if_pos hl] at hn
      unfold nameP at hn
      split at hn
      · injection hn with hn; omega
      · cases hn
    have hl' : isLet c = false := by simpa using hl
    rw [if_neg hl] at hn
    by_cases hdd : (isDec c || (c == 46 && t.head?.any isDec)) = true
    · rw [if_pos hdd] at hn
      cases hnm : numP (c :: t) with
      | no j =>
        rw [hnm] at hn
        injection hn with hn
        have := numP_no hnm
        omega
      | ok x rest =>
        rw [hnm] at hn
        cases hn
    have hdd2 : ¬ (c = 46 ∧ hdIs isDec t = true) := by
      rintro ⟨rfl, h⟩
      apply hdd
      have : t.head?.any isDec = true := by
        cases t with
        | nil => cases h
        | cons y u => exact h
      rw [this]
      rfl
    have hdc' : isDec c = false := by
      cases h : isDec c with
      | false => rfl
      | true => rw [h] at hdd; exact absurd rfl hdd
    rw [if_neg hdd] at hn
    by_cases hq : c = 34 ∨ c = 39
    · rw [if_pos hq] at hn
      have hs := map_no' hn
      obtain ⟨uu, rfl⟩ := hF
      rcases hq with rfl | rfl
      · refine sw_34 uu HE HM hs (by intro j hj; injection hj with hj; exact hj.symm) h13.tail (by intro a' w' s2 r2 he; cases he) ?_
        intro a' w' p j r2 L2 l2 he hfr hfin
        exact cN a' w' (told_err (by decide) hfr (by decide) hfin)
      · refine sw_39 uu HE HM hs (by intro j hj; injection hj with hj; exact hj.symm) h13.tail (by intro a' w' s2 r2 he; cases he) ?_
        intro a' w' p j r2 L2 l2 he hfr hfin
        exact cN a' w' (told_err (by decide) hfr (by decide) hfin)
    rw [if_neg hq] at hn
    by_cases hb : ∃ n, brk 91 (c :: t) = some n
    · obtain ⟨n, hb⟩ := hb
      rw [hb] at hn
      simp only [] at hn
      rw [brk_cons] at hb
      by_cases hcc : c = 91 ∧ (t.dropWhile (· == 61)).head? = some 91
      · rw [if_pos hcc] at hb
        injection hb with hb
        obtain ⟨rfl, hh⟩ := hcc
        obtain ⟨r1, hr1⟩ : ∃ r1, t.dropWhile (· == 61) = 91 :: r1 := by
          cases h : t.dropWhile (· == 61) with
          | nil => rw [h] at hh; cases hh
          | cons x u =>
            rw [h] at hh
            injection hh with hx
            exact ⟨u, by rw [hx]⟩
        have hdrop : ((91 : UInt8) :: t).drop (n + 2) = r1 := by
          rw [← hb, show eqs t + 2 = (eqs t + 1) + 1 by omega, List.drop_succ_cons, ← List.drop_drop, drop_eqs, hr1]
          rfl
        rw [hdrop] at hn
        have hs := map_no' hn
        obtain ⟨uu, rfl⟩ := hF
        refine sw_91b uu HE HM hr1 hb hs (by intro j hj; injection hj with hj; exact hj.symm) h13.tail (by intro a' w' s2 r2 he; cases he) ?_
        intro a' w' p j r2 L2 l2 he hfr hfin
        exact cN a' w' (told_err (by decide) hfr (by decide) hfin)
      · rw [if_neg hcc] at hb
        cases hb
    · have hb' : brk 91 (c :: t) = none := by
        cases h : brk 91 (c :: t) with
        | none => rfl
        | some n => exact absurd ⟨n, h⟩ hb
      rw [hb'] at hn
      simp only [] at hn
      have hs := map_no' hn
      refine sw_sign (n := 0) HE hF HM hL h13 h0 h1 hl' hdc' ⟨fun e => hq (.inl e), fun e => hq (.inr e)⟩ hdd2 hb' hs (by intro j hj; injection hj with hj; exact hj.symm) ?_ ?_
      · rintro o k a' w' ⟨rfl, rfl⟩ h
        exact cN a' w' h
      · rintro o k a' w' ⟨rfl, rfl⟩ h
        exact cE a' w' h

theorem First.nil_inv {o : Option (Tok × Bs × Bs)} {k : Nat} (h : First [] o k) : o = none ∧ k = 0 := by
  cases h
  exact ⟨rfl, rfl⟩
theorem dropSp_hd {r : Bs} : hdIs isSp (r.dropWhile isSp) = false := drop_hd
theorem nl_sp_le (r : Bs) (p : UInt8 → Bool) : (r.dropWhile p) ≠ [] → r ≠ [] := by
  rintro h rfl
  exact h rfl

/-- The switch at any text. -/
theorem sw_any {w0 w : World} {b : Bl} {r rc : Bs} {L : Int} {g : Nat} {X R T bm : Nat} {obj : Obj} {so : ByteArray} {cl C : Int} {Q : Exit → Act → World → Prop} {o : Option (Tok × Bs × Bs)} {k : Nat} {a : Act} (HE : Hid (Env w0 b X bm))
    (hrc : r.dropWhile isSp = rc) (hF : FrW b X R T g (.int .i64 (hd rc)) a) (hM : Mid w0 b (tl1 rc) (ln1 rc (L + nl r - nl rc)) g [] X R T bm obj 0 ⟨#[]⟩ so (ln1 rc (L + nl r - nl rc)) cl w) (hL : r = [] ∨ L + nl r = C) (h13 : NoCr r)
    (hf : First r o k) (hk : k ≠ 2)
    (cN : ∀ a' w', Told (ScanPost o k C w0 b X bm obj) w0 b X R bm obj a' w' → Q .normal a' w')
    (cE : ∀ a' w', Told (ScanPost o k C w0 b X bm obj) w0 b X R bm obj a' w' → Q (.goto 1) a' w')
    (cR : ∀ a' w' n, n < r.length → Again w0 b X R bm obj o k C n a' w' → Q (.goto 0) a' w') :
    sw12.wp Tryd.prog Q a w := by
  have hf' := hf.skip
  rw [hrc] at hf'
  have hcr : NoCr rc := by rw [← hrc]; exact h13.drop
  have hlen : rc.length ≤ r.length := by rw [← hrc]; exact (List.dropWhile_sublist _).length_le
  have hsp : hdIs isSp rc = false := by rw [← hrc]; exact drop_hd
  cases rc with
  | nil =>
    obtain ⟨rfl, rfl⟩ := hf'.nil_inv
    obtain ⟨u, rfl⟩ := hF
    exact sw_eof (t := []) u HE (Lib.hid hM) fun a' w' hfr hfin => cN a' w' ⟨T, _, _, _, _, _, _, _, _, hfr, hfin, by decide, fun e w2 h => .inl ⟨rfl, rfl, _, _, _, h⟩⟩
  | cons c t =>
    have h0 : isSp c = false := hsp
    have c10 := isSp_no h0
    have hL' : L + nl r = C := by
      rcases hL with h | h
      · subst h; cases hrc
      · exact h
    rw [show tl1 (c :: t) = t from rfl, ln1_of (c := c) (t := t) rfl c10, hL'] at hM
    exact sw_first HE hF (Lib.hid hM) (by omega) hcr h0 hf' hk cN cE fun a' w' n hn => cR a' w' n (by omega)

theorem scan_pass {w0 w : World} {b : Bl} {r : Bs} {L : Int} {X R bm : Nat} {obj : Obj} {C : Int} {Q : Exit → Act → World → Prop} {o : Option (Tok × Bs × Bs)} {k : Nat} {a : Act} (HE : Hid (Env w0 b X bm)) (hF : FrS b X R a) (hP : Pre w0 b r L X R bm obj w) (hL : r = [] ∨ L + nl r = C) (h13 : NoCr r) (hf : First r o k) (hk : k ≠ 2)
    (cN : ∀ a' w', Told (ScanPost o k C w0 b X bm obj) w0 b X R bm obj a' w' → lab12.wp Tryd.prog Q a' w')
    (cE : ∀ a' w', Told (ScanPost o k C w0 b X bm obj) w0 b X R bm obj a' w' → Q (.goto 1) a' w')
    (cR : ∀ a' w' n, n < r.length → Again w0 b X R bm obj o k C n a' w' → Q (.goto 0) a' w') :
    beg12.wp Tryd.prog Q a w := by
  obtain ⟨u, rfl⟩ := hF
  by_cases h10 : hd (r.dropWhile sp1) = 10
  · obtain ⟨t, ht⟩ := hd_of (n := 10) (by decide) h10
    have hcr : NoCr t := by have := h13.drop (p := sp1); rw [ht] at this; exact this.tail
    refine pre_b u HE (Lib.hid hP) h13 ht rfl ?_
    intro K a' w' T g so cl hK hF hM
    exact sw_any HE (skip_b ht hcr) hF hM hL h13 hf hk (fun a2 w2 h => hK _ _ (cN a2 w2 h)) (fun a2 w2 h => cE a2 w2 h) (fun a2 w2 n hn h => cR a2 w2 n hn h)
  · refine pre_a u HE (Lib.hid hP) h13 h10 rfl ?_
    intro K a' w' T g so cl hK hF hM
    exact sw_any HE (skip_a r h10) hF hM hL h13 hf hk (fun a2 w2 h => hK _ _ (cN a2 w2 h)) (fun a2 w2 h => cE a2 w2 h) (fun a2 w2 n hn h => cR a2 w2 n hn h)

/-- What holds at the two labels. -/
def ScanI (o : Option (Tok × Bs × Bs)) (k : Nat) (C : Int) (w0 : World) (b : Bl) (X R bm : Nat) (obj : Obj) (l n : Nat) (a : Act) (w : World) : Prop :=
  (l = 0 ∧ ∃ m, n = m + 1 ∧ Again w0 b X R bm obj o k C m a w) ∨ (l = 1 ∧ n = 0 ∧ Told (ScanPost o k C w0 b X bm obj) w0 b X R bm obj a w)

theorem c12_find0 : findLabel c12 0 = some (rest12 0) := by kernel_rfl
theorem c12_find1 : findLabel c12 1 = some (rest12 1) := by kernel_rfl
/-- The first label and what follows. -/
theorem c12_eq : c12 = (Code.label 0).seq beg12 := by kernel_rfl
theorem rest12_0 : rest12 0 = Code.skip.seq beg12 := by kernel_rfl

set_option maxRecDepth 100000 in
set_option maxHeartbeats 4000000 in
theorem scan_calls {w : World} {b : Bl} {r : Bs} {L C : Int} {X bm : Nat} {obj : Obj} {o : Option (Tok × Bs × Bs)} {k : Nat} (HE : Hid (Env w b X bm)) (hr : Rd w b r L) (ht : Tab w bm obj) (hx : LxAt w X) (hL : r = [] ∨ L + nl r = C) (h13 : NoCr r) (hf : First r o k) (hk : k ≠ 2) :
    Calls Tryd.prog 12 #[ptr b.Z, ptr X] w (ScanPost o k C w b X bm obj) := by
  have HR := Lib.hid hr
  have HT := Lib.hid ht
  have HX := Lib.hid hx
  have HL := Lib.hid hL
  have H13 := Lib.hid h13
  have HF := Lib.hid hf
  have HRK := Lib.hid (TokAt.fresh w)
  clear hr ht hx hL h13 hf
  go_enter Tryd.func12, Tryd.ntmps12
  go_wp2_with fail
  have hca : Ch (fun _ => False) w (w.alloc (.cells #[.int .i64 0, .string ⟨#[]⟩, .string ⟨#[]⟩, .string ⟨#[]⟩, .int .i64 0, .int .i64 0] 42)) := (Ch.refl _ _).alloc _
  have hag : Again w b X w.heap.size bm obj o k C r.length { tmps := #[ptr b.Z, ptr X, undef, undef, ptr w.heap.size, .nilIface, undef, undef, undef, undef, undef, undef, undef, undef, undef, undef, undef, undef, undef, undef, undef, undef, undef, undef, undef, undef, undef, undef, undef, undef, undef, undef, undef, undef, undef, undef, undef, undef, undef, undef, undef, undef, undef, undef, undef, undef, undef, undef, undef, undef, undef, undef, undef, undef, undef, undef, undef, undef, undef, undef, undef, undef, undef, undef, undef, undef, undef, undef, undef, undef, undef, undef, undef, undef, undef, undef, undef, undef, undef, undef, undef, undef, undef, undef, undef, undef, undef, undef, undef, undef, undef, undef, undef, undef, undef, undef, undef, undef, undef, undef, undef, undef, undef, undef, undef, undef, undef, undef, undef, undef, undef, undef, undef, undef, undef, undef, undef, undef, undef, undef, undef, undef, undef, undef, undef, undef, undef, undef, undef, undef, undef, undef, undef, undef, undef, undef, undef, undef, undef, undef, undef, undef, undef, undef, undef, undef, undef, undef, undef, undef, undef, undef, undef, undef, undef, undef, undef, undef, undef, undef, undef, undef, undef, undef, undef, undef, undef, undef, undef, undef, undef, undef, undef, undef, undef, undef, undef, undef, undef, undef, undef, undef, undef, undef, undef, undef, undef, undef, undef, undef, undef, undef, undef, undef, undef, undef, undef, undef, undef, undef, undef, undef, undef, undef, undef, undef, undef, undef, undef, undef, undef, undef, undef, undef, undef, undef, undef, undef, undef, undef, undef, undef, undef, undef, undef, undef, undef, undef, undef, undef, undef, undef, undef, undef, undef, undef, undef, undef, undef, undef, undef, undef, undef, undef, undef, undef, undef, undef, undef, undef, undef, undef, undef, undef, undef, undef, undef, undef, undef, undef, undef, undef, undef, undef, undef, undef, undef, undef, undef, undef, undef, undef, undef, undef, undef, undef, undef, undef, undef, undef, undef, undef, undef], defers := [] } (w.alloc (.cells #[.int .i64 0, .string ⟨#[]⟩, .string ⟨#[]⟩, .string ⟨#[]⟩, .int .i64 0, .int .i64 0] 42)) :=
    ⟨r, L, frS_mk rfl rfl rfl rfl, ⟨HR.out.moved hca, HRK.out, HT.out.keep hca id id id, HX.out.keep hca id, hca.mono fun _ _ h => h.elim, Nat.le_refl _⟩, HF.out, H13.out, HL.out, rfl⟩
  refine wp_scope_labels rest12 (ScanI o k C w b X w.heap.size bm obj) ?_ ?_ ?_
  · rintro l n a w' (⟨rfl, _⟩ | ⟨rfl, _⟩)
    · exact c12_find0
    · exact c12_find1
  · show c12.wp _ _ _ _
    rw [c12_eq]
    refine wp_seq (wp_label ?_)
    obtain ⟨r2, L2, hF2, hP2, hf2, h132, hL2, _⟩ := hag
    refine scan_pass HE hF2 hP2 hL2 h132 hf2 hk ?_ ?_ ?_
    · intro a' w' h
      exact lab12_wp HE h
    · intro a' w' h
      exact ⟨0, .inr ⟨rfl, rfl, h⟩⟩
    · intro a' w' n hn h
      exact ⟨n + 1, .inl ⟨rfl, n, rfl, h⟩⟩
  · rintro l n a w' (⟨rfl, m, rfl, r2, L2, hF2, hP2, hf2, h132, hL2, rfl⟩ | ⟨rfl, rfl, ht2⟩)
    · show (rest12 0).wp _ _ _ _
      rw [rest12_0]
      refine wp_seq (wp_skip ?_)
      refine scan_pass HE hF2 hP2 hL2 h132 hf2 hk ?_ ?_ ?_
      · intro a' w' h
        exact lab12_wp HE h
      · intro a' w' h
        exact ⟨0, by omega, .inr ⟨rfl, rfl, h⟩⟩
      · intro a' w' n hn h
        exact ⟨n + 1, by omega, .inl ⟨rfl, n, rfl, h⟩⟩
    · exact rest12_told HE ht2

end Go.Proofs.YtbgjjbffpckimaaDoor
