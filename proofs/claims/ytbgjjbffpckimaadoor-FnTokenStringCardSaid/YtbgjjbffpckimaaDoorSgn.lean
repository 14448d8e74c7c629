/-
  Scan: the first token of a text.
-/
import Derived.Test.YtbgjjbffpckimaaDoorScp
namespace Go.Proofs.YtbgjjbffpckimaaDoor
set_option linter.all false
open Go.RowKit

/-- The first token of a text, with the text from it on and what is left; what is told of the text. -/
inductive First : Bs → Option (Tok × Bs × Bs) → Nat → Prop
  | nil : First [] none 0
  | ws {c : UInt8} {t : Bs} {o : Option (Tok × Bs × Bs)} {k : Nat} (hc : isSp c = true) (h : First t o k) : First (c :: t) o k
  | com {r r' : Bs} {o : Option (Tok × Bs × Bs)} {k : Nat} (hc : comP r = .ok () r') (h : First r' o k) : First (45 :: 45 :: r) o k
  | comNo {r : Bs} {k : Nat} (hc : comP r = .no k) : First (45 :: 45 :: r) none k
  | tok {c : UInt8} {r r' : Bs} {t : Tok} (h0 : isSp c = false) (h1 : ¬ (c = 45 ∧ r.head? = some 45)) (hn : nextP (c :: r) = .ok t r') : First (c :: r) (some (t, c :: r, r')) 0
  | no {c : UInt8} {r : Bs} {k : Nat} (h0 : isSp c = false) (h1 : ¬ (c = 45 ∧ r.head? = some 45)) (hn : nextP (c :: r) = .no k) : First (c :: r) none k

theorem longB_no {n : Nat} : ∀ {t : Bs} {k : Nat}, longB n t = .no k → k = 1 ∨ k = 2
  | [], k, h => by injection h with h; exact .inl h.symm
  | c :: t, k, h => by
    rw [longB] at h
    split at h
    · cases h
    · split at h
      · injection h with h; exact .inr h.symm
      · cases hx : longB n t with
        | ok a r => rw [hx] at h; cases h
        | no j =>
          rw [hx] at h
          injection h with h
          subst h
          exact longB_no hx
theorem comP_no {r : Bs} {k : Nat} (h : comP r = .no k) : k = 1 ∨ k = 2 := by
  unfold comP at h
  split at h
  · rename_i n _
    cases hx : longB n (cut10 (r.drop (n + 2))) with
    | ok a r => rw [hx] at h; cases h
    | no j =>
      rw [hx] at h
      injection h with h
      subst h
      exact longB_no hx
  · split at h
    · injection h with h; exact .inr h.symm
    · cases h
theorem strB_no {q : UInt8} (n : Nat) : ∀ {t : Bs} {k : Nat}, t.length ≤ n → strB q t = .no k → k = 1 ∨ k = 2 := by
  induction n with
  | zero =>
    intro t k hl h
    have : t = [] := List.length_eq_zero_iff.1 (by omega)
    subst this
    rw [strB_nil] at h
    injection h with h
    exact .inl h.symm
  | succ n ih =>
    intro t k hl h
    have hm : ∀ (f : Bs → Bs) (u : Bs), u.length ≤ n → (strB q u).map f = .no k → k = 1 ∨ k = 2 := by
      intro f u hu hx
      cases hy : strB q u with
      | ok a r => rw [hy] at hx; cases hx
      | no j =>
        rw [hy] at hx
        injection hx with hx
        subst hx
        exact ih hu hy
    rw [strB.eq_def] at h
    cases t with
    | nil => injection h with h; exact .inl h.symm
    | cons c t =>
      simp only [List.length_cons] at hl
      simp only [] at h
      split at h
      · injection h with h; exact .inl h.symm
      · split at h
        · cases h
        · split at h
          · cases t with
            | nil => injection h with h; exact .inl h.symm
            | cons d u =>
              simp only [List.length_cons] at hl
              simp only [] at h
              split at h
              · rename_i hd
                split at h
                · exact hm _ _ (by have := dig3_le d u hd; omega) h
                · injection h with h; exact .inr h.symm
              · split at h
                · exact hm _ _ (by omega) h
                · injection h with h; exact .inr h.symm
          · exact hm _ _ (by omega) h
theorem signP_no {r : Bs} {k : Nat} (h : signP r = .no k) : k = 1 ∨ k = 2 := by
  unfold signP at h
  split at h
  · injection h with h; exact .inr h.symm
  · split at h
    · cases h
    · split at h
      · injection h with h; exact .inr h.symm
      · injection h with h; exact .inl h.symm
theorem map_no' {α β : Type} {f : α → β} {x : Rz α} {k : Nat} (h : x.map f = .no k) : x = .no k := by
  cases x with
  | ok a r => cases h
  | no j => injection h with h; rw [h]
theorem map_ok {α β : Type} {f : α → β} {x : Rz α} {y : β} {r : Bs} (h : x.map f = .ok y r) : ∃ a, x = .ok a r ∧ f a = y := by
  cases x with
  | ok a r' =>
    injection h with h1 h2
    subst h2
    exact ⟨a, rfl, h1⟩
  | no j => cases h
theorem nextP_cons (c : UInt8) (t : Bs) : nextP (c :: t) = if isLet c then nameP (c :: t)
    else if isDec c || (c == 46 && t.head?.any isDec) then
      match numP (c :: t) with
      | .ok x r' => .ok ⟨4, x, (c :: t).take ((c :: t).length - r'.length)⟩ r'
      | .no k => .no k
    else if c = 34 ∨ c = 39 then (strB c t).map fun x => ⟨5, x, x⟩
    else match brk 91 (c :: t) with
      | some k => (longB k (cut10 ((c :: t).drop (k + 2)))).map fun x => ⟨5, x, x⟩
      | none => (signP (c :: t)).map fun x => ⟨3, x, x⟩ := rfl
theorem nextP_no {r : Bs} {k : Nat} (h : nextP r = .no k) : k = 1 ∨ k = 2 := by
  cases r with
  | nil => injection h with h; exact .inr h.symm
  | cons c t =>
    rw [nextP_cons] at h
    split at h
    · unfold nameP at h
      split at h
      · injection h with h; exact .inr h.symm
      · cases h
    · split at h
      · split at h
        · cases h
        · rename_i hk
          injection h with h
          subst h
          exact .inr (numP_no hk)
      · split at h
        · exact strB_no t.length (Nat.le_refl _) (map_no' h)
        · split at h
          · exact longB_no (map_no' h)
          · exact signP_no (map_no' h)
theorem First.code {r : Bs} {k : Nat} : ∀ {o : Option (Tok × Bs × Bs)}, First r o k → k = 0 ∨ k = 1 ∨ k = 2 := by
  intro o h
  induction h with
  | nil => exact .inl rfl
  | ws _ _ ih => exact ih
  | com _ _ ih => exact ih
  | comNo hc => exact .inr (comP_no hc)
  | tok => exact .inl rfl
  | no _ _ hn => exact .inr (nextP_no hn)

theorem Lx.first {r : Bs} {ts : List (Tok × Bs)} {k : Nat} (h : Lx r ts k) :
    (First r none k ∧ ts = []) ∨ (∃ t at' r' ts', First r (some (t, at', r')) 0 ∧ ts = (t, at') :: ts' ∧ Lx r' ts' k) := by
  induction h with
  | nil => exact .inl ⟨.nil, rfl⟩
  | ws hc _ ih =>
    rcases ih with ⟨h1, h2⟩ | ⟨t, a, r', ts', h1, h2, h3⟩
    · exact .inl ⟨.ws hc h1, h2⟩
    · exact .inr ⟨t, a, r', ts', .ws hc h1, h2, h3⟩
  | com hc _ ih =>
    rcases ih with ⟨h1, h2⟩ | ⟨t, a, r', ts', h1, h2, h3⟩
    · exact .inl ⟨.com hc h1, h2⟩
    · exact .inr ⟨t, a, r', ts', .com hc h1, h2, h3⟩
  | comNo hc => exact .inl ⟨.comNo hc, rfl⟩
  | tok h0 h1 hn h _ => exact .inr ⟨_, _, _, _, .tok h0 h1 hn, rfl, h⟩
  | no h0 h1 hn => exact .inl ⟨.no h0 h1 hn, rfl⟩

/-- Blanks ahead change nothing. -/
theorem First.skip {r : Bs} {o : Option (Tok × Bs × Bs)} {k : Nat} (h : First r o k) : First (r.dropWhile isSp) o k := by
  induction h with
  | nil => exact .nil
  | ws hc _ ih => rw [List.dropWhile_cons, if_pos hc]; exact ih
  | com hc h _ => rw [List.dropWhile_cons, if_neg (by decide)]; exact .com hc h
  | comNo hc => rw [List.dropWhile_cons, if_neg (by decide)]; exact .comNo hc
  | tok h0 h1 hn => rw [List.dropWhile_cons, if_neg (by rw [h0]; simp)]; exact .tok h0 h1 hn
  | no h0 h1 hn => rw [List.dropWhile_cons, if_neg (by rw [h0]; simp)]; exact .no h0 h1 hn
theorem First.tail10 {t : Bs} {o : Option (Tok × Bs × Bs)} {k : Nat} (h : First (10 :: t) o k) : First t o k := by
  generalize hr : (10 : UInt8) :: t = r at h
  cases h with
  | nil => cases hr
  | ws hc h => injection hr with h1 h2; subst h2; exact h
  | com hc h => injection hr with h1 h2; exact absurd h1 (by decide)
  | comNo hc => injection hr with h1 h2; exact absurd h1 (by decide)
  | tok h0 => injection hr with h1 h2; subst h1; exact absurd h0 (by decide)
  | no h0 => injection hr with h1 h2; subst h1; exact absurd h0 (by decide)

theorem longB_suf {n : Nat} : ∀ {t s r : Bs}, longB n t = .ok s r → ∃ p, t = p ++ r
  | [], s, r, h => by cases h
  | c :: t, s, r, h => by
    rw [longB] at h
    split at h
    · injection h with h1 h2
      subst h2
      exact ⟨c :: t.take (n + 1), by rw [List.cons_append, List.take_append_drop]⟩
    · split at h
      · cases h
      · obtain ⟨a, ha, _⟩ := map_ok h
        obtain ⟨p, hp⟩ := longB_suf ha
        exact ⟨c :: p, by rw [List.cons_append, ← hp]⟩
theorem cut10_suf (t : Bs) : ∃ p, t = p ++ cut10 t := by
  cases t with
  | nil => exact ⟨[], rfl⟩
  | cons c t =>
    rw [cut10_c]
    split
    · exact ⟨[c], rfl⟩
    · exact ⟨[], rfl⟩
theorem comP_suf {r r' : Bs} (h : comP r = .ok () r') : ∃ p, r = p ++ r' := by
  unfold comP at h
  split at h
  · rename_i n _
    obtain ⟨a, ha, _⟩ := map_ok h
    obtain ⟨p, hp⟩ := longB_suf ha
    obtain ⟨q, hq⟩ := cut10_suf (r.drop (n + 2))
    exact ⟨r.take (n + 2) ++ (q ++ p), by rw [List.append_assoc, List.append_assoc, ← hp, ← hq, List.take_append_drop]⟩
  · split at h
    · cases h
    · injection h with h1 h2
      exact ⟨r.takeWhile (· != 10), by rw [← h2]; exact span_app _ r⟩

/-- What Scan gives of a text. -/
def ScanPost (o : Option (Tok × Bs × Bs)) (k : Nat) (C : Int) (w0 : World) (b : Bl) (X bm : Nat) (obj : Obj) (e : Ending) (w' : World) : Prop :=
  (o = none ∧ k = 0 ∧ ∃ L' st ln, ScanOut w0 b [] L' X bm obj (-1) st ln .nilIface e w') ∨
  (∃ t a r' L' ty st, o = some (t, a, r') ∧ TyOk t.kind t.raw ty st ∧ ScanOut w0 b r' L' X bm obj ty ⟨st.toArray⟩ (C - nl a) .nilIface e w' ∧ (r' = [] ∨ L' + nl r' = C) ∧ ty ≠ -1 ∧ NoCr r') ∨
  (k ≠ 0 ∧ ∃ r' L' ty st ln p, ScanOut w0 b r' L' X bm obj ty st ln (.iface 72 (ptr p)) e w')

/-- At Scan's end all is told. -/
def Told (P : Ending → World → Prop) (w0 : World) (b : Bl) (X R bm : Nat) (obj : Obj) (a : Act) (w : World) : Prop :=
  ∃ T er r' L' ty st so ln cl, FrE b X R T er a ∧ Fin w0 b r' L' X R T bm obj ty st so ln cl w ∧ ty < 57402 ∧ (∀ e w2, ScanOut w0 b r' L' X bm obj ty st ln er e w2 → P e w2)
/-- Scan begins anew behind a comment. -/
def Again (w0 : World) (b : Bl) (X R bm : Nat) (obj : Obj) (o : Option (Tok × Bs × Bs)) (k : Nat) (C : Int) (n : Nat) (a : Act) (w : World) : Prop :=
  ∃ r L, FrS b X R a ∧ Pre w0 b r L X R bm obj w ∧ First r o k ∧ NoCr r ∧ (r = [] ∨ L + nl r = C) ∧ r.length = n

theorem fin12_told {P : Ending → World → Prop} {J : Nat → Act → World → Prop} {w0 w : World} {b : Bl} {X R bm : Nat} {obj : Obj} {a : Act} (HE : Hid (Env w0 b X bm)) (h : Told P w0 b X R bm obj a w) : fin12.wp Tryd.prog (Exit.jumps J (bodyPost Tryd.prog Tryd.f12 P)) a w := by
  obtain ⟨T, er, r', L', ty, st, so, ln, cl, ⟨u, rfl⟩, hf, hty, hp⟩ := h
  exact scan_fin u HE (Lib.hid hf) hty hp
theorem rest12_eq : rest12 1 = Code.skip.seq fin12 := by kernel_rfl
theorem rest12_told {P : Ending → World → Prop} {J : Nat → Act → World → Prop} {w0 w : World} {b : Bl} {X R bm : Nat} {obj : Obj} {a : Act} (HE : Hid (Env w0 b X bm)) (h : Told P w0 b X R bm obj a w) : (rest12 1).wp Tryd.prog (Exit.jumps J (bodyPost Tryd.prog Tryd.f12 P)) a w := by
  rw [rest12_eq]
  exact wp_seq (wp_skip (fin12_told HE h))
theorem lab12_eq : lab12 = (Code.label 1).seq fin12 := by kernel_rfl
theorem lab12_wp {P : Ending → World → Prop} {J : Nat → Act → World → Prop} {w0 w : World} {b : Bl} {X R bm : Nat} {obj : Obj} {a : Act} (HE : Hid (Env w0 b X bm)) (h : Told P w0 b X R bm obj a w) : lab12.wp Tryd.prog (Exit.jumps J (bodyPost Tryd.prog Tryd.f12 P)) a w := by
  rw [lab12_eq]
  exact wp_seq (wp_label (fin12_told HE h))

theorem nl_nil : nl [] = 0 := rfl
theorem isSp_no {c : UInt8} (h : isSp c = false) : c ≠ 10 := by rintro rfl; exact absurd h (by decide)
theorem nl_let {c : UInt8} {t : Bs} (hc : isLet c = true) : nl (c :: t) = nl ((c :: t).dropWhile isIdc) := by
  have e := span_app isIdc (c :: t)
  have : nl ((c :: t).takeWhile isIdc) = 0 := by
    have : ∀ a : Bs, (∀ c ∈ a, isIdc c = true) → nl a = 0 := by
      intro a
      induction a with
      | nil => intro _; rfl
      | cons y a ih =>
        intro ha
        rw [nl_cons, ih fun x hx => ha x (by simp [hx]), if_neg]
        · rfl
        · rintro rfl
          exact absurd (ha 10 (by simp)) (by decide)
    exact this _ take_mem
  have h2 := congrArg nl e
  rw [nl_app, this] at h2
  omega

/-- A token's text is what it takes. -/
theorem raw_take {raw rest r : Bs} (h : r = raw ++ rest) : r.take (r.length - rest.length) = raw := by
  subst h
  rw [List.length_append, Nat.add_sub_cancel]
  simp
theorem hd_of {t : Bs} {n : Nat} (hn : n < 256) (h : hd t = (n : Int)) : ∃ u, t = UInt8.ofNat n :: u := by
  cases t with
  | nil => rw [hd_e] at h; omega
  | cons x u =>
    rw [hd_c] at h
    have hx : x = UInt8.ofNat n := UInt8.toNat_inj.1 (by rw [UInt8.toNat_ofNat_of_lt' hn]; omega)
    exact ⟨u, by rw [hx]⟩

section
variable {w0 w : World} {b : Bl} {r : Bs} {L : Int} {g : Nat} {X R T bm : Nat} {obj : Obj} {so : ByteArray} {cl C : Int} {Q : Exit → Act → World → Prop} {o : Option (Tok × Bs × Bs)} {k n : Nat}
/-- A token is told. -/
theorem told_tok {a' : Act} {w' : World} {t : Tok} {at' r' : Bs} {ty L' : Int} {st : Bs} (hf : FrE b X R T .nilIface a') (ht : TyOk t.kind t.raw ty st) (hty : ty < 57402) (hm : ty ≠ -1) (hfin : Fin w0 b r' L' X R T bm obj ty ⟨st.toArray⟩ so (C - nl at') cl w') (hr : L' + nl r' = C) (h13 : NoCr r') :
    Told (ScanPost (some (t, at', r')) 0 C w0 b X bm obj) w0 b X R bm obj a' w' :=
  ⟨T, .nilIface, r', L', ty, _, so, _, cl, hf, hfin, hty, fun e w2 h => .inr (.inl ⟨t, at', r', L', ty, st, rfl, ht, h, .inr hr, hm, h13⟩)⟩
theorem told_err {a' : Act} {w' : World} {r' : Bs} {ty L' ln : Int} {st : ByteArray} {p : Nat} (hk : k ≠ 0) (hf : FrE b X R T (.iface 72 (ptr p)) a') (hty : ty < 57402) (hfin : Fin w0 b r' L' X R T bm obj ty st so ln cl w') :
    Told (ScanPost o k C w0 b X bm obj) w0 b X R bm obj a' w' :=
  ⟨T, _, r', L', ty, st, so, ln, cl, hf, hfin, hty, fun e w2 h => .inr (.inr ⟨hk, r', L', ty, st, ln, p, h⟩)⟩
end

/-- A sign at the switch. -/
theorem sw_sign {w0 w : World} {b : Bl} {c : UInt8} {t : Bs} {L : Int} {g : Nat} {X R T bm : Nat} {obj : Obj} {so : ByteArray} {cl C : Int} {Q : Exit → Act → World → Prop} {n : Nat} {a : Act} (HE : Hid (Env w0 b X bm))
    (hF : FrW b X R T g (.int .i64 (hd (c :: t))) a) (HM : Hid (Mid w0 b t L g [] X R T bm obj 0 ⟨#[]⟩ so (C - nl (c :: t)) cl w)) (hL : L + nl (c :: t) = C) (h13 : NoCr (c :: t))
    (h0 : isSp c = false) (h1 : ¬ (c = 45 ∧ t.head? = some 45)) (hl : isLet c = false) (hdc : isDec c = false) (hq : c ≠ 34 ∧ c ≠ 39) (hdd : ¬ (c = 46 ∧ hdIs isDec t = true)) (hb : brk 91 (c :: t) = none) {X0 : Rz Bs} (hs : signP (c :: t) = X0) (hno : ∀ j, X0 = .no j → j = 1)
    (cN : ∀ o k a' w', (match X0 with | .ok s r' => o = some (⟨3, s, s⟩, c :: t, r') ∧ k = 0 | .no j => o = none ∧ k = j) → Told (ScanPost o k C w0 b X bm obj) w0 b X R bm obj a' w' → Q .normal a' w')
    (cE : ∀ o k a' w', (match X0 with | .ok s r' => o = some (⟨3, s, s⟩, c :: t, r') ∧ k = 0 | .no j => o = none ∧ k = j) → Told (ScanPost o k C w0 b X bm obj) w0 b X R bm obj a' w' → Q (.goto 1) a' w') :
    sw12.wp Tryd.prog Q a w := by
  obtain ⟨u, rfl⟩ := hF
  have c10 := isSp_no h0
  have hnl : nl (c :: t) = nl t := by rw [nl_cons, if_neg c10]; omega
  have hLt : L + nl t = C := by omega
  by_cases q43 : c = 43
  · subst q43
    rw [sg_43] at hs
    subst hs
    exact sw_43 u HE HM fun a' w' hf hfin => cN _ _ a' w' ⟨rfl, rfl⟩ (told_tok (st := [43]) hf (.inr (.inr (.inl ⟨rfl, by decide⟩))) (by decide) (by decide) hfin hLt h13.tail)
  by_cases q42 : c = 42
  · subst q42
    rw [sg_42] at hs
    subst hs
    exact sw_42 u HE HM fun a' w' hf hfin => cN _ _ a' w' ⟨rfl, rfl⟩ (told_tok (st := [42]) hf (.inr (.inr (.inl ⟨rfl, by decide⟩))) (by decide) (by decide) hfin hLt h13.tail)
  by_cases q47 : c = 47
  · subst q47
    rw [sg_47] at hs
    subst hs
    exact sw_47 u HE HM fun a' w' hf hfin => cN _ _ a' w' ⟨rfl, rfl⟩ (told_tok (st := [47]) hf (.inr (.inr (.inl ⟨rfl, by decide⟩))) (by decide) (by decide) hfin hLt h13.tail)
  by_cases q37 : c = 37
  · subst q37
    rw [sg_37] at hs
    subst hs
    exact sw_37 u HE HM fun a' w' hf hfin => cN _ _ a' w' ⟨rfl, rfl⟩ (told_tok (st := [37]) hf (.inr (.inr (.inl ⟨rfl, by decide⟩))) (by decide) (by decide) hfin hLt h13.tail)
  by_cases q94 : c = 94
  · subst q94
    rw [sg_94] at hs
    subst hs
    exact sw_94 u HE HM fun a' w' hf hfin => cN _ _ a' w' ⟨rfl, rfl⟩ (told_tok (st := [94]) hf (.inr (.inr (.inl ⟨rfl, by decide⟩))) (by decide) (by decide) hfin hLt h13.tail)
  by_cases q35 : c = 35
  · subst q35
    rw [sg_35] at hs
    subst hs
    exact sw_35 u HE HM fun a' w' hf hfin => cN _ _ a' w' ⟨rfl, rfl⟩ (told_tok (st := [35]) hf (.inr (.inr (.inl ⟨rfl, by decide⟩))) (by decide) (by decide) hfin hLt h13.tail)
  by_cases q40 : c = 40
  · subst q40
    rw [sg_40] at hs
    subst hs
    exact sw_40 u HE HM fun a' w' hf hfin => cN _ _ a' w' ⟨rfl, rfl⟩ (told_tok (st := [40]) hf (.inr (.inr (.inl ⟨rfl, by decide⟩))) (by decide) (by decide) hfin hLt h13.tail)
  by_cases q41 : c = 41
  · subst q41
    rw [sg_41] at hs
    subst hs
    exact sw_41 u HE HM fun a' w' hf hfin => cN _ _ a' w' ⟨rfl, rfl⟩ (told_tok (st := [41]) hf (.inr (.inr (.inl ⟨rfl, by decide⟩))) (by decide) (by decide) hfin hLt h13.tail)
  by_cases q123 : c = 123
  · subst q123
    rw [sg_123] at hs
    subst hs
    exact sw_123 u HE HM fun a' w' hf hfin => cN _ _ a' w' ⟨rfl, rfl⟩ (told_tok (st := [123]) hf (.inr (.inr (.inl ⟨rfl, by decide⟩))) (by decide) (by decide) hfin hLt h13.tail)
  by_cases q125 : c = 125
  · subst q125
    rw [sg_125] at hs
    subst hs
    exact sw_125 u HE HM fun a' w' hf hfin => cN _ _ a' w' ⟨rfl, rfl⟩ (told_tok (st := [125]) hf (.inr (.inr (.inl ⟨rfl, by decide⟩))) (by decide) (by decide) hfin hLt h13.tail)
  by_cases q93 : c = 93
  · subst q93
    rw [sg_93] at hs
    subst hs
    exact sw_93 u HE HM fun a' w' hf hfin => cN _ _ a' w' ⟨rfl, rfl⟩ (told_tok (st := [93]) hf (.inr (.inr (.inl ⟨rfl, by decide⟩))) (by decide) (by decide) hfin hLt h13.tail)
  by_cases q59 : c = 59
  · subst q59
    rw [sg_59] at hs
    subst hs
    exact sw_59 u HE HM fun a' w' hf hfin => cN _ _ a' w' ⟨rfl, rfl⟩ (told_tok (st := [59]) hf (.inr (.inr (.inl ⟨rfl, by decide⟩))) (by decide) (by decide) hfin hLt h13.tail)
  by_cases q44 : c = 44
  · subst q44
    rw [sg_44] at hs
    subst hs
    exact sw_44 u HE HM fun a' w' hf hfin => cN _ _ a' w' ⟨rfl, rfl⟩ (told_tok (st := [44]) hf (.inr (.inr (.inl ⟨rfl, by decide⟩))) (by decide) (by decide) hfin hLt h13.tail)
  by_cases q61 : c = 61
  · subst q61
    by_cases hd1 : hd t = 61
    · obtain ⟨t', rfl⟩ := hd_of (n := 61) (by decide) hd1
      rw [show (61 : UInt8) :: UInt8.ofNat 61 :: t' = 61 :: 61 :: t' from rfl, sg_61b] at hs
      subst hs
      exact sw_61b u HE HM h13.tail fun a' w' hf hfin => cN _ _ a' w' ⟨rfl, rfl⟩ (told_tok (st := [61, 61]) hf (.inr (.inr (.inl ⟨rfl, by decide⟩))) (by decide) (by decide) hfin (by rw [show nl (UInt8.ofNat 61 :: t') = nl t' by rw [nl_cons, if_neg (by decide)]; omega] at hLt; exact hLt) h13.tail.tail)
    · rw [sg_61a t hd1] at hs
      subst hs
      exact sw_61a u HE HM hd1 fun a' w' hf hfin => cN _ _ a' w' ⟨rfl, rfl⟩ (told_tok (st := [61]) hf (.inr (.inr (.inl ⟨rfl, by decide⟩))) (by decide) (by decide) hfin hLt h13.tail)
  by_cases q60 : c = 60
  · subst q60
    by_cases hd1 : hd t = 61
    · obtain ⟨t', rfl⟩ := hd_of (n := 61) (by decide) hd1
      rw [show (60 : UInt8) :: UInt8.ofNat 61 :: t' = 60 :: 61 :: t' from rfl, sg_60b] at hs
      subst hs
      exact sw_60b u HE HM h13.tail fun a' w' hf hfin => cN _ _ a' w' ⟨rfl, rfl⟩ (told_tok (st := [60, 61]) hf (.inr (.inr (.inl ⟨rfl, by decide⟩))) (by decide) (by decide) hfin (by rw [show nl (UInt8.ofNat 61 :: t') = nl t' by rw [nl_cons, if_neg (by decide)]; omega] at hLt; exact hLt) h13.tail.tail)
    · rw [sg_60a t hd1] at hs
      subst hs
      exact sw_60a u HE HM hd1 fun a' w' hf hfin => cN _ _ a' w' ⟨rfl, rfl⟩ (told_tok (st := [60]) hf (.inr (.inr (.inl ⟨rfl, by decide⟩))) (by decide) (by decide) hfin hLt h13.tail)
  by_cases q62 : c = 62
  · subst q62
    by_cases hd1 : hd t = 61
    · obtain ⟨t', rfl⟩ := hd_of (n := 61) (by decide) hd1
      rw [show (62 : UInt8) :: UInt8.ofNat 61 :: t' = 62 :: 61 :: t' from rfl, sg_62b] at hs
      subst hs
      exact sw_62b u HE HM h13.tail fun a' w' hf hfin => cN _ _ a' w' ⟨rfl, rfl⟩ (told_tok (st := [62, 61]) hf (.inr (.inr (.inl ⟨rfl, by decide⟩))) (by decide) (by decide) hfin (by rw [show nl (UInt8.ofNat 61 :: t') = nl t' by rw [nl_cons, if_neg (by decide)]; omega] at hLt; exact hLt) h13.tail.tail)
    · rw [sg_62a t hd1] at hs
      subst hs
      exact sw_62a u HE HM hd1 fun a' w' hf hfin => cN _ _ a' w' ⟨rfl, rfl⟩ (told_tok (st := [62]) hf (.inr (.inr (.inl ⟨rfl, by decide⟩))) (by decide) (by decide) hfin hLt h13.tail)
  by_cases q45 : c = 45
  · subst q45
    have hd1 : hd t ≠ 45 := by
      intro e
      obtain ⟨t', rfl⟩ := hd_of (n := 45) (by decide) e
      exact h1 ⟨rfl, rfl⟩
    rw [sg_45a t hd1] at hs
    subst hs
    exact sw_45a u HE HM hd1 fun a' w' hf hfin => cN _ _ a' w' ⟨rfl, rfl⟩ (told_tok (st := [45]) hf (.inr (.inr (.inl ⟨rfl, by decide⟩))) (by decide) (by decide) hfin hLt h13.tail)
  by_cases q126 : c = 126
  · subst q126
    by_cases hd1 : hd t = 61
    · obtain ⟨t', rfl⟩ := hd_of (n := 61) (by decide) hd1
      rw [show (126 : UInt8) :: UInt8.ofNat 61 :: t' = 126 :: 61 :: t' from rfl, sg_126b] at hs
      subst hs
      exact sw_126b u HE HM h13.tail fun a' w' hf hfin => cN _ _ a' w' ⟨rfl, rfl⟩ (told_tok (st := [126, 61]) hf (.inr (.inr (.inl ⟨rfl, by decide⟩))) (by decide) (by decide) hfin (by rw [show nl (UInt8.ofNat 61 :: t') = nl t' by rw [nl_cons, if_neg (by decide)]; omega] at hLt; exact hLt) h13.tail.tail)
    · rw [sg_126a t hd1] at hs
      subst hs
      exact sw_126e u HE HM hd1 fun a' w' p hf hfin => cN _ _ a' w' ⟨rfl, rfl⟩ (told_err (by decide) hf (by decide) hfin)
  by_cases q58 : c = 58
  · subst q58
    by_cases hd1 : hd t = 58
    · rw [sg_58b t hd1] at hs
      have := hno 2 hs.symm
      omega
    · rw [sg_58 t hd1] at hs
      subst hs
      exact sw_58a u HE HM hd1 fun a' w' hf hfin => cN _ _ a' w' ⟨rfl, rfl⟩ (told_tok (st := [58]) hf (.inr (.inr (.inl ⟨rfl, by decide⟩))) (by decide) (by decide) hfin hLt h13.tail)
  by_cases q91 : c = 91
  · subst q91
    have hd2 : hd t ≠ 91 := by
      intro e
      obtain ⟨t', rfl⟩ := hd_of (n := 91) (by decide) e
      rw [brk_cons, if_pos ⟨rfl, rfl⟩] at hb
      cases hb
    by_cases hd1 : hd t = 61
    · rw [sg_91b t hd1] at hs
      have := hno 2 hs.symm
      omega
    · rw [sg_91 t hd1] at hs
      subst hs
      exact sw_91a u HE HM hd2 hd1 fun a' w' hf hfin => cN _ _ a' w' ⟨rfl, rfl⟩ (told_tok (st := [91]) hf (.inr (.inr (.inl ⟨rfl, by decide⟩))) (by decide) (by decide) hfin hLt h13.tail)
  by_cases q46 : c = 46
  · subst q46
    by_cases hd1 : hd t = 46
    · obtain ⟨t', rfl⟩ := hd_of (n := 46) (by decide) hd1
      have hn2 : nl (UInt8.ofNat 46 :: t') = nl t' := by rw [nl_cons, if_neg (by decide)]; omega
      rw [hn2] at hLt
      by_cases hd2 : hd t' = 46
      · obtain ⟨t2, rfl⟩ := hd_of (n := 46) (by decide) hd2
        have hn3 : nl (UInt8.ofNat 46 :: t2) = nl t2 := by rw [nl_cons, if_neg (by decide)]; omega
        rw [hn3] at hLt
        rw [show (46 : UInt8) :: UInt8.ofNat 46 :: UInt8.ofNat 46 :: t2 = 46 :: 46 :: 46 :: t2 from rfl, sg_46c] at hs
        subst hs
        exact sw_46c u HE HM h13.tail fun a' w' hf hfin => cN _ _ a' w' ⟨rfl, rfl⟩ (told_tok (st := [46, 46, 46]) hf (.inr (.inr (.inl ⟨rfl, by decide⟩))) (by decide) (by decide) hfin hLt h13.tail.tail.tail)
      · rw [show (46 : UInt8) :: UInt8.ofNat 46 :: t' = 46 :: 46 :: t' from rfl, sg_46b t' hd2] at hs
        subst hs
        exact sw_46b u HE HM h13.tail hd2 fun a' w' hf hfin => cN _ _ a' w' ⟨rfl, rfl⟩ (told_tok (st := [46, 46]) hf (.inr (.inr (.inl ⟨rfl, by decide⟩))) (by decide) (by decide) hfin hLt h13.tail.tail)
    · rw [sg_46a t hd1] at hs
      subst hs
      exact sw_46a u HE HM hd1 (by simpa using fun h => hdd ⟨rfl, h⟩) fun a' w' hf hfin => cN _ _ a' w' ⟨rfl, rfl⟩ (told_tok (st := []) hf (.inr (.inr (.inl ⟨rfl, by decide⟩))) (by decide) (by decide) hfin hLt h13.tail)
  have q34 := hq.1
  have q39 := hq.2
  have nq : ∀ n : Nat, n < 256 → c ≠ UInt8.ofNat n → c.toNat ≠ n := by
    intro n hn h e
    exact h (UInt8.toNat_inj.1 (by rw [UInt8.toNat_ofNat_of_lt' hn]; exact e))
  have hbad : ∀ n ∈ [45, 34, 39, 91, 61, 126, 60, 62, 46, 58, 43, 42, 47, 37, 94, 35, 40, 41, 123, 125, 93, 59, 44], c.toNat ≠ n := by
    intro n hn
    simp only [List.mem_cons, List.not_mem_nil, or_false] at hn
    rcases hn with rfl | rfl | rfl | rfl | rfl | rfl | rfl | rfl | rfl | rfl | rfl | rfl | rfl | rfl | rfl | rfl | rfl | rfl | rfl | rfl | rfl | rfl | rfl
    · exact nq 45 (by decide) q45
    · exact nq 34 (by decide) q34
    · exact nq 39 (by decide) q39
    · exact nq 91 (by decide) q91
    · exact nq 61 (by decide) q61
    · exact nq 126 (by decide) q126
    · exact nq 60 (by decide) q60
    · exact nq 62 (by decide) q62
    · exact nq 46 (by decide) q46
    · exact nq 58 (by decide) q58
    · exact nq 43 (by decide) q43
    · exact nq 42 (by decide) q42
    · exact nq 47 (by decide) q47
    · exact nq 37 (by decide) q37
    · exact nq 94 (by decide) q94
    · exact nq 35 (by decide) q35
    · exact nq 40 (by decide) q40
    · exact nq 41 (by decide) q41
    · exact nq 123 (by decide) q123
    · exact nq 125 (by decide) q125
    · exact nq 93 (by decide) q93
    · exact nq 59 (by decide) q59
    · exact nq 44 (by decide) q44
  cases X0 with
  | ok s r' =>
    refine absurd hs (sg_bad fun n hn => hbad n ?_)
    simp only [List.mem_cons, List.not_mem_nil, or_false] at hn ⊢
    omega
  | no j =>
    have hj : j ≠ 0 := by have := hno j rfl; omega
    exact sw_bad u HE HM hl hdc hbad fun a' w' p hf hfin => cE _ _ a' w' ⟨rfl, rfl⟩ (told_err hj hf (by decide) hfin)

end Go.Proofs.YtbgjjbffpckimaaDoor
