/-
  A TEXT THAT STANDS TWICE: what the pattern \x01(.+)%1\x02 matches, in plain Lean; the machine finds just that.
-/
import Derived.Test.YtkbdngcbifonkaaFmtRpp
namespace Go.Proofs.YtkbdngcbifonkaaFmt
set_option linter.all false

namespace Tw
/-- The closing byte at p, behind a capture from A on of S bytes: the end, and the capture. -/
def t5 (src : List UInt8) (p A S : Nat) : Option (Nat × Nat × Nat) := if src[p]? = some 2 then some (p + 1, A, S) else none
def t4 (src : List UInt8) (p A S : Nat) : Option (Nat × Nat × Nat) :=
  if p + S ≤ src.length ∧ (src.drop p).take S = (src.drop A).take S then t5 src (p + S) A S else none
def t3 (src : List UInt8) (p A : Nat) : Option (Nat × Nat × Nat) := t4 src p A (p - A)
/-- The greatest end of the capture first, from lo + n down to lo + 1. -/
def t2 (src : List UInt8) (A lo : Nat) : Nat → Option (Nat × Nat × Nat)
  | 0 => none
  | n + 1 => match t3 src (lo + (n + 1)) A with
    | some r => some r
    | none => t2 src A lo n
def t1 (src : List UInt8) (p : Nat) : Option (Nat × Nat × Nat) := t2 src p p (src.length - p)
def t0 (src : List UInt8) (p : Nat) : Option (Nat × Nat × Nat) := if src[p]? = some 1 then t1 src (p + 1) else none
def tfind (src : List UInt8) : Nat → Nat → Option (Nat × Nat × Nat × Nat)
  | 0, _ => none
  | d + 1, p => match t0 src p with
    | some r => some (p, r)
    | none => tfind src d (p + 1)

theorem t2_up (src : List UInt8) (A : Nat) : ∀ (n lo : Nat), t2 src A lo (n + 1) = match t2 src A (lo + 1) n with | some r => some r | none => t3 src (lo + 1) A
  | 0, lo => by
    simp only [t2]
    cases t3 src (lo + (0 + 1)) A <;> rfl
  | n + 1, lo => by
    rw [t2]
    conv => rhs; rw [t2]
    rw [show lo + 1 + (n + 1) = lo + (n + 1 + 1) from by omega]
    cases h : t3 src (lo + (n + 1 + 1)) A with
    | some r => rfl
    | none =>
      simp only
      rw [t2_up src A n lo]

theorem t5_some {src : List UInt8} {p A S : Nat} {r : Nat × Nat × Nat} (h : t5 src p A S = some r) : p < src.length ∧ r = (p + 1, A, S) := by
  unfold t5 at h
  split at h
  · rename_i h2
    cases h
    exact ⟨(List.getElem?_eq_some_iff.1 h2).1, rfl⟩
  · cases h

theorem t3_some {src : List UInt8} {p A : Nat} {r : Nat × Nat × Nat} (h : t3 src p A = some r) : p + (p - A) < src.length ∧ r = (p + (p - A) + 1, A, p - A) := by
  unfold t3 t4 at h
  split at h
  · exact t5_some h
  · cases h

theorem t2_some {src : List UInt8} {A lo : Nat} : ∀ {n : Nat} {r : Nat × Nat × Nat}, t2 src A lo n = some r → ∃ q, lo < q ∧ q ≤ lo + n ∧ q + (q - A) < src.length ∧ r = (q + (q - A) + 1, A, q - A)
  | 0, r, h => by cases h
  | n + 1, r, h => by
    rw [t2] at h
    cases h3 : t3 src (lo + (n + 1)) A with
    | some r' =>
      rw [h3] at h
      cases h
      obtain ⟨h1, h2⟩ := t3_some h3
      exact ⟨_, by omega, by omega, h1, h2⟩
    | none =>
      rw [h3] at h
      obtain ⟨q, h1, h2, h4⟩ := t2_some h
      exact ⟨q, h1, by omega, h4⟩

theorem t0_some {src : List UInt8} {p : Nat} {r : Nat × Nat × Nat} (h : t0 src p = some r) : ∃ S, 0 < S ∧ p + 1 + S + S < src.length ∧ r = (p + 1 + S + S + 1, p + 1, S) := by
  unfold t0 at h
  split at h
  · obtain ⟨q, h1, h2, h3, h4⟩ := t2_some h
    refine ⟨q - (p + 1), by omega, by omega, ?_⟩
    rw [h4]
    congr 1
    omega
  · cases h

theorem tfind_some {src : List UInt8} : ∀ {d p : Nat} {r : Nat × Nat × Nat × Nat}, tfind src d p = some r → ∃ p' S, 0 < S ∧ p' + 1 + S + S < src.length ∧ r = (p', p' + 1 + S + S + 1, p' + 1, S)
  | 0, _, _, h => by cases h
  | d + 1, p, r, h => by
    rw [tfind] at h
    cases h0 : t0 src p with
    | some r' =>
      rw [h0] at h
      cases h
      obtain ⟨S, h1, h2, h3⟩ := t0_some h0
      exact ⟨p, S, h1, h2, by rw [h3]⟩
    | none =>
      rw [h0] at h
      exact tfind_some h
end Tw

/-- The pattern's parts, and its code. -/
def twPats : List Pm.Pat := [.part (.one (.atom (.chr 1))), .cap [.rep 43 .dot], .part (.num 1), .part (.one (.atom (.chr 2)))]
abbrev twCode : List Pm.Ins := [.save 0, .chr (.atom (.chr 1)), .save 2, .chr .dot, .split 3 5, .save 3, .num 1, .chr (.atom (.chr 2)), .save 1, .done]
theorem twCode_eq : Pm.code twPats = twCode := by
  simp [twPats, twCode, Pm.code, Pm.patsCode, Pm.Pat.code, Pm.Part.code, Pm.partsCode, Pm.Pat.next]

theorem chr_mat (n : Nat) (b : UInt8) : Pm.Cls.mat (.atom (.chr (n : Int))) (b.toNat : Int) = decide (b.toNat = n) := by
  simp only [Pm.Cls.mat, Pm.Atom.mat]
  rw [decide_eq_decide]
  omega

theorem byte_eq (src : List UInt8) (p : Nat) (n : UInt8) : (src[p]? = some n) ↔ ∃ b, src[p]? = some b ∧ b.toNat = n.toNat := by
  constructor
  · intro h
    exact ⟨n, h, rfl⟩
  · rintro ⟨b, h, h2⟩
    rw [h, UInt8.toNat_inj.1 h2]

/-- The machine behind the capture. -/
theorem tw_vm7 (src : List UInt8) (f p x A q : Nat) (hq : A ≤ q) :
    (∃ r, Tw.t5 src p A (q - A) = some r ∧ Pm.vm twCode src (f + 3) 7 p [x, 0, 2 * A, 2 * q] = some (true, p + 1, [x, 2 * (p + 1), 2 * A, 2 * q])) ∨
    (Tw.t5 src p A (q - A) = none ∧ Pm.vm twCode src (f + 3) 7 p [x, 0, 2 * A, 2 * q] = some (false, p, [x, 0, 2 * A, 2 * q])) := by
  unfold Tw.t5
  cases h : src[p]? with
  | none =>
    refine .inr ⟨by simp, ?_⟩
    simp [Pm.vm, h]
  | some b =>
    by_cases h2 : b = 2
    · subst h2
      refine .inl ⟨(p + 1, A, q - A), by simp, ?_⟩
      have hm : Pm.Cls.mat (.atom (.chr 2)) 2 = true := by decide
      simp [Pm.vm, h, hm, Pm.pad]
    · refine .inr ⟨by simp [h2], ?_⟩
      have hm : Pm.Cls.mat (.atom (.chr 2)) (b.toNat : Int) = false := by
        rw [show ((2 : Int)) = ((2 : Nat) : Int) from rfl, chr_mat, decide_eq_false_iff_not]
        intro e
        exact h2 (UInt8.toNat_inj.1 (by rw [e]; rfl))
      simp [Pm.vm, h, hm]

theorem take_len {src : List UInt8} {p A S : Nat} (hA : A + S ≤ src.length) (h : (src.drop p).take S = (src.drop A).take S) : p + S ≤ src.length ∨ S = 0 := by
  have := congrArg List.length h
  simp only [List.length_take, List.length_drop] at this
  omega

theorem tw_vm5 (src : List UInt8) (f q x A : Nat) (caps : List Nat) (hc : caps = [x, 0, 2 * A] ∨ caps = [x, 0, 2 * A, 0]) (hq : A < q) (hql : q ≤ src.length) :
    (∃ e, Tw.t3 src q A = some (e, A, q - A) ∧ Pm.vm twCode src (f + 5) 5 q caps = some (true, e, [x, 2 * e, 2 * A, 2 * q])) ∨
    (Tw.t3 src q A = none ∧ ∃ n, Pm.vm twCode src (f + 5) 5 q caps = some (false, n, [x, 0, 2 * A, 0])) := by
  have hpad : (Pm.pad caps 3).set 3 (2 * q) = [x, 0, 2 * A, 2 * q] := by rcases hc with rfl | rfl <;> rfl
  have hpad2 : (Pm.pad caps 3).getD 3 0 = 0 := by rcases hc with rfl | rfl <;> rfl
  have e1 : Pm.vm twCode src (f + 5) 5 q caps = match Pm.vm twCode src (f + 4) 6 q [x, 0, 2 * A, 2 * q] with
      | none => none
      | some (true, n, c) => some (true, n, c)
      | some (false, _, c) => some (false, q, c.set 3 0) := by
    rw [Pm.vm]
    simp only [twCode, List.getElem?_cons_succ, List.getElem?_cons_zero, hpad, hpad2]
    rfl
  have e2 : Pm.vm twCode src (f + 4) 6 q [x, 0, 2 * A, 2 * q] = if (src.drop q).take (q - A) = (src.drop A).take (q - A) then Pm.vm twCode src (f + 3) 7 (q + (q - A)) [x, 0, 2 * A, 2 * q] else some (false, q, [x, 0, 2 * A, 2 * q]) := by
    rw [Pm.vm]
    simp only [twCode, List.getElem?_cons_succ, List.getElem?_cons_zero]
    have h3 : ¬ ([x, 0, 2 * A, 2 * q] : List Nat).length ≤ 2 * (1 : Int).toNat + 1 := by simp
    rw [if_neg h3]
    have a1 : ([x, 0, 2 * A, 2 * q] : List Nat).getD (2 * (1 : Int).toNat) 0 / 2 = A := by
      show 2 * A / 2 = A
      omega
    have a2 : ([x, 0, 2 * A, 2 * q] : List Nat).getD (2 * (1 : Int).toNat + 1) 0 / 2 = q := by
      show 2 * q / 2 = q
      omega
    rw [a1, a2, if_pos ⟨by omega, hql⟩]
  unfold Tw.t3 Tw.t4
  by_cases hcmp : (src.drop q).take (q - A) = (src.drop A).take (q - A)
  · have hlen : q + (q - A) ≤ src.length := by
      rcases take_len (by omega) hcmp with h | h <;> omega
    rw [if_pos ⟨hlen, hcmp⟩]
    rw [if_pos hcmp] at e2
    rcases tw_vm7 src f (q + (q - A)) x A q (by omega) with ⟨r, h1, h2⟩ | ⟨h1, h2⟩
    · obtain ⟨_, rfl⟩ := Tw.t5_some h1
      refine .inl ⟨_, h1, ?_⟩
      rw [e1, e2, h2]
    · refine .inr ⟨h1, q, ?_⟩
      rw [e1, e2, h2]
      rfl
  · rw [if_neg (fun h => hcmp h.2)]
    rw [if_neg hcmp] at e2
    refine .inr ⟨rfl, q, ?_⟩
    rw [e1, e2]
    rfl

theorem tw_vm3 (src : List UInt8) (f x A : Nat) : ∀ (r : List UInt8) (sp : Nat) (caps : List Nat), src.drop sp = r → A ≤ sp → (caps = [x, 0, 2 * A] ∨ caps = [x, 0, 2 * A, 0]) →
    (∃ e S, Tw.t2 src A sp r.length = some (e, A, S) ∧ Pm.vm twCode src (f + 7 + 2 * r.length) 3 sp caps = some (true, e, [x, 2 * e, 2 * A, 2 * (A + S)])) ∨
    (Tw.t2 src A sp r.length = none ∧ ∃ n caps', (caps' = [x, 0, 2 * A] ∨ caps' = [x, 0, 2 * A, 0]) ∧ Pm.vm twCode src (f + 7 + 2 * r.length) 3 sp caps = some (false, n, caps'))
  | [], sp, caps, h, hA, hc => by
    have h0 := drop_nil h
    refine .inr ⟨rfl, sp, caps, hc, ?_⟩
    show Pm.vm twCode src (f + 6 + 1) 3 sp caps = _
    rw [Pm.vm]
    simp [h0]
  | b :: r, sp, caps, h, hA, hc => by
    obtain ⟨h0, h1⟩ := drop_cons h
    have hsp : sp < src.length := (List.getElem?_eq_some_iff.1 h0).1
    have ih := tw_vm3 src f x A r (sp + 1) caps h1 (by omega) hc
    have e1 : Pm.vm twCode src (f + 7 + 2 * (b :: r).length) 3 sp caps = match Pm.vm twCode src (f + 7 + 2 * r.length) 3 (sp + 1) caps with
        | none => none
        | some (true, n, c) => some (true, n, c)
        | some (false, _, c) => Pm.vm twCode src (f + 7 + 2 * r.length) 5 (sp + 1) c := by
      rw [show f + 7 + 2 * (b :: r).length = (f + 7 + 2 * r.length) + 1 + 1 from by simp only [List.length_cons]; omega]
      rw [Pm.vm]
      simp only [twCode, List.getElem?_cons_succ, List.getElem?_cons_zero, h0, Pm.Cls.mat, if_true]
      rw [Pm.vm]
      simp only [List.getElem?_cons_succ, List.getElem?_cons_zero]
      rfl
    rw [show (b :: r).length = r.length + 1 from rfl, Tw.t2_up]
    rw [show (b :: r).length = r.length + 1 from rfl] at e1
    rcases ih with ⟨e, S, h2, h3⟩ | ⟨h2, n, caps', hc', h3⟩
    · refine .inl ⟨e, S, ?_, ?_⟩
      · rw [h2]
      · rw [e1, h3]
    · rw [h2]
      simp only
      have h5 := tw_vm5 src (f + 2 + 2 * r.length) (sp + 1) x A caps' hc' (by omega) (by omega)
      rw [show f + 2 + 2 * r.length + 5 = f + 7 + 2 * r.length from by omega] at h5
      rcases h5 with ⟨e, h6, h7⟩ | ⟨h6, n', h7⟩
      · refine .inl ⟨e, sp + 1 - A, h6, ?_⟩
        rw [e1, h3]
        simp only
        rw [h7, show A + (sp + 1 - A) = sp + 1 from by omega]
      · refine .inr ⟨h6, n', _, .inr rfl, ?_⟩
        rw [e1, h3]
        simp only
        rw [h7]

theorem tw_vm0 (src : List UInt8) (f p : Nat) :
    (∃ e A S, Tw.t0 src p = some (e, A, S) ∧ Pm.vm twCode src (f + 10 + 2 * src.length) 0 p [] = some (true, e, [2 * p, 2 * e, 2 * A, 2 * (A + S)])) ∨
    (Tw.t0 src p = none ∧ ∃ n c, Pm.vm twCode src (f + 10 + 2 * src.length) 0 p [] = some (false, n, c)) := by
  have e1 : Pm.vm twCode src (f + 10 + 2 * src.length) 0 p [] = match Pm.vm twCode src (f + 9 + 2 * src.length) 1 p [2 * p] with
      | none => none
      | some (true, n, c) => some (true, n, c)
      | some (false, _, c) => some (false, p, c.set 0 0) := by
    rw [show f + 10 + 2 * src.length = (f + 9 + 2 * src.length) + 1 from by omega, Pm.vm]
    simp only [twCode, List.getElem?_cons_zero]
    rfl
  unfold Tw.t0
  cases h : src[p]? with
  | none =>
    refine .inr ⟨by simp, ?_⟩
    rw [e1, show f + 9 + 2 * src.length = (f + 8 + 2 * src.length) + 1 from by omega, Pm.vm]
    simp [h]
  | some b =>
    by_cases h2 : b = 1
    · subst h2
      rw [if_pos rfl]
      have hm : Pm.Cls.mat (.atom (.chr 1)) (((1 : UInt8).toNat : Nat) : Int) = true := by decide
      have e2 : Pm.vm twCode src (f + 9 + 2 * src.length) 1 p [2 * p] = match Pm.vm twCode src (f + 7 + 2 * src.length) 3 (p + 1) [2 * p, 0, 2 * (p + 1)] with
          | none => none
          | some (true, n, c) => some (true, n, c)
          | some (false, _, c) => some (false, p + 1, c.set 2 0) := by
        rw [show f + 9 + 2 * src.length = (f + 7 + 2 * src.length) + 1 + 1 from by omega, Pm.vm]
        simp only [twCode, List.getElem?_cons_succ, List.getElem?_cons_zero, h, hm, if_true]
        rw [Pm.vm]
        simp only [List.getElem?_cons_succ, List.getElem?_cons_zero]
        rfl
      have hp : p < src.length := (List.getElem?_eq_some_iff.1 h).1
      have h3 := tw_vm3 src (f + 2 * (src.length - (src.drop (p + 1)).length)) (2 * p) (p + 1) (src.drop (p + 1)) (p + 1) [2 * p, 0, 2 * (p + 1)] rfl (Nat.le_refl _) (.inl rfl)
      have hl : (src.drop (p + 1)).length = src.length - (p + 1) := List.length_drop
      rw [show f + 2 * (src.length - (src.drop (p + 1)).length) + 7 + 2 * (src.drop (p + 1)).length = f + 7 + 2 * src.length from by omega] at h3
      rw [hl] at h3
      unfold Tw.t1
      rcases h3 with ⟨e, S, h4, h5⟩ | ⟨h4, n, c, hc, h5⟩
      · exact .inl ⟨e, p + 1, S, h4, by rw [e1, e2, h5]⟩
      · exact .inr ⟨h4, _, _, by rw [e1, e2, h5]⟩
    · have hm : Pm.Cls.mat (.atom (.chr 1)) (b.toNat : Int) = false := by
        rw [show ((1 : Int)) = ((1 : Nat) : Int) from rfl, chr_mat, decide_eq_false_iff_not]
        intro e
        exact h2 (UInt8.toNat_inj.1 (by rw [e]; rfl))
      refine .inr ⟨by simp [h2], ?_⟩
      rw [e1, show f + 9 + 2 * src.length = (f + 8 + 2 * src.length) + 1 from by omega, Pm.vm]
      simp [h, hm]

theorem tw_find (src : List UInt8) (f : Nat) : ∀ d p, Pm.find twCode src false (f + 10 + 2 * src.length) d p = some ((Tw.tfind src d p).map fun r => [2 * r.1, 2 * r.2.1, 2 * r.2.2.1, 2 * (r.2.2.1 + r.2.2.2)])
  | 0, p => rfl
  | d + 1, p => by
    rw [Pm.find, Tw.tfind]
    rcases tw_vm0 src f p with ⟨e, A, S, h1, h2⟩ | ⟨h1, n, c, h2⟩
    · rw [h1, h2]
      rfl
    · rw [h1, h2]
      simp only [Bool.false_eq_true, if_false]
      exact tw_find src f d (p + 1)
end Go.Proofs.YtkbdngcbifonkaaFmt
