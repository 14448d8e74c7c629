/-
  THE MACHINE IN PLAIN LEAN: the captures stay few and small.
-/
import Derived.Test.YtkbdngcbifonkaaFmtVmA
namespace Go.Proofs.YtkbdngcbifonkaaFmt
set_option linter.all false
open Go.RowKit

theorem CapsOk.save {caps : List Nat} {s p : Nat} (h : CapsOk caps) (hs : s ≤ 100) (hp : p ≤ 100000) : CapsOk ((Pm.pad caps s).set s (2 * p)) := by
  refine ⟨?_, fun x hx => ?_⟩
  · have := h.1
    simp [Pm.pad]
    omega
  · rcases List.mem_or_eq_of_mem_set hx with hx | hx
    · rcases List.mem_append.1 hx with hx | hx
      · exact h.2 x hx
      · have := List.eq_of_mem_replicate hx
        omega
    · omega

theorem pad_getD_le {caps : List Nat} {s : Nat} (h : CapsOk caps) : (Pm.pad caps s).getD s 0 ≤ 200000 := by
  by_cases hs : s < (Pm.pad caps s).length
  · rw [List.getD_eq_getElem?_getD, List.getElem?_eq_getElem hs]
    have hm := List.getElem_mem hs
    rcases List.mem_append.1 hm with hx | hx
    · exact h.2 _ hx
    · have := List.eq_of_mem_replicate hx
      simp [this]
  · rw [List.getD_eq_getElem?_getD, List.getElem?_eq_none (by omega)]
    simp

theorem CapsOk.set {caps : List Nat} {s v : Nat} (h : CapsOk caps) (hv : v ≤ 200000) : CapsOk (caps.set s v) := by
  refine ⟨by simpa using h.1, fun x hx => ?_⟩
  rcases List.mem_or_eq_of_mem_set hx with hx | hx
  · exact h.2 x hx
  · omega

theorem bal_le (b e : Int) : ∀ (r : List UInt8) (n k : Nat), Pm.bal b e r n = some k → k ≤ r.length
  | [], _, _, h => by simp [Pm.bal] at h
  | c :: r, n, k, h => by
    rw [Pm.bal] at h
    generalize (if (c.toNat : Int) = e then n - 1 else n) = m at h
    by_cases hm : m = 0
    · simp [hm] at h; simp; omega
    · simp only [hm, if_false] at h
      cases h2 : Pm.bal b e r (if (c.toNat : Int) = b then m + 1 else m) with
      | none => rw [h2] at h; simp at h
      | some j =>
        rw [h2] at h
        have := bal_le b e r _ _ h2
        simp at h ⊢
        omega

/-- What the machine hands back keeps to the bounds. -/
theorem vm_ok (l : List Pm.Ins) (src : List UInt8) (hl : ∀ k (h : k < l.length), insIn l[k]) (hs : src.length ≤ 100000) :
    ∀ (f pc sp : Nat) (caps : List Nat) (r : Bool) (n : Nat) (caps' : List Nat), CapsOk caps → sp ≤ src.length → Pm.vm l src f pc sp caps = some (r, n, caps') → CapsOk caps' ∧ caps.length ≤ caps'.length ∧ n ≤ src.length
  | 0, _, _, _, _, _, _, _, _, h => by simp [Pm.vm] at h
  | f + 1, pc, sp, caps, r, n, caps', hc, hsp, h => by
    rw [Pm.vm] at h
    have ih := vm_ok l src hl hs f
    cases hi : l[pc]? with
    | none => rw [hi] at h; simp at h
    | some i =>
      obtain ⟨hpl, hpe⟩ := List.getElem?_eq_some_iff.1 hi
      have hin : insIn i := by have := hl pc hpl; rwa [hpe] at this
      rw [hi] at h
      cases i with
      | chr c =>
        simp only at h
        cases hb : src[sp]? with
        | none => rw [hb] at h; simp at h; obtain ⟨rfl, rfl, rfl⟩ := h; exact ⟨hc, Nat.le_refl _, hsp⟩
        | some b =>
          have hlt := (List.getElem?_eq_some_iff.1 hb).1
          rw [hb] at h
          simp only at h
          split at h
          · exact ih _ _ _ _ _ _ hc hlt h
          · simp at h; obtain ⟨rfl, rfl, rfl⟩ := h; exact ⟨hc, Nat.le_refl _, hsp⟩
      | done => simp at h; obtain ⟨rfl, rfl, rfl⟩ := h; exact ⟨hc, Nat.le_refl _, hsp⟩
      | jmp a => exact ih _ _ _ _ _ _ hc hsp h
      | split a b =>
        simp only at h
        cases h1 : Pm.vm l src f a sp caps with
        | none => rw [h1] at h; simp at h
        | some t =>
          obtain ⟨r1, n1, c1⟩ := t
          have i1 := ih _ _ _ _ _ _ hc hsp h1
          rw [h1] at h
          cases r1 with
          | true => simp at h; obtain ⟨rfl, rfl, rfl⟩ := h; exact i1
          | false =>
            have i2 := ih _ _ _ _ _ _ i1.1 hsp h
            exact ⟨i2.1, Nat.le_trans i1.2.1 i2.2.1, i2.2.2⟩
      | save s =>
        simp only at h
        have hs1 : s ≤ 100 := hin
        cases h1 : Pm.vm l src f (pc + 1) sp ((Pm.pad caps s).set s (2 * sp)) with
        | none => rw [h1] at h; simp at h
        | some t =>
          obtain ⟨r1, n1, c1⟩ := t
          have i1 := ih _ _ _ _ _ _ (hc.save hs1 (by omega)) hsp h1
          have hlen : caps.length ≤ ((Pm.pad caps s).set s (2 * sp)).length := by simp [Pm.pad]
          rw [h1] at h
          cases r1 with
          | true => simp at h; obtain ⟨rfl, rfl, rfl⟩ := h; exact ⟨i1.1, by omega, i1.2.2⟩
          | false =>
            simp at h; obtain ⟨rfl, rfl, rfl⟩ := h
            exact ⟨i1.1.set (by have := pad_getD_le (s := s) hc; simpa [List.getD_eq_getElem?_getD] using this), by simp; omega, hsp⟩
      | brace b e =>
        simp only at h
        cases hb : src[sp]? with
        | none => rw [hb] at h; simp at h; obtain ⟨rfl, rfl, rfl⟩ := h; exact ⟨hc, Nat.le_refl _, hsp⟩
        | some c =>
          have hlt := (List.getElem?_eq_some_iff.1 hb).1
          rw [hb] at h
          simp only at h
          split at h
          · cases h2 : Pm.bal b e (src.drop (sp + 1)) 1 with
            | none => rw [h2] at h; simp at h; obtain ⟨rfl, rfl, rfl⟩ := h; exact ⟨hc, Nat.le_refl _, Nat.le_refl _⟩
            | some k =>
              rw [h2] at h
              have := bal_le _ _ _ _ _ h2
              simp at this
              exact ih _ _ _ _ _ _ hc (by omega) h
          · simp at h; obtain ⟨rfl, rfl, rfl⟩ := h; exact ⟨hc, Nat.le_refl _, hsp⟩
      | num m =>
        simp only at h
        split at h
        · simp at h
        · split at h
          · rename_i h3 h4
            split at h
            · rename_i h5
              refine ih _ _ _ _ _ _ hc ?_ h
              have := congrArg List.length h5
              rw [List.length_take, List.length_take, List.length_drop, List.length_drop] at this
              omega
            · simp at h; obtain ⟨rfl, rfl, rfl⟩ := h; exact ⟨hc, Nat.le_refl _, hsp⟩
          · simp at h

end Go.Proofs.YtkbdngcbifonkaaFmt
