/-
  compilePattern: the code of a pattern.
-/
import Derived.Test.YtkbdngcbifonkaaFmtCmpT
namespace Go.Proofs.YtkbdngcbifonkaaFmt
set_option linter.all false
open Go.RowKit

/-- The repetitions are those of the language. -/
def PartOk : Pm.Part → Prop
  | .rep t _ => t = 42 ∨ t = 43 ∨ t = 45 ∨ t = 63
  | _ => True
def PatOk : Pm.Pat → Prop
  | .part p => PartOk p
  | .cap l => ∀ p ∈ l, PartOk p

theorem comp_part {w0 : World} {I k : Nat} {l : List Pm.Ins} {v : Value} {p : Pm.Part} (hl : l.length ≤ 900) (hp : PartOk p) (hr : RepPart w0 (· < w0.heap.size) v p) : CompsTo w0 I v (l, k) (l ++ p.code l.length, k) := by
  intro w B c us R mc hip hR
  have h (m : List Pm.Ins) (hm : m = p.code l.length) (h : Calls Tryf.prog 38 #[v, sliceAt R 1 mc] w (Compiled w0 I l m k)) : Calls Tryf.prog 38 #[v, sliceAt R 1 mc] w fun e w' => ∃ B' c' us', IpAt w0 I (l ++ p.code l.length) k w' B' c' us' ∧ e = .returned (.slice B' (l ++ p.code l.length).length c') := by
    subst hm
    exact h
  cases p with
  | one cl => exact h _ rfl (comp_one (Lib.hid hip) hl hR hr)
  | num n => exact h _ rfl (comp_num (Lib.hid hip) hl hR hr)
  | brace b e => exact h _ rfl (comp_brace (Lib.hid hip) hl hR hr)
  | rep t cl =>
    rcases hp with rfl | rfl | rfl | rfl
    · exact h _ (by simp [Pm.Part.code]) (comp_star (Lib.hid hip) hl hR hr)
    · exact h _ (by simp [Pm.Part.code]) (comp_plus (Lib.hid hip) hl hR hr)
    · exact h _ (by simp [Pm.Part.code]) (comp_minus (Lib.hid hip) hl hR hr)
    · exact h _ (by simp [Pm.Part.code]) (comp_opt (Lib.hid hip) hl hR hr)

theorem partsCode_snoc (p : Pm.Part) : ∀ (l : List Pm.Part) (i : Nat), Pm.partsCode (l ++ [p]) i = Pm.partsCode l i ++ p.code (i + (Pm.partsCode l i).length)
  | [], i => by simp [Pm.partsCode]
  | q :: l, i => by
    simp only [List.cons_append, Pm.partsCode, partsCode_snoc p l, List.append_assoc, List.length_append]
    rw [Nat.add_assoc]

def kn : List Pm.Pat → Nat → Nat
  | [], k => k
  | p :: l, k => kn l (p.next k)

theorem patsCode_snoc (p : Pm.Pat) : ∀ (l : List Pm.Pat) (i k : Nat), Pm.patsCode (l ++ [p]) i k = Pm.patsCode l i k ++ p.code (i + (Pm.patsCode l i k).length) (kn l k)
  | [], i, k => by simp [Pm.patsCode, kn]
  | q :: l, i, k => by
    simp only [List.cons_append, Pm.patsCode, patsCode_snoc p l, List.append_assoc, List.length_append, kn]
    rw [Nat.add_assoc]

theorem kn_snoc (p : Pm.Pat) : ∀ (l : List Pm.Pat) (k : Nat), kn (l ++ [p]) k = p.next (kn l k)
  | [], _ => rfl
  | q :: l, k => by simp only [List.cons_append, kn, kn_snoc p l]

theorem partsCode_mono : ∀ (l : List Pm.Part) (i n : Nat), (Pm.partsCode (l.take n) i).length ≤ (Pm.partsCode l i).length
  | [], _, _ => by simp
  | q :: l, i, 0 => by simp [Pm.partsCode]
  | q :: l, i, n + 1 => by
    simp only [List.take_succ_cons, Pm.partsCode, List.length_append]
    have := partsCode_mono l (i + (q.code i).length) n
    omega

theorem patsCode_mono : ∀ (l : List Pm.Pat) (i k n : Nat), (Pm.patsCode (l.take n) i k).length ≤ (Pm.patsCode l i k).length
  | [], _, _, _ => by simp
  | q :: l, i, k, 0 => by simp [Pm.patsCode]
  | q :: l, i, k, n + 1 => by
    simp only [List.take_succ_cons, Pm.patsCode, List.length_append]
    have := patsCode_mono l (i + (q.code i k).length) (q.next k) n
    omega

theorem next_le (p : Pm.Pat) (k : Nat) : k ≤ p.next k := by cases p <;> simp [Pm.Pat.next]
theorem kn_le : ∀ (l : List Pm.Pat) (k : Nat), k ≤ kn l k
  | [], _ => Nat.le_refl _
  | q :: l, k => Nat.le_trans (next_le q k) (kn_le l _)
theorem kn_mono : ∀ (l : List Pm.Pat) (k n : Nat), kn (l.take n) k ≤ kn l k
  | [], _, _ => by simp
  | q :: l, k, 0 => kn_le _ _
  | q :: l, k, n + 1 => by simp only [List.take_succ_cons, kn]; exact kn_mono l _ n

theorem comp_parts {w0 : World} {I k s : Nat} {l : List Pm.Ins} {h t : Bool} {ps : List Pm.Part} (hl : l.length + (Pm.partsCode ps l.length).length ≤ 900) (hn : ps.length ≤ 1000) (hok : ∀ p ∈ ps, PartOk p) (hr : RepParts w0 (· < w0.heap.size) s h t ps) :
    CompsTo w0 I (.iface 95 (ptr s)) (l, k) (l ++ Pm.partsCode ps l.length, k) := by
  obtain ⟨A, cap, hs, hel, h0, h1, h2⟩ := hr
  have hst := comp_seq (I := I) (n := ps.length) (fun i => (l ++ Pm.partsCode (ps.take i) l.length, k)) hn h2 (fun hne => by
    obtain ⟨a, hA, ha, hi⟩ := hel (by intro e; subst e; exact hne rfl)
    refine ⟨a, hA, fun i hil => ?_⟩
    obtain ⟨u, hu, hp⟩ := hi i hil
    refine ⟨u, hu, ?_⟩
    have hb := partsCode_mono ps l.length i
    have := comp_part (I := I) (k := k) (l := l ++ Pm.partsCode (ps.take i) l.length) (by rw [List.length_append]; omega) (hok _ (List.getElem_mem hil)) hp
    rw [List.length_append, List.append_assoc, ← partsCode_snoc, ← List.take_succ_eq_append_getElem hil] at this
    exact this)
  simpa [Pm.partsCode] using hst

theorem comp_pat {w0 : World} {I k : Nat} {l : List Pm.Ins} {v : Value} {p : Pm.Pat} (hl : l.length + (p.code l.length k).length ≤ 900) (hk : k ≤ 100) (hp : PatOk p) (hn : ∀ q, p = .cap q → q.length ≤ 1000) (hr : RepPat w0 (· < w0.heap.size) v p) : CompsTo w0 I v (l, k) (l ++ p.code l.length k, p.next k) := by
  cases p with
  | part p => exact comp_part (by omega) hp hr
  | cap q =>
    obtain ⟨b, s, hb, rfl, hc, hrs⟩ := hr
    have e : (l ++ [Pm.Ins.save k]).length = l.length + 1 := by simp
    have hin := comp_parts (I := I) (k := k + 2) (l := l ++ [.save k]) (by rw [e]; simp [Pm.Pat.code] at hl; omega) (hn q rfl) hp hrs
    rw [e, List.append_assoc] at hin
    have hl' : l.length + ((Pm.partsCode q (l.length + 1)).length + 2) ≤ 900 := by simp [Pm.Pat.code] at hl; omega
    have := comp_cap (l := l) (l2 := l ++ ([.save k] ++ Pm.partsCode q (l.length + 1))) (by omega) (by simp; omega) hk hc hin
    simpa [Pm.Pat.code, Pm.Pat.next] using this

/-- THE CODE OF A PATTERN. -/
theorem comp_pats {w0 : World} {s : Nat} {h : Bool} {ps : List Pm.Pat} (hl : (Pm.code ps).length ≤ 900) (hk : kn ps 2 ≤ 100) (hn : ps.length ≤ 1000) (hn2 : ∀ q, .cap q ∈ ps → q.length ≤ 1000) (hok : ∀ p ∈ ps, PatOk p) (hr : RepPats w0 (· < w0.heap.size) s h false ps) :
    Calls Tryf.prog 38 #[.iface 95 (ptr s), .slice none 0 0] w0 fun e w' => ∃ I B' c' us', IpAt w0 I (Pm.code ps) (kn ps 2) w' B' c' us' ∧ e = .returned (.slice B' (Pm.code ps).length c') := by
  obtain ⟨A, cap, hs, hel, h0, h1, h2⟩ := hr
  simp only [Pm.code, List.length_cons, List.length_append, List.length_nil] at hl
  have hst := comp_top (n := ps.length) (fun i => ([.save 0] ++ Pm.patsCode (ps.take i) 1 2, kn (ps.take i) 2)) hn (by simp only [List.take_length, List.length_append, List.length_singleton]; omega) (by simp [Pm.patsCode, kn]) h1 h2 (fun I hne => by
    obtain ⟨a, hA, ha, hi⟩ := hel (by intro e; subst e; exact hne rfl)
    refine ⟨a, hA, fun i hil => ?_⟩
    obtain ⟨u, hu, hp⟩ := hi i hil
    refine ⟨u, hu, ?_⟩
    have hb := patsCode_mono ps 1 2 (i + 1)
    have hb2 := kn_mono ps 2 i
    have e1 := patsCode_snoc ps[i] (ps.take i) 1 2
    rw [← List.take_succ_eq_append_getElem hil] at e1
    have e2 := kn_snoc ps[i] (ps.take i) 2
    rw [← List.take_succ_eq_append_getElem hil] at e2
    rw [e1, List.length_append] at hb
    have e3 : ([Pm.Ins.save 0] ++ Pm.patsCode (ps.take i) 1 2).length = 1 + (Pm.patsCode (ps.take i) 1 2).length := by simp; omega
    have := comp_pat (I := I) (k := kn (ps.take i) 2) (l := [.save 0] ++ Pm.patsCode (ps.take i) 1 2) (by rw [e3]; omega) (by omega) (hok _ (List.getElem_mem hil)) (fun q e => hn2 q (e ▸ List.getElem_mem hil)) hp
    rw [e3, List.append_assoc, ← e1, ← e2] at this
    exact this)
  refine hst.mono ?_
  rintro e w' ⟨I, B', c', us', hip, rfl⟩
  refine ⟨I, B', c', us', ?_, ?_⟩
  · simpa [Pm.code] using hip
  · simp [Pm.code]

end Go.Proofs.YtkbdngcbifonkaaFmt
