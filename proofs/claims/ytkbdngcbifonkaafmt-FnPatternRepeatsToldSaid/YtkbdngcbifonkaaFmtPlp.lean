/-
  A TEXT AS A PATTERN, ITS SIGNS BEHIND %: how it is read, and what the machine finds with its code. Plain.
-/
import Derived.Test.YtkbdngcbifonkaaFmtParA
import Derived.Test.YtkbdngcbifonkaaFmtFst
namespace Go.Proofs.YtkbdngcbifonkaaFmt
set_option linter.all false
open Go.RowKit

def alnum (b : UInt8) : Bool := decide ((97 ≤ b.toNat ∧ b.toNat ≤ 122) ∨ (65 ≤ b.toNat ∧ b.toNat ≤ 90) ∨ (48 ≤ b.toNat ∧ b.toNat ≤ 57))
def esc : List UInt8 → List UInt8
  | [] => []
  | b :: r => (if alnum b then [b] else [37, b]) ++ esc r
def escCls (b : UInt8) : Pm.Cls := if alnum b then .atom (.chr (b.toNat : Int)) else .atom (.single (b.toNat : Int))
def escPats (t : List UInt8) : List Pm.Pat := t.map fun b => .part (.one (escCls b))

theorem at_append (pre r : List UInt8) (j : Nat) : at_ (pre ++ r) (pre.length + j) = at_ r j := by
  unfold at_
  by_cases h : j < r.length
  · rw [dif_pos (by rw [List.length_append]; omega), dif_pos h, List.getElem_append_right (by omega)]
    simp
  · rw [dif_neg (by rw [List.length_append]; omega), dif_neg h]

theorem patTo_esc : ∀ (r pre : List UInt8) (acc : List Pm.Pat) (f : Nat), r.length < f → patTo (pre ++ esc r) false f pre.length acc = some (acc ++ escPats r)
  | [], pre, acc, f, hf => by
    obtain ⟨f, rfl⟩ : ∃ g, f = g + 1 := ⟨f - 1, by simp at hf; omega⟩
    have h0 : at_ (pre ++ esc []) pre.length = -1 := by
      have := at_append pre (esc []) 0
      rw [Nat.add_zero] at this
      rw [this]
      rfl
    simp [patTo, h0, escPats]
  | b :: r, pre, acc, f, hf => by
    obtain ⟨f, rfl⟩ : ∃ g, f = g + 1 := ⟨f - 1, by simp at hf; omega⟩
    have h0 := at_append pre (esc (b :: r)) 0
    have h1 := at_append pre (esc (b :: r)) 1
    rw [Nat.add_zero] at h0
    by_cases ha : alnum b = true
    · have e : esc (b :: r) = b :: esc r := by simp [esc, ha]
      rw [e] at h0 h1 ⊢
      have g0 : at_ (b :: esc r) 0 = (b.toNat : Int) := by simp [at_]
      rw [g0] at h0
      have hb : (97 ≤ b.toNat ∧ b.toNat ≤ 122) ∨ (65 ≤ b.toNat ∧ b.toNat ≤ 90) ∨ (48 ≤ b.toNat ∧ b.toNat ≤ 57) := by simpa [alnum] using ha
      have n1 : ¬ (b.toNat : Int) = 37 := by omega
      have n2 : ¬ (b.toNat : Int) = 46 := by omega
      have n3 : ¬ (b.toNat : Int) = 91 := by omega
      have n4 : ¬ (b.toNat : Int) = 40 := by omega
      have n5 : ¬ ((b.toNat : Int) = 42 ∨ (b.toNat : Int) = 43 ∨ (b.toNat : Int) = 45 ∨ (b.toNat : Int) = 63) := by omega
      have n6 : ¬ ((b.toNat : Int) = 93 ∨ (b.toNat : Int) = 36 ∨ (b.toNat : Int) = 41) := by omega
      have n7 : ¬ (b.toNat : Int) = -1 := by omega
      have ih := patTo_esc r (pre ++ [b]) (acc ++ [.part (.one (.atom (.chr (b.toNat : Int))))]) f (by simp at hf; omega)
      rw [patTo]
      simp only [h0, n1, n2, n3, n4, n5, n6, n7, if_false]
      have e2 : pre ++ b :: esc r = (pre ++ [b]) ++ esc r := by simp
      have e3 : pre.length + 1 = (pre ++ [b]).length := by simp
      rw [e2, e3, ih]
      simp [escPats, escCls, ha]
    · have e : esc (b :: r) = 37 :: b :: esc r := by simp [esc, ha]
      rw [e] at h0 h1 ⊢
      have g0 : at_ (37 :: b :: esc r) 0 = 37 := by simp [at_]
      have g1 : at_ (37 :: b :: esc r) 1 = (b.toNat : Int) := by simp [at_]
      rw [g0] at h0
      rw [g1] at h1
      have hb : ¬ ((97 ≤ b.toNat ∧ b.toNat ≤ 122) ∨ (65 ≤ b.toNat ∧ b.toNat ≤ 90) ∨ (48 ≤ b.toNat ∧ b.toNat ≤ 57)) := by simpa [alnum] using ha
      have n1 : ¬ (b.toNat : Int) = 49 := by omega
      have n2 : ¬ (b.toNat : Int) = 98 := by omega
      have n3 : ¬ (48 ≤ (b.toNat : Int) ∧ (b.toNat : Int) ≤ 57 ∨ (b.toNat : Int) = -1) := by omega
      have ih := patTo_esc r (pre ++ [37, b]) (acc ++ [.part (.one (.atom (.single (b.toNat : Int))))]) f (by simp at hf; omega)
      rw [patTo]
      simp only [h0, h1, n1, n2, n3, if_false, if_true]
      have e2 : pre ++ 37 :: b :: esc r = (pre ++ [37, b]) ++ esc r := by simp
      have e3 : pre.length + 2 = (pre ++ [37, b]).length := by simp
      rw [e2, e3, ih]
      simp [escPats, escCls, ha]

theorem esc_length : ∀ r : List UInt8, (esc r).length ≤ 2 * r.length
  | [] => by simp [esc]
  | b :: r => by
    have := esc_length r
    simp only [esc, List.length_append, List.length_cons]
    split <;> simp <;> omega

theorem esc_mat (b c : UInt8) : (escCls b).mat (c.toNat : Int) = decide (c = b) := by
  unfold escCls
  have hcb : (c.toNat : Int) = (b.toNat : Int) ↔ c = b := ⟨fun h => UInt8.toNat_inj.1 (by omega), fun h => by rw [h]⟩
  split
  · simp only [Pm.Cls.mat, Pm.Atom.mat]
    rw [Bool.eq_iff_iff]
    simp only [decide_eq_true_eq]
    rw [← hcb]
    exact ⟨fun h => h.symm, fun h => h.symm⟩
  · rename_i ha
    have hb : ¬ ((97 ≤ b.toNat ∧ b.toNat ≤ 122) ∨ (65 ≤ b.toNat ∧ b.toNat ≤ 90) ∨ (48 ≤ b.toNat ∧ b.toNat ≤ 57)) := by simpa [alnum] using ha
    have hbase : Pm.base (b.toNat : Int) (c.toNat : Int) = none := by
      unfold Pm.base
      repeat (rw [if_neg (by omega)])
    simp only [Pm.Cls.mat, Pm.Atom.mat, Pm.single, hbase]
    rw [Bool.eq_iff_iff]
    simp only [decide_eq_true_eq]
    exact hcb

/-- The code of the parts. -/
theorem esc_code : ∀ (t : List UInt8) (i k : Nat), Pm.patsCode (escPats t) i k = t.map fun b => .chr (escCls b)
  | [], _, _ => rfl
  | b :: r, i, k => by
    have := esc_code r (i + 1) k
    simp only [escPats, List.map_cons, Pm.patsCode, Pm.Pat.code, Pm.Part.code, Pm.Pat.next, List.length_singleton, List.singleton_append] at this ⊢
    rw [this]

def textCode (t : List UInt8) : List Pm.Ins := .save 0 :: ((t.map fun b => Pm.Ins.chr (escCls b)) ++ [.save 1, .done])
theorem textCode_eq (t : List UInt8) : Pm.code (escPats t) = textCode t := by rw [Pm.code, esc_code]; rfl

theorem kn_esc : ∀ (t : List UInt8) (k : Nat), kn (escPats t) k = k
  | [], _ => rfl
  | b :: r, k => kn_esc r k

theorem pats_esc (t : List UInt8) (ht : t.length ≤ 100) : PatsOk (escPats t) where
  len := by rw [textCode_eq]; simp [textCode]; omega
  caps := by rw [kn_esc]; omega
  n := by simp [escPats]; omega
  n2 := by intro q hq; simp [escPats] at hq
  ok := by intro p hp; simp [escPats] at hp; obtain ⟨b, _, rfl⟩ := hp; trivial
  ins := by
    rw [textCode_eq]
    intro k hk
    have hm : ∀ i ∈ textCode t, insIn i := by
      intro i hi
      simp only [textCode, List.mem_cons, List.mem_append, List.mem_map] at hi
      rcases hi with rfl | ⟨b, _, rfl⟩ | rfl | rfl | hi
      · exact Nat.zero_le _
      · intro neg es he
        unfold escCls at he
        split at he <;> cases he
      · exact (by decide : 1 ≤ 100)
      · trivial
      · cases hi
    exact hm _ (List.getElem_mem hk)

/-- Behind the parts that have matched: the rest of the text. -/
theorem vm_text (src : List UInt8) (a : Nat) : ∀ (r d : List UInt8) (sp f : Nat), Pm.vm (textCode (d ++ r)) src (r.length + f + 2) (1 + d.length) sp [a] =
    if (src.drop sp).take r.length = r then some (true, sp + r.length, [a, 2 * (sp + r.length)]) else (Pm.vm (textCode (d ++ r)) src (r.length + f + 2) (1 + d.length) sp [a]).bind fun t => some (false, t.2.1, t.2.2)
  | [], d, sp, f => by
    have h1 : (textCode (d ++ []))[1 + d.length]? = some (.save 1) := by simp [textCode, Nat.add_comm 1, List.getElem?_append_right]
    have h2 : (textCode (d ++ []))[1 + d.length + 1]? = some .done := by simp [textCode, Nat.add_comm 1, List.getElem?_append_right, Nat.add_assoc]
    rw [if_pos (by simp)]
    rw [show ([] : List UInt8).length + f + 2 = (f + 1) + 1 from by simp, Pm.vm, h1]
    simp only
    rw [Pm.vm, h2]
    simp [Pm.pad]
  | b :: r, d, sp, f => by
    have h1 : (textCode (d ++ b :: r))[1 + d.length]? = some (.chr (escCls b)) := by simp [textCode, Nat.add_comm 1, List.getElem?_append_right]
    rw [show (b :: r).length + f + 2 = (r.length + f + 2) + 1 from by simp; omega, Pm.vm, h1]
    simp only
    cases hs : src[sp]? with
    | none =>
      have hd : src.drop sp = [] := List.drop_eq_nil_of_le (List.getElem?_eq_none_iff.1 hs)
      rw [if_neg (by rw [hd]; simp)]
      rfl
    | some c =>
      obtain ⟨hlt, hce⟩ := List.getElem?_eq_some_iff.1 hs
      have hd : src.drop sp = c :: src.drop (sp + 1) := by rw [List.drop_eq_getElem_cons hlt, hce]
      simp only [esc_mat]
      by_cases hcb : c = b
      · subst hcb
        have ih := vm_text src a r (d ++ [c]) (sp + 1) f
        have e1 : d ++ [c] ++ r = d ++ c :: r := by simp
        have e2 : 1 + (d ++ [c]).length = 1 + d.length + 1 := by simp; omega
        rw [e1, e2] at ih
        simp only [decide_true, if_true]
        rw [hd]
        simp only [List.length_cons, List.take_succ_cons, List.cons.injEq, true_and]
        rw [ih]
        split
        · rw [show sp + 1 + r.length = sp + (r.length + 1) from by omega]
        · cases Pm.vm (textCode (d ++ c :: r)) src (r.length + f + 2) (1 + d.length + 1) (sp + 1) [a] <;> rfl
      · simp only [hcb, decide_false, Bool.false_eq_true, if_false]
        rw [if_neg (by rw [hd]; simp [hcb])]
        rfl

theorem vm_text_no (src : List UInt8) (a : Nat) : ∀ (r d : List UInt8) (sp f : Nat), ¬ (src.drop sp).take r.length = r → ∃ n c, Pm.vm (textCode (d ++ r)) src (r.length + f + 2) (1 + d.length) sp [a] = some (false, n, c)
  | [], d, sp, f, h => absurd (by simp) h
  | b :: r, d, sp, f, h => by
    have h1 : (textCode (d ++ b :: r))[1 + d.length]? = some (.chr (escCls b)) := by simp [textCode, Nat.add_comm 1, List.getElem?_append_right]
    rw [show (b :: r).length + f + 2 = (r.length + f + 2) + 1 from by simp; omega, Pm.vm, h1]
    simp only
    cases hs : src[sp]? with
    | none => exact ⟨_, _, rfl⟩
    | some c =>
      obtain ⟨hlt, hce⟩ := List.getElem?_eq_some_iff.1 hs
      have hd : src.drop sp = c :: src.drop (sp + 1) := by rw [List.drop_eq_getElem_cons hlt, hce]
      simp only [esc_mat]
      by_cases hcb : c = b
      · subst hcb
        have ih := vm_text_no src a r (d ++ [c]) (sp + 1) f (by rw [hd] at h; simpa using h)
        have e1 : d ++ [c] ++ r = d ++ c :: r := by simp
        have e2 : 1 + (d ++ [c]).length = 1 + d.length + 1 := by simp; omega
        rw [e1, e2] at ih
        simp only [decide_true, if_true]
        exact ih
      · simp only [hcb, decide_false, Bool.false_eq_true, if_false]
        exact ⟨_, _, rfl⟩

/-- Where a text stands first from a place on, so many places looked at. -/
def firstAt (t src : List UInt8) : Nat → Nat → Option Nat
  | 0, _ => none
  | d + 1, sp => if (src.drop sp).take t.length = t then some sp else firstAt t src d (sp + 1)

theorem find_text (t src : List UInt8) (f : Nat) : ∀ d sp, Pm.find (textCode t) src false (t.length + f + 3) d sp = some ((firstAt t src d sp).map fun a => [2 * a, 2 * (a + t.length)])
  | 0, _ => rfl
  | d + 1, sp => by
    have h0 : (textCode t)[0]? = some (.save 0) := rfl
    rw [Pm.find, firstAt]
    rw [show t.length + f + 3 = (t.length + f + 2) + 1 from rfl, Pm.vm, h0]
    simp only [Pm.pad, List.length_nil, List.nil_append, Nat.sub_zero, Nat.zero_add, List.replicate_one, List.set_cons_zero]
    by_cases h : (src.drop sp).take t.length = t
    · have := vm_text src (2 * sp) t [] sp f
      rw [if_pos h] at this
      simp only [List.nil_append, List.length_nil, Nat.add_zero] at this
      rw [this, if_pos h]
      rfl
    · obtain ⟨n, c, this⟩ := vm_text_no src (2 * sp) t [] sp f h
      simp only [List.nil_append, List.length_nil, Nat.add_zero] at this
      rw [this, if_neg h]
      exact find_text t src f d (sp + 1)

theorem firstAt_none (t src : List UInt8) : ∀ d sp, src.length < sp + t.length → sp + d ≤ src.length + 1 → firstAt t src d sp = none
  | 0, _, _, _ => rfl
  | d + 1, sp, h, h2 => by
    rw [firstAt, if_neg, firstAt_none t src d (sp + 1) (by omega) (by omega)]
    intro e
    have := congrArg List.length e
    rw [List.length_take, List.length_drop] at this
    omega

theorem firstAt_le (t src : List UInt8) : ∀ d sp a, firstAt t src d sp = some a → a + t.length ≤ src.length ∨ (t = [] ∧ a < sp + d)
  | 0, _, _, h => by cases h
  | d + 1, sp, a, h => by
    rw [firstAt] at h
    split at h
    · rename_i he
      cases h
      have := congrArg List.length he
      rw [List.length_take, List.length_drop] at this
      by_cases ht : t = []
      · exact .inr ⟨ht, by omega⟩
      · have : 0 < t.length := List.length_pos_iff.2 ht
        exact .inl (by omega)
    · rcases firstAt_le t src d (sp + 1) a h with h | ⟨h1, h2⟩
      · exact .inl h
      · exact .inr ⟨h1, by omega⟩

theorem parses_esc (t : List UInt8) (ht : t.length ≤ 100) : Parses (esc t) false (escPats t) := by
  intro w Sc A cap h hA
  have hl := esc_length t
  have h94 : (at_ (esc t) 0 == 94) = false := by
    cases t with
    | nil => rfl
    | cons b r =>
      by_cases ha : alnum b = true
      · have hb : (97 ≤ b.toNat ∧ b.toNat ≤ 122) ∨ (65 ≤ b.toNat ∧ b.toNat ≤ 90) ∨ (48 ≤ b.toNat ∧ b.toNat ≤ 57) := by simpa [alnum] using ha
        have : at_ (esc (b :: r)) 0 = (b.toNat : Int) := by simp [esc, ha, at_]
        rw [this]
        simp
        omega
      · have : at_ (esc (b :: r)) 0 = 37 := by simp [esc, ha, at_]
        rw [this]
        rfl
  refine parse_basic (f := t.length + 1) h hA (Nat.zero_le _) (by omega) h94 ?_
  have := patTo_esc t [] [] (t.length + 1) (by omega)
  simpa using this

theorem sub_eq (s t : ByteArray) (a : Nat) : ((s.extract a (a + t.size)).toList == t.toList) = decide ((s.data.toList.drop a).take t.data.toList.length = t.data.toList) := by
  rw [ByteArray.toList_eq, ByteArray.toList_eq, ByteArray.data_extract, Array.toList_extract, List.extract_eq_take_drop, Nat.add_sub_cancel_left, Array.length_toList]
  rw [Bool.eq_iff_iff]
  simp only [beq_iff_eq, decide_eq_true_eq]
  exact Iff.rfl

def plainRes : Option Nat → Int
  | some a => (a : Int)
  | none => -1

set_option maxRecDepth 100000 in
set_option maxHeartbeats 4000000 in
theorem ptplain_calls {w : World} {s t : ByteArray} {sp0 : Nat} (hs : s.size ≤ 100000) (ht : t.size ≤ 100000) (hsp : sp0 ≤ s.size) :
    Calls Tryf.prog 22 #[.string s, .string t, .int .i64 sp0] w fun e w' => w = w' ∧ e = .returned (.int .i64 (plainRes (firstAt t.data.toList s.data.toList (s.size + 1 - sp0) sp0))) := by
  go_enter Tryf.func22, Tryf.ntmps22
  go_wp2_with fail
  go_loopg [7] (s.size + 1 - sp0) (fun k s7 wr => wr = w ∧ ∃ a : Nat, s7 = .int .i64 a ∧ a ≤ s.size + 1 ∧ k = s.size + 1 - a ∧ firstAt t.data.toList s.data.toList (s.size + 1 - a) a = firstAt t.data.toList s.data.toList (s.size + 1 - sp0) sp0)
  case atStart => exact ⟨rfl, sp0, rfl, by omega, rfl, rfl⟩
  case round =>
    obtain ⟨rfl, a, rfl, ha, rfl, hfa⟩ := hrel
    have HFA := Lib.hid hfa
    clear hfa
    have hw1 : IntKind.i64.wrap ((a : Int) + (t.size : Int)) = ((a + t.size : Nat) : Int) := by rw [IntKind.wrap_i64]; omega
    have hw2 : IntKind.i64.wrap ((a : Int) + 1) = ((a + 1 : Nat) : Int) := by rw [IntKind.wrap_i64]; omega
    by_cases hle : a + t.size ≤ s.size
    · have hle2 : ((a + t.size : Nat) : Int) ≤ s.size := by omega
      have ha0 : (0 : Int) ≤ a := by omega
      have hle3 : (a : Int) + (t.size : Int) ≤ s.size := by omega
      have hat : (a : Int) ≤ (a : Int) + (t.size : Int) := by omega
      have hse := sub_eq s t a
      have hsz : s.size + 1 - a = (s.size - a) + 1 := by omega
      by_cases hp : (s.data.toList.drop a).take t.data.toList.length = t.data.toList
      · have hb : ((s.extract a (a + t.size)).toList == t.toList) = true := by rw [hse]; exact decide_eq_true hp
        have HP := Lib.hid hp
        clear hp hse
        go_wp2_with fail
        go_ret
        refine ⟨rfl, ?_⟩
        rw [← HFA.out, hsz, firstAt, if_pos HP.out]
        rfl
      · have hb : ((s.extract a (a + t.size)).toList == t.toList) = false := by rw [hse]; exact decide_eq_false hp
        have HP := Lib.hid hp
        clear hp hse
        go_wp2_with fail
        go_roundg (s.size + 1 - (a + 1))
        case measure => omega
        case rel => exact ⟨rfl, a + 1, rfl, by omega, rfl, by
          have := HFA.out
          rw [hsz, firstAt, if_neg HP.out] at this
          rw [show s.size + 1 - (a + 1) = s.size - a from by omega]
          exact this⟩
    · have hle2 : ¬ ((a + t.size : Nat) : Int) ≤ s.size := by omega
      go_wp2_with fail
      go_ret
      refine ⟨rfl, ?_⟩
      rw [← HFA.out, firstAt_none _ _ _ _ (by rw [Array.length_toList, Array.length_toList]; exact Nat.lt_of_not_le hle) (by rw [Array.length_toList]; show a + (s.size + 1 - a) ≤ s.size + 1; omega)]
      rfl
end Go.Proofs.YtkbdngcbifonkaaFmt
