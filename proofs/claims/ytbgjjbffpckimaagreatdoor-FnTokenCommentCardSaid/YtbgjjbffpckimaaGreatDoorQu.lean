/-
  The tokens of a text: comments.
-/
import Derived.Test.YtbgjjbffpckimaaGreatDoorQs
namespace Go.Proofs.YtbgjjbffpckimaaGreatDoor
set_option linter.all false

/-- The closing bracket of a level; does one stand in a text, with the closing bracket behind it? -/
def cbr (k : Nat) : Bs := 93 :: (List.replicate k 61 ++ [93])
def clsR (k : Nat) : Bs → Bool
  | [] => false
  | c :: t => (cbr k).isPrefixOf (c :: t ++ cbr k) || clsR k t
theorem rep_pre : ∀ (k : Nat) (t : Bs), (List.replicate k (61 : UInt8) ++ [93]).isPrefixOf t = true ↔ (t.dropWhile (· == 61)).head? = some 93 ∧ eqs t = k
  | 0, [] => by simp [eqs]
  | 0, c :: t => by
    have e : (List.replicate 0 (61 : UInt8) ++ [93]).isPrefixOf (c :: t) = ((93 : UInt8) == c) := by simp [List.isPrefixOf]
    rw [e, List.dropWhile_cons]
    unfold eqs
    rw [List.takeWhile_cons]
    by_cases hc : c = 61
    · subst hc; simp
    · have h1 : (c == 61) = false := by simpa using hc
      rw [h1]
      simp
      exact eq_comm
  | k + 1, [] => by simp [List.replicate_succ, List.isPrefixOf]
  | k + 1, c :: t => by
    have e : (List.replicate (k + 1) (61 : UInt8) ++ [93]).isPrefixOf (c :: t) = (((61 : UInt8) == c) && (List.replicate k (61 : UInt8) ++ [93]).isPrefixOf t) := by
      rw [List.replicate_succ]; rfl
    rw [e, Bool.and_eq_true, rep_pre k t, List.dropWhile_cons]
    unfold eqs
    rw [List.takeWhile_cons]
    by_cases hc : c = 61
    · subst hc; simp
    · have h1 : (c == 61) = false := by simpa using hc
      have h2 : ((61 : UInt8) == c) = false := by
        cases h : ((61 : UInt8) == c)
        · rfl
        · exact absurd (eq_of_beq h).symm hc
      rw [h1, h2]
      simp
theorem brk_pre (k : Nat) (r : Bs) : brk 93 r = some k ↔ (cbr k).isPrefixOf r = true := by
  cases r with
  | nil => simp [brk, cbr]
  | cons c t =>
    have e : (cbr k).isPrefixOf (c :: t) = (((93 : UInt8) == c) && (List.replicate k (61 : UInt8) ++ [93]).isPrefixOf t) := rfl
    rw [e, Bool.and_eq_true, rep_pre]
    simp only [brk]
    by_cases h : c = 93 ∧ (t.dropWhile (· == 61)).head? = some 93
    · rw [if_pos h]
      simp [h.1, h.2]
    · rw [if_neg h]
      simp
      intro h1 h2
      exact absurd ⟨h1.symm, h2⟩ h
theorem cbr_len (k : Nat) : (cbr k).length = k + 2 := by simp [cbr]
theorem cbr_pre_app {k : Nat} {u : Bs} (z : Bs) (h : k + 2 ≤ u.length) : (cbr k).isPrefixOf (u ++ z) = (cbr k).isPrefixOf u := by
  rw [Bool.eq_iff_iff, List.isPrefixOf_iff_prefix, List.isPrefixOf_iff_prefix, List.prefix_iff_eq_take, List.prefix_iff_eq_take, cbr_len, List.take_append_of_le_length h]
/-- What a long comment reads. -/
theorem longB_cls (k : Nat) : ∀ s : Bs, clsR k s = false → (∀ z, longB k (s ++ cbr k ++ z) = .no 2) ∨ (∀ z, longB k (s ++ cbr k ++ z) = .ok s z)
  | [], _ => by
    refine .inr fun z => ?_
    have h1 : brk 93 (cbr k ++ z) = some k := (brk_pre k _).2 (by rw [cbr_pre_app z (by rw [cbr_len]; exact Nat.le_refl _)]; exact List.isPrefixOf_iff_prefix.2 (List.prefix_refl _))
    show longB k (93 :: (List.replicate k 61 ++ [93] ++ z)) = .ok [] z
    have e : cbr k ++ z = 93 :: (List.replicate k 61 ++ [93] ++ z) := rfl
    rw [longB, ← e, if_pos h1]
    have hl : (List.replicate k (61 : UInt8) ++ [93]).length = k + 1 := by simp
    rw [← hl, List.drop_left]
  | c :: t, h => by
    rw [clsR, Bool.or_eq_false_iff] at h
    have hn : ∀ z, ¬ brk 93 (c :: (t ++ cbr k ++ z)) = some k := fun z hb => by
      have h2 := (brk_pre k _).1 hb
      have e : c :: (t ++ cbr k ++ z) = (c :: t ++ cbr k) ++ z := by simp
      rw [e, cbr_pre_app z (by rw [List.length_append, cbr_len]; simp), h.1] at h2
      cases h2
    have hh : ∀ z, (t ++ cbr k ++ z).head? = (t ++ cbr k).head? := fun z => by
      cases t <;> rfl
    by_cases h2 : k = 0 ∧ c = 91 ∧ (t ++ cbr k).head? = some 91
    · refine .inl fun z => ?_
      have e : c :: t ++ cbr k ++ z = c :: (t ++ cbr k ++ z) := rfl
      rw [e, longB, if_neg (hn z), if_pos ⟨h2.1, h2.2.1, by rw [hh]; exact h2.2.2⟩]
    · have hg : ∀ z, longB k (c :: t ++ cbr k ++ z) = (longB k (t ++ cbr k ++ z)).map (c :: ·) := fun z => by
        have e : c :: t ++ cbr k ++ z = c :: (t ++ cbr k ++ z) := rfl
        rw [e, longB, if_neg (hn z), if_neg (fun h3 => h2 ⟨h3.1, h3.2.1, by rw [← hh z]; exact h3.2.2⟩)]
      rcases longB_cls k t h.2 with h3 | h3
      · exact .inl fun z => by rw [hg, h3]; rfl
      · exact .inr fun z => by rw [hg, h3]; rfl
/-- The inside of a long comment of a level, its brackets with it. -/
def lngB (k : Nat) (s : Bs) : Bs := 91 :: (List.replicate k 61 ++ 91 :: 10 :: (s ++ cbr k))
theorem brk_lng (k : Nat) (u : Bs) : brk 91 (91 :: (List.replicate k 61 ++ 91 :: u)) = some k := by
  have hs := pl_span (p := (· == (61 : UInt8))) (z := 91 :: u) rfl (A := List.replicate k 61) (fun c hc => by rw [List.eq_of_mem_replicate hc]; rfl)
  simp only [brk]
  rw [hs.2]
  simp only [List.head?_cons, and_self, if_true]
  unfold eqs
  rw [hs.1, List.length_replicate]
theorem comP_lng {k : Nat} {s : Bs} (z : Bs) : comP (lngB k s ++ z) = (longB k (s ++ cbr k ++ z)).map fun _ => () := by
  have e : lngB k s ++ z = 91 :: (List.replicate k 61 ++ 91 :: (10 :: (s ++ cbr k ++ z))) := by simp [lngB]
  have hd : (91 :: (List.replicate k 61 ++ 91 :: (10 :: (s ++ cbr k ++ z)))).drop (k + 2) = 10 :: (s ++ cbr k ++ z) := by
    have e2 : (91 : UInt8) :: (List.replicate k 61 ++ 91 :: (10 :: (s ++ cbr k ++ z))) = (91 :: (List.replicate k 61 ++ [91])) ++ (10 :: (s ++ cbr k ++ z)) := by simp
    have hl : ((91 : UInt8) :: (List.replicate k 61 ++ [91])).length = k + 2 := by simp
    rw [e2, ← hl, List.drop_left]
  unfold comP
  rw [e, brk_lng]
  dsimp only
  rw [hd]
  rfl
def xTok : Tok := ⟨1, [120], [120]⟩
theorem Lx.x : Lx [120] [(xTok, [120])] 0 := by
  refine Lx.tok (by decide) (by decide) ?_ Lx.nil
  rw [nextP_let (by decide)]
  unfold nameP
  rw [if_neg (by decide)]
  rfl
/-- A long comment. -/
theorem Lx.long_x {k : Nat} {s : Bs} (hc : clsR k s = false) (h : Lx (45 :: 45 :: lngB k s) [] 0) : Lx (45 :: 45 :: lngB k s ++ [120]) [(xTok, [120])] 0 := by
  have h1 := comP_lng (k := k) (s := s) []
  rw [List.append_nil] at h1
  rcases longB_cls k s hc with h2 | h2
  · rw [h2] at h1
    have h3 := Lx.comNo h1
    exact absurd (h.det h3).2 (by decide)
  · have h3 := comP_lng (k := k) (s := s) [120]
    rw [h2] at h3
    exact Lx.com h3 Lx.x
theorem longB_end10 {k : Nat} (z : Bs) : ∀ {v y r' : Bs}, longB k (v ++ [10]) = .ok y r' → longB k (v ++ 10 :: z) = .ok y (r' ++ z) ∧ ∃ r0, r' = r0 ++ [10]
  | [], y, r', h => by
    exfalso
    have e : longB k ([] ++ [10]) = .no 1 := by
      show longB k ((10 : UInt8) :: []) = .no 1
      rw [longB_chr k 10 [] (by decide) (by
        intro h2
        rw [longB, if_neg (by simp only [brk]; rw [if_neg (by decide)]; simp), if_neg (by simp)] at h2
        cases h2)]
      rfl
    rw [e] at h
    cases h
  | c :: v, y, r', h => by
    have hb := brk_loc (b := []) (s := 93) (by decide) (c :: v)
    have hb2 := brk_loc (b := z) (s := 93) (by decide) (c :: v)
    rw [List.cons_append] at h hb hb2 ⊢
    rw [longB] at h ⊢
    rw [hb] at h
    rw [hb2]
    simp only [head_app (show (91 : UInt8) ≠ 10 by decide)] at h ⊢
    by_cases h1 : brk 93 (c :: v) = some k
    · rw [if_pos h1] at h ⊢
      injection h with h2 h3
      have hl := brk_len h1
      rw [List.length_cons] at hl
      rw [List.drop_append_of_le_length (by omega)] at h3
      rw [← h2, ← h3, List.drop_append_of_le_length (by omega)]
      exact ⟨by simp, _, rfl⟩
    · rw [if_neg h1] at h ⊢
      by_cases h2 : k = 0 ∧ c = 91 ∧ v.head? = some 91
      · rw [if_pos h2] at h; cases h
      · rw [if_neg h2] at h ⊢
        cases hq : longB k (v ++ [10]) with
        | no kk => rw [hq] at h; cases h
        | ok x r2 =>
          rw [hq] at h
          injection h with h3 h4
          have ih := longB_end10 z hq
          rw [ih.1, ← h3, ← h4]
          exact ⟨rfl, ih.2⟩
theorem comP_end10 (z : Bs) {u r' : Bs} (h : comP (u ++ [10]) = .ok () r') : comP (u ++ 10 :: z) = .ok () (r' ++ z) ∧ ∃ r0, r' = r0 ++ [10] := by
  unfold comP at h ⊢
  rw [brk_loc (by decide)] at h ⊢
  cases hk : brk 91 u with
  | some k =>
    rw [hk] at h
    dsimp only at h ⊢
    have hl := brk_len hk
    rw [List.drop_append_of_le_length hl] at h ⊢
    cases hd : u.drop (k + 2) with
    | nil => rw [hd] at h; cases h
    | cons c v =>
      rw [hd, List.cons_append] at h
      rw [List.cons_append]
      have hcut : ∀ b : Bs, cut10 (c :: (v ++ 10 :: b)) = (cut10 (c :: v)) ++ 10 :: b := fun b => by
        simp only [cut10]
        split <;> rfl
      rw [hcut] at h ⊢
      cases hq : longB k (cut10 (c :: v) ++ [10]) with
      | no kk => rw [hq] at h; cases h
      | ok x r2 =>
        rw [hq] at h
        injection h with _ h3
        have ih := longB_end10 z hq
        rw [ih.1, ← h3]
        exact ⟨rfl, ih.2⟩
  | none =>
    rw [hk] at h
    dsimp only at h ⊢
    have ht : ∀ b : Bs, (u ++ 10 :: b).take 2 = [91, 61] ↔ u.take 2 = [91, 61] := fun b => by rw [← pre2, ← pre2, pre_loc (by decide)]
    by_cases h2 : u.take 2 = [91, 61]
    · rw [if_pos ((ht []).2 h2)] at h; cases h
    · rw [if_neg (fun e => h2 ((ht []).1 e))] at h
      rw [if_neg (fun e => h2 ((ht z).1 e))]
      injection h with _ h3
      rw [(pl_tw (p := (· != 10)) (z := [10]) rfl u).2] at h3
      rw [(pl_tw (p := (· != 10)) (z := 10 :: z) rfl u).2, ← h3]
      exact ⟨by simp, _, rfl⟩
/-- What has no tokens and ends with a line break. -/
theorem Lx.line_x : ∀ {r : Bs} {ts : List (Tok × Bs)} {k : Nat}, Lx r ts k → ts = [] → k = 0 → (r = [] ∨ ∃ r0, r = r0 ++ [10]) → Lx (r ++ [120]) [(xTok, [120])] 0 := by
  intro r ts k h
  induction h with
  | nil => intro _ _ _; exact Lx.x
  | @ws c t ts k hc _ ih =>
    intro h1 h2 h3
    refine Lx.ws hc (ih h1 h2 ?_)
    rcases h3 with h3 | ⟨r0, h3⟩
    · cases h3
    · cases r0 with
      | nil => injection h3 with _ h4; exact .inl h4
      | cons d r1 => injection h3 with _ h4; exact .inr ⟨r1, h4⟩
  | @com u r' ts k hc _ ih =>
    intro h1 h2 h3
    rcases h3 with h3 | ⟨r0, h3⟩
    · cases h3
    · match r0, h3 with
      | [], h3 => injection h3 with h4 _; cases h4
      | [d], h3 =>
        injection h3 with _ h4
        injection h4 with h5 _
        cases h5
      | d :: g :: r1, h3 =>
        injection h3 with _ h4
        injection h4 with _ h5
        rw [h5] at hc
        have h6 := comP_end10 [120] hc
        have h7 : Lx (45 :: 45 :: (r1 ++ 10 :: [120])) [(xTok, [120])] 0 := Lx.com h6.1 (ih h1 h2 (.inr h6.2))
        rw [h5]
        simpa using h7
  | comNo hc =>
    intro _ h2 _
    subst h2
    rcases comP_no hc with h | h <;> cases h
  | tok => intro h1 _ _; cases h1
  | no h0 h1 hn =>
    intro _ h2 _
    subst h2
    rcases nextP_no hn with h | h <;> cases h
end Go.Proofs.YtbgjjbffpckimaaGreatDoor

namespace Go.Proofs.YtbgjjbffpckimaaGreatDoor
set_option linter.all false
open Go.RowKit

def L9Rel (k X : Nat) (n : Nat) (v1 v5 : Value) (w0 wr : World) : Prop :=
  ∃ j : Nat, v1 = .int .i64 ((k - j : Nat) : Int) ∧ j ≤ k ∧ wr.ownsRow X 5 1 v5 j (Lib.byteCells (List.replicate j 61)) ∧ Ch (fun _ => False) w0 wr ∧ n = k - j

set_option maxRecDepth 100000 in
set_option maxHeartbeats 4000000 in
theorem long9_calls {w : World} {s : ByteArray} {k : Nat} (hs : s.size ≤ 100) (hk : k ≤ 20) :
    Calls Tryz.prog 8 #[.string s, .int .i64 (k : Int)] w fun e w' => (∃ x : ByteArray, e = .returned (.string x) ∧ x.data.toList = lngB k s.data.toList) ∧ Ch (fun _ => False) w w' := by
  obtain ⟨i0, hi0, hz0, hz1, hz2⟩ := info_parts Tryz.info5
  have I0 := Lib.hid hi0
  have Z0 := Lib.hid hz0
  have Z1 := Lib.hid hz1
  have Z2 := Lib.hid hz2
  clear hi0 hz0 hz1 hz2
  have HO0 := Lib.hid (World.ownsRow_lit (e := 5) (size := 1) (base := w.heap.size) w #[] 0 (by simp) (by unfold maxLen; omega) rfl)
  have HC0 : Hid (Ch (fun _ => False) w (w.alloc (.cells #[] 5))) := Lib.hid ((Ch.refl _ _).alloc _)
  go_enter Tryz.func8, Tryz.ntmps8
  go_wp2_with fail
  go_loopg [1, 5] k (fun n v1 v5 wr => L9Rel k w.heap.size n v1 v5 w wr)
  case atStart => exact ⟨0, rfl, Nat.zero_le _, HO0.out, HC0.out, rfl⟩
  case round =>
    obtain ⟨j, rfl, hj, ho, hc, hn⟩ := hrel
    have HO := Lib.hid ho
    have HC := Lib.hid hc
    have HN := Lib.hid hn
    have hsz := hc.size
    clear ho hc hn HO0 HC0
    by_cases hlt : j < k
    · have g0 : (0 : Int) < ((k - j : Nat) : Int) := by omega
      have hw1 : IntKind.i64.wrap (((k - j : Nat) : Int) - 1) = ((k - (j + 1) : Nat) : Int) := by rw [IntKind.wrap_i64]; omega
      go_wp2_with (at_builtin; refine wpList_append_lies _ rfl (.tmp 11) (.tmp 12) 36 rfl w.heap.size 5 i0 _ 1 1 Tryz.underlying36 I0.out Z0.out Z1.out Z2.out rfl (by omega) _ j (Lib.byteCells (List.replicate j 61)) rfl (HO.out.alloc _) ⟨wr.heap.size, 0, none⟩ 1 1 [.int .u8 61] rfl rfl (World.news_of_block (heap_alloc_new wr _)) (by intro y hy; simp at hy; subst hy; rfl) (by omega) (by unfold maxLen; omega) (by omega) (by simp; omega) (wr.heap.size + 1) (by simp) ?_; intro ga capa wa howna hgrowa hata hlta
                   have hCa : Ch (fun _ => False) w wa := (HC.out.alloc _).grown hgrowa (fun i hi hlt => by have := HO.out.lt i hi; omega)
                   have HCa := Lib.hid hCa
                   have HOa := Lib.hid howna
                   clear hCa howna hgrowa hata hlta)
      have hgk : k - (j + 1) < gk := by have := HN.out; omega
      go_roundg (k - (j + 1))
      case measure => omega
      case rel =>
        refine ⟨j + 1, rfl, hlt, ?_, HCa.out, rfl⟩
        have := HOa.out
        rw [show List.replicate (j + 1) (61 : UInt8) = List.replicate j 61 ++ [61] by rw [List.replicate_succ'], bcs]
        exact this
    · obtain rfl : j = k := by omega
      have hown := HO.out
      have hcv : (convert 36 9 u5).run Tryz.prog wr = .ok (.string ⟨(List.replicate j (61 : UInt8)).toArray⟩) wr := own_convert (by rw [List.length_replicate]; exact hown)
      have hj0 : j - j = 0 := by omega
      have hl1 : (9223372036854775807 < 1 + j) = False := eq_false (by omega)
      have hl2 : (9223372036854775807 < 1 + j + 2) = False := eq_false (by omega)
      have hl3 : (9223372036854775807 < 1 + j + 2 + s.size) = False := eq_false (by omega)
      have hl4 : (9223372036854775807 < 1 + j + 2 + s.size + 1) = False := eq_false (by omega)
      have hl5 : (9223372036854775807 < 1 + j + 2 + s.size + 1 + j) = False := eq_false (by omega)
      have hl6 : (9223372036854775807 < 1 + j + 2 + s.size + 1 + j + 1) = False := eq_false (by omega)
      rw [hj0]
      clear hown hj0
      go_wp2_with fail
      go_ret
      refine ⟨⟨_, rfl, ?_⟩, HC.out⟩
      simp [lngB, cbr]

/-- The bracket that 'closes9' looks for, while it is made. -/
def C9aRel (k n : Nat) (v5 v9 : Value) (w0 wr : World) : Prop :=
  ∃ (j : Nat) (b : ByteArray), v9 = .int .i64 (j : Int) ∧ j ≤ k ∧ v5 = .string b ∧ b.data.toList = 93 :: List.replicate j 61 ∧ wr = w0 ∧ n = k - j
def C9bRel (k : Nat) (S : Bs) (n : Nat) (v21 : Value) (w0 wr : World) : Prop :=
  ∃ i : Nat, v21 = .int .i64 (i : Int) ∧ i ≤ S.length ∧ clsR k S = clsR k (S.drop i) ∧ wr = w0 ∧ n = S.length - i
theorem clsR_step {k i : Nat} {S : Bs} (h : i < S.length) : clsR k (S.drop i) = ((cbr k).isPrefixOf ((S ++ cbr k).drop i) || clsR k (S.drop (i + 1))) := by
  have e : S.drop i = S[i] :: S.drop (i + 1) := List.drop_eq_getElem_cons h
  have e2 : (S ++ cbr k).drop i = S.drop i ++ cbr k := List.drop_append_of_le_length (by omega)
  rw [e2, e]
  rfl

set_option maxRecDepth 100000 in
set_option maxHeartbeats 4000000 in
theorem closes9_calls {w : World} {s : ByteArray} {k : Nat} (hs : s.size ≤ 100) (hk : k ≤ 20) :
    Calls Tryz.prog 7 #[.string s, .int .i64 (k : Int)] w fun e w' => e = .returned (.bool (clsR k s.data.toList)) ∧ w' = w := by
  have hS : s.data.toList.length = s.size := Array.length_toList
  go_enter Tryz.func7, Tryz.ntmps7
  go_wp2_with fail
  go_loopg [5, 9] k (fun n v5 v9 wr => C9aRel k n v5 v9 w wr)
  case atStart => exact ⟨0, ⟨#[93]⟩, rfl, Nat.zero_le _, rfl, rfl, rfl, rfl⟩
  case round =>
    obtain ⟨j, b, rfl, hj, rfl, hb, rfl, hn⟩ := hrel
    have hbs : b.size = j + 1 := by
      have h1 := congrArg List.length hb
      have h2 : b.data.toList.length = b.size := Array.length_toList
      simp only [List.length_cons, List.length_replicate] at h1
      omega
    have HB := Lib.hid hb
    clear hb
    by_cases hlt : j < k
    · have hl1 : (9223372036854775807 < b.size + 1) = False := eq_false (by omega)
      go_wp2_with fail
      have hgk : k - (j + 1) < gk := by omega
      go_roundg (k - (j + 1))
      case measure => omega
      case rel =>
        refine ⟨j + 1, b ++ ⟨#[61]⟩, rfl, hlt, rfl, ?_, rfl, rfl⟩
        have := HB.out
        rw [List.replicate_succ', ← List.cons_append, ← this]
        simp
    · obtain rfl : j = k := by omega
      have hl1 : (9223372036854775807 < b.size + 1) = False := eq_false (by omega)
      have hl2 : (9223372036854775807 < s.size + (b.size + 1)) = False := eq_false (by omega)
      go_wp2_with fail
      obtain ⟨y, hy⟩ : ∃ y : ByteArray, b ++ ⟨#[93]⟩ = y := ⟨_, rfl⟩
      have hyl : y.data.toList = cbr j := by
        rw [← hy]
        have := HB.out
        simp [cbr, this]
      have hys : y.size = j + 2 := by
        have h2 : y.data.toList.length = y.size := Array.length_toList
        rw [hyl, cbr_len] at h2
        omega
      rw [hy]
      have hwl : (s ++ y).data.toList = s.data.toList ++ cbr j := by rw [← hyl]; simp
      have hws : (s ++ y).size = s.size + y.size := by
        have h2 : (s ++ y).data.toList.length = (s ++ y).size := Array.length_toList
        rw [hwl, List.length_append, cbr_len] at h2
        omega
      have HYL := Lib.hid hyl
      have HWL := Lib.hid hwl
      clear hy hyl hwl HB
      obtain ⟨q, hq⟩ : ∃ q : ByteArray, s ++ y = q := ⟨_, rfl⟩
      rw [hq] at HWL hws ⊢
      have HWS := Lib.hid hws
      have hyb : y.size ≤ 22 := by omega
      clear hq hl1 hl2 hws hys
      go_loopg [21] s.size (fun n v21 wx => C9bRel j s.data.toList n v21 wr wx)
      case atStart => exact ⟨0, rfl, Nat.zero_le _, rfl, rfl, by omega⟩
      case round =>
        obtain ⟨i, rfl, hi, hcl, rfl, hn⟩ := hrel
        have HCL := Lib.hid hcl
        clear hcl
        by_cases hlt : i < s.size
        · have g1 : (0 : Int) ≤ (i : Int) := by omega
          have g2 : (i : Int) ≤ (i : Int) + (y.size : Int) := by omega
          have g3 : (i : Int) + (y.size : Int) ≤ (q.size : Int) := by have := HWS.out; omega
          have hw1 : IntKind.i64.wrap ((i : Int) + (y.size : Int)) = (i : Int) + (y.size : Int) := by rw [IntKind.wrap_i64]; omega
          have het := ext_take (s := q) (x := y) (i := i) rfl
          rw [HYL.out, HWL.out] at het
          have hst := clsR_step (k := j) (S := s.data.toList) (i := i) (by omega)
          cases hpq : (cbr j).isPrefixOf ((s.data.toList ++ cbr j).drop i) with
          | true =>
            rw [hpq] at het hst
            have HT := Lib.hid (HCL.out.trans hst)
            clear hpq hst
            go_wp2_with fail
            go_ret
            exact ⟨by rw [HT.out]; rfl, rfl⟩
          | false =>
            rw [hpq] at het hst
            have HT := Lib.hid (HCL.out.trans hst)
            clear hpq hst
            go_wp2_with fail
            have hgk : s.size - (i + 1) < gk := by omega
            go_roundg (s.size - (i + 1))
            case measure => omega
            case rel => exact ⟨i + 1, rfl, by omega, by rw [HT.out, Bool.false_or], rfl, by omega⟩
        · obtain rfl : i = s.size := by omega
          have hd : s.data.toList.drop s.size = [] := List.drop_eq_nil_of_le (by omega)
          rw [hd] at HCL
          go_wp2_with fail
          go_ret
          exact ⟨by rw [HCL.out]; rfl, rfl⟩
end Go.Proofs.YtbgjjbffpckimaaGreatDoor

namespace Go.Proofs.YtbgjjbffpckimaaGreatDoor
set_option linter.all false
open Go.RowKit

set_option maxRecDepth 100000 in
set_option maxHeartbeats 1000000 in
theorem isOne_calls {w : World} {E : Addr} {bm : Nat} {obj : Obj} {s x : ByteArray} {t : Tok} {a : Bs} (H : Hid (Wld w E bm obj)) (hlx : Lx s.data.toList [(t, a)] 0) (h13 : NoCr s.data.toList) (hsz : s.size < 4096) (hx : x = ⟨t.raw.toArray⟩) :
    Calls Tryz.prog 11 #[.string s, .int .i64 (t.kind : Int), .string x] w fun e w' => e = .returned (.bool true) ∧ Ch (fun _ => False) w w' := by
  go_enter Tryz.func11, Tryz.ntmps11
  go_wp2_with fail
  refine (tokens_calls H hlx (by decide) h13 hsz).mono ?_
  rintro e w' (⟨_, v, rfl, ho, hc⟩ | ⟨h0, _⟩)
  · obtain ⟨pb, cap, g, rfl, hn, hm, hrow⟩ := row_any ho
    obtain ⟨rfl, hgl, _, hcell⟩ := hrow (by simp)
    obtain ⟨x0, x1, _⟩ := tokCells_get (1 + nl s.data.toList) (ts := [(t, a)]) (k := 0) rfl
    have c0 := hcell _ _ x0
    have c1 := hcell _ _ x1
    rw [← hx] at c1
    have HC := Lib.hid hc
    clear hrow hc ho H hlx hcell x0 x1
    simp only []
    go_wp2_with fail
    go_ret
    exact ⟨rfl, HC.out⟩
  · exact absurd rfl h0

/-- What the law asks of a comment. -/
def CmOk (y : ByteArray) : Prop := y.size ≤ 200 ∧ (Lx y.data.toList [] 0 → Lx (y ++ ⟨#[120]⟩).data.toList [(xTok, [120])] 0)
def CmRel (y1 y2 : ByteArray) (X n : Nat) (v39 : Value) (w0 wr : World) : Prop :=
  ∃ j : Nat, v39 = .int .i64 (j : Int) ∧ j ≤ 2 ∧ wr.heap[X]? = some (.cells #[.string y1, .string y2] 9 (0, 0)) ∧ Ch (fun _ => False) w0 wr ∧ n = 2 - j

set_option maxRecDepth 100000 in
set_option maxHeartbeats 4000000 in
theorem fnComment_calls {w : World} {E : Addr} {bm : Nat} {obj : Obj} {s : ByteArray} {lv : Int} (H : Hid (Wld w E bm obj)) :
    Calls Tryz.prog 3 #[.string s, .int .i64 lv] w fun e w' => e = .returned (.bool true) ∧ Ch (fun _ => False) w w' := by
  go_enter Tryz.func3, Tryz.ntmps3
  by_cases hz : decide ((2147483647 : Int) < (s.size : Int)) = true
  · go_wp2_with fail
    go_ret
    exact ⟨rfl, Ch.refl _ _⟩
  have hz2 : decide ((2147483647 : Int) < (s.size : Int)) = false := by simpa using hz
  clear hz
  by_cases h100 : s.size ≤ 100
  rotate_left
  · have g : ¬ (s.size : Int) ≤ 100 := by omega
    go_wp2_with fail
    go_ret
    exact ⟨rfl, Ch.refl _ _⟩
  have g100 : ¬ (100 : Int) < (s.size : Int) := by omega
  by_cases hneg : lv < 0
  · go_wp2_with fail
    go_ret
    exact ⟨rfl, Ch.refl _ _⟩
  by_cases h20 : 20 < lv
  · go_wp2_with fail
    go_ret
    exact ⟨rfl, Ch.refl _ _⟩
  obtain ⟨k, rfl⟩ : ∃ k : Nat, lv = (k : Int) := ⟨lv.toNat, by omega⟩
  have hk : k ≤ 20 := by omega
  have g20 : ¬ (20 : Int) < (k : Int) := h20
  have g0 : ¬ (k : Int) < 0 := hneg
  clear h20 hneg
  go_wp2_with fail
  refine (closes9_calls h100 hk).mono ?_
  rintro e w' ⟨rfl, rfl⟩
  simp only []
  cases hcl : clsR k s.data.toList
  rotate_left
  · go_wp2_with fail
    go_ret
    exact ⟨rfl, Ch.refl _ _⟩
  have HCL := Lib.hid hcl
  clear hcl
  go_wp2_with fail
  refine (long9_calls h100 hk).mono ?_
  rintro e w1 ⟨⟨x, rfl, hx⟩, hc1⟩
  have hS : s.data.toList.length = s.size := Array.length_toList
  have hxs : x.size ≤ 150 := by
    have h2 : x.data.toList.length = x.size := Array.length_toList
    rw [hx] at h2
    simp [lngB, cbr] at h2
    omega
  have HX := Lib.hid hx
  have HC1 := Lib.hid hc1
  have hl1 : (9223372036854775807 < 2 + x.size) = False := eq_false (by omega)
  have hl2 : (9223372036854775807 < 3 + s.size) = False := eq_false (by omega)
  have hl3 : (9223372036854775807 < 3 + s.size + 1) = False := eq_false (by omega)
  clear hx hc1
  simp only []
  go_wp2_with fail
  have hP1 : CmOk ((⟨#[45, 45]⟩ : ByteArray) ++ x) := by
    have e : ((⟨#[45, 45]⟩ : ByteArray) ++ x).data.toList = 45 :: 45 :: lngB k s.data.toList := by rw [← HX.out]; simp
    have h2 : ((⟨#[45, 45]⟩ : ByteArray) ++ x).data.toList.length = ((⟨#[45, 45]⟩ : ByteArray) ++ x).size := Array.length_toList
    have h3 : x.data.toList.length = x.size := Array.length_toList
    refine ⟨?_, fun h => ?_⟩
    · rw [e, List.length_cons, List.length_cons, ← HX.out] at h2
      omega
    · have e2 : ((⟨#[45, 45]⟩ : ByteArray) ++ x ++ ⟨#[120]⟩).data.toList = 45 :: 45 :: lngB k s.data.toList ++ [120] := by rw [← e]; simp
      rw [e] at h
      rw [e2]
      exact Lx.long_x HCL.out h
  have hP2 : CmOk ((⟨#[45, 45, 32]⟩ : ByteArray) ++ s ++ ⟨#[10]⟩) := by
    have e : ((⟨#[45, 45, 32]⟩ : ByteArray) ++ s ++ ⟨#[10]⟩).data.toList = 45 :: 45 :: 32 :: s.data.toList ++ [10] := by simp
    have h2 : ((⟨#[45, 45, 32]⟩ : ByteArray) ++ s ++ ⟨#[10]⟩).data.toList.length = ((⟨#[45, 45, 32]⟩ : ByteArray) ++ s ++ ⟨#[10]⟩).size := Array.length_toList
    refine ⟨?_, fun h => ?_⟩
    · rw [e] at h2
      simp only [List.length_append, List.length_cons, List.length_nil] at h2
      omega
    · have e2 : ((⟨#[45, 45, 32]⟩ : ByteArray) ++ s ++ ⟨#[10]⟩ ++ ⟨#[120]⟩).data.toList = 45 :: 45 :: 32 :: s.data.toList ++ [10] ++ [120] := by simp
      rw [e] at h
      rw [e2]
      exact Lx.line_x h rfl rfl (.inr ⟨_, rfl⟩)
  clear hl1 hl2 hl3 hxs HX
  generalize (⟨#[45, 45]⟩ : ByteArray) ++ x = y1 at hP1 ⊢
  generalize (⟨#[45, 45, 32]⟩ : ByteArray) ++ s ++ ⟨#[10]⟩ = y2 at hP2 ⊢
  have HP1 := Lib.hid hP1
  have HP2 := Lib.hid hP2
  have HH := Lib.hid (heap_alloc_new w1 (.cells #[.string y1, .string y2] 9))
  have HC2 := Lib.hid (HC1.out.alloc (.cells #[.string y1, .string y2] 9))
  clear hP1 hP2
  go_loopg [39] 2 (fun n v39 wr => CmRel y1 y2 w1.heap.size n v39 w' wr)
  case atStart => exact ⟨0, rfl, by omega, HH.out, HC2.out, rfl⟩
  case round =>
    obtain ⟨j, rfl, hj, hh, hc, hn⟩ := hrel
    have HHr := Lib.hid hh
    have HCr := Lib.hid hc
    have HN := Lib.hid hn
    have hXw : w1.heap.size < wr.heap.size := (Array.getElem?_eq_some_iff.1 hh).1
    clear hh hc hn HH HC2
    by_cases hlt : j < 2
    · obtain ⟨y, c0, hP⟩ : ∃ y, wr.cell? ⟨w1.heap.size, j, none⟩ = some (.string y) ∧ CmOk y := by
        rw [Lib.cell_of_heap HHr.out]
        rcases j with _|_|j
        · exact ⟨y1, rfl, HP1.out⟩
        · exact ⟨y2, rfl, HP2.out⟩
        · omega
      have HP := Lib.hid hP
      have hys := hP.1
      have hgk : 2 - (j + 1) < gk := by have := HN.out; omega
      have hl1 : (9223372036854775807 < y.size + 1) = False := eq_false (by omega)
      have HHn : Hid (∀ wx, Ch (fun _ => False) wr wx → wx.heap[w1.heap.size]? = some (.cells #[.string y1, .string y2] 9 (0, 0))) := Lib.hid fun wx h => (h.block w1.heap.size hXw id).trans HHr.out
      clear hP
      go_wp2_with fail
      refine lexemes_calls.mono ?_
      intro e w2 hp
      obtain ⟨hc2, v, cd, rfl, hr⟩ := hp
      have HC3 := Lib.hid hc2
      have HR := Lib.hid hr
      clear hc2 hr
      simp only []
      by_cases hcd : cd = 0
      rotate_left
      · have g : (cd != 0) = true := by simpa using hcd
        clear hcd
        go_wp2_with fail
        go_roundg (2 - (j + 1))
        case measure => omega
        case rel => exact ⟨j + 1, rfl, hlt, HHn.out _ HC3.out, HCr.out.trans HC3.out, rfl⟩
      subst hcd
      obtain ⟨hop, hsz, ts, ⟨h, _⟩ | ⟨_, hlx, htl, hown⟩⟩ : opened y.data.toList = false ∧ y.size ≤ 2000 ∧ ∃ ts, _ := HR.out.resolve_left (fun h => by omega)
      · omega
      obtain ⟨pb, cap, g2, rfl, hn2, _, _⟩ := row_any hown
      by_cases h0 : 0 < ts.length
      · have gl : (0 : Int) < (ts.length : Int) := by omega
        clear hlx hop hown HR
        go_wp2_with fail
        go_roundg (2 - (j + 1))
        case measure => omega
        case rel => exact ⟨j + 1, rfl, hlt, HHn.out _ HC3.out, HCr.out.trans HC3.out, rfl⟩
      · obtain rfl : ts = [] := List.length_eq_zero_iff.1 (by omega)
        have HLX := Lib.hid hlx
        have hnc := (opened_no hop).2
        have HNC := Lib.hid hnc
        have HNX : Hid (NoCr (y ++ ⟨#[120]⟩).data.toList) := Lib.hid (by
          intro c hc
          have e : (y ++ ⟨#[120]⟩).data.toList = y.data.toList ++ [120] := by simp
          rw [e, List.mem_append] at hc
          rcases hc with hc | hc
          · exact hnc c hc
          · obtain rfl : c = 120 := by simpa using hc
            decide)
        have HSX : Hid ((y ++ ⟨#[120]⟩).size < 4096) := Lib.hid (by
          have h2 : (y ++ ⟨#[120]⟩).data.toList.length = (y ++ ⟨#[120]⟩).size := Array.length_toList
          have h3 : y.data.toList.length = y.size := Array.length_toList
          have e : (y ++ ⟨#[120]⟩).data.toList = y.data.toList ++ [120] := by simp
          rw [e, List.length_append] at h2
          simp only [List.length_cons, List.length_nil] at h2
          omega)
        have HSY : Hid (y.size < 4096) := Lib.hid (by omega)
        clear hlx hop hown HR hnc h0
        go_wp2_with fail
        refine (tokens_calls (Lib.hid (H.out.moved (HCr.out.trans HC3.out))) HLX.out (by decide) HNC.out HSY.out).mono ?_
        rintro e w3 (⟨_, v3, rfl, ho, hc4⟩ | ⟨h0, _⟩)
        rotate_left
        · exact absurd rfl h0
        obtain ⟨pb3, cap3, g3, rfl, hn3, _, _⟩ := row_any ho
        have HC4 := Lib.hid (HC3.out.trans hc4)
        clear ho hc4 HC3
        simp only []
        go_wp2_with fail
        refine (isOne_calls (t := xTok) (Lib.hid (H.out.moved (HCr.out.trans HC4.out))) (HP.out.2 HLX.out) HNX.out HSX.out rfl).mono ?_
        rintro e w5 ⟨rfl, hc5⟩
        have HC5 := Lib.hid (HC4.out.trans hc5)
        clear hc5 HC4
        simp only []
        go_wp2_with fail
        go_roundg (2 - (j + 1))
        case measure => omega
        case rel => exact ⟨j + 1, rfl, hlt, HHn.out _ HC5.out, HCr.out.trans HC5.out, rfl⟩
    · obtain rfl : j = 2 := by omega
      go_wp2_with fail
      go_ret
      exact ⟨rfl, HCr.out⟩
end Go.Proofs.YtbgjjbffpckimaaGreatDoor
