/-
  The law on a string: the literal of a text (digits9, quoted9), plain and walked.
-/
import Derived.Test.YtbgjjbffpckimaaDoorNmc
namespace Go.Proofs.YtbgjjbffpckimaaDoor
set_option linter.all false
open Go.RowKit

/-- Three digits. -/
def dg (c : UInt8) : Bs := [UInt8.ofNat (48 + c.toNat / 100), UInt8.ofNat (48 + c.toNat / 10 % 10), UInt8.ofNat (48 + c.toNat % 10)]
/-- Is a byte written as an escape? -/
def mustEsc (q : UInt8) (al : Bool) (c : UInt8) : Bool := al || decide (c.toNat < 32) || decide (126 < c.toNat) || c == q || c == 92
def qb1 (q : UInt8) (al : Bool) (c : UInt8) : Bs := if mustEsc q al c then 92 :: dg c else [c]
def qb (q : UInt8) (al : Bool) (s : Bs) : Bs := s.flatMap (qb1 q al)
def lit9 (q : UInt8) (al : Bool) (s : Bs) : Bs := q :: (qb q al s ++ [q])

theorem ofNat_toNat {n : Nat} (h : n < 256) : (UInt8.ofNat n).toNat = n := by simp [UInt8.toNat_ofNat']; omega
theorem dg_dec (c : UInt8) : ∀ d ∈ dg c, isDec d = true := by
  have hc := c.toNat_lt
  intro d hd
  simp only [dg, List.mem_cons, List.not_mem_nil, or_false] at hd
  unfold isDec
  rcases hd with rfl | rfl | rfl <;> rw [ofNat_toNat (by omega)] <;> simp <;> omega
theorem dg_val (c : UInt8) (r : Bs) : dig3 3 0 (dg c ++ r) = (c.toNat, r) := by
  have hc := c.toNat_lt
  have h := dg_dec c
  have h2 := h (UInt8.ofNat (48 + c.toNat / 10 % 10)) (by simp [dg])
  have h3 := h (UInt8.ofNat (48 + c.toNat % 10)) (by simp [dg])
  have h0 := h (UInt8.ofNat (48 + c.toNat / 100)) (by simp [dg])
  simp only [dg, List.cons_append, List.nil_append]
  rw [dig3, if_pos h0, dig3, if_pos h2, dig3, if_pos h3, dig3]
  rw [ofNat_toNat (by omega), ofNat_toNat (by omega), ofNat_toNat (by omega)]
  congr 1
  omega
theorem qb1_len (q : UInt8) (al : Bool) (c : UInt8) : (qb1 q al c).length ≤ 4 := by
  unfold qb1
  split <;> simp [dg]
theorem qb_len (q : UInt8) (al : Bool) : ∀ s : Bs, (qb q al s).length ≤ 4 * s.length
  | [] => by simp [qb]
  | c :: s => by
    have h1 := qb1_len q al c
    have h2 := qb_len q al s
    unfold qb at h2 ⊢
    rw [List.flatMap_cons, List.length_append, List.length_cons]
    omega
theorem qb_snoc (q : UInt8) (al : Bool) (s : Bs) (c : UInt8) : qb q al (s ++ [c]) = qb q al s ++ qb1 q al c := by simp [qb]

/-- The inside of the literal reads as the text. -/
theorem strB_qb {q : UInt8} (hq : q = 34 ∨ q = 39) (al : Bool) : ∀ s : Bs, strB q (qb q al s ++ [q]) = .ok s []
  | [] => strB_q q [] (by rcases hq with rfl | rfl <;> decide)
  | c :: s => by
    have ih := strB_qb hq al s
    have h92 : q ≠ 92 := by rcases hq with rfl | rfl <;> decide
    have e : qb q al (c :: s) ++ [q] = qb1 q al c ++ (qb q al s ++ [q]) := by simp [qb]
    rw [e]
    unfold qb1
    split
    · have hd := dg_dec c (UInt8.ofNat (48 + c.toNat / 100)) (by simp [dg])
      have hv := dg_val c (qb q al s ++ [q])
      have hc := c.toNat_lt
      simp only [dg, List.cons_append, List.nil_append] at hv ⊢
      rw [strB_dig q _ _ h92 hd, hv]
      simp only []
      rw [if_pos (by omega), ih]
      simp [Rz.map]
    · rename_i h
      simp only [mustEsc, Bool.or_eq_true, decide_eq_true_eq, beq_iff_eq, not_or] at h
      have h10 : c ≠ 10 := by rintro rfl; exact absurd h.1.1.1.2 (by decide)
      rw [List.singleton_append, strB_chr q c _ h10 h.1.2 h.2, ih]
      rfl
theorem Lx.of_lit {q : UInt8} (hq : q = 34 ∨ q = 39) (al : Bool) (s : Bs) : Lx (lit9 q al s) [(⟨5, s, s⟩, lit9 q al s)] 0 := by
  refine Lx.tok (c := q) (r := qb q al s ++ [q]) (r' := []) ?_ ?_ ?_ Lx.nil
  · rcases hq with rfl | rfl <;> decide
  · rcases hq with rfl | rfl <;> exact fun h => absurd h.1 (by decide)
  · have h1 : isLet q = false := by rcases hq with rfl | rfl <;> decide
    have h2 : isDec q = false := by rcases hq with rfl | rfl <;> decide
    have h3 : (q == 46) = false := by rcases hq with rfl | rfl <;> decide
    rw [nextP, h1, h2, h3, strB_qb hq al s]
    simp [hq, Rz.map]
theorem lit9_nocr {q : UInt8} (hq : q = 34 ∨ q = 39) (al : Bool) (s : Bs) : NoCr (lit9 q al s) := by
  have hqq : q ≠ 13 := by rcases hq with rfl | rfl <;> decide
  intro c hc
  simp only [lit9, qb, List.mem_cons, List.mem_append, List.mem_flatMap, List.not_mem_nil, or_false] at hc
  rcases hc with rfl | ⟨x, _, hx⟩ | rfl
  · exact hqq
  · unfold qb1 at hx
    split at hx
    · rcases List.mem_cons.1 hx with rfl | hx
      · decide
      · have := dg_dec x c hx
        rintro rfl
        exact absurd this (by decide)
    · rename_i h
      obtain rfl : c = x := by simpa using hx
      rintro rfl
      exact h (by cases al <;> simp [mustEsc])
  · exact hqq
theorem lit9_len (q : UInt8) (al : Bool) (s : Bs) : (lit9 q al s).length ≤ 4 * s.length + 2 := by
  have := qb_len q al s
  simp [lit9]
  omega

def digV (c : UInt8) : Array Value := #[.int .u8 (48 + (c.toNat : Int) / 100), .int .u8 (48 + (c.toNat : Int) / 10 % 10), .int .u8 (48 + (c.toNat : Int) % 10)]
theorem digV_list (c : UInt8) : (digV c).toList = Lib.byteCells (dg c) := by
  have hc := c.toNat_lt
  simp only [digV, dg, Lib.byteCells, List.map_cons, List.map_nil]
  rw [ofNat_toNat (by omega), ofNat_toNat (by omega), ofNat_toNat (by omega)]
  simp

set_option maxRecDepth 100000 in
theorem digits_calls {w : World} {c : UInt8} : Calls Tryd.prog 9 #[.int .u8 (c.toNat : Int)] w fun e w' => e = .returned (.slice (some ⟨w.heap.size, 0, none⟩) 3 3) ∧ w' = w.alloc (.cells (digV c) 5) := by
  have hc := c.toNat_lt
  go_enter Tryd.func9, Tryd.ntmps9
  go_wp2_with fail
  go_ret
  exact ⟨rfl, rfl⟩

def QRel (s : ByteArray) (q : UInt8) (al : Bool) (n : Nat) (v7 v8 : Value) (w0 wr : World) : Prop :=
  ∃ k : Nat, v8 = .int .i64 (k : Int) ∧ k ≤ s.size ∧ wr.ownsRow w0.heap.size 5 1 v7 (q :: qb q al (s.data.toList.take k)).length (Lib.byteCells (q :: qb q al (s.data.toList.take k))) ∧ Ch (fun _ => False) w0 wr ∧ n = s.size - k
theorem take_next {s : ByteArray} {k : Nat} (h : k < s.size) : s.data.toList.take (k + 1) = s.data.toList.take k ++ [s[k]] := by
  rw [List.take_succ, List.getElem?_eq_getElem (by simpa using h)]
  rfl
theorem bc_app (a b : Bs) : Lib.byteCells (a ++ b) = Lib.byteCells a ++ Lib.byteCells b := by simp [Lib.byteCells]
theorem bc_one' (a : Bs) : ∀ u ∈ Lib.byteCells a, u.oneCell' = true := by
  intro u hu
  simp only [Lib.byteCells, List.mem_map] at hu
  obtain ⟨c, _, rfl⟩ := hu
  rfl
theorem mustEsc_cases {q : UInt8} {al : Bool} {c : UInt8} (h : mustEsc q al c = true) :
    al = true ∨ (al = false ∧ decide ((c.toNat : Int) < 32) = true) ∨ (al = false ∧ decide ((c.toNat : Int) < 32) = false ∧ decide (126 < (c.toNat : Int)) = true) ∨
    (al = false ∧ decide ((c.toNat : Int) < 32) = false ∧ decide (126 < (c.toNat : Int)) = false ∧ ((c.toNat : Int) == (q.toNat : Int)) = true) ∨
    (al = false ∧ decide ((c.toNat : Int) < 32) = false ∧ decide (126 < (c.toNat : Int)) = false ∧ ((c.toNat : Int) == (q.toNat : Int)) = false ∧ ((c.toNat : Int) == 92) = true) := by
  have e : (92 : UInt8).toNat = 92 := rfl
  simp only [mustEsc, Bool.or_eq_true, decide_eq_true_eq, beq_iff_eq, ← UInt8.toNat_inj, e] at h
  cases al
  · simp only [Bool.false_eq_true, false_or, decide_eq_true_eq, decide_eq_false_iff_not, beq_iff_eq, beq_eq_false_iff_ne, ne_eq, true_and] at h ⊢
    omega
  · exact .inl rfl
theorem mustEsc_not {q : UInt8} {al : Bool} {c : UInt8} (h : mustEsc q al c = false) :
    al = false ∧ decide ((c.toNat : Int) < 32) = false ∧ decide (126 < (c.toNat : Int)) = false ∧ ((c.toNat : Int) == (q.toNat : Int)) = false ∧ ((c.toNat : Int) == 92) = false := by
  have e : (92 : UInt8).toNat = 92 := rfl
  simp only [mustEsc, Bool.or_eq_false_iff, decide_eq_false_iff_not, beq_eq_false_iff_ne, ne_eq] at h ⊢
  obtain ⟨⟨⟨⟨h1, h2⟩, h3⟩, h4⟩, h5⟩ := h
  have h6 : c.toNat ≠ q.toNat := fun x => h4 (UInt8.toNat_inj.1 x)
  have h7 : c.toNat ≠ 92 := fun x => h5 (UInt8.toNat_inj.1 (by rw [x]; rfl))
  exact ⟨h1, by omega, by omega, by omega, by omega⟩

set_option maxRecDepth 100000 in
set_option maxHeartbeats 4000000 in
theorem quoted_calls {w : World} {s : ByteArray} {q : UInt8} {al : Bool} (hsz : s.size ≤ 100) :
    Calls Tryd.prog 7 #[.string s, .int .u8 (q.toNat : Int), .bool al] w fun e w' => e = .returned (.string ⟨(lit9 q al s.data.toList).toArray⟩) ∧ Ch (fun _ => False) w w' := by
  obtain ⟨i0, hi0, hz0, hz1, hz2⟩ := info_parts Tryd.info5
  have I0 := Lib.hid hi0
  have Z0 := Lib.hid hz0
  have Z1 := Lib.hid hz1
  have Z2 := Lib.hid hz2
  clear hi0 hz0 hz1 hz2
  go_enter Tryd.func7, Tryd.ntmps7
  go_wp2_with fail
  have hO0 : (w.alloc (.cells #[.int .u8 (q.toNat : Int)] 5)).ownsRow w.heap.size 5 1 (.slice (some ⟨w.heap.size, 0, none⟩) 1 1) 1 [.int .u8 (q.toNat : Int)] :=
    World.ownsRow_lit (e := 5) (size := 1) (base := w.heap.size) w #[.int .u8 (q.toNat : Int)] 1 (by simp) (by unfold maxLen; omega) rfl
  have HO0 := Lib.hid hO0
  clear hO0
  go_loopg [7, 8] s.size (fun n v7 v8 wr => QRel s q al n v7 v8 w wr)
  case atStart => exact ⟨0, rfl, Nat.zero_le _, HO0.out, (Ch.refl _ _).alloc _, rfl⟩
  case round =>
    obtain ⟨k, rfl, hk, ho, hc, hn⟩ := hrel
    have HO := Lib.hid ho
    have HC := Lib.hid hc
    have HN := Lib.hid hn
    have hbl := qb_len q al (s.data.toList.take k)
    have htl : (s.data.toList.take k).length = k := by simp; omega
    generalize hA : q :: qb q al (s.data.toList.take k) = A at HO
    have hAl : A.length ≤ 401 := by rw [← hA]; simp; omega
    have HA := Lib.hid hA
    clear ho hc hn HO0 hA hbl htl
    by_cases hlt : k < s.size
    · have HTK := Lib.hid (take_next hlt)
      cases hm : mustEsc q al s[k] with
      | true =>
        have HM := Lib.hid hm
        have hAN : q :: qb q al (s.data.toList.take (k + 1)) = A ++ [92] ++ dg s[k] := by
          rw [HTK.out, qb_snoc, qb1, if_pos hm, ← HA.out]; simp
        have HAN := Lib.hid hAN
        have hms := mustEsc_cases hm
        clear hm hAN
        rcases hms with h | ⟨h, g1⟩ | ⟨h, g1, g2⟩ | ⟨h, g1, g2, g3⟩ | ⟨h, g1, g2, g3, g4⟩
        all_goals subst h
        all_goals go_wp2_with (at_builtin; refine wpList_append_lies _ rfl (.tmp 39) (.tmp 40) 31 rfl w.heap.size 5 i0 _ 1 1 Tryd.underlying31 I0.out Z0.out Z1.out Z2.out rfl (by omega) _ _ (Lib.byteCells (A)) rfl (HO.out.alloc _) ⟨wr.heap.size, 0, none⟩ 1 1 [.int .u8 92] rfl rfl (World.news_of_block (heap_alloc_new wr _)) (by intro y hy; simp at hy; subst hy; rfl) (by omega) (by unfold maxLen; omega) (by omega) (by have := HC.out.size; simp; omega) (wr.heap.size + 1) (by simp) ?_; intro g3 cap3 w3 hown3 hgrow3 hat3 hlt3
                               have hcA : Ch (fun _ => False) w w3 := (HC.out.alloc _).grown hgrow3 (fun i hi hlt => absurd (HO.out.lt i hi) (by omega))
                               have HO3 := Lib.hid hown3
                               have HC3 := Lib.hid hcA
                               clear hgrow3 hat3 hcA hown3)
        all_goals refine (digits_calls (c := s[k])).mono ?_
        all_goals rintro e w2 ⟨rfl, rfl⟩
        all_goals simp only []
        all_goals go_wp2_with (at_builtin; refine wpList_append_lies _ rfl (.tmp 41) (.tmp 43) 31 rfl w.heap.size 5 i0 _ 1 1 Tryd.underlying31 I0.out Z0.out Z1.out Z2.out rfl (by omega) _ _ _ rfl (HO3.out.alloc _) ⟨w3.heap.size, 0, none⟩ 3 3 (Lib.byteCells (dg s[k])) rfl rfl (by rw [← digV_list]; exact World.news_of_block (heap_alloc_new w3 _)) (bc_one' _) (by omega) (by unfold maxLen; omega) (by omega) (by have := HC3.out.size; simp; omega) (w3.heap.size + 1) (by simp) ?_; intro g4 cap4 w4 hown4 hgrow4 hat4 hlt4
                               have hcA : Ch (fun _ => False) w w4 := (HC3.out.alloc _).grown hgrow4 (fun i hi hlt => absurd (HO3.out.lt i hi) (by omega))
                               have HO4 := Lib.hid hown4
                               have HC4 := Lib.hid hcA
                               clear hgrow4 hat4 hcA hown4)
        all_goals have hgk : 0 < gk := by (have := HN.out; omega)
        all_goals go_roundg (gk - 1)
        all_goals first | (case measure => omega) | skip
        all_goals refine ⟨k + 1, rfl, hlt, ?_, HC4.out, by have := HN.out; omega⟩
        all_goals rw [HAN.out, bc_app, bc_app, List.length_append, List.length_append]
        all_goals exact HO4.out
      | false =>
        have hAN : q :: qb q al (s.data.toList.take (k + 1)) = A ++ [s[k]] := by
          rw [HTK.out, qb_snoc, qb1, if_neg (by rw [hm]; decide), ← HA.out]; simp
        have HAN := Lib.hid hAN
        obtain ⟨rfl, g1, g2, g3, g4⟩ := mustEsc_not hm
        clear hm hAN
        go_wp2_with (at_builtin; refine wpList_append_lies _ rfl (.tmp 45) (.tmp 47) 31 rfl w.heap.size 5 i0 _ 1 1 Tryd.underlying31 I0.out Z0.out Z1.out Z2.out rfl (by omega) _ _ (Lib.byteCells (A)) rfl (HO.out.alloc _) ⟨wr.heap.size, 0, none⟩ 1 1 [.int .u8 (s[k].toNat : Int)] rfl rfl (World.news_of_block (heap_alloc_new wr _)) (by intro y hy; simp at hy; subst hy; rfl) (by omega) (by unfold maxLen; omega) (by omega) (by have := HC.out.size; simp; omega) (wr.heap.size + 1) (by simp) ?_; intro g3 cap3 w3 hown3 hgrow3 hat3 hlt3
                     have hcA : Ch (fun _ => False) w w3 := (HC.out.alloc _).grown hgrow3 (fun i hi hlt => absurd (HO.out.lt i hi) (by omega))
                     have HO3 := Lib.hid hown3
                     have HC3 := Lib.hid hcA
                     clear hgrow3 hat3 hcA hown3)
        have hgk : 0 < gk := by (have := HN.out; omega)
        go_roundg (gk - 1)
        case measure => omega
        case rel =>
          refine ⟨k + 1, rfl, hlt, ?_, HC3.out, by have := HN.out; omega⟩
          rw [HAN.out, bc_app, List.length_append]
          exact HO3.out
    · have hks : s.data.toList.take k = s.data.toList := List.take_of_length_le (by simp; omega)
      have hAN : lit9 q al s.data.toList = A ++ [q] := by
        rw [lit9, ← HA.out, hks]; rfl
      have HAN := Lib.hid hAN
      clear hAN hks
      go_wp2_with (at_builtin; refine wpList_append_lies _ rfl (.tmp 49) (.tmp 51) 31 rfl w.heap.size 5 i0 _ 1 1 Tryd.underlying31 I0.out Z0.out Z1.out Z2.out rfl (by omega) _ _ (Lib.byteCells (A)) rfl (HO.out.alloc _) ⟨wr.heap.size, 0, none⟩ 1 1 [.int .u8 (q.toNat : Int)] rfl rfl (World.news_of_block (heap_alloc_new wr _)) (by intro y hy; simp at hy; subst hy; rfl) (by omega) (by unfold maxLen; omega) (by omega) (by have := HC.out.size; simp; omega) (wr.heap.size + 1) (by simp) ?_; intro g5 cap5 w5 hown5 hgrow5 hat5 hlt5
                   have hcA : Ch (fun _ => False) w w5 := (HC.out.alloc _).grown hgrow5 (fun i hi hlt => absurd (HO.out.lt i hi) (by omega))
                   have HO5 := Lib.hid hown5
                   have HC5 := Lib.hid hcA
                   clear hgrow5 hat5 hcA
                   have hcv := own_convert (l := A ++ [q]) (by rw [bc_app, List.length_append]; exact hown5)
                   clear hown5)
      go_ret
      refine ⟨?_, HC5.out⟩
      rw [HAN.out]
      rfl
end Go.Proofs.YtbgjjbffpckimaaDoor
