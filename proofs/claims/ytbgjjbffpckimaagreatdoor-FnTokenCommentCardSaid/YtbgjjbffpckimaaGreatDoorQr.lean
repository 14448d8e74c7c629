/-
  The tokens of a text: impl.Tokens.
-/
import Derived.Test.YtbgjjbffpckimaaGreatDoorQh
import Derived.Test.YtbgjjbffpckimaaGreatDoorQp
namespace Go.Proofs.YtbgjjbffpckimaaGreatDoor
set_option linter.all false
open Go.RowKit

/-- A token takes a byte at least. -/
theorem sgns_ne : ∀ s ∈ sgns, s ≠ [] := by decide
theorem signP_lt {r s r' : Bs} (h : signP r = .ok s r') : s ≠ [] ∧ r = s ++ r' := by
  unfold signP at h
  split at h
  · cases h
  · split at h
    · rename_i s' hf
      injection h with h1 h2
      subst h1
      subst h2
      have hp := List.find?_some hf
      refine ⟨sgns_ne _ (List.mem_of_find?_eq_some hf), ?_⟩
      obtain ⟨u, hu⟩ := List.isPrefixOf_iff_prefix.1 hp
      rw [← hu]
      simp
    · split at h <;> cases h
theorem numP_lt {c : UInt8} {t x r' : Bs} (h : numP (c :: t) = .ok x r') (hc : isDec c = true) (h13 : NoCr (c :: t)) (hl : t.length < 5000) : r'.length ≤ t.length := by
  obtain ⟨raw, hr, hne, _⟩ := num_call h hc h13 hl
  cases raw with
  | nil => exact absurd rfl hne
  | cons y u =>
    rw [List.cons_append] at hr
    injection hr with _ hr
    rw [hr, List.length_append]
    omega
theorem nextP_lt {c : UInt8} {t r' : Bs} {tk : Tok} (h : nextP (c :: t) = .ok tk r') (h13 : NoCr (c :: t)) (hl : t.length < 5000) : r'.length ≤ t.length := by
  rw [nextP_cons] at h
  split at h
  · rename_i hlt
    unfold nameP at h
    split at h
    · cases h
    · injection h with _ h
      subst h
      have hid : isIdc c = true := by unfold isIdc; rw [hlt]; rfl
      rw [List.dropWhile_cons, if_pos hid]
      exact (List.dropWhile_sublist _).length_le
  · split at h
    · rename_i hdd
      split at h
      · rename_i x rest hnm
        injection h with _ h
        subst h
        by_cases hdc : isDec c = true
        · exact numP_lt hnm hdc h13 hl
        · have hdc' : isDec c = false := by simpa using hdc
          rw [hdc', Bool.false_or, Bool.and_eq_true, beq_iff_eq] at hdd
          rw [hdd.1, numP_46] at hnm
          cases hnm
      · cases h
    · split at h
      · obtain ⟨s, hs, _⟩ := map_ok h
        obtain ⟨p, hp⟩ := strB_suf t.length (Nat.le_refl _) hs
        rw [hp, List.length_append]
        omega
      · split at h
        · rename_i n _
          obtain ⟨s, hs, _⟩ := map_ok h
          obtain ⟨p, hp⟩ := longB_suf hs
          obtain ⟨q, hq⟩ := cut10_suf ((c :: t).drop (n + 2))
          have e : ((c :: t).drop (n + 2)).length = q.length + (p.length + r'.length) := by rw [hq, hp]; simp
          rw [List.length_drop, List.length_cons] at e
          omega
        · obtain ⟨s, hs, _⟩ := map_ok h
          obtain ⟨hne, he⟩ := signP_lt hs
          cases s with
          | nil => exact absurd rfl hne
          | cons y u =>
            rw [List.cons_append] at he
            injection he with _ he
            rw [he, List.length_append]
            omega
theorem First.lt {r : Bs} {o : Option (Tok × Bs × Bs)} {k : Nat} (h : First r o k) : ∀ {t : Tok} {a r' : Bs}, o = some (t, a, r') → NoCr r → r.length < 5000 → r'.length < r.length := by
  induction h with
  | nil => intro t a r' e; cases e
  | ws _ _ ih =>
    intro t a r' e h13 hl
    have := ih e h13.tail (by simp at hl; omega)
    simp
    omega
  | com hc _ ih =>
    intro t a r' e h13 hl
    obtain ⟨p, hp⟩ := comP_suf hc
    have h2 := h13.tail.tail
    rw [hp] at h2
    have hlen := comP_len hc
    have := ih e h2.suf (by simp at hl; omega)
    simp
    omega
  | comNo => intro t a r' e; cases e
  | tok _ _ hn =>
    intro t a r' e h13 hl
    injection e with e
    injection e with e1 e
    injection e with e2 e3
    subst e3
    have := nextP_lt hn h13 (by simp at hl; omega)
    simp
    omega
  | no => intro t a r' e; cases e

/-- The cells of tokens. -/
def tokCells (C : Int) : List (Tok × Bs) → List Value
  | [] => []
  | (t, a) :: r => .int .i64 (t.kind : Int) :: .string ⟨t.raw.toArray⟩ :: .int .i64 (C - nl a) :: tokCells C r
theorem tokCells_app (C : Int) : ∀ a b, tokCells C (a ++ b) = tokCells C a ++ tokCells C b
  | [], _ => rfl
  | (t, x) :: a, b => by rw [List.cons_append, tokCells, tokCells, tokCells_app C a b]; rfl
theorem Tryz.info32 : (Tryz.prog.info? 32).map (fun i => (i.zero, i.size, i.bytes)) = some (some (.agg #[.int .i64 0, .string ⟨#[]⟩, .int .i64 0]), 3, 32) := by kernel_rfl

/-- What Tokens gives. -/
def TksPost (ts : List (Tok × Bs)) (k : Nat) (C : Int) (w0 : World) (e : Ending) (w' : World) : Prop :=
  (k = 0 ∧ ∃ v, e = .returned (.tuple #[v, .bool true]) ∧ w'.ownsRow w0.heap.size 32 3 v ts.length (tokCells C ts) ∧ Ch (fun _ => False) w0 w') ∨
  (k ≠ 0 ∧ e = .returned (.tuple #[.slice none 0 0, .bool false]) ∧ Ch (fun _ => False) w0 w')

/-- A world for Tokens. -/
structure Wld (w : World) (E : Addr) (bm : Nat) (obj : Obj) : Prop where
  tb : Tab w bm obj
  eof : w.cell? ⟨2, 0, none⟩ = some (eofv E)
theorem Wld.keep {U : Nat → Prop} {w w' : World} {E : Addr} {bm : Nat} {obj : Obj} (h : Wld w E bm obj) (hc : Ch U w w') (hU : ∀ k, k < w.heap.size → ¬ U k) : Wld w' E bm obj := by
  have h2 : 2 < w.heap.size := World.block_lt_of_cell? w _ h.eof
  have hb : bm < w.heap.size := (Array.getElem?_eq_some_iff.1 h.tb.ob).1
  exact ⟨h.tb.keep hc (hU 0 (by omega)) (hU 1 (by omega)) (hU bm hb), hc.cell_some h.eof (hU 2 h2)⟩
theorem Wld.moved {w w' : World} {E : Addr} {bm : Nat} {obj : Obj} (h : Wld w E bm obj) (hc : Ch (fun _ => False) w w') : Wld w' E bm obj := h.keep hc fun _ _ => id

/-- The loop of Tokens. -/
def TkRel (ts : List (Tok × Bs)) (k : Nat) (C : Int) (N NB : Nat) (w0 : World) (b : Bl) (X : Nat) (E : Addr) (bm : Nat) (obj : Obj) (n : Nat) (v6 v20 : Value) (wr : World) : Prop :=
  ∃ T1 ts' r L, ts = T1 ++ ts' ∧ Lx r ts' k ∧ NoCr r ∧ Rd wr b r L ∧ (r = [] ∨ L + nl r = C) ∧ Tab wr bm obj ∧ LxAt wr X ∧ Ch (fun _ => False) w0 wr ∧
    wr.ownsRow NB 32 3 v6 T1.length (tokCells C T1) ∧ v20 = .int .i64 (T1.length : Int) ∧ T1.length + r.length ≤ N ∧ n = r.length

set_option maxRecDepth 100000 in
set_option maxHeartbeats 4000000 in
theorem tokens_calls {w : World} {E : Addr} {bm : Nat} {obj : Obj} {s : ByteArray} {ts : List (Tok × Bs)} {k : Nat} (H : Hid (Wld w E bm obj)) (hlx : Lx s.data.toList ts k) (hk : k ≠ 2) (h13 : NoCr s.data.toList) (hsz : s.size < 4096) :
    Calls Tryz.prog 10 #[.string s] w (TksPost ts k (1 + nl s.data.toList) w) := by
  obtain ⟨i0, hi0, hz0, hz1, hz2⟩ := info_parts Tryz.info32
  have I0 := Lib.hid hi0
  have Z0 := Lib.hid hz0
  have Z1 := Lib.hid hz1
  have Z2 := Lib.hid hz2
  clear hi0 hz0 hz1 hz2
  have HLX := Lib.hid hlx
  have H13 := Lib.hid h13
  have hl : s.data.toList.length = s.size := Array.length_toList
  have HLEN := Lib.hid hl
  clear hlx h13 hl
  go_enter Tryz.func10, Tryz.ntmps10
  go_wp2_with fail
  refine newReader_calls.mono ?_
  rintro e w1 ⟨rfl, hw1⟩
  have hc1 : Ch (fun _ => False) w w1 := by rw [hw1]; exact (Ch.refl _ _).alloc _
  have hh : w1.heap[w.heap.size]? = some (.cells #[.string s, .int .i64 0, .int .i64 (-1)] 74 (0, 0)) := by rw [hw1]; exact heap_alloc_new w _
  have s0 : w1.cell? ⟨w.heap.size, 0, none⟩ = some (.string s) := by rw [Lib.cell_of_heap hh]; rfl
  have s1 : w1.cell? ⟨w.heap.size, 1, none⟩ = some (.int .i64 0) := by rw [Lib.cell_of_heap hh]; rfl
  have s2 : w1.cell? ⟨w.heap.size, 2, none⟩ = some (.int .i64 (-1)) := by rw [Lib.cell_of_heap hh]; rfl
  have sz : ∀ j, w1.frozen? ⟨w.heap.size, j, none⟩ = false := fun j => Lib.frozen_of_heap hh j
  have H1 := Lib.hid (H.out.moved hc1)
  have HBM := Lib.hid H.out.tb
  have h2w : 2 < w.heap.size := World.block_lt_of_cell? w _ H.out.eof
  have hlt1 : w.heap.size < w1.heap.size := Lib.lt_of_heap hh
  have S0 := Lib.hid s0
  have S1 := Lib.hid s1
  have S2 := Lib.hid s2
  have SZ := Lib.hid sz
  have HC1 := Lib.hid hc1
  clear hc1 hh s0 s1 s2 sz hw1
  simp only []
  go_wp2_with fail
  refine (newScanner_calls S0.out S1.out S2.out SZ.out H1.out.eof (by omega) hsz).mono ?_
  rintro e w2 ⟨Z, B, F, rfl, hsc, hc2, hnew, hz1⟩
  have HC2 := Lib.hid (HC1.out.trans hc2)
  have HR2 : Hid (Rd w2 ⟨Z, B, F, w.heap.size, E⟩ s.data.toList 1) := Lib.hid ⟨⟨s, 0, hsc, rfl, Nat.zero_le _⟩, hz1, by omega, by rw [HLEN.out]; omega⟩
  have HN2 : Hid (∀ k, Tr ⟨Z, B, F, w.heap.size, E⟩ k → w.heap.size ≤ k) := Lib.hid fun k hk => by
    rcases hnew k hk with rfl | h
    · exact Nat.le_refl _
    · omega
  have H2 := Lib.hid (H1.out.moved hc2)
  generalize hb : (⟨Z, B, F, w.heap.size, E⟩ : Bl) = b at HR2 HN2
  have hZ : Z = b.Z := by rw [← hb]
  subst hZ
  clear hb hsc hc2 hnew hz1 HC1 H1 S0 S1 S2 SZ H
  have hs2 := HC2.out.size
  simp only []
  go_wp2_with fail
  have hOWN : Hid (((w2.alloc (.cells #[.pointer none, .slice none 0 0, .bool false, .int .i64 0, .string ⟨#[]⟩, .string ⟨#[]⟩, .string ⟨#[]⟩, .int .i64 0, .int .i64 0, .int .i64 0] 54)).alloc (.cells #[] 32)).ownsRow (w2.heap.size + 1) 32 3 (.slice (some ⟨w2.heap.size + 1, 0, none⟩) 0 0) 0 []) := by
    have h := World.ownsRow_lit (e := 32) (size := 3) (base := w2.heap.size + 1) (w2.alloc (.cells #[.pointer none, .slice none 0 0, .bool false, .int .i64 0, .string ⟨#[]⟩, .string ⟨#[]⟩, .string ⟨#[]⟩, .int .i64 0, .int .i64 0, .int .i64 0] 54)) #[] 0 (by simp) (by unfold maxLen; omega) rfl
    rw [show (w2.alloc (.cells #[.pointer none, .slice none 0 0, .bool false, .int .i64 0, .string ⟨#[]⟩, .string ⟨#[]⟩, .string ⟨#[]⟩, .int .i64 0, .int .i64 0, .int .i64 0] 54)).heap.size = w2.heap.size + 1 by simp] at h
    exact Lib.hid h
  have hLX : Hid (LxAt ((w2.alloc (.cells #[.pointer none, .slice none 0 0, .bool false, .int .i64 0, .string ⟨#[]⟩, .string ⟨#[]⟩, .string ⟨#[]⟩, .int .i64 0, .int .i64 0, .int .i64 0] 54)).alloc (.cells #[] 32)) w2.heap.size) := by
    have h0 := heap_alloc_new w2 (.cells #[.pointer none, .slice none 0 0, .bool false, .int .i64 0, .string ⟨#[]⟩, .string ⟨#[]⟩, .string ⟨#[]⟩, .int .i64 0, .int .i64 0, .int .i64 0] 54)
    refine Lib.hid (LxAt.keep (U := fun _ => False) (w := w2.alloc (.cells #[.pointer none, .slice none 0 0, .bool false, .int .i64 0, .string ⟨#[]⟩, .string ⟨#[]⟩, .string ⟨#[]⟩, .int .i64 0, .int .i64 0, .int .i64 0] 54)) ⟨⟨false, ?_⟩, ⟨0, ?_⟩, fun j => Lib.frozen_of_heap h0 j⟩ ((Ch.refl _ _).alloc _) id)
    · rw [Lib.cell_of_heap h0]; rfl
    · rw [Lib.cell_of_heap h0]; rfl
  have hc3 : Ch (fun _ => False) w2 ((w2.alloc (.cells #[.pointer none, .slice none 0 0, .bool false, .int .i64 0, .string ⟨#[]⟩, .string ⟨#[]⟩, .string ⟨#[]⟩, .int .i64 0, .int .i64 0, .int .i64 0] 54)).alloc (.cells #[] 32)) := ((Ch.refl _ _).alloc _).alloc _
  generalize hW3 : ((w2.alloc (.cells #[.pointer none, .slice none 0 0, .bool false, .int .i64 0, .string ⟨#[]⟩, .string ⟨#[]⟩, .string ⟨#[]⟩, .int .i64 0, .int .i64 0, .int .i64 0] 54)).alloc (.cells #[] 32)) = w3 at hOWN hLX hc3 ⊢
  clear hW3
  have HR3 := Lib.hid (HR2.out.moved hc3)
  have H3 := Lib.hid (H2.out.moved hc3)
  have HC3 := Lib.hid (HC2.out.trans hc3)
  have HTR : Hid (∀ k, Tr b k → w.heap.size ≤ k ∧ k < w2.heap.size) := Lib.hid fun k hk => ⟨HN2.out k hk, HR2.out.size k hk⟩
  have hbm : bm < w.heap.size := (Array.getElem?_eq_some_iff.1 HBM.out.ob).1
  clear hc3 HR2 HC2 HN2 H2
  generalize hX : w2.heap.size = X at hOWN hLX HTR hs2 ⊢
  clear hX
  have hsz1 : (s.size : Int) + 1 ≤ 5000 := by omega
  go_loopg [6, 20] s.size (fun n v6 v20 wr => TkRel ts k (1 + nl s.data.toList) s.size (X + 1) w b X E bm obj n v6 v20 wr)
  case atStart => exact ⟨[], ts, s.data.toList, 1, rfl, HLX.out, H13.out, HR3.out, .inr rfl, H3.out.tb, hLX.out, HC3.out, hOWN.out, rfl, by rw [HLEN.out]; simp, HLEN.out.symm⟩
  case round =>
    obtain ⟨T1, ts', r, L, hts, hlx, hcr, hr, hL, htb, hx, hc, ho, rfl, hle, hn⟩ := hrel
    have HTS := Lib.hid hts
    have HLR := Lib.hid hlx
    have HCR := Lib.hid hcr
    have HRR := Lib.hid hr
    have HL := Lib.hid hL
    have HTB := Lib.hid htb
    have HXX := Lib.hid hx
    have HCC := Lib.hid hc
    have HO := Lib.hid ho
    have HNN := Lib.hid hn
    have hrl := hr.len
    have HENV : Hid (Env wr b X bm) := Lib.hid ⟨World.block_lt_of_cell? _ _ hx.c2.choose_spec, (Array.getElem?_eq_some_iff.1 htb.ob).1, hr.g2, hr.size, fun h => by have := HTR.out X h; omega, fun q hq h => by
      have hq2 : q < w.heap.size := by rcases hq with rfl | rfl | rfl | rfl <;> omega
      rcases h with h | h
      · have := HTR.out q h; omega
      · omega⟩
    have g20 : decide ((T1.length : Int) < (s.size : Int) + 1) = true := by simp; omega
    clear hts hlx hcr hr hL htb hx hc ho hn hOWN hLX HR3 H3 HC3 HLX
    go_wp2_with fail
    rcases HLR.out.first with ⟨hf, hts⟩ | ⟨t, a, r', ts2, hf, hts, hlx2⟩
    · have HFF := Lib.hid hf
      have HT2 := Lib.hid hts
      clear hf hts
      refine (scan_calls HENV HRR.out HTB.out HXX.out HL.out HCR.out HFF.out hk).mono ?_
      rintro e w5 (⟨_, rfl, L', st, ln, nm, so, cl, rfl, hr5, ht5, hx5, hc5⟩ | ⟨t, a, r2, L2, ty, st, ho, _⟩ | ⟨hk0, r2, L', ty, st, ln, p, nm, so, cl, rfl, hr5, ht5, hx5, hc5⟩)
      · have hcN : Ch (fun _ => False) w w5 := HCC.out.trans' hc5 (fun i hi hu => by
          rcases hu with hu | hu
          · have := HTR.out i hu; omega
          · omega)
        have hown := hc5.owns HO.out (fun q hq hu => by
          have := HO.out.lt q hq
          rcases hu with hu | hu
          · have := HTR.out q hu; omega
          · omega)
        have HCN := Lib.hid hcN
        have HOW := Lib.hid hown
        clear hr5 ht5 hx5 hc5 hcN hown
        simp only []
        go_wp2_with fail
        go_ret2
        refine .inl ⟨rfl, _, rfl, ?_, HCN.out.alloc _⟩
        have hh : ts = T1 := by rw [HTS.out, HT2.out, List.append_nil]
        rw [hh]
        exact (HOW.out.alloc _).mono (by omega)
      · cases ho
      · have hcN : Ch (fun _ => False) w w5 := HCC.out.trans' hc5 (fun i hi hu => by
          rcases hu with hu | hu
          · have := HTR.out i hu; omega
          · omega)
        have HCN := Lib.hid hcN
        have gq : ∀ w, (binOp .neq 56 (.iface 89 (ptr p)) .nilIface).run Tryz.prog w = .ok (.bool true) w := fun w => run_neq_iface_nil (P := Tryz.prog) (w := w) 56 iface46 89 (ptr p)
        clear hr5 ht5 hx5 hc5 hcN
        simp only []
        go_wp2_with fail
        go_ret2
        exact .inr ⟨hk0, rfl, HCN.out.alloc _⟩
    · have HFF := Lib.hid hf
      have HT2 := Lib.hid hts
      have HLX2 := Lib.hid hlx2
      have hlt := hf.lt rfl HCR.out (by omega)
      clear hf hts hlx2
      refine (scan_calls HENV HRR.out HTB.out HXX.out HL.out HCR.out HFF.out (by decide)).mono ?_
      rintro e w5 (⟨ho, _⟩ | ⟨t2, a2, r2, L2, ty, st, ho, hty, ⟨nm, so, cl, rfl, hr5, ht5, hx5, hc5⟩, hL2, hm1, hcr2⟩ | ⟨hk0, _⟩)
      · cases ho
      · injection ho with ho
        injection ho with ho1 ho
        injection ho with ho2 ho3
        subst ho1
        subst ho2
        subst ho3
        have hcN : Ch (fun _ => False) w w5 := HCC.out.trans' hc5 (fun i hi hu => by
          rcases hu with hu | hu
          · have := HTR.out i hu; omega
          · omega)
        have hown := hc5.owns HO.out (fun q hq hu => by
          have := HO.out.lt q hq
          rcases hu with hu | hu
          · have := HTR.out q hu; omega
          · omega)
        have hca : Ch (fun _ => False) w5 (w5.alloc (.cells #[.int .i64 ty, .string nm, .string ⟨st.toArray⟩, .string so, .int .i64 (1 + nl s.data.toList - nl a), .int .i64 cl] 52)) := (Ch.refl _ _).alloc _
        have hh5 := heap_alloc_new w5 (.cells #[.int .i64 ty, .string nm, .string ⟨st.toArray⟩, .string so, .int .i64 (1 + nl s.data.toList - nl a), .int .i64 cl] 52)
        have d0 : (w5.alloc (.cells #[.int .i64 ty, .string nm, .string ⟨st.toArray⟩, .string so, .int .i64 (1 + nl s.data.toList - nl a), .int .i64 cl] 52)).cell? ⟨w5.heap.size, 0, none⟩ = some (.int .i64 ty) := by rw [Lib.cell_of_heap hh5]; rfl
        have d2 : (w5.alloc (.cells #[.int .i64 ty, .string nm, .string ⟨st.toArray⟩, .string so, .int .i64 (1 + nl s.data.toList - nl a), .int .i64 cl] 52)).cell? ⟨w5.heap.size, 2, none⟩ = some (.string ⟨st.toArray⟩) := by rw [Lib.cell_of_heap hh5]; rfl
        have d4 : (w5.alloc (.cells #[.int .i64 ty, .string nm, .string ⟨st.toArray⟩, .string so, .int .i64 (1 + nl s.data.toList - nl a), .int .i64 cl] 52)).cell? ⟨w5.heap.size, 4, none⟩ = some (.int .i64 (1 + nl s.data.toList - nl a)) := by rw [Lib.cell_of_heap hh5]; rfl
        have HCN := Lib.hid (hcN.trans hca)
        have HOW := Lib.hid (hown.alloc (.cells #[.int .i64 ty, .string nm, .string ⟨st.toArray⟩, .string so, .int .i64 (1 + nl s.data.toList - nl a), .int .i64 cl] 52))
        have HRN := Lib.hid (hr5.moved hca)
        have HTN := Lib.hid (ht5.keep hca id id id)
        have HXN := Lib.hid (hx5.keep hca id)
        have HTY := Lib.hid hty
        have HL2 := Lib.hid hL2
        have HCR2 := Lib.hid hcr2
        have gm : (ty == -1) = false := by simpa using hm1
        clear hr5 ht5 hx5 hc5 hcN hown hty hL2 hcr2 hm1 hh5
        simp only []
        go_wp2_with fail
        generalize (w5.alloc (.cells #[.int .i64 ty, .string nm, .string ⟨st.toArray⟩, .string so, .int .i64 (1 + nl s.data.toList - nl a), .int .i64 cl] 52)) = w6 at HCN HOW HRN HTN HXN d0 d2 d4 ⊢
        refine (token_calls HTY.out).mono ?_
        rintro e w7 ⟨rfl, hc7⟩
        have d4' := hc7.cell_some d4 id
        have HC7 := Lib.hid (HCN.out.trans hc7)
        have lt5 : w5.heap.size < w7.heap.size := World.block_lt_of_cell? _ _ d4'
        have HO7 := Lib.hid (hc7.owns HOW.out (fun _ _ => id))
        have HR7 := Lib.hid (HRN.out.moved hc7)
        have HT7 := Lib.hid (HTN.out.keep hc7 id id id)
        have HX7 := Lib.hid (HXN.out.keep hc7 id)
        clear hc7 d0 d2 d4 HCN HOW HRN HTN HXN
        simp only []
        have hX7 : X < w7.heap.size := World.block_lt_of_cell? _ _ HX7.out.c2.choose_spec
        have hT1 : T1.length ≤ 4096 := by omega
        have HLT := Lib.hid hlt
        go_wp2_with (at_builtin; refine wpList_append_lies _ rfl (.tmp 43) (.tmp 45) 25 rfl (X + 1) 32 i0 _ 3 32 Tryz.underlying25 I0.out Z0.out Z1.out Z2.out rfl (by omega) _ _ (tokCells (1 + nl s.data.toList) T1) rfl ((HO7.out.alloc (.cells #[.int .i64 (t.kind : Int), .string ⟨t.raw.toArray⟩, .int .i64 (1 + nl s.data.toList - nl a)] 32)).alloc (.cells #[.int .i64 (t.kind : Int), .string ⟨t.raw.toArray⟩, .int .i64 (1 + nl s.data.toList - nl a)] 32)) ⟨w7.heap.size + 1, 0, none⟩ 1 1 [.int .i64 (t.kind : Int), .string ⟨t.raw.toArray⟩, .int .i64 (1 + nl s.data.toList - nl a)] rfl rfl (World.news_of_block (B := w7.heap.size + 1) (cs := #[.int .i64 (t.kind : Int), .string ⟨t.raw.toArray⟩, .int .i64 (1 + nl s.data.toList - nl a)]) (t := 32) (fr := (0, 0)) (by have := heap_alloc_new (w7.alloc (.cells #[.int .i64 (t.kind : Int), .string ⟨t.raw.toArray⟩, .int .i64 (1 + nl s.data.toList - nl a)] 32)) (.cells #[.int .i64 (t.kind : Int), .string ⟨t.raw.toArray⟩, .int .i64 (1 + nl s.data.toList - nl a)] 32); simpa using this)) (by intro y hy; simp at hy; rcases hy with rfl | rfl | rfl <;> rfl) (by omega) (by unfold maxLen; omega) (by omega) (by simp; omega) (w7.heap.size + 2) (by simp) ?_; intro g' cap' w9 hown9 hgrow9 hat9 hlt9
                     have hcG : Ch (fun k => X + 1 ≤ k) w7 w9 := (((Ch.refl _ _).alloc _).alloc _).grown hgrow9 (fun k hk hlt => (HO7.out.lt k hk).1)
                     have HR9 := Lib.hid (HR7.out.keep hcG (fun k hk e => by have := (HTR.out k hk).2; omega) (by omega))
                     have HT9 := Lib.hid (HT7.out.keep hcG (by omega) (by omega) (by omega))
                     have HX9 := Lib.hid (HX7.out.keep hcG (by omega))
                     have HC9 := Lib.hid (HC7.out.trans' hcG (fun k hk e => by omega))
                     have HO9 := Lib.hid hown9
                     clear hcG hown9 hgrow9 hat9 hlt9 HR7 HT7 HX7 HC7 HO7)
        go_roundg r'.length
        case measure => have := HNN.out; have := HLT.out; omega
        case rel =>
          refine ⟨T1 ++ [(t, a)], ts2, r', L2, by rw [HTS.out, HT2.out]; simp, HLX2.out, HCR2.out, HR9.out, HL2.out, HT9.out, HX9.out, HC9.out, ?_, by simp, by have := HLT.out; simp; omega, rfl⟩
          have := HO9.out
          rw [tokCells_app, List.length_append]
          exact this
      · exact absurd rfl hk0

end Go.Proofs.YtbgjjbffpckimaaGreatDoor
