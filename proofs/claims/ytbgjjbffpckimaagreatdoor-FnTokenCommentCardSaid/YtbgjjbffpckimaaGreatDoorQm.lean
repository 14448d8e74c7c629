/-
  The tokens of a text: the manual: the tokens of a text.
-/
import Derived.Test.YtbgjjbffpckimaaGreatDoorQl
import Derived.Test.YtbgjjbffpckimaaGreatDoorQr
namespace Go.Proofs.YtbgjjbffpckimaaGreatDoor
set_option linter.all false
open Go.RowKit

/-- The cells of tokens, one behind the other; the number and the last line of each are not told. -/
def Cs5 (C : Int) : List (Tok × Bs) → List Value → Prop
  | [], xs => xs = []
  | (t, a) :: ts, xs => ∃ f l rest, xs = .int .i64 (t.kind : Int) :: .string ⟨t.text.toArray⟩ :: .float .f64 f :: .int .i64 (C - nl a) :: .int .i64 l :: rest ∧ Cs5 C ts rest
theorem Cs5.app {C : Int} : ∀ {ts : List (Tok × Bs)} {xs : List Value}, Cs5 C ts xs → ∀ (t : Tok) (a : Bs) (f : Nat) (l : Int), Cs5 C (ts ++ [(t, a)]) (xs ++ [.int .i64 (t.kind : Int), .string ⟨t.text.toArray⟩, .float .f64 f, .int .i64 (C - nl a), .int .i64 l])
  | [], xs, h, t, a, f, l => by
    obtain rfl : xs = [] := h
    exact ⟨f, l, [], rfl, rfl⟩
  | (t0, a0) :: ts, xs, h, t, a, f, l => by
    obtain ⟨f0, l0, rest, rfl, hr⟩ := h
    exact ⟨f0, l0, _, rfl, hr.app t a f l⟩
theorem Cs5.len {C : Int} : ∀ {ts : List (Tok × Bs)} {xs : List Value}, Cs5 C ts xs → xs.length = ts.length * 5
  | [], xs, h => by obtain rfl : xs = [] := h; rfl
  | (t0, a0) :: ts, xs, h => by
    obtain ⟨f0, l0, rest, rfl, hr⟩ := h
    have := hr.len
    simp only [List.length_cons]
    omega

theorem Tryz.info42 : (Tryz.prog.info? 42).map (fun i => (i.zero, i.size, i.bytes)) = some (some (.agg #[.int .i64 0, .string ⟨#[]⟩, .float .f64 0, .int .i64 0, .int .i64 0]), 5, 48) := by kernel_rfl
noncomputable def reg14 (id : Nat) : Code := (rgd id (Tryz.f14.body.getD .skip)).getD .skip

set_option maxRecDepth 100000 in
set_option maxHeartbeats 4000000 in
theorem lt_reg11 {w : World} {p X n : Nat} {s : ByteArray} {r : Bs} {cd L : Int} {v : Value} {xs : List Value} {u0 u1 u2 u3 u6 u7 u8 u9 u10 u11 u12 u13 u14 u15 u16 u17 u18 u19 u20 u21 u22 u23 u24 u25 u26 u27 u28 u29 u30 u31 u32 u33 u34 u35 u36 u37 u38 u39 u40 u41 u42 u43 u44 u45 u46 u47 u48 u49 u50 u51 u52 u53 u54 u55 u56 u57 u58 u59 u60 u61 u62 u63 : Value} {Q : Exit → Act → World → Prop} (H : Hid (Ls w p s r cd)) (HO : Hid (w.ownsRow X 42 5 v n xs)) (hpX : p < X) (hXw : X ≤ w.heap.size) (hn : n ≤ 2001) (hL : 1 + nl s.data.toList - nl r = L)
    (hQ : Hid (∀ (g cap : Nat) (w' : World) (y48 y49 y50 y51 y52 y53 y54 y55 y56 y57 y58 y59 y60 y61 y62 y63 : Value), w'.ownsRow X 42 5 (.slice (some ⟨g, 0, none⟩) (n + 1) cap) (n + 1) (xs ++ [.int .i64 6, .string ⟨#[]⟩, .float .f64 0, .int .i64 L, .int .i64 L]) → Ch (fun k => X ≤ k) w w' → Q .normal { tmps := #[u0, u1, .slice (some ⟨g, 0, none⟩) (n + 1) cap, .int .i64 cd, ptr p, v, u6, u7, u8, u9, u10, u11, u12, u13, u14, u15, u16, u17, u18, u19, u20, u21, u22, u23, u24, u25, u26, u27, u28, u29, u30, u31, u32, u33, u34, u35, u36, u37, u38, u39, u40, u41, u42, u43, u44, u45, u46, u47, y48, y49, y50, y51, y52, y53, y54, y55, y56, y57, y58, y59, y60, y61, y62, y63], defers := [] } w')) :
    (reg14 11).wp Tryz.prog Q { tmps := #[u0, u1, u2, u3, ptr p, v, u6, u7, u8, u9, u10, u11, u12, u13, u14, u15, u16, u17, u18, u19, u20, u21, u22, u23, u24, u25, u26, u27, u28, u29, u30, u31, u32, u33, u34, u35, u36, u37, u38, u39, u40, u41, u42, u43, u44, u45, u46, u47, u48, u49, u50, u51, u52, u53, u54, u55, u56, u57, u58, u59, u60, u61, u62, u63], defers := [] } w := by
  obtain ⟨i0, hi0, hz0, hz1, hz2⟩ := info_parts Tryz.info42
  have I0 := Lib.hid hi0
  have Z0 := Lib.hid hz0
  have Z1 := Lib.hid hz1
  have Z2 := Lib.hid hz2
  clear hi0 hz0 hz1 hz2
  have k2 := H.out.c2
  have k3 := H.out.c3
  have hpl := H.out.lt
  rw [hL] at k2
  have HLL := Lib.hid hL
  clear hL
  conv => arg 2; whnf
  refine wp_region_noPanic ?_
  go_region_law (refine step_append_lies _ rfl (.tmp 48) (.tmp 58) 37 rfl X 42 i0 _ 5 48 Tryz.underlying37 I0.out Z0.out Z1.out Z2.out rfl (by omega) v n xs rfl (by first | exact HO.out.alloc _ | exact (HO.out.alloc _).drew) ⟨w.heap.size, 0, none⟩ 1 1 [.int .i64 6, .string ⟨#[]⟩, .float .f64 0, .int .i64 L, .int .i64 L] rfl rfl (World.news_of_block (B := w.heap.size) (cs := #[.int .i64 6, .string ⟨#[]⟩, .float .f64 0, .int .i64 L, .int .i64 L]) (t := 42) (fr := (0, 0)) (heap_alloc_new w (.cells #[.int .i64 6, .string ⟨#[]⟩, .float .f64 0, .int .i64 L, .int .i64 L] 42))) (by intro y hy; simp at hy; rcases hy with rfl | rfl | rfl | rfl <;> rfl) (by omega) (by unfold maxLen; omega) (by omega) (by simp; omega) (w.heap.size + 1) (by simp) ?_; intro g' cap' w9 hown9 hgrow9 hat9 hlt9
                 have hcG : Ch (fun k => X ≤ k) w w9 := by first | exact Ch.grown (((Ch.refl (fun k => X ≤ k) w).alloc (.cells #[.int .i64 6, .string ⟨#[]⟩, .float .f64 0, .int .i64 L, .int .i64 L] 42)).drew) hgrow9 (fun k hk hlt => (HO.out.lt k hk).1) | exact Ch.grown ((Ch.refl (fun k => X ≤ k) w).alloc (.cells #[.int .i64 6, .string ⟨#[]⟩, .float .f64 0, .int .i64 L, .int .i64 L] 42)) hgrow9 (fun k hk hlt => (HO.out.lt k hk).1)
                 have l2 := hcG.cell_some k2 (by show ¬ X ≤ p; omega)
                 have l3 := hcG.cell_some k3 (by show ¬ X ≤ p; omega))
  all_goals
    refine NoPanic.normal ?_
    first | exact hQ.out _ _ _ _ _ _ _ _ _ _ _ _ _ _ _ _ _ _ _ hown9 hcG | exact hQ.out _ _ _ _ _ _ _ _ _ _ _ _ _ _ _ _ _ _ _ hown9 hcG.drew | exact hQ.out _ _ _ _ _ _ _ _ _ _ _ _ _ _ _ _ _ _ _ hown9 hcG.drew.drew
end Go.Proofs.YtbgjjbffpckimaaGreatDoor

namespace Go.Proofs.YtbgjjbffpckimaaGreatDoor
set_option linter.all false
open Go.RowKit

theorem TzPost.split {p : Nat} {s : ByteArray} {r : Bs} {z : Rz Tok} {w w' : World} {e : Ending} (h : TzPost p s r z w e w') :
    Ch (· = p) w w' ∧ ∃ a b f l1 l2 r' cd, e = .returned (.agg (tkV a b f l1 l2)) ∧ Ls w' p s r' cd ∧ ((∃ t : Tok, z = .ok t r' ∧ cd = 0 ∧ a = (t.kind : Int) ∧ b = ⟨t.text.toArray⟩ ∧ l1 = 1 + nl s.data.toList - nl r) ∨ ∃ kk : Nat, z = .no kk ∧ (kk = 1 ∨ kk = 2) ∧ cd = (kk : Int)) := by
  obtain ⟨hc, ⟨t, r', hz, ⟨f, l, he⟩, hl⟩ | ⟨kk, r', hz, hk, ⟨a, b, f, c, d, he⟩, hl⟩⟩ := h
  · exact ⟨hc, _, _, _, _, _, r', 0, he, hl, .inl ⟨t, hz, rfl, rfl, rfl, rfl⟩⟩
  · exact ⟨hc, _, _, _, _, _, r', _, he, hl, .inr ⟨kk, hz, hk, rfl⟩⟩
theorem opened_no {s : Bs} (h : opened s = false) : s.length ≤ 2000 ∧ NoCr s := by
  unfold opened at h
  rw [Bool.or_eq_false_iff, Bool.or_eq_false_iff] at h
  refine ⟨by simpa using h.1.1, fun c hc e => ?_⟩
  have h2 := List.any_eq_false.1 h.2 c hc
  rw [e] at h2
  exact h2 (by decide)
theorem Ls.nocr {w : World} {p : Nat} {s : ByteArray} {r : Bs} {cd : Int} (h : Ls w p s r cd) (h13 : NoCr s.data.toList) : NoCr r := by
  obtain ⟨i, _, h2, _⟩ := h.c1
  intro c hc
  rw [← h2] at hc
  exact h13 c (List.mem_of_mem_drop hc)
/-- The loop of 'lxTokens'. -/
def LzInv (S : Bs) (C : Int) (T1 : List (Tok × Bs)) (n : Nat) (xs : List Value) (r : Bs) (cd : Int) : Prop :=
  (cd = 0 ∧ n = T1.length ∧ Cs5 C T1 xs ∧ (∀ ts k, Lx r ts k → Lx S (T1 ++ ts) k) ∧ n + r.length ≤ S.length) ∨ (∃ k : Nat, cd = (k : Int) ∧ (k = 1 ∨ k = 2) ∧ Lx S T1 k ∧ n ≤ 2001)
def LzRel (s : ByteArray) (p X : Nat) (m : Nat) (v5 : Value) (w0 wr : World) : Prop :=
  ∃ T1 n xs r cd, LzInv s.data.toList (1 + nl s.data.toList) T1 n xs r cd ∧ Ls wr p s r cd ∧ wr.ownsRow X 42 5 v5 n xs ∧ Ch (fun _ => False) w0 wr ∧ m = if cd = 0 then r.length + 1 else 0
/-- What 'lxTokens' gives. -/
def LtPost (s : ByteArray) (w : World) (e : Ending) (w' : World) : Prop :=
  Ch (fun _ => False) w w' ∧ ∃ v cd, e = .returned (.tuple #[v, .int .i64 cd]) ∧ ((cd = 2 ∧ (opened s.data.toList = true ∨ ∃ ts, Lx s.data.toList ts 2)) ∨ (opened s.data.toList = false ∧ s.size ≤ 2000 ∧ ∃ ts,
    (cd = 1 ∧ Lx s.data.toList ts 1) ∨ (cd = 0 ∧ Lx s.data.toList ts 0 ∧ ts.length ≤ 2000 ∧ ∃ g cap xs L, v = .slice (some ⟨g, 0, none⟩) (ts.length + 1) cap ∧ w'.ownsRow w.heap.size 42 5 (.slice (some ⟨g, 0, none⟩) (ts.length + 1) cap) (ts.length + 1) (xs ++ [.int .i64 6, .string ⟨#[]⟩, .float .f64 0, .int .i64 L, .int .i64 L]) ∧ Cs5 (1 + nl s.data.toList) ts xs)))
theorem Lx.done {S : Bs} {C : Int} {T1 : List (Tok × Bs)} {n : Nat} {xs : List Value} (h : LzInv S C T1 n xs [] 0) : Lx S T1 0 ∧ n = T1.length ∧ Cs5 C T1 xs ∧ n ≤ S.length := by
  rcases h with ⟨_, h1, h2, h3, h4⟩ | ⟨k, hk, h1, _⟩
  · have := h3 [] 0 Lx.nil
    rw [List.append_nil] at this
    exact ⟨this, h1, h2, by simp at h4; omega⟩
  · omega
theorem LzInv.sp {S : Bs} {C : Int} {T1 : List (Tok × Bs)} {n : Nat} {xs : List Value} {c : UInt8} {t : Bs} (h : LzInv S C T1 n xs (c :: t) 0) (hc : isSp c = true) : LzInv S C T1 n xs t 0 := by
  rcases h with ⟨_, h1, h2, h3, h4⟩ | ⟨k, hk, h1, _⟩
  · exact .inl ⟨rfl, h1, h2, fun ts k hl => h3 ts k (Lx.ws hc hl), by simp at h4; omega⟩
  · omega
theorem LzInv.com {S : Bs} {C : Int} {T1 : List (Tok × Bs)} {n : Nat} {xs : List Value} {t r' : Bs} (h : LzInv S C T1 n xs (45 :: 45 :: t) 0) (hc : comP t = .ok () r') : LzInv S C T1 n xs r' 0 := by
  have hl := comP_len hc
  rcases h with ⟨_, h1, h2, h3, h4⟩ | ⟨k, hk, h1, _⟩
  · exact .inl ⟨rfl, h1, h2, fun ts k hl => h3 ts k (Lx.com hc hl), by simp at h4; omega⟩
  · omega
theorem LzInv.comNo {S : Bs} {C : Int} {T1 : List (Tok × Bs)} {n : Nat} {xs : List Value} {t r' : Bs} {k : Nat} (h : LzInv S C T1 n xs (45 :: 45 :: t) 0) (hc : comP t = .no k) (hk : k = 1 ∨ k = 2) (hS : S.length ≤ 2000) : LzInv S C T1 n xs r' (k : Int) := by
  rcases h with ⟨_, h1, h2, h3, h4⟩ | ⟨k, hk, h1, _⟩
  · have := h3 [] k (Lx.comNo hc)
    rw [List.append_nil] at this
    exact .inr ⟨k, rfl, hk, this, by omega⟩
  · omega
theorem LzInv.tok {S : Bs} {C : Int} {T1 : List (Tok × Bs)} {n : Nat} {xs : List Value} {c : UInt8} {t r' : Bs} {tk : Tok} (h : LzInv S C T1 n xs (c :: t) 0) (h0 : isSp c = false) (h1 : ¬ (c = 45 ∧ t.head? = some 45)) (hn : nextP (c :: t) = .ok tk r') (hlt : r'.length ≤ t.length) (f : Nat) (l : Int) :
    LzInv S C (T1 ++ [(tk, c :: t)]) (n + 1) (xs ++ [.int .i64 (tk.kind : Int), .string ⟨tk.text.toArray⟩, .float .f64 f, .int .i64 (C - nl (c :: t)), .int .i64 l]) r' 0 := by
  rcases h with ⟨_, g1, g2, g3, g4⟩ | ⟨k, hk, g1, _⟩
  · refine .inl ⟨rfl, by simp [g1], g2.app tk _ f l, fun ts k hl => ?_, by simp at g4 ⊢; omega⟩
    have := g3 _ k (Lx.tok h0 h1 hn hl)
    simpa using this
  · omega
theorem LzInv.bad {S : Bs} {C : Int} {T1 : List (Tok × Bs)} {n : Nat} {xs xs' : List Value} {c : UInt8} {t r' : Bs} {k : Nat} (h : LzInv S C T1 n xs (c :: t) 0) (h0 : isSp c = false) (h1 : ¬ (c = 45 ∧ t.head? = some 45)) (hn : nextP (c :: t) = .no k) (hk : k = 1 ∨ k = 2) (hS : S.length ≤ 2000) :
    LzInv S C T1 (n + 1) xs' r' (k : Int) := by
  rcases h with ⟨_, g1, g2, g3, g4⟩ | ⟨k, hk, g1, _⟩
  · have := g3 [] k (Lx.no h0 h1 hn)
    rw [List.append_nil] at this
    exact .inr ⟨k, rfl, hk, this, by omega⟩
  · omega
theorem LzInv.n {S : Bs} {C : Int} {T1 : List (Tok × Bs)} {n : Nat} {xs : List Value} {r : Bs} {cd : Int} (h : LzInv S C T1 n xs r cd) (hS : S.length ≤ 2000) : n ≤ 2001 := by
  rcases h with ⟨_, g1, g2, g3, g4⟩ | ⟨k, hk, g1, _, h⟩
  · omega
  · exact h
theorem LzInv.n0 {S : Bs} {C : Int} {T1 : List (Tok × Bs)} {n : Nat} {xs : List Value} {r : Bs} (h : LzInv S C T1 n xs r 0) : n + r.length ≤ S.length := by
  rcases h with ⟨_, g1, g2, g3, g4⟩ | ⟨k, hk, g1, _, h⟩
  · exact g4
  · omega
theorem sp_nat (c : UInt8) : isSp c = (c.toNat == 32 || c.toNat == 9 || c.toNat == 10) := by
  unfold isSp
  rw [beq_nat (c := c) (k := 32), beq_nat (c := c) (k := 9), beq_nat (c := c) (k := 10)]
  rfl
theorem pre45 (c : UInt8) (t : Bs) : [45, 45].isPrefixOf (c :: t) = decide (c = 45 ∧ t.head? = some 45) := by
  rw [Bool.eq_iff_iff, pre2, decide_eq_true_iff]
  cases t with
  | nil => simp
  | cons d u => simp

set_option maxRecDepth 100000 in
set_option maxHeartbeats 4000000 in
theorem lxTokens_calls {w : World} {s : ByteArray} : Calls Tryz.prog 14 #[.string s] w (LtPost s w) := by
  obtain ⟨i0, hi0, hz0, hz1, hz2⟩ := info_parts Tryz.info42
  have I0 := Lib.hid hi0
  have Z0 := Lib.hid hz0
  have Z1 := Lib.hid hz1
  have Z2 := Lib.hid hz2
  clear hi0 hz0 hz1 hz2
  go_enter Tryz.func14, Tryz.ntmps14
  go_wp2_with fail
  refine isOpen_calls.mono ?_
  rintro e w' ⟨rfl, rfl⟩
  simp only []
  cases hop : opened s.data.toList
  · obtain ⟨hsz0, h13⟩ := opened_no hop
    have hl0 : s.data.toList.length = s.size := Array.length_toList
    have hsz : s.size ≤ 2000 := by omega
    have H13 := Lib.hid h13
    have HOF := Lib.hid hop
    clear hop h13 hl0
    go_wp2_with fail
    have hb := heap_alloc_new w' (.cells #[.string s, .int .i64 0, .int .i64 1, .int .i64 0] 63)
    have hL0 : Ls (w'.alloc (.cells #[.string s, .int .i64 0, .int .i64 1, .int .i64 0] 63)) w'.heap.size s s.data.toList 0 := by
      refine ⟨?_, ⟨0, ?_, rfl, by omega⟩, ?_, ?_, fun j => Lib.frozen_of_heap hb j, hsz⟩
      · rw [Lib.cell_of_heap hb]; rfl
      · rw [Lib.cell_of_heap hb]; rfl
      · rw [Lib.cell_of_heap hb]
        have : 1 + nl s.data.toList - nl s.data.toList = 1 := by omega
        rw [this]
        rfl
      · rw [Lib.cell_of_heap hb]; rfl
    have hc0 : Ch (fun _ => False) w' (w'.alloc (.cells #[.string s, .int .i64 0, .int .i64 1, .int .i64 0] 63)) := (Ch.refl _ _).alloc _
    have hs0 : (w'.alloc (.cells #[.string s, .int .i64 0, .int .i64 1, .int .i64 0] 63)).heap.size = w'.heap.size + 1 := by simp
    generalize w'.alloc (.cells #[.string s, .int .i64 0, .int .i64 1, .int .i64 0] 63) = w1 at hL0 hc0 hs0 ⊢
    have hO0 := World.ownsRow_lit (e := 42) (size := 5) (base := w1.heap.size) w1 #[] 0 (by simp) (by unfold maxLen; omega) rfl
    rw [hs0] at hO0
    have HO0 := Lib.hid hO0
    have HL0 := Lib.hid (hL0.moved ((Ch.refl _ _).alloc (.cells #[] 42)))
    have HC0 := Lib.hid (hc0.alloc (.cells #[] 42))
    have hiv : LzInv s.data.toList (1 + nl s.data.toList) [] 0 [] s.data.toList 0 := .inl ⟨rfl, rfl, rfl, fun ts k h => h, by omega⟩
    have HIV := Lib.hid hiv
    have hpp : w'.heap.size < w1.heap.size := by omega
    clear hb hL0 hO0 hiv
    go_loopg [5] (s.size + 1) (fun m v5 wr => LzRel s w'.heap.size (w'.heap.size + 1) m v5 w' wr)
    case atStart => exact ⟨[], 0, [], s.data.toList, 0, HIV.out, HL0.out, HO0.out, HC0.out, by simp⟩
    case round =>
      obtain ⟨T1, n, xs, r, cd, hinv, hls, ho, hc, hm⟩ := hrel
      have hn := hinv.n hsz0
      have HI := Lib.hid hinv
      have HL := Lib.hid hls
      have HO := Lib.hid ho
      have HC := Lib.hid hc
      have HM := Lib.hid hm
      have hpw : w'.heap.size < wr.heap.size := hls.lt
      have hXw : w'.heap.size + 1 ≤ wr.heap.size := by omega
      clear hinv hls ho hc hm HO0 HL0 HC0 HIV
      have k3 := HL.out.c3
      by_cases hcd : cd = 0
      · subst hcd
        cases r with
        | nil =>
          go_wp2_with fail
          refine (isDone_at HL (v := true) (by simp)).mono ?_
          rintro e w2 ⟨rfl, hq⟩
          have HL2 := Lib.hid (HL.out.moved hq)
          have HC2 := Lib.hid (HC.out.trans hq)
          have HO2 := Lib.hid (hq.owns HO.out fun _ _ h => h)
          have hX2 : w'.heap.size + 1 ≤ w2.heap.size := Nat.le_trans hXw hq.size
          clear hq HL HC HO k3
          simp only []
          go_wp2_with fail
          refine lt_reg11 (L := 1 + nl s.data.toList - nl []) HL2 HO2 (by omega) hX2 hn rfl (Lib.hid ?_)
          intro g cap w3 _ _ _ _ _ _ _ _ _ _ _ _ _ _ _ _ hown hc3
          have HO3 := Lib.hid hown
          have HC3 := Lib.hid (HC2.out.trans' hc3 (fun i hi h => by omega))
          clear hown hc3
          simp only [Exit.then]
          go_wp2_with fail
          go_ret2
          obtain ⟨hlx, hnn, hcs, hns⟩ := Lx.done HI.out
          refine ⟨HC3.out, _, _, rfl, .inr ⟨HOF.out, hsz, T1, .inr ⟨rfl, hlx, by omega, g, cap, xs, 1 + nl s.data.toList - nl [], by rw [← hnn]; rfl, ?_, hcs⟩⟩⟩
          rw [← hnn]
          exact HO3.out.mono (by omega)
        | cons c t =>
          have hm : gk = t.length + 2 := by have := HM.out; simpa using this
          cases hsp : isSp c
          · have HSP := Lib.hid hsp
            rw [sp_nat, Bool.or_eq_false_iff, Bool.or_eq_false_iff] at hsp
            have g32 := beq_at (j := 32) (k := 32) rfl hsp.1.1
            have g9 := beq_at (j := 9) (k := 9) rfl hsp.1.2
            have g10 := beq_at (j := 10) (k := 10) rfl hsp.2
            clear hsp
            by_cases hco : c = 45 ∧ t.head? = some 45
            · skip
              obtain ⟨t2, ht2⟩ : ∃ t2, t = 45 :: t2 := by
                cases t with
                | nil => simp at hco
                | cons d u => exact ⟨u, by have := hco.2; simp at this; rw [this]⟩
              have hpc : [45, 45].isPrefixOf (c :: t) = true := by rw [pre45]; exact decide_eq_true hco
              have HPC := Lib.hid hpc
              have hc45 := hco.1
              have HC45 : Hid (c :: t = 45 :: 45 :: t2) := Lib.hid (by rw [hc45, ht2])
              have ht2l : t.length = t2.length + 1 := by rw [ht2]; rfl
              clear hco hpc hc45 ht2
              go_wp2_with fail
              refine (isDone_at HL (v := false) (by simp)).mono ?_
              rintro e wq1 ⟨rfl, hq1⟩
              have HL1 := Lib.hid (HL.out.moved hq1)
              have HC1 := Lib.hid (HC.out.trans hq1)
              have HO1 := Lib.hid (hq1.owns HO.out fun _ _ h => h)
              have hX1 : w'.heap.size + 1 ≤ wq1.heap.size := Nat.le_trans hXw hq1.size
              clear hq1 HL HC HO
              simp only []
              go_wp2_with fail
              refine (byteAt_at HL1 0 (rfl) (by omega) (show ((hb (c :: t) : Nat) : Int) = (c.toNat : Int) from rfl)).mono ?_
              rintro e wq2 ⟨rfl, hq2⟩
              have HL2 := Lib.hid (HL1.out.moved hq2)
              have HC2 := Lib.hid (HC1.out.trans hq2)
              have HO2 := Lib.hid (hq2.owns HO1.out fun _ _ h => h)
              have hX2 : w'.heap.size + 1 ≤ wq2.heap.size := Nat.le_trans hX1 hq2.size
              clear hq2 HL1 HC1 HO1
              simp only []
              go_wp2_with fail
              refine (byteAt_at HL2 0 (rfl) (by omega) (show ((hb (c :: t) : Nat) : Int) = (c.toNat : Int) from rfl)).mono ?_
              rintro e wq3 ⟨rfl, hq3⟩
              have HL3 := Lib.hid (HL2.out.moved hq3)
              have HC3 := Lib.hid (HC2.out.trans hq3)
              have HO3 := Lib.hid (hq3.owns HO2.out fun _ _ h => h)
              have hX3 : w'.heap.size + 1 ≤ wq3.heap.size := Nat.le_trans hX2 hq3.size
              clear hq3 HL2 HC2 HO2
              simp only []
              go_wp2_with fail
              refine (byteAt_at HL3 0 (rfl) (by omega) (show ((hb (c :: t) : Nat) : Int) = (c.toNat : Int) from rfl)).mono ?_
              rintro e wq4 ⟨rfl, hq4⟩
              have HL4 := Lib.hid (HL3.out.moved hq4)
              have HC4 := Lib.hid (HC3.out.trans hq4)
              have HO4 := Lib.hid (hq4.owns HO3.out fun _ _ h => h)
              have hX4 : w'.heap.size + 1 ≤ wq4.heap.size := Nat.le_trans hX3 hq4.size
              clear hq4 HL3 HC3 HO3
              simp only []
              go_wp2_with fail
              refine (starts_at HL4 [45, 45] rfl (by decide) HPC.out).mono ?_
              rintro e wq5 ⟨rfl, hq5⟩
              have HL5 := Lib.hid (HL4.out.moved hq5)
              have HC5 := Lib.hid (HC4.out.trans hq5)
              have HO5 := Lib.hid (hq5.owns HO4.out fun _ _ h => h)
              have hX5 : w'.heap.size + 1 ≤ wq5.heap.size := Nat.le_trans hX4 hq5.size
              clear hq5 HL4 HC4 HO4
              simp only []
              go_wp2_with fail
              have HLc : Hid (Ls wq5 w'.heap.size s (45 :: 45 :: t2) 0) := Lib.hid (HC45.out ▸ HL5.out)
              have HIc : Hid (LzInv s.data.toList (1 + nl s.data.toList) T1 n xs (45 :: 45 :: t2) 0) := Lib.hid (HC45.out ▸ HI.out)
              refine (comment_calls HLc).mono ?_
              rintro e wz ⟨rfl, hqz, hz⟩
              have HCz := Lib.hid (HC5.out.trans' hqz (fun i hi h => by omega))
              have HOz := Lib.hid (hqz.owns HO5.out fun k hk e => by have := HO5.out.lt k hk; omega)
              have HZ := Lib.hid hz
              clear hqz hz HL5 HC5 HO5 HLc
              simp only []
              go_wp2_with fail
              rcases HZ.out with ⟨_, r2, hcp, hl2⟩ | ⟨kk, r2, hcp, hkk, hl2⟩
              · have hll := comP_len hcp
                have hgk : r2.length + 1 < gk := by omega
                go_roundg (r2.length + 1)
                case measure => omega
                case rel => exact ⟨T1, n, xs, r2, 0, HIc.out.com hcp, hl2, HOz.out, HCz.out, by simp⟩
              · have hgk : 0 < gk := by omega
                go_roundg 0
                case measure => omega
                case rel => exact ⟨T1, n, xs, r2, (kk : Int), HIc.out.comNo hcp hkk hsz0, hl2, HOz.out, HCz.out, by rw [if_neg (by omega)]⟩
            · skip
              have HCO := Lib.hid hco
              have hpc : [45, 45].isPrefixOf (c :: t) = false := by rw [pre45]; exact decide_eq_false hco
              have HPC := Lib.hid hpc
              clear hco hpc
              have hn0 := HI.out.n0
              rw [List.length_cons] at hn0
              go_wp2_with fail
              refine (isDone_at HL (v := false) (by simp)).mono ?_
              rintro e wq6 ⟨rfl, hq6⟩
              have HL6 := Lib.hid (HL.out.moved hq6)
              have HC6 := Lib.hid (HC.out.trans hq6)
              have HO6 := Lib.hid (hq6.owns HO.out fun _ _ h => h)
              have hX6 : w'.heap.size + 1 ≤ wq6.heap.size := Nat.le_trans hXw hq6.size
              clear hq6 HL HC HO
              simp only []
              go_wp2_with fail
              refine (byteAt_at HL6 0 (rfl) (by omega) (show ((hb (c :: t) : Nat) : Int) = (c.toNat : Int) from rfl)).mono ?_
              rintro e wq7 ⟨rfl, hq7⟩
              have HL7 := Lib.hid (HL6.out.moved hq7)
              have HC7 := Lib.hid (HC6.out.trans hq7)
              have HO7 := Lib.hid (hq7.owns HO6.out fun _ _ h => h)
              have hX7 : w'.heap.size + 1 ≤ wq7.heap.size := Nat.le_trans hX6 hq7.size
              clear hq7 HL6 HC6 HO6
              simp only []
              go_wp2_with fail
              refine (byteAt_at HL7 0 (rfl) (by omega) (show ((hb (c :: t) : Nat) : Int) = (c.toNat : Int) from rfl)).mono ?_
              rintro e wq8 ⟨rfl, hq8⟩
              have HL8 := Lib.hid (HL7.out.moved hq8)
              have HC8 := Lib.hid (HC7.out.trans hq8)
              have HO8 := Lib.hid (hq8.owns HO7.out fun _ _ h => h)
              have hX8 : w'.heap.size + 1 ≤ wq8.heap.size := Nat.le_trans hX7 hq8.size
              clear hq8 HL7 HC7 HO7
              simp only []
              go_wp2_with fail
              refine (byteAt_at HL8 0 (rfl) (by omega) (show ((hb (c :: t) : Nat) : Int) = (c.toNat : Int) from rfl)).mono ?_
              rintro e wq9 ⟨rfl, hq9⟩
              have HL9 := Lib.hid (HL8.out.moved hq9)
              have HC9 := Lib.hid (HC8.out.trans hq9)
              have HO9 := Lib.hid (hq9.owns HO8.out fun _ _ h => h)
              have hX9 : w'.heap.size + 1 ≤ wq9.heap.size := Nat.le_trans hX8 hq9.size
              clear hq9 HL8 HC8 HO8
              simp only []
              go_wp2_with fail
              refine (starts_at HL9 [45, 45] rfl (by decide) HPC.out).mono ?_
              rintro e wq10 ⟨rfl, hq10⟩
              have HL10 := Lib.hid (HL9.out.moved hq10)
              have HC10 := Lib.hid (HC9.out.trans hq10)
              have HO10 := Lib.hid (hq10.owns HO9.out fun _ _ h => h)
              have hX10 : w'.heap.size + 1 ≤ wq10.heap.size := Nat.le_trans hX9 hq10.size
              clear hq10 HL9 HC9 HO9
              simp only []
              go_wp2_with fail
              have hnc := HL10.out.nocr H13.out
              have HNC := Lib.hid hnc
              clear hnc
              refine (nextTok_calls HL10).mono ?_
              intro e wz hz
              obtain ⟨hqz, a, b, f, l1, l2, r2, cd2, rfl, hl2, hz2⟩ := hz.split
              have HCz := Lib.hid (HC10.out.trans' hqz (fun i hi h => by omega))
              have HOz := Lib.hid (hqz.owns HO10.out fun k hk e => by have := HO10.out.lt k hk; omega)
              have hXz : w'.heap.size + 1 ≤ wz.heap.size := Nat.le_trans hX10 hqz.size
              have HLz := Lib.hid hl2
              have HZ := Lib.hid hz2
              clear hqz hz hl2 hz2 HL10 HC10 HO10
              simp only []
              go_wp2_with (at_builtin; refine wpList_append_lies _ rfl (.tmp 22) (.tmp 25) 37 rfl (w'.heap.size + 1) 42 i0 _ 5 48 Tryz.underlying37 I0.out Z0.out Z1.out Z2.out rfl (by omega) _ n xs rfl (HOz.out.alloc (.cells #[.int .i64 a, .string b, .float .f64 f, .int .i64 l1, .int .i64 l2] 42)) ⟨wz.heap.size, 0, none⟩ 1 1 [.int .i64 a, .string b, .float .f64 f, .int .i64 l1, .int .i64 l2] rfl rfl (World.news_of_block (B := wz.heap.size) (cs := #[.int .i64 a, .string b, .float .f64 f, .int .i64 l1, .int .i64 l2]) (t := 42) (fr := (0, 0)) (heap_alloc_new wz (.cells #[.int .i64 a, .string b, .float .f64 f, .int .i64 l1, .int .i64 l2] 42))) (by intro y hy; simp at hy; rcases hy with rfl | rfl | rfl | rfl | rfl <;> rfl) (by omega) (by unfold maxLen; omega) (by omega) (by simp; omega) (wz.heap.size + 1) (by simp) ?_; intro g' cap' w9 hown9 hgrow9 hat9 hlt9
                           have hcG : Ch (fun k => w'.heap.size + 1 ≤ k) wz w9 := Ch.grown ((Ch.refl (fun k => w'.heap.size + 1 ≤ k) wz).alloc (.cells #[.int .i64 a, .string b, .float .f64 f, .int .i64 l1, .int .i64 l2] 42)) hgrow9 (fun k hk hlt => (HOz.out.lt k hk).1)
                           have HL9 := Lib.hid (HLz.out.keep hcG (by omega))
                           have HC9 := Lib.hid (HCz.out.trans' hcG (fun i hi h => by omega))
                           have HO9 := Lib.hid hown9
                           clear hcG hown9 hgrow9 hat9 hlt9 HLz HCz HOz)
              rcases HZ.out with ⟨tk, hnp, rfl, rfl, rfl, rfl⟩ | ⟨kk, hnp, hkk, rfl⟩
              · have hlt := nextP_lt hnp HNC.out (by omega)
                have hgk : r2.length + 1 < gk := by omega
                go_roundg (r2.length + 1)
                case measure => omega
                case rel => exact ⟨_, n + 1, _, r2, 0, HI.out.tok HSP.out HCO.out hnp hlt f l2, HL9.out, HO9.out, HC9.out, by simp⟩
              · have hgk : 0 < gk := by omega
                go_roundg 0
                case measure => omega
                case rel => exact ⟨T1, n + 1, _, r2, (kk : Int), HI.out.bad HSP.out HCO.out hnp hkk hsz0, HL9.out, HO9.out, HC9.out, by rw [if_neg (by omega)]⟩
          · rw [sp_nat] at hsp
            have HSP := Lib.hid hsp
            cases h32 : (c.toNat == 32)
            · skip
              rw [h32, Bool.false_or] at hsp
              have g32 := beq_at (j := 32) (k := 32) rfl h32
              cases h9 : (c.toNat == 9)
              · skip
                rw [h9, Bool.false_or] at hsp
                have g9 := beq_at (j := 9) (k := 9) rfl h9
                have g10 := beq_at (j := 10) (k := 10) rfl hsp
                clear h32 h9 hsp
                go_wp2_with fail
                refine (isDone_at HL (v := false) (by simp)).mono ?_
                rintro e wq1 ⟨rfl, hq1⟩
                have HL1 := Lib.hid (HL.out.moved hq1)
                have HC1 := Lib.hid (HC.out.trans hq1)
                have HO1 := Lib.hid (hq1.owns HO.out fun _ _ h => h)
                have hX1 : w'.heap.size + 1 ≤ wq1.heap.size := Nat.le_trans hXw hq1.size
                clear hq1 HL HC HO
                simp only []
                go_wp2_with fail
                refine (byteAt_at HL1 0 (rfl) (by omega) (show ((hb (c :: t) : Nat) : Int) = (c.toNat : Int) from rfl)).mono ?_
                rintro e wq2 ⟨rfl, hq2⟩
                have HL2 := Lib.hid (HL1.out.moved hq2)
                have HC2 := Lib.hid (HC1.out.trans hq2)
                have HO2 := Lib.hid (hq2.owns HO1.out fun _ _ h => h)
                have hX2 : w'.heap.size + 1 ≤ wq2.heap.size := Nat.le_trans hX1 hq2.size
                clear hq2 HL1 HC1 HO1
                simp only []
                go_wp2_with fail
                refine (byteAt_at HL2 0 (rfl) (by omega) (show ((hb (c :: t) : Nat) : Int) = (c.toNat : Int) from rfl)).mono ?_
                rintro e wq3 ⟨rfl, hq3⟩
                have HL3 := Lib.hid (HL2.out.moved hq3)
                have HC3 := Lib.hid (HC2.out.trans hq3)
                have HO3 := Lib.hid (hq3.owns HO2.out fun _ _ h => h)
                have hX3 : w'.heap.size + 1 ≤ wq3.heap.size := Nat.le_trans hX2 hq3.size
                clear hq3 HL2 HC2 HO2
                simp only []
                go_wp2_with fail
                refine (byteAt_at HL3 0 (rfl) (by omega) (show ((hb (c :: t) : Nat) : Int) = (c.toNat : Int) from rfl)).mono ?_
                rintro e wq4 ⟨rfl, hq4⟩
                have HL4 := Lib.hid (HL3.out.moved hq4)
                have HC4 := Lib.hid (HC3.out.trans hq4)
                have HO4 := Lib.hid (hq4.owns HO3.out fun _ _ h => h)
                have hX4 : w'.heap.size + 1 ≤ wq4.heap.size := Nat.le_trans hX3 hq4.size
                clear hq4 HL3 HC3 HO3
                simp only []
                go_wp2_with fail
                refine (step_calls HL4).mono ?_
                rintro e wq5 ⟨rfl, hl5, hq5⟩
                have HL5 := Lib.hid hl5
                have HC5 := Lib.hid (HC4.out.trans' hq5 (fun i hi h => by omega))
                have HO5 := Lib.hid (hq5.owns HO4.out fun k hk e => by have := HO4.out.lt k hk; omega)
                have hX5 : w'.heap.size + 1 ≤ wq5.heap.size := Nat.le_trans hX4 hq5.size
                clear hq5 HL4 HC4 HO4 hl5
                simp only []
                go_wp2_with fail
                have hgk : t.length + 1 < gk := by omega
                go_roundg (t.length + 1)
                case measure => omega
                case rel => exact ⟨T1, n, xs, t, 0, HI.out.sp (by rw [sp_nat]; exact HSP.out), HL5.out, HO5.out, HC5.out, by simp⟩
              · skip
                have g9 := beq_at (j := 9) (k := 9) rfl h9
                clear h32 h9 hsp
                go_wp2_with fail
                refine (isDone_at HL (v := false) (by simp)).mono ?_
                rintro e wq6 ⟨rfl, hq6⟩
                have HL6 := Lib.hid (HL.out.moved hq6)
                have HC6 := Lib.hid (HC.out.trans hq6)
                have HO6 := Lib.hid (hq6.owns HO.out fun _ _ h => h)
                have hX6 : w'.heap.size + 1 ≤ wq6.heap.size := Nat.le_trans hXw hq6.size
                clear hq6 HL HC HO
                simp only []
                go_wp2_with fail
                refine (byteAt_at HL6 0 (rfl) (by omega) (show ((hb (c :: t) : Nat) : Int) = (c.toNat : Int) from rfl)).mono ?_
                rintro e wq7 ⟨rfl, hq7⟩
                have HL7 := Lib.hid (HL6.out.moved hq7)
                have HC7 := Lib.hid (HC6.out.trans hq7)
                have HO7 := Lib.hid (hq7.owns HO6.out fun _ _ h => h)
                have hX7 : w'.heap.size + 1 ≤ wq7.heap.size := Nat.le_trans hX6 hq7.size
                clear hq7 HL6 HC6 HO6
                simp only []
                go_wp2_with fail
                refine (byteAt_at HL7 0 (rfl) (by omega) (show ((hb (c :: t) : Nat) : Int) = (c.toNat : Int) from rfl)).mono ?_
                rintro e wq8 ⟨rfl, hq8⟩
                have HL8 := Lib.hid (HL7.out.moved hq8)
                have HC8 := Lib.hid (HC7.out.trans hq8)
                have HO8 := Lib.hid (hq8.owns HO7.out fun _ _ h => h)
                have hX8 : w'.heap.size + 1 ≤ wq8.heap.size := Nat.le_trans hX7 hq8.size
                clear hq8 HL7 HC7 HO7
                simp only []
                go_wp2_with fail
                refine (step_calls HL8).mono ?_
                rintro e wq9 ⟨rfl, hl9, hq9⟩
                have HL9 := Lib.hid hl9
                have HC9 := Lib.hid (HC8.out.trans' hq9 (fun i hi h => by omega))
                have HO9 := Lib.hid (hq9.owns HO8.out fun k hk e => by have := HO8.out.lt k hk; omega)
                have hX9 : w'.heap.size + 1 ≤ wq9.heap.size := Nat.le_trans hX8 hq9.size
                clear hq9 HL8 HC8 HO8 hl9
                simp only []
                go_wp2_with fail
                have hgk : t.length + 1 < gk := by omega
                go_roundg (t.length + 1)
                case measure => omega
                case rel => exact ⟨T1, n, xs, t, 0, HI.out.sp (by rw [sp_nat]; exact HSP.out), HL9.out, HO9.out, HC9.out, by simp⟩
            · skip
              have g32 := beq_at (j := 32) (k := 32) rfl h32
              clear h32 hsp
              go_wp2_with fail
              refine (isDone_at HL (v := false) (by simp)).mono ?_
              rintro e wq10 ⟨rfl, hq10⟩
              have HL10 := Lib.hid (HL.out.moved hq10)
              have HC10 := Lib.hid (HC.out.trans hq10)
              have HO10 := Lib.hid (hq10.owns HO.out fun _ _ h => h)
              have hX10 : w'.heap.size + 1 ≤ wq10.heap.size := Nat.le_trans hXw hq10.size
              clear hq10 HL HC HO
              simp only []
              go_wp2_with fail
              refine (byteAt_at HL10 0 (rfl) (by omega) (show ((hb (c :: t) : Nat) : Int) = (c.toNat : Int) from rfl)).mono ?_
              rintro e wq11 ⟨rfl, hq11⟩
              have HL11 := Lib.hid (HL10.out.moved hq11)
              have HC11 := Lib.hid (HC10.out.trans hq11)
              have HO11 := Lib.hid (hq11.owns HO10.out fun _ _ h => h)
              have hX11 : w'.heap.size + 1 ≤ wq11.heap.size := Nat.le_trans hX10 hq11.size
              clear hq11 HL10 HC10 HO10
              simp only []
              go_wp2_with fail
              refine (step_calls HL11).mono ?_
              rintro e wq12 ⟨rfl, hl12, hq12⟩
              have HL12 := Lib.hid hl12
              have HC12 := Lib.hid (HC11.out.trans' hq12 (fun i hi h => by omega))
              have HO12 := Lib.hid (hq12.owns HO11.out fun k hk e => by have := HO11.out.lt k hk; omega)
              have hX12 : w'.heap.size + 1 ≤ wq12.heap.size := Nat.le_trans hX11 hq12.size
              clear hq12 HL11 HC11 HO11 hl12
              simp only []
              go_wp2_with fail
              have hgk : t.length + 1 < gk := by omega
              go_roundg (t.length + 1)
              case measure => omega
              case rel => exact ⟨T1, n, xs, t, 0, HI.out.sp (by rw [sp_nat]; exact HSP.out), HL12.out, HO12.out, HC12.out, by simp⟩
      · have g0 : (cd == 0) = false := by simpa using hcd
        obtain ⟨k, hk, hk12, hlx⟩ : ∃ k : Nat, cd = (k : Int) ∧ (k = 1 ∨ k = 2) ∧ Lx s.data.toList T1 k := by
          rcases HI.out with ⟨h, _⟩ | ⟨k, h1, h2, h3, _⟩
          · exact absurd h hcd
          · exact ⟨k, h1, h2, h3⟩
        have HLX := Lib.hid hlx
        clear hlx
        go_wp2_with fail
        refine lt_reg11 (L := 1 + nl s.data.toList - nl r) HL HO (by omega) hXw hn rfl (Lib.hid ?_)
        intro g cap w3 _ _ _ _ _ _ _ _ _ _ _ _ _ _ _ _ hown hc3
        have HC3 := Lib.hid (HC.out.trans' hc3 (fun i hi h => by omega))
        clear hown hc3
        simp only [Exit.then]
        go_wp2_with fail
        go_ret2
        refine ⟨HC3.out, _, _, rfl, ?_⟩
        rcases hk12 with rfl | rfl
        · exact .inr ⟨HOF.out, hsz, T1, .inl ⟨hk, HLX.out⟩⟩
        · exact .inl ⟨hk, .inr ⟨T1, HLX.out⟩⟩
  · have HOP := Lib.hid hop
    clear hop
    go_wp2_with fail
    go_ret2
    exact ⟨Ch.refl _ _, _, _, rfl, .inl ⟨rfl, .inl HOP.out⟩⟩
end Go.Proofs.YtbgjjbffpckimaaGreatDoor

namespace Go.Proofs.YtbgjjbffpckimaaGreatDoor
set_option linter.all false
open Go.RowKit

/-- The cells of the tokens that the manual gives. -/
def dueCells (C : Int) : List (Tok × Bs) → List Value
  | [] => []
  | (t, a) :: r => .int .i64 (t.kind : Int) :: .string ⟨t.text.toArray⟩ :: .int .i64 (C - nl a) :: dueCells C r
theorem dueCells_app (C : Int) : ∀ a b, dueCells C (a ++ b) = dueCells C a ++ dueCells C b
  | [], _ => rfl
  | (t, x) :: a, b => by rw [List.cons_append, dueCells, dueCells, dueCells_app C a b]; rfl
theorem Cs5.get {C : Int} : ∀ {ts : List (Tok × Bs)} {xs : List Value}, Cs5 C ts xs → ∀ {k : Nat} {t : Tok} {a : Bs}, ts[k]? = some (t, a) →
    ∃ f l, xs[k * 5]? = some (.int .i64 (t.kind : Int)) ∧ xs[k * 5 + 1]? = some (.string ⟨t.text.toArray⟩) ∧ xs[k * 5 + 2]? = some (.float .f64 f) ∧ xs[k * 5 + 3]? = some (.int .i64 (C - nl a)) ∧ xs[k * 5 + 4]? = some (.int .i64 l)
  | [], _, _, _, _, _, h => by simp at h
  | (t0, a0) :: ts, xs, h, 0, t, a, hk => by
    obtain ⟨f, l, rest, rfl, hr⟩ := h
    simp at hk
    obtain ⟨rfl, rfl⟩ := hk
    exact ⟨f, l, rfl, rfl, rfl, rfl, rfl⟩
  | (t0, a0) :: ts, xs, h, k + 1, t, a, hk => by
    obtain ⟨f, l, rest, rfl, hr⟩ := h
    simp at hk
    obtain ⟨f', l', h0, h1, h2, h3, h4⟩ := hr.get hk
    have e : (k + 1) * 5 = k * 5 + 5 := by omega
    rw [e]
    exact ⟨f', l', by simpa using h0, by simpa [Nat.add_right_comm] using h1, by simpa [Nat.add_right_comm] using h2, by simpa [Nat.add_right_comm] using h3, by simpa [Nat.add_right_comm] using h4⟩
/-- A row's block. -/
theorem row_block {w : World} {base : Nat} {e : TypeId} {size n g cap : Nat} {xs : List Value} (h : w.ownsRow base e size (.slice (some ⟨g, 0, none⟩) n cap) n xs) :
    ∃ cur, w.heap[g]? = some (.cells cur e (0, 0)) ∧ base ≤ g ∧ n ≤ cap ∧ cap ≤ maxLen ∧ ∀ (j : Nat) (u : Value), xs[j]? = some u → w.cell? ⟨g, j, none⟩ = some u := by
  obtain ⟨hl, ⟨h0, _⟩ | ⟨g', cap', cur, hv, hb, hg, hn, hc, hs, ht⟩⟩ := h
  · cases h0
  · injection hv with hv1 hv2 hv3
    injection hv1 with hv1
    injection hv1 with hv1
    subst hv1
    subst hv3
    refine ⟨cur, hg, hb, hn, hc, fun j u hu => ?_⟩
    rw [Lib.cell_of_heap hg]
    rw [← ht] at hu
    have hj : j < n * size := by
      have := (List.getElem?_eq_some_iff.1 hu).1
      simp at this
      omega
    rw [List.getElem?_take_of_lt hj] at hu
    simpa using hu
/-- What 'Lexemes' gives. -/
def LmPost (s : ByteArray) (w : World) (e : Ending) (w' : World) : Prop :=
  Ch (fun _ => False) w w' ∧ ∃ v cd, e = .returned (.tuple #[v, .int .i64 cd]) ∧ (cd = 2 ∨ (opened s.data.toList = false ∧ s.size ≤ 2000 ∧ ∃ ts,
    (cd = 1 ∧ Lx s.data.toList ts 1) ∨ (cd = 0 ∧ Lx s.data.toList ts 0 ∧ ts.length ≤ 2000 ∧ w'.ownsRow w.heap.size 32 3 v ts.length (dueCells (1 + nl s.data.toList) ts))))
def LeRel (C : Int) (ts : List (Tok × Bs)) (X : Nat) (m : Nat) (v6 v24 : Value) (w0 wr : World) : Prop :=
  ∃ k : Nat, v24 = .int .i64 (k : Int) ∧ k ≤ ts.length ∧ wr.ownsRow X 32 3 v6 k (dueCells C (ts.take k)) ∧ Ch (fun i => X ≤ i) w0 wr ∧ m = ts.length - k

set_option maxRecDepth 100000 in
set_option maxHeartbeats 4000000 in
theorem lexemes_calls {w : World} {s : ByteArray} : Calls Tryz.prog 9 #[.string s] w (LmPost s w) := by
  obtain ⟨i0, hi0, hz0, hz1, hz2⟩ := info_parts Tryz.info32
  have I0 := Lib.hid hi0
  have Z0 := Lib.hid hz0
  have Z1 := Lib.hid hz1
  have Z2 := Lib.hid hz2
  clear hi0 hz0 hz1 hz2
  go_enter Tryz.func9, Tryz.ntmps9
  go_wp2_with fail
  refine lxTokens_calls.mono ?_
  intro e w1 hp
  obtain ⟨hc, v, cd, rfl, hr⟩ := hp
  have HR := Lib.hid hr
  have HC := Lib.hid hc
  clear hr hc
  simp only []
  by_cases hcd : cd = 0
  · subst hcd
    obtain ⟨h13, hsz, ts, ⟨h, _⟩ | ⟨_, hlx, htl, g, cap, xs, L, rfl, hown, hcs⟩⟩ : opened s.data.toList = false ∧ s.size ≤ 2000 ∧ ∃ ts, _ := HR.out.resolve_left (fun h => by have := h.1; omega)
    · omega
    have H13 := Lib.hid h13
    have HLX := Lib.hid hlx
    have HCS := Lib.hid hcs
    obtain ⟨cur, hg, hwg, hcap, hcm, hcell⟩ := row_block hown
    have hgl : g < w1.heap.size := (Array.getElem?_eq_some_iff.1 hg).1
    have HG := Lib.hid hg
    have HCE := Lib.hid hcell
    have hxl := hcs.len
    have hcm2 : cap ≤ 9223372036854775807 := hcm
    have hO0 := World.ownsRow_lit (e := 32) (size := 3) (base := w1.heap.size) w1 #[] 0 (by simp) (by unfold maxLen; omega) rfl
    have HO0 := Lib.hid hO0
    have hw1 : IntKind.i64.wrap (((ts.length + 1 : Nat) : Int) - 1) = (ts.length : Int) := by rw [IntKind.wrap_i64]; omega
    have g1 : (0 : Int) ≤ (ts.length : Int) := by omega
    have g2 : (ts.length : Int) ≤ (cap : Int) := by omega
    have HC2 : Hid (Ch (fun i => w1.heap.size ≤ i) w1 (w1.alloc (.cells #[] 32))) := Lib.hid ((Ch.refl _ _).alloc _)
    clear h13 hlx hcs hg hcell HR hO0 hown hcm
    go_wp2_with fail
    go_loopg [6, 24] ts.length (fun m v6 v24 wr => LeRel (1 + nl s.data.toList) ts w1.heap.size m v6 v24 w1 wr)
    case atStart => exact ⟨0, rfl, Nat.zero_le _, HO0.out, HC2.out, rfl⟩
    case round =>
      obtain ⟨k, rfl, hk, ho, hc, hm⟩ := hrel
      have HO := Lib.hid ho
      have HCr := Lib.hid hc
      have HM := Lib.hid hm
      have hrw : w1.heap.size ≤ wr.heap.size := hc.size
      clear ho hc hm HO0 HC2
      by_cases hlt : k < ts.length
      · obtain ⟨t, a, hta⟩ : ∃ t a, ts[k]? = some (t, a) := ⟨_, _, List.getElem?_eq_getElem hlt⟩
        obtain ⟨f, l, x0, x1, x2, x3, x4⟩ := HCS.out.get hta
        have cc : ∀ (j : Nat) (u : Value), xs[j]? = some u → wr.cell? ⟨g, j, none⟩ = some u := fun j u hu => HCr.out.cell_some (HCE.out j u (by rw [List.getElem?_append_left (List.getElem?_eq_some_iff.1 hu).1]; exact hu)) (by show ¬ w1.heap.size ≤ g; omega)
        have c0 := cc _ _ x0
        have c1 := cc _ _ x1
        have c2 := cc _ _ x2
        have c3 := cc _ _ x3
        have c4 := cc _ _ x4
        clear x0 x1 x2 x3 x4 cc
        have hgr : g < wr.heap.size := by omega
        have htk : dueCells (1 + nl s.data.toList) (ts.take (k + 1)) = dueCells (1 + nl s.data.toList) (ts.take k) ++ [.int .i64 (t.kind : Int), .string ⟨t.text.toArray⟩, .int .i64 (1 + nl s.data.toList - nl a)] := by
          rw [List.take_succ, hta, dueCells_app]
          rfl
        have HTK := Lib.hid htk
        clear htk hta
        have hstf := store_flt
        go_wp2_with (at_builtin; refine wpList_append_lies _ rfl (.tmp 28) (.tmp 36) 25 rfl w1.heap.size 32 i0 _ 3 32 Tryz.underlying25 I0.out Z0.out Z1.out Z2.out rfl (by omega) _ k (dueCells (1 + nl s.data.toList) (ts.take k)) rfl ((HO.out.alloc (.cells #[.int .i64 (t.kind : Int), .string ⟨t.text.toArray⟩, .float .f64 f, .int .i64 (1 + nl s.data.toList - nl a), .int .i64 l] 42)).alloc (.cells #[.int .i64 (t.kind : Int), .string ⟨t.text.toArray⟩, .int .i64 (1 + nl s.data.toList - nl a)] 32)) ⟨wr.heap.size + 1, 0, none⟩ 1 1 [.int .i64 (t.kind : Int), .string ⟨t.text.toArray⟩, .int .i64 (1 + nl s.data.toList - nl a)] rfl rfl (World.news_of_block (B := wr.heap.size + 1) (cs := #[.int .i64 (t.kind : Int), .string ⟨t.text.toArray⟩, .int .i64 (1 + nl s.data.toList - nl a)]) (t := 32) (fr := (0, 0)) (by have := heap_alloc_new (wr.alloc (.cells #[.int .i64 (t.kind : Int), .string ⟨t.text.toArray⟩, .float .f64 f, .int .i64 (1 + nl s.data.toList - nl a), .int .i64 l] 42)) (.cells #[.int .i64 (t.kind : Int), .string ⟨t.text.toArray⟩, .int .i64 (1 + nl s.data.toList - nl a)] 32); simpa using this)) (by intro y hy; simp at hy; rcases hy with rfl | rfl | rfl <;> rfl) (by omega) (by unfold maxLen; omega) (by omega) (by simp; omega) (wr.heap.size + 2) (by simp) ?_; intro g' cap' w9 hown9 hgrow9 hat9 hlt9
                     have hcG : Ch (fun i => w1.heap.size ≤ i) w1 w9 := Ch.grown ((HCr.out.alloc (.cells #[.int .i64 (t.kind : Int), .string ⟨t.text.toArray⟩, .float .f64 f, .int .i64 (1 + nl s.data.toList - nl a), .int .i64 l] 42)).alloc (.cells #[.int .i64 (t.kind : Int), .string ⟨t.text.toArray⟩, .int .i64 (1 + nl s.data.toList - nl a)] 32)) hgrow9 (fun i hi hlt => (HO.out.lt i hi).1)
                     have HO9 := Lib.hid hown9
                     have HC9 := Lib.hid hcG
                     clear hcG hown9 hgrow9 hat9 hlt9 HCr HO)
        have hgk : ts.length - (k + 1) < gk := by have := HM.out; omega
        go_roundg (ts.length - (k + 1))
        case measure => omega
        case rel => exact ⟨k + 1, rfl, hlt, by rw [HTK.out]; exact HO9.out, HC9.out, rfl⟩
      · have hkn : k = ts.length := by omega
        subst hkn
        go_wp2_with fail
        go_ret2
        refine ⟨HC.out.trans' HCr.out (fun i hi h => by have := HC.out.size; omega), _, _, rfl, .inr ⟨H13.out, hsz, ts, .inr ⟨rfl, HLX.out, htl, ?_⟩⟩⟩
        have := HO.out
        rw [List.take_length] at this
        exact this.mono HC.out.size
  · have g0 : (cd != 0) = true := by simpa using hcd
    have HCD := Lib.hid hcd
    clear hcd
    go_wp2_with fail
    go_ret2
    refine ⟨HC.out.alloc _, _, _, rfl, ?_⟩
    rcases HR.out with h | ⟨h1, h2, ts, ⟨h3, h4⟩ | ⟨h3, _⟩⟩
    · exact .inl h.1
    · exact .inr ⟨h1, h2, ts, .inl ⟨h3, h4⟩⟩
    · exact absurd h3 HCD.out
end Go.Proofs.YtbgjjbffpckimaaGreatDoor

namespace Go.Proofs.YtbgjjbffpckimaaGreatDoor
set_option linter.all false
open Go.RowKit

theorem Lx.det : ∀ {r : Bs} {ts : List (Tok × Bs)} {k : Nat}, Lx r ts k → ∀ {ts' : List (Tok × Bs)} {k' : Nat}, Lx r ts' k' → ts = ts' ∧ k = k' := by
  have h45 : isSp 45 = false := by decide
  have hn45 : ∀ {c : UInt8} {r : Bs}, ¬ ((45 : UInt8) = 45 ∧ ((45 : UInt8) :: r).head? = some 45) → False := fun h => h ⟨rfl, rfl⟩
  intro r ts k h
  induction h with
  | nil =>
    intro ts' k' h'
    cases h'
    exact ⟨rfl, rfl⟩
  | ws hc h ih =>
    intro ts' k' h'
    cases h' with
    | ws _ h2 => exact ih h2
    | com _ _ => rw [h45] at hc; cases hc
    | comNo _ => rw [h45] at hc; cases hc
    | tok h0 _ _ _ => rw [hc] at h0; cases h0
    | no h0 _ _ => rw [hc] at h0; cases h0
  | com hc h ih =>
    intro ts' k' h'
    cases h' with
    | ws hc2 _ => rw [h45] at hc2; cases hc2
    | com hc2 h2 =>
      rw [hc] at hc2
      injection hc2 with _ hc3
      subst hc3
      exact ih h2
    | comNo hc2 => rw [hc] at hc2; cases hc2
    | tok _ h1 _ _ => exact (h1 ⟨rfl, rfl⟩).elim
    | no _ h1 _ => exact (h1 ⟨rfl, rfl⟩).elim
  | comNo hc =>
    intro ts' k' h'
    cases h' with
    | ws hc2 _ => rw [h45] at hc2; cases hc2
    | com hc2 h2 => rw [hc] at hc2; cases hc2
    | comNo hc2 =>
      rw [hc] at hc2
      injection hc2 with hc3
      exact ⟨rfl, hc3⟩
    | tok _ h1 _ _ => exact (h1 ⟨rfl, rfl⟩).elim
    | no _ h1 _ => exact (h1 ⟨rfl, rfl⟩).elim
  | tok h0 h1 hn h ih =>
    intro ts' k' h'
    cases h' with
    | ws hc2 _ => rw [h0] at hc2; cases hc2
    | com _ _ => exact (h1 ⟨rfl, rfl⟩).elim
    | comNo _ => exact (h1 ⟨rfl, rfl⟩).elim
    | tok _ _ hn2 h2 =>
      rw [hn] at hn2
      injection hn2 with ha hb
      subst ha
      subst hb
      have := ih h2
      exact ⟨by rw [this.1], this.2⟩
    | no _ _ hn2 => rw [hn] at hn2; cases hn2
  | no h0 h1 hn =>
    intro ts' k' h'
    cases h' with
    | ws hc2 _ => rw [h0] at hc2; cases hc2
    | com _ _ => exact (h1 ⟨rfl, rfl⟩).elim
    | comNo _ => exact (h1 ⟨rfl, rfl⟩).elim
    | tok _ _ hn2 h2 => rw [hn] at hn2; cases hn2
    | no _ _ hn2 =>
      rw [hn] at hn2
      injection hn2 with hb
      exact ⟨rfl, hb⟩

set_option maxRecDepth 100000 in
set_option maxHeartbeats 4000000 in
theorem numeralText_calls {w : World} {s : ByteArray} {x y a : Bs} (hlx : Lx s.data.toList [(⟨4, x, y⟩, a)] 0) (hop : opened s.data.toList = false) :
    Calls Tryz.prog 44 #[.string s] w fun e w' => e = .returned (.tuple #[.string ⟨x.toArray⟩, .bool true]) ∧ Ch (fun _ => False) w w' := by
  have HLX := Lib.hid hlx
  have HOP := Lib.hid hop
  clear hlx hop
  go_enter Tryz.func44, Tryz.ntmps44
  go_wp2_with fail
  refine lxTokens_calls.mono ?_
  intro e w1 hp
  obtain ⟨hc, v, cd, rfl, hr⟩ := hp
  rcases hr with ⟨_, h | ⟨ts, h⟩⟩ | ⟨_, _, ts, ⟨_, h⟩ | ⟨rfl, h, _, g, cap, xs, L, rfl, hown, hcs⟩⟩
  · rw [HOP.out] at h; cases h
  · exact absurd (HLX.out.det h).2 (by decide)
  · exact absurd (HLX.out.det h).2 (by decide)
  · obtain ⟨rfl, _⟩ := HLX.out.det h
    obtain ⟨cur, hg, hwg, hcap, hcm, hcell⟩ := row_block hown
    obtain ⟨f, l, x0, x1, _, _, _⟩ := hcs.get (k := 0) (t := ⟨4, x, y⟩) (a := a) rfl
    have hxl := hcs.len
    have c0 := hcell 0 _ (by rw [List.getElem?_append_left (by rw [hxl, List.length_singleton]; decide)]; exact x0)
    have c1 := hcell 1 _ (by rw [List.getElem?_append_left (by rw [hxl, List.length_singleton]; decide)]; exact x1)
    have HC := Lib.hid hc
    clear hc hown hcs hg hcell x0 x1 h
    simp only []
    go_wp2_with fail
    go_ret2
    exact ⟨rfl, HC.out⟩
end Go.Proofs.YtbgjjbffpckimaaGreatDoor

namespace Go.Proofs.YtbgjjbffpckimaaGreatDoor
set_option linter.all false
open Go.RowKit

/-- A row that a value owns, nil or not. -/
theorem row_any {w : World} {base : Nat} {e : TypeId} {size n : Nat} {v : Value} {xs : List Value} (h : w.ownsRow base e size v n xs) :
    ∃ pb cap g, v = .slice pb n cap ∧ n ≤ cap ∧ cap ≤ maxLen ∧ (0 < n → pb = some ⟨g, 0, none⟩ ∧ g < w.heap.size ∧ base ≤ g ∧ ∀ (j : Nat) (u : Value), xs[j]? = some u → w.cell? ⟨g, j, none⟩ = some u) := by
  rcases h.2 with ⟨rfl, rfl⟩ | ⟨g, cap, cur, rfl, hb, hg, hn, hc, hs, ht⟩
  · exact ⟨none, 0, 0, rfl, Nat.le_refl _, Nat.zero_le _, fun h => absurd h (by decide)⟩
  · obtain ⟨cur2, hg2, hb2, hn2, hc2, hcell⟩ := row_block h
    exact ⟨_, cap, g, rfl, hn, hc, fun _ => ⟨rfl, (Array.getElem?_eq_some_iff.1 hg).1, hb, hcell⟩⟩
theorem tokCells_get (C : Int) : ∀ {ts : List (Tok × Bs)} {k : Nat} {t : Tok} {a : Bs}, ts[k]? = some (t, a) →
    (tokCells C ts)[k * 3]? = some (.int .i64 (t.kind : Int)) ∧ (tokCells C ts)[k * 3 + 1]? = some (.string ⟨t.raw.toArray⟩) ∧ (tokCells C ts)[k * 3 + 2]? = some (.int .i64 (C - nl a))
  | [], _, _, _, h => by simp at h
  | (t0, a0) :: ts, 0, t, a, hk => by
    simp at hk
    obtain ⟨rfl, rfl⟩ := hk
    exact ⟨rfl, rfl, rfl⟩
  | (t0, a0) :: ts, k + 1, t, a, hk => by
    simp at hk
    obtain ⟨h0, h1, h2⟩ := tokCells_get C hk
    have e : (k + 1) * 3 = k * 3 + 3 := by omega
    rw [e]
    exact ⟨by simpa [tokCells] using h0, by simpa [tokCells, Nat.add_right_comm] using h1, by simpa [tokCells, Nat.add_right_comm] using h2⟩
theorem dueCells_get (C : Int) : ∀ {ts : List (Tok × Bs)} {k : Nat} {t : Tok} {a : Bs}, ts[k]? = some (t, a) →
    (dueCells C ts)[k * 3]? = some (.int .i64 (t.kind : Int)) ∧ (dueCells C ts)[k * 3 + 1]? = some (.string ⟨t.text.toArray⟩) ∧ (dueCells C ts)[k * 3 + 2]? = some (.int .i64 (C - nl a))
  | [], _, _, _, h => by simp at h
  | (t0, a0) :: ts, 0, t, a, hk => by
    simp at hk
    obtain ⟨rfl, rfl⟩ := hk
    exact ⟨rfl, rfl, rfl⟩
  | (t0, a0) :: ts, k + 1, t, a, hk => by
    simp at hk
    obtain ⟨h0, h1, h2⟩ := dueCells_get C hk
    have e : (k + 1) * 3 = k * 3 + 3 := by omega
    rw [e]
    exact ⟨by simpa [dueCells] using h0, by simpa [dueCells, Nat.add_right_comm] using h1, by simpa [dueCells, Nat.add_right_comm] using h2⟩

def LnRel (N m : Nat) (v35 : Value) (w0 wr : World) : Prop := ∃ k : Nat, v35 = .int .i64 (k : Int) ∧ k ≤ N ∧ Ch (fun _ => False) w0 wr ∧ m = N - k

set_option maxRecDepth 100000 in
set_option maxHeartbeats 4000000 in
theorem fnLines_calls {w : World} {E : Addr} {bm : Nat} {obj : Obj} {s : ByteArray} (H : Hid (Wld w E bm obj)) :
    Calls Tryz.prog 4 #[.string s] w fun e w' => e = .returned (.bool true) ∧ Ch (fun _ => False) w w' := by
  go_enter Tryz.func4, Tryz.ntmps4
  by_cases hz : decide ((2147483647 : Int) < (s.size : Int)) = true
  · go_wp2_with fail
    go_ret
    exact ⟨rfl, Ch.refl _ _⟩
  · have hz2 : decide ((2147483647 : Int) < (s.size : Int)) = false := by simpa using hz
    clear hz
    go_wp2_with fail
    refine lexemes_calls.mono ?_
    intro e w1 hp
    obtain ⟨hc, v, cd, rfl, hr⟩ := hp
    have HR := Lib.hid hr
    have HC := Lib.hid hc
    clear hr hc
    simp only []
    by_cases hcd : cd = 0
    · subst hcd
      obtain ⟨h13, hsz, ts, ⟨h, _⟩ | ⟨_, hlx, htl, hown⟩⟩ : opened s.data.toList = false ∧ s.size ≤ 2000 ∧ ∃ ts, _ := HR.out.resolve_left (fun h => by omega)
      · omega
      have hC2 : ∃ C, 1 + nl s.data.toList = C := ⟨_, rfl⟩
      obtain ⟨C, hC⟩ := hC2
      rw [hC] at hown
      have HCC := Lib.hid hC
      have HOD := Lib.hid hown
      have HLX := Lib.hid hlx
      have H13 := Lib.hid (opened_no h13).2
      have HSZ : Hid (s.size < 4096) := Lib.hid (by omega)
      obtain ⟨pb2, cap2, g2, rfl, hn2, hm2, hrow2⟩ := row_any hown
      have HW2 := Lib.hid hrow2
      clear h13 hlx hown HR hC hrow2 hm2
      go_wp2_with fail
      refine (tokens_calls (Lib.hid (H.out.moved HC.out)) HLX.out (by decide) H13.out HSZ.out).mono ?_
      rintro e w2 (⟨_, v, rfl, ho, hc2⟩ | ⟨h0, _⟩)
      · rw [HCC.out] at ho
        obtain ⟨pb1, cap1, g1, rfl, hn1, hm1, hrow1⟩ := row_any ho
        have HW1 := Lib.hid hrow1
        have HC2 := Lib.hid hc2
        have HC3 := Lib.hid (HC.out.trans hc2)
        clear ho hc2 hrow1 hm1
        simp only []
        go_wp2_with fail
        go_loopg [35] ts.length (fun m v35 wr => LnRel ts.length m v35 w2 wr)
        case atStart => exact ⟨0, rfl, Nat.zero_le _, Ch.refl _ _, rfl⟩
        case round =>
          obtain ⟨k, rfl, hk, hc, hm⟩ := hrel
          have HCr := Lib.hid hc
          have HM := Lib.hid hm
          clear hc hm
          by_cases hlt : k < ts.length
          · obtain ⟨t, a, hta⟩ : ∃ t a, ts[k]? = some (t, a) := ⟨_, _, List.getElem?_eq_getElem hlt⟩
            obtain ⟨rfl, hgl1, _, hcell1⟩ := HW1.out (by omega)
            obtain ⟨rfl, hgl2, _, hcell2⟩ := HW2.out (by omega)
            obtain ⟨x0, x1, x2⟩ := tokCells_get C hta
            obtain ⟨y0, y1, y2⟩ := dueCells_get C hta
            have c0 := HCr.out.cell_some (hcell1 _ _ x0) id
            have c1 := HCr.out.cell_some (hcell1 _ _ x1) id
            have c2 := HCr.out.cell_some (hcell1 _ _ x2) id
            have d2 := HCr.out.cell_some (HC2.out.cell_some (hcell2 _ _ y2) id) id
            have l1 : g1 < wr.heap.size := Nat.lt_of_lt_of_le hgl1 HCr.out.size
            have l2 : g2 < wr.heap.size := Nat.lt_of_lt_of_le (Nat.lt_of_lt_of_le hgl2 HC2.out.size) HCr.out.size
            clear x0 x1 x2 y0 y1 y2 hcell1 hcell2 hta
            go_wp2_with fail
            go_quiet (fail)
            go_wp2_with fail
            have hgk : ts.length - (k + 1) < gk := by have := HM.out; omega
            go_roundg (ts.length - (k + 1))
            case measure => omega
            case rel => exact ⟨k + 1, rfl, hlt, (HCr.out.alloc _).drewN _, rfl⟩
          · go_wp2_with fail
            go_ret
            exact ⟨rfl, HC3.out.trans HCr.out⟩
      · exact absurd rfl h0
    · have g0 : (cd != 0) = true := by simpa using hcd
      clear hcd
      go_wp2_with fail
      go_ret
      exact ⟨rfl, HC.out⟩
end Go.Proofs.YtbgjjbffpckimaaGreatDoor
