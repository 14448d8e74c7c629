/-
  countSep, scanMultilineString: what stands in long brackets goes into the buffer.
-/
import Derived.Test.YtbgjjbffpckimaaDoorStr
import Derived.ScopeJumps
namespace Go.Proofs.YtbgjjbffpckimaaDoor
set_option linter.all false
open Go.RowKit

theorem wp_scope_ghost {P : Program} {Q : Exit → Act → World → Prop} {a : Act} {w : World} {c rest : Code} (l : Nat) (I : Nat → Act → World → Prop) (hf : findLabel c l = some rest)
    (first : c.wp P (Exit.jump l (fun a' w' => ∃ n, I n a' w') Q) a w)
    (pass : ∀ n a w, I n a w → rest.wp P (Exit.jump l (fun a' w' => ∃ n', n' < n ∧ I n' a' w') Q) a w) : (Code.scope c).wp P Q a w := by
  refine wp_scope_jumps l (fun a w => ∃ n, I n a w) (fun a w => leastOf (fun n => I n a w)) hf first ?_
  intro a w hI
  refine wp_mono (pass _ a w (leastOf_spec hI).1) ?_
  intro e a' w' hq
  cases e with
  | goto l' =>
    obtain ⟨rfl, n', hlt, hI'⟩ := hq
    exact ⟨rfl, ⟨n', hI'⟩, Nat.lt_of_le_of_lt ((leastOf_spec ⟨n', hI'⟩).2 n' hI') hlt⟩
  | normal => exact hq
  | exit id => exact hq
  | ret => exact hq
  | panic ch => exact hq
  | outgrown => exact hq

theorem cut10_c (c : UInt8) (t : Bs) : cut10 (c :: t) = if c = 10 then t else c :: t := rfl
theorem brk_cons (s c : UInt8) (t : Bs) : brk s (c :: t) = if c = s ∧ (t.dropWhile (· == 61)).head? = some s then some (eqs t) else none := rfl
abbrev isEq (c : UInt8) : Bool := c == 61
theorem eqs_cons (c : UInt8) (t : Bs) : eqs (c :: t) = if c = 61 then eqs t + 1 else 0 := by
  unfold eqs
  by_cases h : c = 61
  · subst h; simp
  · simp [h]
theorem longB_eq (k : Nat) (t : Bs) : longB k (61 :: t) = (longB k t).map ([61] ++ ·) := by
  rw [longB, if_neg (by simp [brk]), if_neg (by rintro ⟨_, h, _⟩; exact absurd h (by decide))]
  rfl
theorem longB_eqs (k : Nat) (t : Bs) : longB k t = (longB k (t.dropWhile (· == 61))).map (List.replicate (eqs t) 61 ++ ·) := by
  induction t with
  | nil => exact (Rz.map_id' _).symm
  | cons c t ih =>
    by_cases h : c = 61
    · subst h
      rw [longB_eq, ih, Rz.map_map, eqs_cons, if_pos rfl]
      simp only [List.dropWhile_cons, beq_self_eq_true, if_true]
      congr 1
    · rw [eqs_cons, if_neg h]
      rw [List.dropWhile_cons, if_neg (by simpa using h)]
      exact (Rz.map_id' _).symm
theorem longB_nil (k : Nat) : longB k [] = .no 1 := rfl
theorem drop_eqs (t : Bs) : t.drop (eqs t) = t.dropWhile (· == 61) := by
  induction t with
  | nil => rfl
  | cons c t ih =>
    by_cases h : c = 61
    · subst h
      rw [eqs_cons, if_pos rfl]
      simpa using ih
    · rw [eqs_cons, if_neg h, List.dropWhile_cons, if_neg (by simpa using h)]
      rfl
theorem longB_end (k : Nat) (t u : Bs) (h1 : t.dropWhile (· == 61) = 93 :: u) (h2 : eqs t = k) : longB k (93 :: t) = .ok [] u := by
  have hb : brk 93 (93 :: t) = some k := by
    rw [brk_cons, if_pos ⟨rfl, by rw [h1]; rfl⟩, h2]
  rw [longB, if_pos hb, ← h2, ← List.drop_drop, drop_eqs, h1]
  rfl
theorem longB_go (k : Nat) (t : Bs) (h : ¬ (eqs t = k ∧ (t.dropWhile (· == 61)).head? = some 93)) : longB k (93 :: t) = (longB k (t.dropWhile (· == 61))).map ((93 :: List.replicate (eqs t) 61) ++ ·) := by
  have hb : ¬ brk 93 (93 :: t) = some k := by
    rw [brk_cons]
    intro hx
    split at hx
    · rename_i hc
      injection hx with hx
      exact h ⟨hx, hc.2⟩
    · cases hx
  rw [longB, if_neg hb, if_neg (by rintro ⟨_, h, _⟩; exact absurd h (by decide)), longB_eqs k t, Rz.map_map]
  rfl
theorem longB_chr (k : Nat) (c : UInt8) (t : Bs) (h : c ≠ 93) (hno : longB k (c :: t) ≠ .no 2) : longB k (c :: t) = (longB k t).map ([c] ++ ·) := by
  have hb : ¬ brk 93 (c :: t) = some k := by
    rw [brk_cons, if_neg (fun hx => h hx.1)]
    simp
  have h2 : ¬ (k = 0 ∧ c = 91 ∧ t.head? = some 91) := by
    intro hx
    apply hno
    rw [longB, if_neg hb, if_pos hx]
  rw [longB, if_neg hb, if_neg h2]
  rfl
theorem nl_drop_eq (t : Bs) : nl (t.dropWhile (· == 61)) = nl t := by
  induction t with
  | nil => rfl
  | cons c t ih =>
    by_cases h : c = 61
    · subst h
      rw [nl_cons, if_neg (by decide)]
      simp only [List.dropWhile_cons, beq_self_eq_true, if_true]
      omega
    · rw [List.dropWhile_cons, if_neg (by simpa using h)]
theorem repeat_eq (n : Nat) : Lib.repeatL [61] n = List.replicate n 61 := by
  induction n with
  | zero => rfl
  | succ n ih => rw [Lib.repeatL, ih]; rfl

def CsPost (w : World) (b : Bl) (r : Bs) (L : Int) (g : Nat) (l : Bs) (e : Ending) (w' : World) : Prop :=
  e = .returned (.tuple #[.int .i64 ((eqs r : Nat) : Int), .int .i64 (hd (r.dropWhile (· == 61)))]) ∧ Sb w' b (tl1 (r.dropWhile (· == 61))) (ln1 (r.dropWhile (· == 61)) L) g l ∧ Ch (Ub b g) w w'
def CsRel (w : World) (b : Bl) (r : Bs) (L : Int) (g : Nat) (l : Bs) (k : Nat) (v c : Value) (wr : World) : Prop :=
  ∃ (n : Nat) (r' : Bs), v = .int .i64 (hd r') ∧ c = .int .i64 (n : Int) ∧ Sb wr b (tl1 r') (ln1 r' L) g l ∧ n + eqs r' = eqs r ∧ r'.dropWhile (· == 61) = r.dropWhile (· == 61) ∧ NoCr r' ∧ Ch (Ub b g) w wr ∧ k = r'.length ∧ n + r'.length ≤ r.length
theorem CsRel.done {w wr : World} {b : Bl} {r r' : Bs} {L : Int} {g n : Nat} {l : Bs} (h : hdIs isEq r' = false) (hs : Sb wr b (tl1 r') (ln1 r' L) g l) (hn : n + eqs r' = eqs r) (hd' : r'.dropWhile (· == 61) = r.dropWhile (· == 61)) (hc : Ch (Ub b g) w wr) : CsPost w b r L g l (.returned (.tuple #[.int .i64 (n : Int), .int .i64 (hd r')])) wr := by
  have e : r'.dropWhile (· == 61) = r' := by
    cases r' with
    | nil => rfl
    | cons c t =>
      rw [List.dropWhile_cons, if_neg]
      have h : (c == 61) = false := h
      simpa using h
  have e0 : eqs r' = 0 := by
    cases r' with
    | nil => rfl
    | cons c t =>
      have h : (c == 61) = false := h
      rw [eqs_cons, if_neg (by simpa using h)]
  have e2 : r.dropWhile (· == 61) = r' := hd'.symm.trans e
  unfold CsPost
  rw [e2, ← hn, e0, Nat.add_zero]
  exact ⟨rfl, hs, hc⟩
theorem eq61 (r : Bs) : (hd r == 61) = hdIs isEq r := by
  cases r with
  | nil => rfl
  | cons c t =>
    rw [hd_c]
    show _ = (c == 61)
    rw [Bool.eq_iff_iff, beq_iff_eq, beq_iff_eq]
    constructor
    · intro e; exact UInt8.toNat_inj.1 (by show c.toNat = 61; omega)
    · rintro rfl; rfl

set_option maxRecDepth 100000 in
set_option maxHeartbeats 4000000 in
theorem countSep_calls {w : World} {b : Bl} {r : Bs} {L : Int} {g : Nat} {l : Bs} (HS0 : Hid (Sb w b (tl1 r) (ln1 r L) g l)) (h13 : NoCr r) (hlen : r.length < 100000) :
    Calls Tryd.prog 38 #[ptr b.Z, .int .i64 (hd r)] w (CsPost w b r L g l) := by
  have H13 := Lib.hid h13
  clear h13
  go_enter Tryd.func38, Tryd.ntmps38
  go_wp2_with fail
  go_loopg [1, 6] r.length (fun k v c wr => CsRel w b r L g l k v c wr)
  case atStart => exact ⟨0, r, rfl, rfl, HS0.out, by omega, rfl, H13.out, Ch.refl _ _, rfl, by omega⟩
  case round =>
    obtain ⟨n, r', rfl, rfl, hs, hn, hdr, hcr, hc, hk, hle⟩ := hrel
    have HS1 := Lib.hid hs
    have HN := Lib.hid hn
    have HD := Lib.hid hdr
    have HCR := Lib.hid hcr
    have HC1 := Lib.hid hc
    have HK := Lib.hid hk
    have hm := eq61 r'
    clear hs hn hdr hcr hc hk HS0
    cases hv : hdIs isEq r' with
    | false =>
      rw [hv] at hm
      have HV := Lib.hid hv
      clear hv
      go_wp2_with fail
      go_ret2
      exact CsRel.done HV.out HS1.out HN.out HD.out HC1.out
    | true =>
      rw [hv] at hm
      cases r' with
      | nil => simp [hdIs] at hv
      | cons c t =>
        have hc61 : c = 61 := by
          have : (c == 61) = true := hv
          simpa using this
        subst hc61
        have HKK := HK.out
        simp only [List.length_cons] at HKK hle
        have hs2 := HS1.out
        rw [show tl1 ((61 : UInt8) :: t) = t from rfl, ln1_of (c := 61) (t := t) rfl (by decide)] at hs2
        have HS2 := Lib.hid hs2
        clear hv hs2 HS1
        have hn1 : (n : Int) + 1 ≤ 100001 := by omega
        go_wp2_with fail
        refine (sb_next HS2 HCR.out.tail).mono ?_
        rintro e w3 ⟨rfl, hs, hc⟩
        have HS3 := Lib.hid hs
        have HC3 := Lib.hid (HC1.out.trans hc)
        clear hs hc HS2 HC1
        simp only []
        go_wp2_with fail
        go_roundg (gk - 1)
        case rel =>
          refine ⟨n + 1, t, rfl, by go_num, HS3.out, ?_, ?_, HCR.out.tail, HC3.out, by omega, by omega⟩
          · have := HN.out
            rw [eqs_cons, if_pos rfl] at this
            omega
          · rw [← HD.out]
            simp
        case measure => omega

theorem ch_below {w w' : World} (h : Below w.heap.size w w') : Ch (fun _ => False) w w' := ⟨h.os, h.tape, h.output, h.size, fun k hk _ => h.block k hk⟩

set_option maxRecDepth 100000 in
set_option maxHeartbeats 4000000 in
theorem sb_repeat {w : World} {b : Bl} {r : Bs} {L : Int} {g n : Nat} {l : Bs} (H : Hid (Sb w b r L g l)) (hn : n < 100000) :
    Calls Tryd.prog 41 #[.string ⟨#[61]⟩, .int .i64 (n : Int)] w fun e w' => e = .returned (.string ⟨(List.replicate n 61).toArray⟩) ∧ Sb w' b r L g l ∧ Ch (Ub b g) w w' := by
  refine (strings_Repeat ⟨#[61]⟩ n w (by omega) (by simp [ByteArray.size]; omega)).mono ?_
  rintro e w' ⟨rfl, hb⟩
  rw [show (⟨#[61]⟩ : ByteArray).data.toList = [61] from rfl, repeat_eq]
  exact ⟨rfl, H.out.moved (ch_below hb), (ch_below hb).mono fun _ _ h => h.elim⟩
theorem sb_wstr {w : World} {b : Bl} {r : Bs} {L : Int} {g : Nat} {l s : Bs} (H : Hid (Sb w b r L g l)) (hl : l.length + s.length < 100000) :
    Calls Tryd.prog 40 #[ptr g, .string ⟨s.toArray⟩] w fun e w' => e = .returned (.tuple #[.int .i64 ((s.length : Nat) : Int), .nilIface]) ∧ Sb w' b r L g (l ++ s) ∧ Ch (Ub b g) w w' := by
  have hsz : (⟨s.toArray⟩ : ByteArray).size = s.length := by simp [ByteArray.size]
  refine (Buffer_WriteString g g (Lib.byteCells l) ⟨s.toArray⟩ w H.out.bf (Nat.le_of_lt H.out.bf.lt) (Lib.byteCells_one _) (by rw [hsz, Lib.byteCells_length]; omega)).mono ?_
  rintro e w' ⟨rfl, h1, h2⟩
  rw [hsz]
  refine ⟨rfl, H.out.write h2 ?_⟩
  have e : Lib.byteCells (l ++ s) = Lib.byteCells l ++ Lib.byteCells (⟨s.toArray⟩ : ByteArray).data.toList := by simp [Lib.byteCells]
  rw [e]
  exact h1

/-- What comes of a long bracket. -/
def MlPost (X : Rz Bs) (C : Int) (w : World) (b : Bl) (g : Nat) (l : Bs) (e : Ending) (w' : World) : Prop :=
  match X with
  | .ok s r' => e = .returned .nilIface ∧ Sb w' b r' (C - nl r') g (l ++ s) ∧ Ch (Ub b g) w w'
  | .no _ => Erred w b g e w'
def MlEnd (X : Rz Bs) (C : Int) (w : World) (b : Bl) (g : Nat) (l : Bs) (w' : World) : Prop :=
  ∃ s r', X = .ok s r' ∧ Sb w' b r' (C - nl r') g (l ++ s) ∧ Ch (Ub b g) w w'
def MlRel (X : Rz Bs) (C : Int) (n : Nat) (w : World) (b : Bl) (g : Nat) (l : Bs) (N : Nat) (k : Nat) (v : Value) (wr : World) : Prop :=
  ∃ r1 L1 a, v = .int .i64 (hd r1) ∧ Sb wr b (tl1 r1) (ln1 r1 L1) g (l ++ a) ∧ X = (longB n r1).map (a ++ ·) ∧ (r1 = [] ∨ L1 + nl r1 = C) ∧ NoCr r1 ∧ Ch (Ub b g) w wr ∧ k = r1.length ∧ a.length + r1.length ≤ N

set_option maxRecDepth 100000 in
def MlJ (X : Rz Bs) (C : Int) (w : World) (b : Bl) (g : Nat) (l : Bs) (n : Nat) (a : Act) (w' : World) : Prop :=
  ∃ y0 y1 y2 y3 y4 y5 y6 y7 y8 y9 y10 y11 y12 y13 y14 y15 y16 y17 y18 y19 y20 y21 y22 y23 y24 y25 y26 y27 y28 y29 y30 y31 y32 y33 y34 y35 y36 y37 y38 y39 y40 y41 y42 y43 y44 y45 y46 y47 y48 y49 y50 y51 y52 y53 y54 y55 y56 y57 y58 y59 y60 y61 y62 y63 y64 y65 y66 : Value, a = { tmps := #[y0, y1, y2, y3, y4, y5, y6, y7, y8, y9, y10, y11, y12, y13, y14, y15, y16, y17, y18, y19, y20, y21, y22, y23, y24, y25, y26, y27, y28, y29, y30, y31, y32, y33, y34, y35, y36, y37, y38, y39, y40, y41, y42, y43, y44, y45, y46, y47, y48, y49, y50, y51, y52, y53, y54, y55, y56, y57, y58, y59, y60, y61, y62, y63, y64, y65, y66], defers := [] } ∧ MlEnd X C w b g l w'

set_option maxRecDepth 100000 in
set_option maxHeartbeats 4000000 in
theorem ml_calls {w : World} {b : Bl} {r0 r1 : Bs} {L C : Int} {g n : Nat} {l : Bs} (HS0 : Hid (Sb w b (tl1 r0) (ln1 r0 L) g l)) (hr : r0.dropWhile (· == 61) = 91 :: r1) (hn : eqs r0 = n) {X : Rz Bs} (hX : longB n (cut10 r1) = X) (hno : ∀ k, X = .no k → k = 1) (hC : L + nl r0 = C) (h13 : NoCr r0) (hl : l.length + r0.length + 5 < 100000) :
    Calls Tryd.prog 25 #[ptr b.Z, .int .i64 (hd r0), ptr g] w (MlPost X C w b g l) := by
  have H13 := Lib.hid h13
  have HNO := Lib.hid hno
  have HX := Lib.hid hX
  have HR := Lib.hid hr
  have hle : r1.length + 1 ≤ r0.length := by
    have := (List.dropWhile_sublist (l := r0) (fun c : UInt8 => c == 61)).length_le
    rw [hr] at this
    simpa using this
  have hcr1 : NoCr ((91 : UInt8) :: r1) := by rw [← hr]; exact h13.drop
  have HC1R := Lib.hid hcr1.tail
  have hnl : L + nl r1 = C := by
    have := nl_drop_eq r0
    rw [hr, nl_cons, if_neg (by decide)] at this
    omega
  have HNL := Lib.hid hnl
  have hnn : n ≤ r0.length := by rw [← hn]; unfold eqs; exact (List.takeWhile_sublist _).length_le
  clear h13 hno hX hr hcr1 hnl hC
  go_enter Tryd.func25, Tryd.ntmps25
  go_wp2_with fail
  refine wp_scope_ghost 0 (fun n a w' => MlJ X C w b g l n a w') (by rfl) ?_ ?_
  · go_wp2_with fail
    refine (countSep_calls HS0 H13.out (by omega)).mono ?_
    rintro e w1 ⟨rfl, hs, hc⟩
    rw [HR.out, show tl1 ((91 : UInt8) :: r1) = r1 from rfl, ln1_of (c := 91) (t := r1) rfl (by decide)] at hs
    have HS1 := Lib.hid hs
    have HC1 := Lib.hid hc
    have e91 : ((UInt8.toNat 91 : Nat) : Int) = 91 := rfl
    clear hs hc HS0
    rw [HR.out, hn]
    simp only [hd_c, e91]
    go_wp2_with fail
    refine (sb_next HS1 HC1R.out).mono ?_
    rintro e w2 ⟨rfl, hs, hc⟩
    have HS2 := Lib.hid hs
    have HC2 := Lib.hid (HC1.out.trans hc)
    clear hs hc HS1 HC1
    simp only []
    by_cases h10 : hdIs (· == 10) r1 = true
    · obtain ⟨t, rfl⟩ : ∃ t, r1 = 10 :: t := by
        cases r1 with
        | nil => simp [hdIs] at h10
        | cons c t =>
          have : c = 10 := by simpa [hdIs] using h10
          exact ⟨t, by rw [this]⟩
      clear h10
      have e10 : ((UInt8.toNat 10 : Nat) : Int) = 10 := rfl
      have hs2 := HS2.out
      rw [show tl1 ((10 : UInt8) :: t) = t from rfl, show ln1 ((10 : UInt8) :: t) L = L + 1 from rfl] at hs2
      have HS3 := Lib.hid hs2
      have hx := HX.out
      rw [show cut10 ((10 : UInt8) :: t) = t from rfl] at hx
      have HX3 := Lib.hid hx
      have hnl3 : L + 1 + nl t = C := by
        have := HNL.out
        rw [nl_cons, if_pos rfl] at this
        omega
      have HNL3 := Lib.hid hnl3
      have HT := Lib.hid HC1R.out.tail
      simp only [List.length_cons] at hle
      clear hs2 HS2 hx HX hnl3 HNL
      simp only [hd_c, e10]
      go_wp2_with fail
      refine (sb_next HS3 HT.out).mono ?_
      rintro e w4 ⟨rfl, hs, hc⟩
      have HS4 := Lib.hid hs
      have HC4 := Lib.hid (HC2.out.trans hc)
      clear hs hc HS3 HC2
      simp only []
      go_wp2_with fail
      go_loopg [1] t.length (fun k v wr => MlRel X C n w b g l t.length k v wr)
      case atStart => exact ⟨t, L + 1, [], rfl, by rw [List.append_nil]; exact HS4.out, by rw [HX3.out]; exact (Rz.map_id' _).symm, .inr HNL3.out, HT.out, HC4.out, rfl, by simp⟩
      case round =>
        clear HS4 HC4
        have hN : l.length + t.length + 5 < 100000 := by omega
        obtain ⟨rc, Lc, a, rfl, hs, hb, hL, hcr, hc, hk, hal⟩ := hrel
        have HSa := Lib.hid hs
        have HB := Lib.hid hb
        have HL := Lib.hid hL
        have HCR := Lib.hid hcr
        have HCa := Lib.hid hc
        have HK := Lib.hid hk
        have hno1 : ∀ j, longB n rc = .no j → j = 1 := map_no (f := (a ++ ·)) (by intro j hj; rw [← hb] at hj; exact HNO.out j hj)
        have HN1 := Lib.hid hno1
        have hla : (l ++ a).length < 99999 := by simp only [List.length_append]; omega
        clear hs hb hL hcr hc hk hno1
        cases rc with
        | nil =>
          simp only [hd_e]
          go_wp2_with fail
          refine (Buffer_String g g (l ++ a) _ HSa.out.bf).mono ?_
          rintro e w5 ⟨rfl, n5, rfl⟩
          have HS5 := Lib.hid (HSa.out.moved ((Ch.refl _ _).drewN n5))
          have HC5 := Lib.hid (HCa.out.drewN n5)
          simp only []
          go_wp2_with fail
          refine (err_calls (Lib.hid HS5.out.rd)).mono ?_
          rintro e w6 ⟨⟨p, rfl⟩, hc⟩
          have HS6 := Lib.hid (HS5.out.moved hc)
          have HC6 := Lib.hid (HC5.out.trans (hc.mono fun _ _ h => h.elim))
          clear hc HS5 HC5
          simp only []
          go_wp2_with fail
          go_ret
          have hx := HB.out
          rw [longB_nil] at hx
          rw [hx]
          exact ⟨p, _, _, _, rfl, HS6.out, HC6.out⟩
        | cons c t =>
          have g0 : decide ((c.toNat : Int) < 0) = false := by first | omega | (simp; done) | (simp; omega)
          by_cases c93 : c = 93
          · subst c93
            have e93 : ((UInt8.toNat 93 : Nat) : Int) = 93 := rfl
            have hsa := HSa.out
            rw [show tl1 ((93 : UInt8) :: t) = t from rfl, ln1_of (c := 93) (t := t) rfl (by decide)] at hsa
            have HS5 := Lib.hid hsa
            have hLt : Hid (Lc + nl t = C) := Lib.hid (by
              rcases HL.out with h | h
              · cases h
              · rw [nl_cons, if_neg (by decide)] at h; omega)
            have HCT := Lib.hid HCR.out.tail
            have hkk := HK.out
            simp only [List.length_cons] at hkk hal
            clear hsa HSa HL
            simp only [hd_c, e93] at g0 ⊢
            go_wp2_with fail
            refine (sb_next HS5 HCT.out).mono ?_
            rintro e w6 ⟨rfl, hs, hc⟩
            have HS6 := Lib.hid hs
            have HC6 := Lib.hid (HCa.out.trans hc)
            clear hs hc HS5 HCa
            simp only []
            go_wp2_with fail
            refine (countSep_calls HS6 HCT.out (by omega)).mono ?_
            rintro e w7 ⟨rfl, hs, hc⟩
            have HS7 := Lib.hid hs
            have HC7 := Lib.hid (HC6.out.trans hc)
            clear hs hc HS6 HC6
            by_cases hend : eqs t = n ∧ (t.dropWhile (· == 61)).head? = some 93
            · obtain ⟨hen, hhd⟩ := hend
              obtain ⟨u, hu⟩ : ∃ u, t.dropWhile (· == 61) = 93 :: u := by
                cases h : t.dropWhile (· == 61) with
                | nil => rw [h] at hhd; cases hhd
                | cons x u =>
                  rw [h] at hhd
                  injection hhd with hx
                  exact ⟨u, by rw [hx]⟩
              have HXE := Lib.hid (longB_end n t u hu hen)
              have HU := Lib.hid hu
              have hnu : nl u = nl t := by
                have := nl_drop_eq t
                rw [hu, nl_cons, if_neg (by decide)] at this
                omega
              have HNU := Lib.hid hnu
              clear hhd hnu
              rw [hu, hen]
              have geq : ((n : Int) == (n : Int)) = true := by simp
              simp only [hd_c, e93]
              clear hu
              go_wp2_with fail
              go_step3
              simp (config := { zetaDelta := true }) only [Exit.jump, Exit.inBlock, Exit.then]
              refine ⟨by trivial, 0, ?_⟩
              unfold MlJ
              refine ⟨_, _, _, _, _, _, _, _, _, _, _, _, _, _, _, _, _, _, _, _, _, _, _, _, _, _, _, _, _, _, _, _, _, _, _, _, _, _, _, _, _, _, _, _, _, _, _, _, _, _, _, _, _, _, _, _, _, _, _, _, _, _, _, _, _, _, _, rfl, a ++ [], u, ?_, ?_, HC7.out⟩
              · rw [HB.out, HXE.out]
                rfl
              · have h7 := HS7.out
                rw [HU.out, show tl1 ((93 : UInt8) :: u) = u from rfl, ln1_of (c := 93) (t := u) rfl (by decide)] at h7
                rw [List.append_nil, show C - nl u = Lc by have := hLt.out; have := HNU.out; omega]
                exact h7
            · have HXG := Lib.hid (longB_go n t hend)
              have hdl := (List.dropWhile_sublist (l := t) (fun c : UInt8 => c == 61)).length_le
              have hel : eqs t + (t.dropWhile (· == 61)).length = t.length := by
                have := congrArg List.length (List.takeWhile_append_dropWhile (p := fun c : UInt8 => c == 61) (l := t))
                rw [List.length_append] at this
                exact this
              have hnd := nl_drop_eq t
              have hcd : NoCr (t.dropWhile (· == 61)) := HCT.out.drop
              have hend2 : eqs t = n → (hd (t.dropWhile (· == 61)) == 93) = false := by
                intro he
                have : ¬ (t.dropWhile (· == 61)).head? = some 93 := fun h => hend ⟨he, h⟩
                cases h : t.dropWhile (· == 61) with
                | nil => rfl
                | cons x u =>
                  rw [h] at this
                  rw [hd_c]
                  simp
                  intro e
                  exact this (by rw [show x = 93 from UInt8.toNat_inj.1 (by show x.toNat = 93; omega)]; rfl)
              generalize hg : t.dropWhile (· == 61) = rd at HS7 HXG hel hnd hcd hend2 hdl ⊢
              generalize hge : eqs t = m at HXG hel hend2 hend ⊢
              have HND := Lib.hid hnd
              have HCD := Lib.hid hcd
              clear hg hge hnd hcd hend
              have hmm : m < 100000 := by omega
              by_cases hmn : m = n
              · have g93 := hend2 hmn
                subst hmn
                have geq : ((m : Int) == (m : Int)) = true := by simp
                clear hend2
                simp only []
                go_wp2_with fail
                refine (sb_byte (c := 93) HS7 (by omega)).mono ?_
                rintro e w8 ⟨rfl, hs, hc⟩
                have HS8 := Lib.hid hs
                have HC8 := Lib.hid (HC7.out.trans hc)
                clear hs hc HS7 HC7
                simp only []
                go_wp2_with fail
                refine (sb_repeat HS8 hmm).mono ?_
                rintro e w9 ⟨rfl, hs, hc⟩
                have HS9 := Lib.hid hs
                have HC9 := Lib.hid (HC8.out.trans hc)
                clear hs hc HS8 HC8
                simp only []
                go_wp2_with fail
                refine (sb_wstr HS9 (by simp only [List.length_append, List.length_cons, List.length_nil, List.length_replicate] at hla ⊢; omega)).mono ?_
                rintro e w10 ⟨rfl, hs, hc⟩
                have HS10 := Lib.hid hs
                have HC10 := Lib.hid (HC9.out.trans hc)
                clear hs hc HS9 HC9
                simp only []
                go_wp2_with fail
                go_roundg rd.length
                case rel =>
                  refine ⟨rd, Lc, a ++ (93 :: List.replicate m 61), rfl, by rw [show l ++ (a ++ 93 :: List.replicate m 61) = l ++ a ++ [93] ++ List.replicate m 61 by simp]; exact HS10.out, ?_, .inr (by rw [HND.out]; exact hLt.out), HCD.out, HC10.out, rfl, by simp only [List.length_append, List.length_cons, List.length_replicate]; omega⟩
                  rw [HB.out, HXG.out, Rz.map_map]
                  congr 1
                  funext x
                  simp
                case measure => omega
              · have geq : ((n : Int) == (m : Int)) = false := by simp; omega
                clear hend2
                simp only []
                go_wp2_with fail
                refine (sb_byte (c := 93) HS7 (by omega)).mono ?_
                rintro e w8 ⟨rfl, hs, hc⟩
                have HS8 := Lib.hid hs
                have HC8 := Lib.hid (HC7.out.trans hc)
                clear hs hc HS7 HC7
                simp only []
                go_wp2_with fail
                refine (sb_repeat HS8 hmm).mono ?_
                rintro e w9 ⟨rfl, hs, hc⟩
                have HS9 := Lib.hid hs
                have HC9 := Lib.hid (HC8.out.trans hc)
                clear hs hc HS8 HC8
                simp only []
                go_wp2_with fail
                refine (sb_wstr HS9 (by simp only [List.length_append, List.length_cons, List.length_nil, List.length_replicate] at hla ⊢; omega)).mono ?_
                rintro e w10 ⟨rfl, hs, hc⟩
                have HS10 := Lib.hid hs
                have HC10 := Lib.hid (HC9.out.trans hc)
                clear hs hc HS9 HC9
                simp only []
                go_wp2_with fail
                go_roundg rd.length
                case rel =>
                  refine ⟨rd, Lc, a ++ (93 :: List.replicate m 61), rfl, by rw [show l ++ (a ++ 93 :: List.replicate m 61) = l ++ a ++ [93] ++ List.replicate m 61 by simp]; exact HS10.out, ?_, .inr (by rw [HND.out]; exact hLt.out), HCD.out, HC10.out, rfl, by simp only [List.length_append, List.length_cons, List.length_replicate]; omega⟩
                  rw [HB.out, HXG.out, Rz.map_map]
                  congr 1
                  funext x
                  simp
                case measure => omega
          · have hns : longB n (c :: t) ≠ .no 2 := fun h => by have := HN1.out 2 h; omega
            have HXC := Lib.hid (longB_chr n c t c93 hns)
            have g93 : ((c.toNat : Int) == 93) = false := by
              simp
              intro e
              exact c93 (UInt8.toNat_inj.1 (by show c.toNat = 93; omega))
            have hkk := HK.out
            have HCT := Lib.hid HCR.out.tail
            simp only [List.length_cons] at hkk hal
            have hsa := HSa.out
            rw [show tl1 (c :: t) = t from rfl] at hsa
            have HS5 := Lib.hid hsa
            clear hsa HSa hns c93
            simp only [hd_c]
            go_wp2_with fail
            refine (sb_write HS5 (by omega)).mono ?_
            rintro e w6 ⟨rfl, hs, hc⟩
            have HS6 := Lib.hid hs
            have HC6 := Lib.hid (HCa.out.trans hc)
            clear hs hc HS5 HCa
            simp only []
            go_wp2_with fail
            refine (sb_next HS6 HCT.out).mono ?_
            rintro e w7 ⟨rfl, hs, hc⟩
            have HS7 := Lib.hid hs
            have HC7 := Lib.hid (HC6.out.trans hc)
            clear hs hc HS6 HC6
            simp only []
            go_wp2_with fail
            go_roundg t.length
            case rel =>
              refine ⟨t, ln1 (c :: t) Lc, a ++ [c], rfl, by rw [← List.append_assoc]; exact HS7.out, ?_, ?_, HCT.out, HC7.out, rfl, by simp only [List.length_append, List.length_cons, List.length_nil]; omega⟩
              · rw [HB.out, HXC.out, Rz.map_map]
                congr 1
                funext x
                simp
              · rcases HL.out with h | h
                · cases h
                · exact .inr (by rw [← h]; exact ln1_nl (c :: t) Lc (by simp))
            case measure => omega
    · have h10f : hdIs (· == 10) r1 = false := by simpa using h10
      have g10 : (hd r1 == 10) = false := by
        rw [← h10f]
        cases r1 with
        | nil => rfl
        | cons c t =>
          rw [hd_c]
          show _ = (c == 10)
          rw [Bool.eq_iff_iff, beq_iff_eq, beq_iff_eq]
          constructor
          · intro e; exact UInt8.toNat_inj.1 (by show c.toNat = 10; omega)
          · rintro rfl; rfl
      have g13 : (hd r1 == 13) = false := by have := HC1R.out.hd; simpa using this
      have hcut : cut10 r1 = r1 := by
        cases r1 with
        | nil => rfl
        | cons c t =>
          have : (c == 10) = false := h10f
          rw [cut10_c, if_neg (by simpa using this)]
      have hx := HX.out
      rw [hcut] at hx
      have HX3 := Lib.hid hx
      clear h10 h10f hcut hx HX
      go_wp2_with fail
      go_loopg [1] r1.length (fun k v wr => MlRel X C n w b g l r1.length k v wr)
      case atStart => exact ⟨r1, L, [], rfl, by rw [List.append_nil]; exact HS2.out, by rw [HX3.out]; exact (Rz.map_id' _).symm, .inr HNL.out, HC1R.out, HC2.out, rfl, by simp⟩
      case round =>
        clear HS2 HC2
        have hN : l.length + r1.length + 5 < 100000 := by omega
        clear g10 g13
        obtain ⟨rc, Lc, a, rfl, hs, hb, hL, hcr, hc, hk, hal⟩ := hrel
        have HSa := Lib.hid hs
        have HB := Lib.hid hb
        have HL := Lib.hid hL
        have HCR := Lib.hid hcr
        have HCa := Lib.hid hc
        have HK := Lib.hid hk
        have hno1 : ∀ j, longB n rc = .no j → j = 1 := map_no (f := (a ++ ·)) (by intro j hj; rw [← hb] at hj; exact HNO.out j hj)
        have HN1 := Lib.hid hno1
        have hla : (l ++ a).length < 99999 := by simp only [List.length_append]; omega
        clear hs hb hL hcr hc hk hno1
        cases rc with
        | nil =>
          simp only [hd_e]
          go_wp2_with fail
          refine (Buffer_String g g (l ++ a) _ HSa.out.bf).mono ?_
          rintro e w5 ⟨rfl, n5, rfl⟩
          have HS5 := Lib.hid (HSa.out.moved ((Ch.refl _ _).drewN n5))
          have HC5 := Lib.hid (HCa.out.drewN n5)
          simp only []
          go_wp2_with fail
          refine (err_calls (Lib.hid HS5.out.rd)).mono ?_
          rintro e w6 ⟨⟨p, rfl⟩, hc⟩
          have HS6 := Lib.hid (HS5.out.moved hc)
          have HC6 := Lib.hid (HC5.out.trans (hc.mono fun _ _ h => h.elim))
          clear hc HS5 HC5
          simp only []
          go_wp2_with fail
          go_ret
          have hx := HB.out
          rw [longB_nil] at hx
          rw [hx]
          exact ⟨p, _, _, _, rfl, HS6.out, HC6.out⟩
        | cons c t =>
          have g0 : decide ((c.toNat : Int) < 0) = false := by first | omega | (simp; done) | (simp; omega)
          by_cases c93 : c = 93
          · subst c93
            have e93 : ((UInt8.toNat 93 : Nat) : Int) = 93 := rfl
            have hsa := HSa.out
            rw [show tl1 ((93 : UInt8) :: t) = t from rfl, ln1_of (c := 93) (t := t) rfl (by decide)] at hsa
            have HS5 := Lib.hid hsa
            have hLt : Hid (Lc + nl t = C) := Lib.hid (by
              rcases HL.out with h | h
              · cases h
              · rw [nl_cons, if_neg (by decide)] at h; omega)
            have HCT := Lib.hid HCR.out.tail
            have hkk := HK.out
            simp only [List.length_cons] at hkk hal
            clear hsa HSa HL
            simp only [hd_c, e93] at g0 ⊢
            go_wp2_with fail
            refine (sb_next HS5 HCT.out).mono ?_
            rintro e w6 ⟨rfl, hs, hc⟩
            have HS6 := Lib.hid hs
            have HC6 := Lib.hid (HCa.out.trans hc)
            clear hs hc HS5 HCa
            simp only []
            go_wp2_with fail
            refine (countSep_calls HS6 HCT.out (by omega)).mono ?_
            rintro e w7 ⟨rfl, hs, hc⟩
            have HS7 := Lib.hid hs
            have HC7 := Lib.hid (HC6.out.trans hc)
            clear hs hc HS6 HC6
            by_cases hend : eqs t = n ∧ (t.dropWhile (· == 61)).head? = some 93
            · obtain ⟨hen, hhd⟩ := hend
              obtain ⟨u, hu⟩ : ∃ u, t.dropWhile (· == 61) = 93 :: u := by
                cases h : t.dropWhile (· == 61) with
                | nil => rw [h] at hhd; cases hhd
                | cons x u =>
                  rw [h] at hhd
                  injection hhd with hx
                  exact ⟨u, by rw [hx]⟩
              have HXE := Lib.hid (longB_end n t u hu hen)
              have HU := Lib.hid hu
              have hnu : nl u = nl t := by
                have := nl_drop_eq t
                rw [hu, nl_cons, if_neg (by decide)] at this
                omega
              have HNU := Lib.hid hnu
              clear hhd hnu
              rw [hu, hen]
              have geq : ((n : Int) == (n : Int)) = true := by simp
              simp only [hd_c, e93]
              clear hu
              go_wp2_with fail
              go_step3
              simp (config := { zetaDelta := true }) only [Exit.jump, Exit.inBlock, Exit.then]
              refine ⟨by trivial, 0, ?_⟩
              unfold MlJ
              refine ⟨_, _, _, _, _, _, _, _, _, _, _, _, _, _, _, _, _, _, _, _, _, _, _, _, _, _, _, _, _, _, _, _, _, _, _, _, _, _, _, _, _, _, _, _, _, _, _, _, _, _, _, _, _, _, _, _, _, _, _, _, _, _, _, _, _, _, _, rfl, a ++ [], u, ?_, ?_, HC7.out⟩
              · rw [HB.out, HXE.out]
                rfl
              · have h7 := HS7.out
                rw [HU.out, show tl1 ((93 : UInt8) :: u) = u from rfl, ln1_of (c := 93) (t := u) rfl (by decide)] at h7
                rw [List.append_nil, show C - nl u = Lc by have := hLt.out; have := HNU.out; omega]
                exact h7
            · have HXG := Lib.hid (longB_go n t hend)
              have hdl := (List.dropWhile_sublist (l := t) (fun c : UInt8 => c == 61)).length_le
              have hel : eqs t + (t.dropWhile (· == 61)).length = t.length := by
                have := congrArg List.length (List.takeWhile_append_dropWhile (p := fun c : UInt8 => c == 61) (l := t))
                rw [List.length_append] at this
                exact this
              have hnd := nl_drop_eq t
              have hcd : NoCr (t.dropWhile (· == 61)) := HCT.out.drop
              have hend2 : eqs t = n → (hd (t.dropWhile (· == 61)) == 93) = false := by
                intro he
                have : ¬ (t.dropWhile (· == 61)).head? = some 93 := fun h => hend ⟨he, h⟩
                cases h : t.dropWhile (· == 61) with
                | nil => rfl
                | cons x u =>
                  rw [h] at this
                  rw [hd_c]
                  simp
                  intro e
                  exact this (by rw [show x = 93 from UInt8.toNat_inj.1 (by show x.toNat = 93; omega)]; rfl)
              generalize hg : t.dropWhile (· == 61) = rd at HS7 HXG hel hnd hcd hend2 hdl ⊢
              generalize hge : eqs t = m at HXG hel hend2 hend ⊢
              have HND := Lib.hid hnd
              have HCD := Lib.hid hcd
              clear hg hge hnd hcd hend
              have hmm : m < 100000 := by omega
              by_cases hmn : m = n
              · have g93 := hend2 hmn
                subst hmn
                have geq : ((m : Int) == (m : Int)) = true := by simp
                clear hend2
                simp only []
                go_wp2_with fail
                refine (sb_byte (c := 93) HS7 (by omega)).mono ?_
                rintro e w8 ⟨rfl, hs, hc⟩
                have HS8 := Lib.hid hs
                have HC8 := Lib.hid (HC7.out.trans hc)
                clear hs hc HS7 HC7
                simp only []
                go_wp2_with fail
                refine (sb_repeat HS8 hmm).mono ?_
                rintro e w9 ⟨rfl, hs, hc⟩
                have HS9 := Lib.hid hs
                have HC9 := Lib.hid (HC8.out.trans hc)
                clear hs hc HS8 HC8
                simp only []
                go_wp2_with fail
                refine (sb_wstr HS9 (by simp only [List.length_append, List.length_cons, List.length_nil, List.length_replicate] at hla ⊢; omega)).mono ?_
                rintro e w10 ⟨rfl, hs, hc⟩
                have HS10 := Lib.hid hs
                have HC10 := Lib.hid (HC9.out.trans hc)
                clear hs hc HS9 HC9
                simp only []
                go_wp2_with fail
                go_roundg rd.length
                case rel =>
                  refine ⟨rd, Lc, a ++ (93 :: List.replicate m 61), rfl, by rw [show l ++ (a ++ 93 :: List.replicate m 61) = l ++ a ++ [93] ++ List.replicate m 61 by simp]; exact HS10.out, ?_, .inr (by rw [HND.out]; exact hLt.out), HCD.out, HC10.out, rfl, by simp only [List.length_append, List.length_cons, List.length_replicate]; omega⟩
                  rw [HB.out, HXG.out, Rz.map_map]
                  congr 1
                  funext x
                  simp
                case measure => omega
              · have geq : ((n : Int) == (m : Int)) = false := by simp; omega
                clear hend2
                simp only []
                go_wp2_with fail
                refine (sb_byte (c := 93) HS7 (by omega)).mono ?_
                rintro e w8 ⟨rfl, hs, hc⟩
                have HS8 := Lib.hid hs
                have HC8 := Lib.hid (HC7.out.trans hc)
                clear hs hc HS7 HC7
                simp only []
                go_wp2_with fail
                refine (sb_repeat HS8 hmm).mono ?_
                rintro e w9 ⟨rfl, hs, hc⟩
                have HS9 := Lib.hid hs
                have HC9 := Lib.hid (HC8.out.trans hc)
                clear hs hc HS8 HC8
                simp only []
                go_wp2_with fail
                refine (sb_wstr HS9 (by simp only [List.length_append, List.length_cons, List.length_nil, List.length_replicate] at hla ⊢; omega)).mono ?_
                rintro e w10 ⟨rfl, hs, hc⟩
                have HS10 := Lib.hid hs
                have HC10 := Lib.hid (HC9.out.trans hc)
                clear hs hc HS9 HC9
                simp only []
                go_wp2_with fail
                go_roundg rd.length
                case rel =>
                  refine ⟨rd, Lc, a ++ (93 :: List.replicate m 61), rfl, by rw [show l ++ (a ++ 93 :: List.replicate m 61) = l ++ a ++ [93] ++ List.replicate m 61 by simp]; exact HS10.out, ?_, .inr (by rw [HND.out]; exact hLt.out), HCD.out, HC10.out, rfl, by simp only [List.length_append, List.length_cons, List.length_replicate]; omega⟩
                  rw [HB.out, HXG.out, Rz.map_map]
                  congr 1
                  funext x
                  simp
                case measure => omega
          · have hns : longB n (c :: t) ≠ .no 2 := fun h => by have := HN1.out 2 h; omega
            have HXC := Lib.hid (longB_chr n c t c93 hns)
            have g93 : ((c.toNat : Int) == 93) = false := by
              simp
              intro e
              exact c93 (UInt8.toNat_inj.1 (by show c.toNat = 93; omega))
            have hkk := HK.out
            have HCT := Lib.hid HCR.out.tail
            simp only [List.length_cons] at hkk hal
            have hsa := HSa.out
            rw [show tl1 (c :: t) = t from rfl] at hsa
            have HS5 := Lib.hid hsa
            clear hsa HSa hns c93
            simp only [hd_c]
            go_wp2_with fail
            refine (sb_write HS5 (by omega)).mono ?_
            rintro e w6 ⟨rfl, hs, hc⟩
            have HS6 := Lib.hid hs
            have HC6 := Lib.hid (HCa.out.trans hc)
            clear hs hc HS5 HCa
            simp only []
            go_wp2_with fail
            refine (sb_next HS6 HCT.out).mono ?_
            rintro e w7 ⟨rfl, hs, hc⟩
            have HS7 := Lib.hid hs
            have HC7 := Lib.hid (HC6.out.trans hc)
            clear hs hc HS6 HC6
            simp only []
            go_wp2_with fail
            go_roundg t.length
            case rel =>
              refine ⟨t, ln1 (c :: t) Lc, a ++ [c], rfl, by rw [← List.append_assoc]; exact HS7.out, ?_, ?_, HCT.out, HC7.out, rfl, by simp only [List.length_append, List.length_cons, List.length_nil]; omega⟩
              · rw [HB.out, HXC.out, Rz.map_map]
                congr 1
                funext x
                simp
              · rcases HL.out with h | h
                · cases h
                · exact .inr (by rw [← h]; exact ln1_nl (c :: t) Lc (by simp))
            case measure => omega
  · rintro m a w' hJ
    obtain ⟨y0, y1, y2, y3, y4, y5, y6, y7, y8, y9, y10, y11, y12, y13, y14, y15, y16, y17, y18, y19, y20, y21, y22, y23, y24, y25, y26, y27, y28, y29, y30, y31, y32, y33, y34, y35, y36, y37, y38, y39, y40, y41, y42, y43, y44, y45, y46, y47, y48, y49, y50, y51, y52, y53, y54, y55, y56, y57, y58, y59, y60, y61, y62, y63, y64, y65, y66, rfl, s, r', rfl, hs, hc⟩ := hJ
    have HS := Lib.hid hs
    have HC := Lib.hid hc
    clear hs hc
    go_wp2_with fail
    go_ret
    exact ⟨rfl, HS.out, HC.out⟩

end Go.Proofs.YtbgjjbffpckimaaDoor
