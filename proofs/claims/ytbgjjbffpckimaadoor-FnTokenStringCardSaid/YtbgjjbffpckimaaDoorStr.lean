/-
  Scanner.Error, scanString: a string in quotes goes into the buffer.
-/
import Derived.Test.YtbgjjbffpckimaaDoorEsn
namespace Go.Proofs.YtbgjjbffpckimaaDoor
set_option linter.all false
open Go.RowKit

theorem hd_c (c : UInt8) (t : Bs) : hd (c :: t) = (c.toNat : Int) := rfl
theorem hd_e : hd [] = -1 := rfl
theorem strB_nil (q : UInt8) : strB q [] = .no 1 := by rw [strB]
theorem strB_10 (q : UInt8) (t : Bs) : strB q (10 :: t) = .no 1 := by rw [strB.eq_def]; simp only []; rw [if_pos trivial]
theorem strB_q (q : UInt8) (t : Bs) (h : q ≠ 10) : strB q (q :: t) = .ok [] t := by rw [strB.eq_def]; simp only []; rw [if_neg h, if_pos trivial]
theorem strB_bs (q : UInt8) (h : q ≠ 92) : strB q [92] = .no 1 := by rw [strB.eq_def]; simp only []; rw [if_neg (by decide), if_neg (fun e => h e.symm), if_pos trivial]
theorem strB_dig (q d : UInt8) (u : Bs) (h : q ≠ 92) (hdd : isDec d = true) : strB q (92 :: d :: u) = if (dig3 3 0 (d :: u)).1 ≤ 255 then (strB q (dig3 3 0 (d :: u)).2).map (UInt8.ofNat (dig3 3 0 (d :: u)).1 :: ·) else .no 2 := by
  rw [strB.eq_def]; simp only []; rw [if_neg (by decide), if_neg (fun e => h e.symm), if_pos trivial]; simp only [hdd, dif_pos]
theorem strB_esc (q d b : UInt8) (u : Bs) (h : q ≠ 92) (hdd : isDec d = false) (hb : esc d = some b) : strB q (92 :: d :: u) = (strB q u).map (b :: ·) := by
  rw [strB.eq_def]; simp only []; rw [if_neg (by decide), if_neg (fun e => h e.symm), if_pos trivial]; rw [dif_neg (by simp [hdd])]; simp only [hb]
theorem strB_none (q d : UInt8) (u : Bs) (h : q ≠ 92) (hdd : isDec d = false) (hb : esc d = none) : strB q (92 :: d :: u) = .no 2 := by
  rw [strB.eq_def]; simp only []; rw [if_neg (by decide), if_neg (fun e => h e.symm), if_pos trivial]; rw [dif_neg (by simp [hdd])]; simp only [hb]
theorem strB_chr (q c : UInt8) (t : Bs) (h1 : c ≠ 10) (h2 : c ≠ q) (h3 : c ≠ 92) : strB q (c :: t) = (strB q t).map (c :: ·) := by
  rw [strB.eq_def]; simp only []; rw [if_neg h1, if_neg h2, if_neg h3]
theorem Rz.map_map {α β γ : Type} (f : α → β) (g : β → γ) (x : Rz α) : (x.map f).map g = x.map (fun a => g (f a)) := by cases x <;> rfl
theorem Rz.map_id' (x : Rz Bs) : x.map (fun a => [] ++ a) = x := by cases x <;> rfl
theorem esc_cases {d v : UInt8} (h : esc d = some v) : (d = 97 ∧ v = 7) ∨ (d = 98 ∧ v = 8) ∨ (d = 102 ∧ v = 12) ∨ (d = 110 ∧ v = 10) ∨ (d = 10 ∧ v = 10) ∨ (d = 114 ∧ v = 13) ∨ (d = 116 ∧ v = 9) ∨ (d = 118 ∧ v = 11) ∨ (d = 92 ∧ v = 92) ∨ (d = 34 ∧ v = 34) ∨ (d = 39 ∧ v = 39) := by
  unfold esc at h
  by_cases h97 : d = 97
  · subst h97
    rw [if_pos rfl] at h
    injection h with h
    subst h
    simp
  by_cases h98 : d = 98
  · subst h98
    rw [if_neg (by decide), if_pos rfl] at h
    injection h with h
    subst h
    simp
  by_cases h102 : d = 102
  · subst h102
    rw [if_neg (by decide), if_neg (by decide), if_pos rfl] at h
    injection h with h
    subst h
    simp
  by_cases h110 : d = 110
  · subst h110
    rw [if_neg (by decide), if_neg (by decide), if_neg (by decide), if_pos rfl] at h
    injection h with h
    subst h
    simp
  by_cases h10 : d = 10
  · subst h10
    rw [if_neg (by decide), if_neg (by decide), if_neg (by decide), if_neg (by decide), if_pos rfl] at h
    injection h with h
    subst h
    simp
  by_cases h114 : d = 114
  · subst h114
    rw [if_neg (by decide), if_neg (by decide), if_neg (by decide), if_neg (by decide), if_neg (by decide), if_pos rfl] at h
    injection h with h
    subst h
    simp
  by_cases h116 : d = 116
  · subst h116
    rw [if_neg (by decide), if_neg (by decide), if_neg (by decide), if_neg (by decide), if_neg (by decide), if_neg (by decide), if_pos rfl] at h
    injection h with h
    subst h
    simp
  by_cases h118 : d = 118
  · subst h118
    rw [if_neg (by decide), if_neg (by decide), if_neg (by decide), if_neg (by decide), if_neg (by decide), if_neg (by decide), if_neg (by decide), if_pos rfl] at h
    injection h with h
    subst h
    simp
  rw [if_neg h97, if_neg h98, if_neg h102, if_neg h110, if_neg h10, if_neg h114, if_neg h116, if_neg h118] at h
  by_cases hx : d = 92 ∨ d = 34 ∨ d = 39
  · rw [if_pos hx] at h
    injection h with h
    subst h
    rcases hx with rfl | rfl | rfl <;> simp
  · rw [if_neg hx] at h
    cases h

set_option maxRecDepth 100000 in
set_option maxHeartbeats 4000000 in
theorem err_calls {w : World} {b : Bl} {r : Bs} {L : Int} {s1 s2 : ByteArray} (H : Hid (Rd w b r L)) :
    Calls Tryd.prog 26 #[ptr b.Z, .string s1, .string s2] w fun e w' => (∃ p, e = .returned (ptr p)) ∧ Ch (fun _ => False) w w' := by
  obtain ⟨v0, e0⟩ := H.out.z0
  obtain ⟨v2, e2⟩ := H.out.z2
  have e1 := H.out.ln
  go_enter Tryd.func26, Tryd.ntmps26
  go_wp2_with fail
  go_ret
  exact ⟨⟨_, rfl⟩, (Ch.refl _ _).alloc _⟩

def Erred (w : World) (b : Bl) (g : Nat) (e : Ending) (w' : World) : Prop :=
  ∃ p r' L' l', e = .returned (.iface 72 (ptr p)) ∧ Sb w' b r' L' g l' ∧ Ch (Ub b g) w w'
def StrPost (x : Rz Bs) (w : World) (b : Bl) (r : Bs) (L : Int) (g : Nat) (l : Bs) (e : Ending) (w' : World) : Prop :=
  match x with
  | .ok s r' => e = .returned .nilIface ∧ Sb w' b r' (L + nl r - nl r') g (l ++ s) ∧ Ch (Ub b g) w w'
  | .no _ => Erred w b g e w'
def StrRel (X : Rz Bs) (q : UInt8) (w : World) (b : Bl) (r : Bs) (L : Int) (g : Nat) (l : Bs) (k : Nat) (v : Value) (wr : World) : Prop :=
  ∃ r1 L1 a, v = .int .i64 (hd r1) ∧ Sb wr b (tl1 r1) (ln1 r1 L1) g (l ++ a) ∧ X = (strB q r1).map (a ++ ·) ∧ (r1 = [] ∨ L1 + nl r1 = L + nl r) ∧ NoCr r1 ∧ Ch (Ub b g) w wr ∧ k = r1.length ∧ a.length + r1.length ≤ r.length + 1
theorem map_no {α β : Type} {f : α → β} {x : Rz α} {k : Nat} (h : ∀ j, x.map f = .no j → j = k) : ∀ j, x = .no j → j = k := by
  rintro j rfl
  exact h j rfl
theorem dig3_le (d : UInt8) (u : Bs) (hd : isDec d = true) : (dig3 3 0 (d :: u)).2.length ≤ u.length := dig3_lt 0 d u hd
theorem dig3_suffix : ∀ (k v : Nat) (r : Bs), ∃ a, r = a ++ (dig3 k v r).2 ∧ (∀ c ∈ a, isDec c = true)
  | 0, v, r => ⟨[], rfl, by simp⟩
  | k + 1, v, [] => ⟨[], rfl, by simp⟩
  | k + 1, v, c :: t => by
    unfold dig3
    by_cases hc : isDec c = true
    · rw [if_pos hc]
      obtain ⟨a, ha, hb⟩ := dig3_suffix k (10 * v + (c.toNat - 48)) t
      refine ⟨c :: a, ?_, ?_⟩
      · rw [List.cons_append, ← ha]
      · intro x hx
        rcases List.mem_cons.1 hx with rfl | h
        · exact hc
        · exact hb x h
    · rw [if_neg hc]
      exact ⟨[], rfl, by simp⟩
theorem nl_app (a r : Bs) : nl (a ++ r) = nl a + nl r := by simp [nl]
theorem nl_dec {a : Bs} (h : ∀ c ∈ a, isDec c = true) : nl a = 0 := by
  induction a with
  | nil => rfl
  | cons c t ih =>
    rw [nl_cons, ih fun x hx => h x (by simp [hx]), if_neg]
    · rfl
    · rintro rfl
      exact absurd (h 10 (by simp)) (by decide)

theorem esc_any {w : World} {b : Bl} {d v : UInt8} {u : Bs} {L c : Int} {g : Nat} {l : Bs} (HS0 : Hid (Sb w b (d :: u) L g l)) (he : esc d = some v) (h13 : NoCr (d :: u)) (hl : l.length < 100000) :
    Calls Tryd.prog 37 #[ptr b.Z, .int .i64 c, ptr g] w (EscPost w b (ln1 (d :: u) L) g (l ++ [v]) u) := by
  rcases esc_cases he with ⟨rfl, rfl⟩ | ⟨rfl, rfl⟩ | ⟨rfl, rfl⟩ | ⟨rfl, rfl⟩ | ⟨rfl, rfl⟩ | ⟨rfl, rfl⟩ | ⟨rfl, rfl⟩ | ⟨rfl, rfl⟩ | ⟨rfl, rfl⟩ | ⟨rfl, rfl⟩ | ⟨rfl, rfl⟩
  · exact esc_97 HS0 h13 hl
  · exact esc_98 HS0 h13 hl
  · exact esc_102 HS0 h13 hl
  · exact esc_110 HS0 h13 hl
  · exact esc_10 HS0 h13 hl
  · exact esc_114 HS0 h13 hl
  · exact esc_116 HS0 h13 hl
  · exact esc_118 HS0 h13 hl
  · exact esc_92 HS0 h13 hl
  · exact esc_34 HS0 h13 hl
  · exact esc_39 HS0 h13 hl

set_option maxRecDepth 100000 in
set_option maxHeartbeats 4000000 in
theorem scanString_calls {w : World} {b : Bl} {q : UInt8} {r : Bs} {L : Int} {g : Nat} {l : Bs} (HS0 : Hid (Sb w b r L g l)) (hq : q = 34 ∨ q = 39) {X : Rz Bs} (hX : strB q r = X) (hno : ∀ k, X = .no k → k = 1) (h13 : NoCr r) (hl : l.length + r.length + 5 < 100000) :
    Calls Tryd.prog 24 #[ptr b.Z, .int .i64 (q.toNat : Int), ptr g] w (StrPost X w b r L g l) := by
  have HX0 := Lib.hid hX
  clear hX
  have H13 := Lib.hid h13
  have HNO := Lib.hid hno
  have q10 : q ≠ 10 := by rcases hq with rfl | rfl <;> decide
  have q92 : q ≠ 92 := by rcases hq with rfl | rfl <;> decide
  have qlo : 34 ≤ q.toNat := by rcases hq with rfl | rfl <;> decide
  clear h13 hno hq
  go_enter Tryd.func24, Tryd.ntmps24
  go_wp2_with fail
  refine (sb_next HS0 H13.out).mono ?_
  rintro e w1 ⟨rfl, hs, hc⟩
  have HS1 := Lib.hid hs
  have HC1 := Lib.hid hc
  clear hs hc
  simp only []
  go_wp2_with fail
  go_loopg [7] r.length (fun k v wr => StrRel X q w b r L g l k v wr)
  case atStart => exact ⟨r, L, [], rfl, by rw [List.append_nil]; exact HS1.out, by rw [HX0.out]; exact (Rz.map_id' _).symm, .inr rfl, H13.out, HC1.out, rfl, by simp⟩
  case round =>
    obtain ⟨r1, L1, a, rfl, hs, hb, hL, hcr, hc, hk, hal⟩ := hrel
    have HS2 := Lib.hid hs
    have HB := Lib.hid hb
    have HL := Lib.hid hL
    have HCR := Lib.hid hcr
    have HC2 := Lib.hid hc
    have HK := Lib.hid hk
    have hno1 : ∀ j, strB q r1 = .no j → j = 1 := map_no (f := (a ++ ·)) (by intro j hj; rw [← hb] at hj; exact HNO.out j hj)
    have HN1 := Lib.hid hno1
    have hla : (l ++ a).length < 99999 := by first | omega | (simp; done) | (simp; omega)
    clear hs hb hL hcr hc hk HS1 HC1 hno1
    cases r1 with
    | nil =>
      have g1 : ((-1 : Int) != (q.toNat : Int)) = true := by first | omega | (simp; done) | (simp; omega)
      simp only [hd_c, hd_e]
      go_wp2_with fail
      refine (Buffer_String g g (l ++ a) _ HS2.out.bf).mono ?_
      rintro e w5 ⟨rfl, n5, rfl⟩
      have HS5 := Lib.hid (HS2.out.moved ((Ch.refl _ _).drewN n5))
      have HC5 := Lib.hid (HC2.out.drewN n5)
      simp only []
      go_wp2_with fail
      refine (err_calls (Lib.hid HS5.out.rd)).mono ?_
      rintro e w6 ⟨⟨p, rfl⟩, hc⟩
      have HS6 := Lib.hid (HS5.out.moved hc)
      have HC6 := Lib.hid (HC5.out.trans (hc.mono fun _ _ h => h.elim))
      clear hc HS5 HC5
      simp only []
      go_wp2_with fail
      go_ret
      have hx := HB.out
      rw [strB_nil] at hx
      rw [hx]
      exact ⟨p, _, _, _, rfl, HS6.out, HC6.out⟩
    | cons c t =>
      by_cases c10 : c = 10
      · subst c10
        have g1 : ((10 : Int) != (q.toNat : Int)) = true := by first | omega | (simp; done) | (simp; omega)
        have e10 : ((UInt8.toNat 10 : Nat) : Int) = 10 := rfl
        simp only [hd_c, hd_e, e10]
        go_wp2_with fail
        refine (Buffer_String g g (l ++ a) _ HS2.out.bf).mono ?_
        rintro e w5 ⟨rfl, n5, rfl⟩
        have HS5 := Lib.hid (HS2.out.moved ((Ch.refl _ _).drewN n5))
        have HC5 := Lib.hid (HC2.out.drewN n5)
        simp only []
        go_wp2_with fail
        refine (err_calls (Lib.hid HS5.out.rd)).mono ?_
        rintro e w6 ⟨⟨p, rfl⟩, hc⟩
        have HS6 := Lib.hid (HS5.out.moved hc)
        have HC6 := Lib.hid (HC5.out.trans (hc.mono fun _ _ h => h.elim))
        clear hc HS5 HC5
        simp only []
        go_wp2_with fail
        go_ret
        have hx := HB.out
        rw [strB_10] at hx
        rw [hx]
        exact ⟨p, _, _, _, rfl, HS6.out, HC6.out⟩
      by_cases cq : c = q
      · subst cq
        have g1 : ((c.toNat : Int) != (c.toNat : Int)) = false := by simp
        simp only [hd_c, hd_e]
        go_wp2_with fail
        go_ret
        have hx := HB.out
        rw [strB_q c t q10] at hx
        rw [hx]
        refine ⟨rfl, ?_, HC2.out⟩
        have h2 := HS2.out
        rw [show tl1 (c :: t) = t from rfl, ln1_of (c := c) (t := t) rfl c10] at h2
        have hL2 : L1 = L + nl r - nl t := by
          rcases HL.out with h | h
          · cases h
          · rw [nl_cons, if_neg c10] at h; omega
        rw [← hL2]
        show Sb wr b t L1 g (l ++ (a ++ []))
        rw [List.append_nil]
        exact h2
      have ncq : (c.toNat : Int) ≠ (q.toNat : Int) := fun e => cq (UInt8.toNat_inj.1 (by omega))
      have g1 : ((c.toNat : Int) != (q.toNat : Int)) = true := by simpa using ncq
      have nc10 : c.toNat ≠ 10 := fun e => c10 (UInt8.toNat_inj.1 e)
      have nc13 : c.toNat ≠ 13 := fun e => HCR.out c (by simp) (UInt8.toNat_inj.1 e)
      have g2 : ((c.toNat : Int) == 10) = false := by first | omega | (simp; done) | (simp; omega)
      have g3 : ((c.toNat : Int) == 13) = false := by first | omega | (simp; done) | (simp; omega)
      have g4 : decide ((c.toNat : Int) < 0) = false := by first | omega | (simp; done) | (simp; omega)
      have HS3 := HS2
      have HCT := Lib.hid HCR.out.tail
      clear ncq nc10 nc13 HS2
      have hs3 := HS3.out
      rw [show tl1 (c :: t) = t from rfl, ln1_of (c := c) (t := t) rfl c10] at hs3
      have HS4 := Lib.hid hs3
      have hLt : Hid (L1 + nl t = L + nl r) := Lib.hid (by
        rcases HL.out with h | h
        · cases h
        · rw [nl_cons, if_neg c10] at h; omega)
      clear HS3 hs3 HL
      by_cases c92 : c = 92
      · subst c92
        have e92 : ((UInt8.toNat 92 : Nat) : Int) = 92 := rfl
        have hkk := HK.out
        simp only [List.length_cons] at hkk hal
        cases t with
        | nil =>
          simp only [hd_c, hd_e, e92] at g1 g2 g3 g4 ⊢
          go_wp2_with fail
          refine (esc_end HS4 (by omega)).mono ?_
          rintro e w5 ⟨rfl, hs, hc⟩
          have HS5 := Lib.hid hs
          have HC5 := Lib.hid (HC2.out.trans hc)
          clear hs hc HS4 HC2
          simp only []
          go_wp2_with fail
          refine (sb_next HS5 (fun _ h => by cases h)).mono ?_
          rintro e w6 ⟨rfl, hs, hc⟩
          have HS6 := Lib.hid hs
          have HC6 := Lib.hid (HC5.out.trans hc)
          clear hs hc HS5 HC5
          simp only []
          go_wp2_with fail
          go_roundg (gk - 1)
          case rel =>
            refine ⟨[], -1, a ++ [255], rfl, by rw [← List.append_assoc]; exact HS6.out, ?_, .inl rfl, (fun _ h => by cases h), HC6.out, by simp only [List.length_nil] at hkk ⊢; omega, by simp only [List.length_append, List.length_cons, List.length_nil] at hal ⊢; omega⟩
            rw [HB.out, strB_bs q q92, strB_nil]
            rfl
          case measure => omega
        | cons d u =>
          by_cases hdd : isDec d = true
          · have hx := strB_dig q d u q92 hdd
            by_cases hv : (dig3 3 0 (d :: u)).1 ≤ 255
            · rw [if_pos hv] at hx
              have hl3 := dig3_le d u hdd
              obtain ⟨ds, hds, hdd2⟩ := dig3_suffix 3 0 (d :: u)
              generalize h3 : dig3 3 0 (d :: u) = p at hx hv hl3 hds
              obtain ⟨v, r'⟩ := p
              have HX := Lib.hid hx
              have H3 := Lib.hid h3
              have HDD := Lib.hid hdd
              have hcr' : NoCr r' := by have := HCT.out; rw [hds] at this; exact this.app
              have HCR' := Lib.hid hcr'
              have hnl : nl (d :: u) = nl r' := by rw [hds, nl_app, nl_dec hdd2]; show 0 + nl r' = nl r'; omega
              have HNL := Lib.hid hnl
              clear hx h3 hdd hds hdd2 hcr' hnl
              simp only [hd_c, hd_e, e92] at g1 g2 g3 g4 ⊢
              go_wp2_with fail
              refine (esc_dig HS4 HDD.out H3.out hv HCT.out (by omega)).mono ?_
              rintro e w5 ⟨rfl, hs, hc⟩
              have HS5 := Lib.hid hs
              have HC5 := Lib.hid (HC2.out.trans hc)
              clear hs hc HS4 HC2
              simp only []
              go_wp2_with fail
              refine (sb_next HS5 HCR'.out).mono ?_
              rintro e w6 ⟨rfl, hs, hc⟩
              have HS6 := Lib.hid hs
              have HC6 := Lib.hid (HC5.out.trans hc)
              clear hs hc HS5 HC5
              simp only []
              go_wp2_with fail
              go_roundg r'.length
              case rel =>
                refine ⟨r', L1, a ++ [UInt8.ofNat v], rfl, by rw [← List.append_assoc]; exact HS6.out, ?_, .inr (by rw [← HNL.out]; exact hLt.out), HCR'.out, HC6.out, rfl, by simp only [List.length_append, List.length_cons, List.length_nil] at hl3 hal ⊢; omega⟩
                rw [HB.out, HX.out, Rz.map_map]
                congr 1
                funext x
                simp
              case measure => simp only [List.length_cons] at hl3 hkk; omega
            · rw [if_neg hv] at hx
              have := HN1.out 2 hx
              omega
          · have hdd' : isDec d = false := by simpa using hdd
            cases he : esc d with
            | none =>
              have := HN1.out 2 (strB_none q d u q92 hdd' he)
              omega
            | some v =>
              have HX := Lib.hid (strB_esc q d v u q92 hdd' he)
              have HE := Lib.hid he
              clear hdd hdd' he
              simp only [hd_c, hd_e, e92] at g1 g2 g3 g4 ⊢
              go_wp2_with fail
              refine (esc_any HS4 HE.out HCT.out (by omega)).mono ?_
              rintro e w5 ⟨rfl, hs, hc⟩
              have HS5 := Lib.hid hs
              have HC5 := Lib.hid (HC2.out.trans hc)
              clear hs hc HS4 HC2
              simp only []
              go_wp2_with fail
              refine (sb_next HS5 HCT.out.tail).mono ?_
              rintro e w6 ⟨rfl, hs, hc⟩
              have HS6 := Lib.hid hs
              have HC6 := Lib.hid (HC5.out.trans hc)
              clear hs hc HS5 HC5
              simp only []
              go_wp2_with fail
              go_roundg u.length
              case rel =>
                refine ⟨u, ln1 (d :: u) L1, a ++ [v], rfl, by rw [← List.append_assoc]; exact HS6.out, ?_, .inr (by rw [← hLt.out]; exact ln1_nl (d :: u) L1 (by simp)), HCT.out.tail, HC6.out, rfl, by simp only [List.length_append, List.length_cons, List.length_nil] at hal ⊢; omega⟩
                rw [HB.out, HX.out, Rz.map_map]
                congr 1
                funext x
                simp
              case measure => simp only [List.length_cons] at hkk; omega
      · have g5 : ((c.toNat : Int) == 92) = false := by
          simp
          intro e
          exact c92 (UInt8.toNat_inj.1 (by show c.toNat = 92; omega))
        have HX := Lib.hid (strB_chr q c t c10 cq c92)
        have hkk := HK.out
        simp only [List.length_cons] at hkk hal
        clear c92 cq c10
        simp only [hd_c, hd_e]
        go_wp2_with fail
        refine (sb_write HS4 (by omega)).mono ?_
        rintro e w5 ⟨rfl, hs, hc⟩
        have HS5 := Lib.hid hs
        have HC5 := Lib.hid (HC2.out.trans hc)
        clear hs hc HS4 HC2
        simp only []
        go_wp2_with fail
        refine (sb_next HS5 HCT.out).mono ?_
        rintro e w6 ⟨rfl, hs, hc⟩
        have HS6 := Lib.hid hs
        have HC6 := Lib.hid (HC5.out.trans hc)
        clear hs hc HS5 HC5
        simp only []
        go_wp2_with fail
        go_roundg t.length
        case rel =>
          refine ⟨t, L1, a ++ [c], rfl, by rw [← List.append_assoc]; exact HS6.out, ?_, .inr hLt.out, HCT.out, HC6.out, rfl, by simp only [List.length_append, List.length_cons, List.length_nil] at hal ⊢; omega⟩
          rw [HB.out, HX.out, Rz.map_map]
          congr 1
          funext x
          simp
        case measure => omega

end Go.Proofs.YtbgjjbffpckimaaDoor
