/-
  skipComments.
-/
import Derived.Test.YtbgjjbffpckimaaDoorMls
import Derived.Stop.IfaceNil
namespace Go.Proofs.YtbgjjbffpckimaaDoor
set_option linter.all false
open Go.RowKit

theorem iface46 : Tryd.prog.isIface 46 = true := by kernel_rfl
/-- Behind a comment. -/
def ComEnd (r' : Bs) (C : Int) (w : World) (b : Bl) (e : Ending) (w' : World) : Prop :=
  ∃ r2 L2, e = .returned .nilIface ∧ Rd w' b r2 L2 ∧ Ch (Tr b) w w' ∧ (r2 = r' ∨ r' = 10 :: r2) ∧ (r2 = [] ∨ L2 + nl r2 = C)
def ComErr (w : World) (b : Bl) (e : Ending) (w' : World) : Prop :=
  ∃ p r2 L2, e = .returned (.iface 72 (ptr p)) ∧ Rd w' b r2 L2 ∧ Ch (Tr b) w w'
def ComPost (X : Rz Unit) (C : Int) (w : World) (b : Bl) (e : Ending) (w' : World) : Prop :=
  match X with
  | .ok _ r' => ComEnd r' C w b e w'
  | .no _ => ComErr w b e w'

/-- A scanner under a new buffer. -/
theorem Rd.buf {w : World} {b : Bl} {r : Bs} {L : Int} (h : Rd w b r L) : Sb (w.alloc (.cells #[.slice none 0 0, .int .i64 0, .int .i8 0] 62)) b r L w.heap.size [] :=
  ⟨h.moved ((Ch.refl _ _).alloc _), Lib.fresh_isBuffer 62 5 w, h.size, h.g2⟩
theorem ub_new {w w1 w' : World} {b : Bl} {g : Nat} (h1 : Ch (Tr b) w w1) (hg : w.heap.size ≤ g) (h : Ch (Ub b g) w1 w') : Ch (Tr b) w w' :=
  h1.trans' h fun i hi hu => hu.elim id fun hg' => by omega

def ShRel (w : World) (b : Bl) (rest : Bs) (C : Int) (k : Nat) (v : Value) (wr : World) : Prop :=
  ∃ (c : Int) (r1 : Bs) (L1 : Int), v = .int .i64 c ∧ ((c = hd r1 ∧ Rd wr b (tl1 r1) (ln1 r1 L1) ∧ r1.dropWhile (· != 10) = rest ∧ k = r1.length + 1 ∧ NoCr r1 ∧ (r1 = [] ∨ L1 + nl r1 = C)) ∨ (0 ≤ c ∧ c ≠ 10 ∧ c ≠ 13 ∧ Rd wr b r1 L1 ∧ r1.dropWhile (· != 10) = rest ∧ k = r1.length + 2 ∧ NoCr r1 ∧ L1 + nl r1 = C)) ∧ Ch (Tr b) w wr

set_option maxRecDepth 100000 in
set_option maxHeartbeats 4000000 in
theorem com_short {w : World} {b : Bl} {r : Bs} {L C : Int} (HR : Hid (Rd w b r L)) (h91 : hd r ≠ 91) (h13 : NoCr r) (hC : L + nl r = C) :
    Calls Tryd.prog 22 #[ptr b.Z, .int .i64 45] w (ComEnd (r.dropWhile (· != 10)) C w b) := by
  have H13 := Lib.hid h13
  have HCC := Lib.hid hC
  have g91 : (hd r == 91) = false := by simpa using h91
  generalize hrest : r.dropWhile (· != 10) = rest
  have HREST := Lib.hid hrest
  clear h13 h91 hC hrest
  go_enter Tryd.func22, Tryd.ntmps22
  go_wp2_with fail
  refine (peek_calls HR).mono ?_
  rintro e w1 ⟨rfl, hc, hs⟩
  have HS1 := Lib.hid hs
  have HC1 := Lib.hid hc
  clear hs hc
  simp only []
  go_wp2_with fail
  go_loopg [1] (r.length + 2) (fun k v wr => ShRel w b rest C k v wr)
  case atStart => exact ⟨45, r, L, rfl, .inr ⟨by omega, by omega, by omega, HS1.out, HREST.out, rfl, H13.out, HCC.out⟩, HC1.out⟩
  case round =>
    obtain ⟨c, r1, L1, rfl, hcase, hc⟩ := hrel
    have HC := Lib.hid hc
    clear hc HR HS1 HC1
    rcases hcase with ⟨rfl, hs, hdr, hk, hcr, hL⟩ | ⟨c0, c10, c13, hs, hdr, hk, hcr, hL⟩
    · have HS := Lib.hid hs
      have HD := Lib.hid hdr
      have HK := Lib.hid hk
      have HCR := Lib.hid hcr
      have HL := Lib.hid hL
      clear hs hdr hk hcr hL
      cases r1 with
      | nil =>
        simp only [hd_e]
        go_wp2_with fail
        go_ret
        refine ⟨[], -1, rfl, HS.out, HC.out, ?_, .inl rfl⟩
        exact .inl HD.out
      | cons x t =>
        by_cases x10 : x = 10
        · subst x10
          have e10 : ((UInt8.toNat 10 : Nat) : Int) = 10 := rfl
          simp only [hd_c, e10]
          go_wp2_with fail
          go_ret
          refine ⟨t, L1 + 1, rfl, HS.out, HC.out, .inr ?_, .inr ?_⟩
          · rw [← HD.out]; rfl
          · rcases HL.out with h | h
            · cases h
            · rw [nl_cons, if_pos rfl] at h; omega
        · have g1 : ((x.toNat : Int) == 10) = false := by
            simp
            intro e
            exact x10 (UInt8.toNat_inj.1 (by show x.toNat = 10; omega))
          have g2 : ((x.toNat : Int) == 13) = false := by
            simp
            intro e
            exact HCR.out x (by simp) (UInt8.toNat_inj.1 (by show x.toNat = 13; omega))
          have g3 : decide ((x.toNat : Int) < 0) = false := by first | omega | (simp; done) | (simp; omega)
          have hs := HS.out
          rw [show tl1 (x :: t) = t from rfl, ln1_of (c := x) (t := t) rfl x10] at hs
          have HS2 := Lib.hid hs
          have hk := HK.out
          simp only [List.length_cons] at hk
          clear hs HS
          simp only [hd_c]
          go_wp2_with fail
          refine (next_calls HS2 HCR.out.tail).mono ?_
          rintro e w3 ⟨rfl, hc, hs⟩
          have HS3 := Lib.hid hs
          have HC3 := Lib.hid (HC.out.trans hc)
          clear hs hc HS2 HC
          simp only []
          go_wp2_with fail
          go_roundg (t.length + 1)
          case rel =>
            refine ⟨_, t, L1, rfl, .inl ⟨rfl, HS3.out, ?_, rfl, HCR.out.tail, ?_⟩, HC3.out⟩
            · rw [← HD.out, List.dropWhile_cons, if_pos (by simpa using x10)]
            · rcases HL.out with h | h
              · cases h
              · exact .inr (by rw [nl_cons, if_neg x10] at h; omega)
          case measure => omega
    · have HS := Lib.hid hs
      have HD := Lib.hid hdr
      have HCR := Lib.hid hcr
      have HL := Lib.hid hL
      have g1 : (c == 10) = false := by simpa using c10
      have g2 : (c == 13) = false := by simpa using c13
      have g3 : decide (c < 0) = false := by simp; omega
      clear hs hdr hcr hL c10 c13
      go_wp2_with fail
      refine (next_calls HS HCR.out).mono ?_
      rintro e w3 ⟨rfl, hc, hs⟩
      have HS3 := Lib.hid hs
      have HC3 := Lib.hid (HC.out.trans hc)
      clear hs hc HS HC
      simp only []
      go_wp2_with fail
      go_roundg (r1.length + 1)
      case rel => exact ⟨_, r1, L1, rfl, .inl ⟨rfl, HS3.out, HD.out, rfl, HCR.out, .inr HL.out⟩, HC3.out⟩
      case measure => omega

set_option maxRecDepth 100000 in
set_option maxHeartbeats 4000000 in
theorem com_short91 {w : World} {b : Bl} {r : Bs} {L C : Int} (HR : Hid (Rd w b (91 :: r) L)) (h91 : hd r ≠ 91) (h61 : hd r ≠ 61) (h13 : NoCr ((91 : UInt8) :: r)) (hC : L + nl r = C) :
    Calls Tryd.prog 22 #[ptr b.Z, .int .i64 45] w (ComEnd (r.dropWhile (· != 10)) C w b) := by
  have H13 := Lib.hid h13
  have HCC := Lib.hid hC
  have e91 : ((UInt8.toNat 91 : Nat) : Int) = 91 := rfl
  have g91 : (hd r == 91) = false := by simpa using h91
  have g61 : (hd r == 61) = false := by simpa using h61
  generalize hrest : r.dropWhile (· != 10) = rest
  have HREST := Lib.hid hrest
  clear h13 h91 h61 hC hrest
  go_enter Tryd.func22, Tryd.ntmps22
  go_wp2_with fail
  refine (peek_calls HR).mono ?_
  rintro e w1 ⟨rfl, hc, hs⟩
  have HS1 := Lib.hid hs
  have HC1 := Lib.hid hc
  clear hs hc
  simp only [hd_c, e91]
  go_wp2_with fail
  refine (next_calls HS1 H13.out).mono ?_
  rintro e w2 ⟨rfl, hc, hs⟩
  rw [show tl1 ((91 : UInt8) :: r) = r from rfl, ln1_of (c := 91) (t := r) rfl (by decide)] at hs
  have HS2 := Lib.hid hs
  have HC2 := Lib.hid (HC1.out.trans hc)
  clear hs hc HS1 HC1
  simp only [hd_c, e91]
  go_wp2_with fail
  refine (peek_calls HS2).mono ?_
  rintro e w3 ⟨rfl, hc, hs⟩
  have HS3 := Lib.hid hs
  have HC3 := Lib.hid (HC2.out.trans hc)
  clear hs hc HS2 HC2
  simp only []
  go_wp2_with fail
  refine (peek_calls HS3).mono ?_
  rintro e w4 ⟨rfl, hc, hs⟩
  have HS4 := Lib.hid hs
  have HC4 := Lib.hid (HC3.out.trans hc)
  clear hs hc HS3 HC3
  simp only []
  go_wp2_with fail
  go_loopg [1] (r.length + 2) (fun k v wr => ShRel w b rest C k v wr)
  case atStart => exact ⟨91, r, L, rfl, .inr ⟨by omega, by omega, by omega, HS4.out, HREST.out, rfl, H13.out.tail, HCC.out⟩, HC4.out⟩
  case round =>
    obtain ⟨c, r1, L1, rfl, hcase, hc⟩ := hrel
    have HC := Lib.hid hc
    clear hc HR HS4 HC4
    rcases hcase with ⟨rfl, hs, hdr, hk, hcr, hL⟩ | ⟨c0, c10, c13, hs, hdr, hk, hcr, hL⟩
    · have HS := Lib.hid hs
      have HD := Lib.hid hdr
      have HK := Lib.hid hk
      have HCR := Lib.hid hcr
      have HL := Lib.hid hL
      clear hs hdr hk hcr hL
      cases r1 with
      | nil =>
        simp only [hd_e]
        go_wp2_with fail
        go_ret
        refine ⟨[], -1, rfl, HS.out, HC.out, ?_, .inl rfl⟩
        exact .inl HD.out
      | cons x t =>
        by_cases x10 : x = 10
        · subst x10
          have e10 : ((UInt8.toNat 10 : Nat) : Int) = 10 := rfl
          simp only [hd_c, e10]
          go_wp2_with fail
          go_ret
          refine ⟨t, L1 + 1, rfl, HS.out, HC.out, .inr ?_, .inr ?_⟩
          · rw [← HD.out]; rfl
          · rcases HL.out with h | h
            · cases h
            · rw [nl_cons, if_pos rfl] at h; omega
        · have g1 : ((x.toNat : Int) == 10) = false := by
            simp
            intro e
            exact x10 (UInt8.toNat_inj.1 (by show x.toNat = 10; omega))
          have g2 : ((x.toNat : Int) == 13) = false := by
            simp
            intro e
            exact HCR.out x (by simp) (UInt8.toNat_inj.1 (by show x.toNat = 13; omega))
          have g3 : decide ((x.toNat : Int) < 0) = false := by first | omega | (simp; done) | (simp; omega)
          have hs := HS.out
          rw [show tl1 (x :: t) = t from rfl, ln1_of (c := x) (t := t) rfl x10] at hs
          have HS2 := Lib.hid hs
          have hk := HK.out
          simp only [List.length_cons] at hk
          clear hs HS
          simp only [hd_c]
          go_wp2_with fail
          refine (next_calls HS2 HCR.out.tail).mono ?_
          rintro e w3 ⟨rfl, hc, hs⟩
          have HS3 := Lib.hid hs
          have HC3 := Lib.hid (HC.out.trans hc)
          clear hs hc HS2 HC
          simp only []
          go_wp2_with fail
          go_roundg (t.length + 1)
          case rel =>
            refine ⟨_, t, L1, rfl, .inl ⟨rfl, HS3.out, ?_, rfl, HCR.out.tail, ?_⟩, HC3.out⟩
            · rw [← HD.out, List.dropWhile_cons, if_pos (by simpa using x10)]
            · rcases HL.out with h | h
              · cases h
              · exact .inr (by rw [nl_cons, if_neg x10] at h; omega)
          case measure => omega
    · have HS := Lib.hid hs
      have HD := Lib.hid hdr
      have HCR := Lib.hid hcr
      have HL := Lib.hid hL
      have g1 : (c == 10) = false := by simpa using c10
      have g2 : (c == 13) = false := by simpa using c13
      have g3 : decide (c < 0) = false := by simp; omega
      clear hs hdr hcr hL c10 c13
      go_wp2_with fail
      refine (next_calls HS HCR.out).mono ?_
      rintro e w3 ⟨rfl, hc, hs⟩
      have HS3 := Lib.hid hs
      have HC3 := Lib.hid (HC.out.trans hc)
      clear hs hc HS HC
      simp only []
      go_wp2_with fail
      go_roundg (r1.length + 1)
      case rel => exact ⟨_, r1, L1, rfl, .inl ⟨rfl, HS3.out, HD.out, rfl, HCR.out, .inr HL.out⟩, HC3.out⟩
      case measure => omega

set_option maxRecDepth 100000 in
set_option maxHeartbeats 4000000 in
theorem com_long {w : World} {b : Bl} {r0 r1 : Bs} {L C : Int} {n : Nat} (HR : Hid (Rd w b (91 :: r0) L)) (hr : r0.dropWhile (· == 61) = 91 :: r1) (hn : eqs r0 = n) {X : Rz Bs} (hX : longB n (cut10 r1) = X) (hno : ∀ k, X = .no k → k = 1) (hC : L + nl r0 = C) (h13 : NoCr ((91 : UInt8) :: r0)) :
    Calls Tryd.prog 22 #[ptr b.Z, .int .i64 45] w (ComPost (X.map fun _ => ()) C w b) := by
  have H13 := Lib.hid h13
  have HCC := Lib.hid hC
  have HRR := Lib.hid hr
  have HN := Lib.hid hn
  have HX := Lib.hid hX
  have HNO := Lib.hid hno
  have hlen := HR.out.len
  have e91 : ((UInt8.toNat 91 : Nat) : Int) = 91 := rfl
  have hq : hd r0 = 91 ∨ hd r0 = 61 := by
    cases r0 with
    | nil => simp at hr
    | cons c t =>
      by_cases h : c = 61
      · subst h; exact .inr rfl
      · rw [List.dropWhile_cons, if_neg (by simpa using h)] at hr
        injection hr with h1 _
        subst h1
        exact .inl rfl
  have hn10 : ln1 r0 L + nl (tl1 r0) = L + nl r0 := ln1_nl r0 L (by rintro rfl; simp at hr)
  clear h13 hC hr hn hX hno hn10
  go_enter Tryd.func22, Tryd.ntmps22
  go_wp2_with fail
  refine (peek_calls HR).mono ?_
  rintro e w1 ⟨rfl, hc, hs⟩
  have HS1 := Lib.hid hs
  have HC1 := Lib.hid hc
  clear hs hc HR
  simp only [hd_c, e91]
  go_wp2_with fail
  refine (next_calls HS1 H13.out).mono ?_
  rintro e w2 ⟨rfl, hc, hs⟩
  rw [show tl1 ((91 : UInt8) :: r0) = r0 from rfl, ln1_of (c := 91) (t := r0) rfl (by decide)] at hs
  have HS2 := Lib.hid hs
  have HC2 := Lib.hid (HC1.out.trans hc)
  clear hs hc HS1 HC1
  simp only [hd_c, e91]
  go_wp2_with fail
  refine (peek_calls HS2).mono ?_
  rintro e w3 ⟨rfl, hc, hs⟩
  have HS3 := Lib.hid hs
  have HC3 := Lib.hid (HC2.out.trans hc)
  clear hs hc HS2 HC2
  rcases hq with hq | hq
  · have g1 : (hd r0 == 91) = true := by simpa using hq
    have HQ := Lib.hid hq
    clear hq
    simp only []
    go_wp2_with fail
    have HS4 := HS3
    have HC4 := HC3
    have HS5 := Lib.hid HS4.out.buf
    have HC5 := Lib.hid (HC4.out.alloc (.cells #[.slice none 0 0, .int .i64 0, .int .i8 0] 62))
    have hg := HC4.out.size
    generalize hgg : (w3.alloc (.cells #[.slice none 0 0, .int .i64 0, .int .i8 0] 62)) = w5 at HS5 HC5 ⊢
    clear hgg
    refine (sb_next HS5 H13.out.tail).mono ?_
    rintro e w6 ⟨rfl, hs, hc⟩
    have HS6 := Lib.hid hs
    have HC6 := Lib.hid (ub_new HC5.out hg hc)
    clear hs hc HS5 HC5
    simp only []
    go_wp2_with fail
    refine (ml_calls HS6 HRR.out HN.out HX.out HNO.out HCC.out H13.out.tail (by simp only [List.length_cons, List.length_nil] at hlen ⊢; omega)).mono ?_
    rintro e w7 hml
    cases X with
    | ok s r' =>
      obtain ⟨rfl, hs, hc⟩ := hml
      have HS7 := Lib.hid hs
      have HC7 := Lib.hid (ub_new HC6.out hg hc)
      clear hs hc HS6 HC6
      simp only []
      go_wp2_with fail
      go_ret
      exact ⟨r', _, rfl, HS7.out.rd, HC7.out, .inl rfl, .inr (by omega)⟩
    | no k =>
      obtain ⟨p, r', L', l', rfl, hs, hc⟩ := hml
      have HS7 := Lib.hid hs
      have HC7 := Lib.hid (ub_new HC6.out hg hc)
      have gq : ∀ w, (binOp .neq 46 (.iface 72 (ptr p)) .nilIface).run Tryd.prog w = .ok (.bool true) w := fun w => run_neq_iface_nil (P := Tryd.prog) (w := w) 46 iface46 72 (ptr p)
      clear hs hc HS6 HC6
      simp only []
      go_wp2_with fail
      refine (Buffer_String _ _ l' _ HS7.out.bf).mono ?_
      rintro e w8 ⟨rfl, n8, rfl⟩
      have HS8 := Lib.hid (HS7.out.rd.moved ((Ch.refl _ _).drewN n8))
      have HC8 := Lib.hid (HC7.out.drewN n8)
      clear HS7 HC7
      simp only []
      go_wp2_with fail
      refine (err_calls HS8).mono ?_
      rintro e w9 ⟨⟨p2, rfl⟩, hc⟩
      have HS9 := Lib.hid (HS8.out.moved hc)
      have HC9 := Lib.hid (HC8.out.trans (hc.mono fun _ _ h => h.elim))
      clear hc HS8 HC8
      simp only []
      go_wp2_with fail
      go_ret
      exact ⟨p2, _, _, rfl, HS9.out, HC9.out⟩
  · have g1 : (hd r0 == 91) = false := by simp; omega
    have g2 : (hd r0 == 61) = true := by simpa using hq
    have HQ := Lib.hid hq
    clear hq
    simp only []
    go_wp2_with fail
    refine (peek_calls HS3).mono ?_
    rintro e w4 ⟨rfl, hc, hs⟩
    have HS4 := Lib.hid hs
    have HC4 := Lib.hid (HC3.out.trans hc)
    clear hs hc HS3 HC3
    simp only []
    go_wp2_with fail
    have HS5 := Lib.hid HS4.out.buf
    have HC5 := Lib.hid (HC4.out.alloc (.cells #[.slice none 0 0, .int .i64 0, .int .i8 0] 62))
    have hg := HC4.out.size
    generalize hgg : (w4.alloc (.cells #[.slice none 0 0, .int .i64 0, .int .i8 0] 62)) = w5 at HS5 HC5 ⊢
    clear hgg
    refine (sb_next HS5 H13.out.tail).mono ?_
    rintro e w6 ⟨rfl, hs, hc⟩
    have HS6 := Lib.hid hs
    have HC6 := Lib.hid (ub_new HC5.out hg hc)
    clear hs hc HS5 HC5
    simp only []
    go_wp2_with fail
    refine (ml_calls HS6 HRR.out HN.out HX.out HNO.out HCC.out H13.out.tail (by simp only [List.length_cons, List.length_nil] at hlen ⊢; omega)).mono ?_
    rintro e w7 hml
    cases X with
    | ok s r' =>
      obtain ⟨rfl, hs, hc⟩ := hml
      have HS7 := Lib.hid hs
      have HC7 := Lib.hid (ub_new HC6.out hg hc)
      clear hs hc HS6 HC6
      simp only []
      go_wp2_with fail
      go_ret
      exact ⟨r', _, rfl, HS7.out.rd, HC7.out, .inl rfl, .inr (by omega)⟩
    | no k =>
      obtain ⟨p, r', L', l', rfl, hs, hc⟩ := hml
      have HS7 := Lib.hid hs
      have HC7 := Lib.hid (ub_new HC6.out hg hc)
      have gq : ∀ w, (binOp .neq 46 (.iface 72 (ptr p)) .nilIface).run Tryd.prog w = .ok (.bool true) w := fun w => run_neq_iface_nil (P := Tryd.prog) (w := w) 46 iface46 72 (ptr p)
      clear hs hc HS6 HC6
      simp only []
      go_wp2_with fail
      refine (Buffer_String _ _ l' _ HS7.out.bf).mono ?_
      rintro e w8 ⟨rfl, n8, rfl⟩
      have HS8 := Lib.hid (HS7.out.rd.moved ((Ch.refl _ _).drewN n8))
      have HC8 := Lib.hid (HC7.out.drewN n8)
      clear HS7 HC7
      simp only []
      go_wp2_with fail
      refine (err_calls HS8).mono ?_
      rintro e w9 ⟨⟨p2, rfl⟩, hc⟩
      have HS9 := Lib.hid (HS8.out.moved hc)
      have HC9 := Lib.hid (HC8.out.trans (hc.mono fun _ _ h => h.elim))
      clear hc HS8 HC8
      simp only []
      go_wp2_with fail
      go_ret
      exact ⟨p2, _, _, rfl, HS9.out, HC9.out⟩

theorem com_calls {w : World} {b : Bl} {r : Bs} {L C : Int} (HR : Hid (Rd w b r L)) {X : Rz Unit} (hX : comP r = X) (hno : ∀ k, X = .no k → k = 1) (hC : L + nl r = C) (h13 : NoCr r) :
    Calls Tryd.prog 22 #[ptr b.Z, .int .i64 45] w (ComPost X C w b) := by
  cases r with
  | nil =>
    subst hX
    exact com_short HR (by simp [hd]) h13 hC
  | cons c t =>
    by_cases hc : c = 91
    · subst hc
      have hC' : L + nl t = C := by rw [nl_cons, if_neg (by decide)] at hC; omega
      unfold comP at hX
      rw [brk_cons] at hX
      by_cases hb : (t.dropWhile (· == 61)).head? = some 91
      · obtain ⟨r1, hr1⟩ : ∃ r1, t.dropWhile (· == 61) = 91 :: r1 := by
          cases h : t.dropWhile (· == 61) with
          | nil => rw [h] at hb; cases hb
          | cons x u =>
            rw [h] at hb
            injection hb with hx
            exact ⟨u, by rw [hx]⟩
        rw [if_pos ⟨rfl, hb⟩] at hX
        simp only [] at hX
        have hdrop : ((91 : UInt8) :: t).drop (eqs t + 2) = r1 := by
          rw [show eqs t + 2 = (eqs t + 1) + 1 by omega, List.drop_succ_cons, ← List.drop_drop, drop_eqs, hr1]
          rfl
        rw [hdrop] at hX
        subst hX
        refine com_long HR hr1 rfl rfl ?_ hC' h13
        intro k hk
        apply hno k
        rw [hk]
        rfl
      · rw [if_neg (fun h => hb h.2)] at hX
        simp only [] at hX
        by_cases h61 : ((91 : UInt8) :: t).take 2 = [91, 61]
        · rw [if_pos h61] at hX
          have := hno 2 hX.symm
          omega
        · rw [if_neg h61] at hX
          subst hX
          have q91 : hd t ≠ 91 := by
            intro e
            cases t with
            | nil => simp [hd] at e
            | cons x u =>
              have hx : x = 91 := UInt8.toNat_inj.1 (by rw [hd_c] at e; show x.toNat = 91; omega)
              subst hx
              exact hb rfl
          have q61 : hd t ≠ 61 := by
            intro e
            cases t with
            | nil => simp [hd] at e
            | cons x u =>
              have hx : x = 61 := UInt8.toNat_inj.1 (by rw [hd_c] at e; show x.toNat = 61; omega)
              subst hx
              exact h61 rfl
          have := com_short91 HR q91 q61 h13 hC'
          show Calls Tryd.prog 22 _ w (ComEnd (((91 : UInt8) :: t).dropWhile (· != 10)) C w b)
          rw [List.dropWhile_cons, if_pos (by decide)]
          exact this
    · have hb : brk 91 (c :: t) = none := by rw [brk_cons, if_neg (fun h => hc h.1)]
      unfold comP at hX
      rw [hb] at hX
      simp only [] at hX
      rw [if_neg (by intro h; simp at h; exact hc h.1)] at hX
      subst hX
      refine com_short HR ?_ h13 hC
      rw [hd_c]
      intro e
      exact hc (UInt8.toNat_inj.1 (by show c.toNat = 91; omega))

end Go.Proofs.YtbgjjbffpckimaaDoor
