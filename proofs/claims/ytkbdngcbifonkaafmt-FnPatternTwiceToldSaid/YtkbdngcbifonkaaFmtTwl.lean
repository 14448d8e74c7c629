/-
  FnPatternTwice: the law gives true, whatever the input.
-/
import Derived.Test.YtkbdngcbifonkaaFmtTmf
import Derived.Test.YtkbdngcbifonkaaFmtMfm
import Derived.Test.YtkbdngcbifonkaaFmtParC
import Derived.BigQuiet
namespace Go.Proofs.YtkbdngcbifonkaaFmt
set_option linter.all false
open Go.RowKit

/-- What plain9 says. -/
def plainB (s : ByteArray) (m : Int) : Bool := decide (∀ b ∈ s.data.toList, b.toNat ≠ 0 ∧ b.toNat ≤ 127) && decide ((s.size : Int) ≤ m)

theorem plainB_no {s : ByteArray} {m : Int} {i : Nat} (h : i < s.size) (hb : ¬ (s[i].toNat ≠ 0 ∧ s[i].toNat ≤ 127)) : plainB s m = false := by
  unfold plainB
  rw [decide_eq_false, Bool.false_and]
  intro hall
  refine hb (hall s[i] ?_)
  have : s[i] = s.data.toList[i]'(by simpa using h) := by rw [Array.getElem_toList]; rfl
  rw [this]
  exact List.getElem_mem _

theorem plainB_yes {s : ByteArray} {m : Int} (h : ∀ j (h : j < s.size), s[j].toNat ≠ 0 ∧ s[j].toNat ≤ 127) : plainB s m = decide ((s.size : Int) ≤ m) := by
  unfold plainB
  rw [decide_eq_true, Bool.true_and]
  intro b hb
  obtain ⟨j, hj, rfl⟩ := List.getElem_of_mem hb
  have hj2 : j < s.size := by simpa using hj
  have := h j hj2
  rw [Array.getElem_toList]
  exact this

theorem plainB_true {s : ByteArray} {m : Int} (h : plainB s m = true) : (∀ b ∈ s.data.toList, b.toNat ≠ 0 ∧ b.toNat ≤ 127) ∧ (s.size : Int) ≤ m := by
  unfold plainB at h
  simpa using h

def PlainPost (w : World) (s : ByteArray) (m : Int) (e : Ending) (w' : World) : Prop := w = w' ∧ e = .returned (.bool (plainB s m))

set_option maxRecDepth 100000 in
theorem plain_calls {w : World} {s : ByteArray} {m : Int} (hs : s.size ≤ 2147483647) :
    Calls Tryf.prog 9 #[.string s, .int .i64 m] w (PlainPost w s m) := by
  go_enter Tryf.func9, Tryf.ntmps9
  go_wp2_with fail
  go_loopg [5] s.size (fun k s5 wr => wr = w ∧ ∃ i : Nat, s5 = .int .i64 i ∧ i ≤ s.size ∧ k = s.size - i ∧ ∀ j (h : j < s.size), j < i → s[j].toNat ≠ 0 ∧ s[j].toNat ≤ 127)
  case atStart => exact ⟨rfl, 0, rfl, by omega, rfl, fun j h h0 => by omega⟩
  case round =>
    obtain ⟨rfl, i, rfl, hi, rfl, hall⟩ := hrel
    have HA := Lib.hid hall
    clear hall
    by_cases hlt : i < s.size
    · have hlti : (i : Int) < s.size := by omega
      have hw : IntKind.i64.wrap ((i : Int) + 1) = ((i + 1 : Nat) : Int) := by rw [IntKind.wrap_i64]; omega
      by_cases h0 : s[i].toNat = 0
      · have g0 : ((s[i].toNat : Int) == 0) = true := by simp [h0]
        have HNO := Lib.hid (plainB_no (m := m) hlt (by simp [h0]))
        clear h0
        go_wp2_with fail
        go_ret
        exact ⟨rfl, by rw [HNO.out]; rfl⟩
      · by_cases h1 : s[i].toNat ≤ 127
        · have HG := Lib.hid (show s[i].toNat ≠ 0 ∧ s[i].toNat ≤ 127 from ⟨h0, h1⟩)
          have g0 : ((s[i].toNat : Int) == 0) = false := by simp; omega
          have g1 : decide ((127 : Int) < (s[i].toNat : Int)) = false := by simp; omega
          clear h0 h1
          go_wp2_with fail
          go_roundg (s.size - (i + 1))
          case measure => omega
          case rel => exact ⟨rfl, i + 1, rfl, hlt, rfl, fun j h hj => by
            by_cases e : j = i
            · subst e; exact HG.out
            · exact HA.out j h (by omega)⟩
        · have g0 : ((s[i].toNat : Int) == 0) = false := by simp; omega
          have g1 : (127 : Int) < (s[i].toNat : Int) := by omega
          have HNO := Lib.hid (plainB_no (m := m) hlt (fun h => h1 h.2))
          clear h0 h1
          go_wp2_with fail
          go_ret
          exact ⟨rfl, by rw [HNO.out]; rfl⟩
    · have hie : i = s.size := by omega
      subst hie
      have hf : ¬ (s.size : Int) < s.size := by omega
      go_wp2_with fail
      go_ret
      exact ⟨rfl, by rw [plainB_yes (fun j h => HA.out j h h)]; rfl⟩

/-- A law's answer: true; what was there is as it was. -/
def LawPost (w : World) (e : Ending) (w' : World) : Prop := e = .returned (.bool true) ∧ Ch (fun _ => False) w w'

set_option maxRecDepth 100000 in
set_option maxHeartbeats 4000000 in
theorem ismatch_calls {w : World} {a b c0 c1 : Int} {C cc P pc G gc : Nat} (k0 : w.cell? ⟨C, 0, none⟩ = some (.int .i64 c0)) (k1 : w.cell? ⟨C, 1, none⟩ = some (.int .i64 c1)) (p0 : w.cell? ⟨P, 0, none⟩ = some (.bool false)) (g0 : w.cell? ⟨G, 0, none⟩ = some (.int .i64 c0)) (g1 : w.cell? ⟨G, 1, none⟩ = some (.int .i64 c1)) (g2 : w.cell? ⟨G, 2, none⟩ = some (.bool false)) :
    Calls Tryf.prog 17 #[.agg #[.int .i64 a, .int .i64 b, .slice (some ⟨C, 0, none⟩) 1 cc, .slice (some ⟨P, 0, none⟩) 1 pc], .agg #[.int .i64 a, .int .i64 b, .slice (some ⟨G, 0, none⟩) 1 gc]] w fun e w' => e = .returned (.bool true) ∧ Ch (fun _ => False) w w' := by
  have hC : C < w.heap.size := World.block_lt_of_cell? w _ k0
  have hP : P < w.heap.size := World.block_lt_of_cell? w _ p0
  have hG : G < w.heap.size := World.block_lt_of_cell? w _ g0
  have hC1 : C < w.heap.size + 1 := by omega
  have hP1 : P < w.heap.size + 1 := by omega
  have hG1 : G < w.heap.size + 1 := by omega
  have hC2 : C < w.heap.size + 1 + 1 := by omega
  have hP2 : P < w.heap.size + 1 + 1 := by omega
  have hG2 : G < w.heap.size + 1 + 1 := by omega
  have na : (a != a) = false := by simp
  have nb : (b != b) = false := by simp
  have nc0 : (c0 != c0) = false := by simp
  have nc1 : (c1 != c1) = false := by simp
  go_enter Tryf.func17, Tryf.ntmps17
  go_wp2_with fail
  refine wp_loop_rounds 2 ?_
  rw [rounds_succ]
  go_wp2_with fail
  go_quiet (fail)
  simp only [Exit.then]
  go_wp2_with fail
  rw [rounds_succ]
  go_wp2_with fail
  go_ret
  exact ⟨rfl, by repeat first | exact Ch.refl _ _ | refine Ch.drewN ?_ _ | refine Ch.drew ?_ | refine Ch.alloc ?_ _⟩

theorem pats_tw : PatsOk twPats where
  len := by rw [twCode_eq]; decide
  caps := by decide
  n := by decide
  n2 := by
    intro q hq
    simp [twPats] at hq
    subst hq
    decide
  ok := by
    intro p hp
    simp [twPats] at hp
    rcases hp with rfl | rfl | rfl | rfl
    · trivial
    · intro x hx
      simp at hx
      subst hx
      exact .inr (.inl rfl)
    · trivial
    · trivial
  ins := by
    rw [twCode_eq]
    intro k hk
    simp [twCode] at hk
    match k, hk with
    | 0, _ => exact Nat.zero_le _
    | 1, _ => exact fun _ _ h => by cases h
    | 2, _ => exact (by decide : 2 ≤ 100)
    | 3, _ => exact fun _ _ h => by cases h
    | 4, _ => trivial
    | 5, _ => exact (by decide : 3 ≤ 100)
    | 6, _ => exact rfl
    | 7, _ => exact fun _ _ h => by cases h
    | 8, _ => exact (by decide : 1 ≤ 100)
    | 9, _ => trivial

/-- What first9 gives. -/
def TwPost (w : World) (r : Option (Nat × Nat × Nat × Nat)) (e : Ending) (w' : World) : Prop :=
  match r with
  | some (p, q, A, S) => F4Post w p q A (A + S) e w'
  | none => Ch (fun _ => False) w w' ∧ e = .returned (.tuple #[.agg #[.int .i64 0, .int .i64 0, .slice none 0 0, .slice none 0 0], .bool true, .bool false])

theorem tw_first {w : World} {s : ByteArray} {src : List UInt8} (hs : s.data.toList = src) (hl : src.length ≤ 1000) : Calls Tryf.prog 11 #[.string twStr, .string s, .int .i64 0] w (TwPost w (Tw.tfind src (src.length + 1) 0)) := by
  have hf := tw_find src 0 (src.length + 1) 0
  rw [← twCode_eq] at hf
  cases h : Tw.tfind src (src.length + 1) 0 with
  | none =>
    rw [h] at hf
    refine (first_none (s := twStr) (t := s) (l := twText) (src := src) (sp0 := 0) (f := 0 + 10 + 2 * src.length) rfl (by decide) hs (Lib.hid parses_tw) (Lib.hid pats_tw) (by omega) (Nat.zero_le _) (by omega) (Lib.hid hf)).mono ?_
    rintro e w' h
    exact h
  | some r =>
    obtain ⟨p, q, A, S⟩ := r
    obtain ⟨p', S', h1, h2, h3⟩ := Tw.tfind_some h
    cases h3
    rw [h] at hf
    exact first_four (s := twStr) (t := s) (l := twText) (src := src) (sp0 := 0) (f := 0 + 10 + 2 * src.length) rfl (by decide) hs (Lib.hid parses_tw) (Lib.hid pats_tw) (by omega) (Nat.zero_le _) (by omega) (by omega) (by omega) ⟨by omega, by omega⟩ (by omega) (Lib.hid hf)

set_option maxRecDepth 100000 in
set_option maxHeartbeats 4000000 in
theorem law_tw_main {w : World} {b t c : ByteArray} (g0 : decide ((2147483647 : Int) < b.size) = false) (g1 : decide ((2147483647 : Int) < t.size) = false) (g2 : decide ((2147483647 : Int) < c.size) = false)
    (HPB : Hid (∀ w1, Calls Tryf.prog 9 #[.string b, .int .i64 60] w1 fun e w' => w1 = w' ∧ e = .returned (.bool true))) (HPT : Hid (∀ w1, Calls Tryf.prog 9 #[.string t, .int .i64 60] w1 fun e w' => w1 = w' ∧ e = .returned (.bool true))) (HPC : Hid (∀ w1, Calls Tryf.prog 9 #[.string c, .int .i64 60] w1 fun e w' => w1 = w' ∧ e = .returned (.bool true)))
    (g3 : ((t.size : Int) == 0) = false) (hb : b.size ≤ 60) (ht : t.size ≤ 60) (hc : c.size ≤ 60) {S : ByteArray} (hS : b ++ ⟨#[1]⟩ ++ t ++ t ++ ⟨#[2]⟩ ++ c = S) {src : List UInt8} (hsrc : S.data.toList = src) (hl : src.length ≤ 1000)
    (HFM : Hid (∀ w1, Calls Tryf.prog 16 #[.string twStr, .string S, .int .i64 0] w1 (FmPost w1 src))) :
    Calls Tryf.prog 8 #[.string b, .string t, .string c] w (LawPost w) := by
  have HF : Hid (∀ w1, Calls Tryf.prog 11 #[.string twStr, .string S, .int .i64 0] w1 (TwPost w1 (Tw.tfind src (src.length + 1) 0))) := Lib.hid fun w1 => tw_first hsrc hl
  have k1 : ¬ 9223372036854775807 < b.size + 1 := by omega
  have k2 : ¬ 9223372036854775807 < b.size + 1 + t.size := by omega
  have k3 : ¬ 9223372036854775807 < b.size + 1 + t.size + t.size := by omega
  have k4 : ¬ 9223372036854775807 < b.size + 1 + t.size + t.size + 1 := by omega
  have k5 : ¬ 9223372036854775807 < b.size + 1 + t.size + t.size + 1 + c.size := by omega
  clear hb ht hc
  go_enter Tryf.func8, Tryf.ntmps8
  go_wp2_with fail
  refine (HPB.out _).mono ?_
  rintro e w1 ⟨rfl, rfl⟩
  simp only []
  go_wp2_with fail
  refine (HPT.out _).mono ?_
  rintro e w1 ⟨rfl, rfl⟩
  simp only []
  go_wp2_with fail
  refine (HPC.out _).mono ?_
  rintro e w1 ⟨rfl, rfl⟩
  simp only []
  go_wp2_with fail
  refine (HFM.out _).mono ?_
  rintro e w2 ⟨hch2, code, a, bb, B, n, cc, rfl, hpost⟩
  have HC2 := Lib.hid hch2
  have HPOST := Lib.hid hpost
  clear hch2 hpost
  have HC2A : Hid (Ch (fun _ => False) w (w2.alloc (.cells #[.int .i64 a, .int .i64 bb, .slice B n cc] 47))) := Lib.hid (HC2.out.alloc _)
  cases hcd : (code != 0) with
  | true =>
    cases htf : Tw.tfind src (src.length + 1) 0 with
    | none =>
      have HF2 : Hid (∀ w1, Calls Tryf.prog 11 #[.string twStr, .string S, .int .i64 0] w1 (fun e w' => Ch (fun _ => False) w1 w' ∧ e = .returned (.tuple #[.agg #[.int .i64 0, .int .i64 0, .slice none 0 0, .slice none 0 0], .bool true, .bool false]))) := Lib.hid fun w1 => by have := HF.out w1; rw [htf] at this; exact this
      clear htf HF HPOST
      simp only []
      go_wp2_with fail
      refine (HF2.out _).mono ?_
      rintro e w3 ⟨hch3, rfl⟩
      have HC3 := Lib.hid (HC2A.out.trans hch3)
      clear hch3
      simp only []
      go_wp2_with fail
      go_ret
      refine ⟨rfl, ?_⟩
      repeat first | exact HC3.out | refine Ch.alloc ?_ _ | refine Ch.drewN ?_ _ | refine Ch.drew ?_ | refine Ch.setCell ?_ (fun h => absurd h (by omega)) _
    | some r =>
      obtain ⟨p, q, A, S1⟩ := r
      have HF2 : Hid (∀ w1, Calls Tryf.prog 11 #[.string twStr, .string S, .int .i64 0] w1 (F4Post w1 p q A (A + S1))) := Lib.hid fun w1 => by have := HF.out w1; rw [htf] at this; exact this
      clear htf HF HPOST
      simp only []
      go_wp2_with fail
      refine (HF2.out _).mono ?_
      rintro e w3 ⟨hch3, C, c3, P, p3, rfl, f0, f1, f2⟩
      have HC3 := Lib.hid (HC2A.out.trans hch3)
      clear hch3 f0 f1 f2
      simp only []
      go_wp2_with fail
      go_ret
      refine ⟨rfl, ?_⟩
      repeat first | exact HC3.out | refine Ch.alloc ?_ _ | refine Ch.drewN ?_ _ | refine Ch.drew ?_ | refine Ch.setCell ?_ (fun h => absurd h (by omega)) _
  | false =>
    have hc0 : code = 0 := by simpa using hcd
    subst hc0
    obtain ⟨p, S1, G, htf, hle, rfl, rfl, rfl, rfl, q0, q1, q2⟩ := HPOST.out rfl
    have HF2 : Hid (∀ w1, Calls Tryf.prog 11 #[.string twStr, .string S, .int .i64 0] w1 (F4Post w1 p (p + 1 + S1 + S1 + 1) (p + 1) (p + 1 + S1))) := Lib.hid fun w1 => by have := HF.out w1; rw [htf] at this; exact this
    rw [show ((p + 1 : Nat) : Int) + (S1 : Int) = ((p + 1 + S1 : Nat) : Int) from by omega] at q1
    have Q0 := Lib.hid q0
    have Q1 := Lib.hid q1
    have Q2 := Lib.hid q2
    clear htf HF HPOST q0 q1 q2 hcd
    simp only []
    go_wp2_with fail
    refine (HF2.out _).mono ?_
    rintro e w3 ⟨hch3, C, c3, P, p3, rfl, f0, f1, f2⟩
    have HC3 := Lib.hid (HC2A.out.trans hch3)
    have hc23 : Ch (fun _ => False) w2 w3 := ((Ch.refl _ _).alloc _).trans hch3
    have q0 := hc23.cell_some Q0.out id
    have q1 := hc23.cell_some Q1.out id
    have q2 := hc23.cell_some Q2.out id
    have m0 : w3.cell? ⟨w2.heap.size, 0, none⟩ = some (.int .i64 (p : Int)) := hch3.cell_some (World.cell?_alloc_at _ _ _ _ rfl) id
    have m1 : w3.cell? ⟨w2.heap.size, 1, none⟩ = some (.int .i64 ((p + 1 + S1 + S1 + 1 : Nat) : Int)) := hch3.cell_some (World.cell?_alloc_at _ _ _ _ rfl) id
    have m2 : w3.cell? ⟨w2.heap.size, 2, none⟩ = some (.slice (some ⟨G, 0, none⟩) 1 cc) := hch3.cell_some (World.cell?_alloc_at _ _ _ _ rfl) id
    have ml : w2.heap.size < w3.heap.size := World.block_lt_of_cell? _ _ m0
    have HK : Hid (∀ o, (w3.alloc o).cell? ⟨C, 0, none⟩ = some (.int .i64 ((p + 1 : Nat) : Int)) ∧ (w3.alloc o).cell? ⟨C, 1, none⟩ = some (.int .i64 ((p + 1 + S1 : Nat) : Int)) ∧ (w3.alloc o).cell? ⟨P, 0, none⟩ = some (.bool false) ∧ (w3.alloc o).cell? ⟨G, 0, none⟩ = some (.int .i64 ((p + 1 : Nat) : Int)) ∧ (w3.alloc o).cell? ⟨G, 1, none⟩ = some (.int .i64 ((p + 1 + S1 : Nat) : Int)) ∧ (w3.alloc o).cell? ⟨G, 2, none⟩ = some (.bool false)) := Lib.hid fun o => by
      have hh : Ch (fun _ => False) w3 (w3.alloc o) := (Ch.refl _ _).alloc _
      exact ⟨hh.cell_some f0 id, hh.cell_some f1 id, hh.cell_some f2 id, hh.cell_some q0 id, hh.cell_some q1 id, hh.cell_some q2 id⟩
    clear hch3 hc23 f0 f1 f2 q0 q1 q2
    simp only []
    go_wp2_with fail
    obtain ⟨k0, k1, k2, k3, k4, k5⟩ := HK.out (.cells #[.int .i64 (p : Int), .int .i64 ((p + 1 + S1 + S1 + 1 : Nat) : Int), .slice (some ⟨C, 0, none⟩) 1 c3, .slice (some ⟨P, 0, none⟩) 1 p3] 29)
    refine (ismatch_calls k0 k1 k2 k3 k4 k5).mono ?_
    rintro e w4 ⟨rfl, hch4⟩
    have HC4 := Lib.hid ((HC3.out.alloc _).trans hch4)
    clear hch4 k0 k1 k2 k3 k4 k5
    simp only []
    go_wp2_with fail
    go_ret
    exact ⟨rfl, HC4.out⟩

/-- plain9 gives this. -/
abbrev PlainIs (s : ByteArray) (r : Bool) : Prop := Hid (∀ w1, Calls Tryf.prog 9 #[.string s, .int .i64 60] w1 fun e w' => w1 = w' ∧ e = .returned (.bool r))

set_option maxRecDepth 100000 in
theorem law_tw_e0 {w : World} {b t c : ByteArray} (g0 : decide ((2147483647 : Int) < b.size) = true) : Calls Tryf.prog 8 #[.string b, .string t, .string c] w (LawPost w) := by
  go_enter Tryf.func8, Tryf.ntmps8
  go_wp2_with fail
  go_ret
  exact ⟨rfl, .refl _ _⟩

set_option maxRecDepth 100000 in
theorem law_tw_e1 {w : World} {b t c : ByteArray} (g0 : decide ((2147483647 : Int) < b.size) = false) (g1 : decide ((2147483647 : Int) < t.size) = true) : Calls Tryf.prog 8 #[.string b, .string t, .string c] w (LawPost w) := by
  go_enter Tryf.func8, Tryf.ntmps8
  go_wp2_with fail
  go_ret
  exact ⟨rfl, .refl _ _⟩

set_option maxRecDepth 100000 in
theorem law_tw_e2 {w : World} {b t c : ByteArray} (g0 : decide ((2147483647 : Int) < b.size) = false) (g1 : decide ((2147483647 : Int) < t.size) = false) (g2 : decide ((2147483647 : Int) < c.size) = true) : Calls Tryf.prog 8 #[.string b, .string t, .string c] w (LawPost w) := by
  go_enter Tryf.func8, Tryf.ntmps8
  go_wp2_with fail
  go_ret
  exact ⟨rfl, .refl _ _⟩

set_option maxRecDepth 100000 in
theorem law_tw_e3 {w : World} {b t c : ByteArray} (g0 : decide ((2147483647 : Int) < b.size) = false) (g1 : decide ((2147483647 : Int) < t.size) = false) (g2 : decide ((2147483647 : Int) < c.size) = false) (HPB : PlainIs b false) : Calls Tryf.prog 8 #[.string b, .string t, .string c] w (LawPost w) := by
  go_enter Tryf.func8, Tryf.ntmps8
  go_wp2_with fail
  refine (HPB.out _).mono ?_
  rintro e w1 ⟨rfl, rfl⟩
  simp only []
  go_wp2_with fail
  go_ret
  exact ⟨rfl, .refl _ _⟩

set_option maxRecDepth 100000 in
theorem law_tw_e4 {w : World} {b t c : ByteArray} (g0 : decide ((2147483647 : Int) < b.size) = false) (g1 : decide ((2147483647 : Int) < t.size) = false) (g2 : decide ((2147483647 : Int) < c.size) = false) (HPB : PlainIs b true) (HPT : PlainIs t false) : Calls Tryf.prog 8 #[.string b, .string t, .string c] w (LawPost w) := by
  go_enter Tryf.func8, Tryf.ntmps8
  go_wp2_with fail
  refine (HPB.out _).mono ?_
  rintro e w1 ⟨rfl, rfl⟩
  simp only []
  go_wp2_with fail
  refine (HPT.out _).mono ?_
  rintro e w1 ⟨rfl, rfl⟩
  simp only []
  go_wp2_with fail
  go_ret
  exact ⟨rfl, .refl _ _⟩

set_option maxRecDepth 100000 in
theorem law_tw_e5 {w : World} {b t c : ByteArray} (g0 : decide ((2147483647 : Int) < b.size) = false) (g1 : decide ((2147483647 : Int) < t.size) = false) (g2 : decide ((2147483647 : Int) < c.size) = false) (HPB : PlainIs b true) (HPT : PlainIs t true) (HPC : PlainIs c false) : Calls Tryf.prog 8 #[.string b, .string t, .string c] w (LawPost w) := by
  go_enter Tryf.func8, Tryf.ntmps8
  go_wp2_with fail
  refine (HPB.out _).mono ?_
  rintro e w1 ⟨rfl, rfl⟩
  simp only []
  go_wp2_with fail
  refine (HPT.out _).mono ?_
  rintro e w1 ⟨rfl, rfl⟩
  simp only []
  go_wp2_with fail
  refine (HPC.out _).mono ?_
  rintro e w1 ⟨rfl, rfl⟩
  simp only []
  go_wp2_with fail
  go_ret
  exact ⟨rfl, .refl _ _⟩

set_option maxRecDepth 100000 in
theorem law_tw_e6 {w : World} {b t c : ByteArray} (g0 : decide ((2147483647 : Int) < b.size) = false) (g1 : decide ((2147483647 : Int) < t.size) = false) (g2 : decide ((2147483647 : Int) < c.size) = false) (HPB : PlainIs b true) (HPT : PlainIs t true) (HPC : PlainIs c true) (g3 : ((t.size : Int) == 0) = true) : Calls Tryf.prog 8 #[.string b, .string t, .string c] w (LawPost w) := by
  go_enter Tryf.func8, Tryf.ntmps8
  go_wp2_with fail
  refine (HPB.out _).mono ?_
  rintro e w1 ⟨rfl, rfl⟩
  simp only []
  go_wp2_with fail
  refine (HPT.out _).mono ?_
  rintro e w1 ⟨rfl, rfl⟩
  simp only []
  go_wp2_with fail
  refine (HPC.out _).mono ?_
  rintro e w1 ⟨rfl, rfl⟩
  simp only []
  go_wp2_with fail
  go_ret
  exact ⟨rfl, .refl _ _⟩

theorem plain_is {s : ByteArray} {r : Bool} (hs : s.size ≤ 2147483647) (h : plainB s 60 = r) : PlainIs s r := Lib.hid fun w1 => by
  have := plain_calls (w := w1) (s := s) (m := 60) hs
  unfold PlainPost at this
  rw [h] at this
  exact this

theorem subj_tw {b t c : ByteArray} (hb : plainB b 60 = true) (ht : plainB t 60 = true) (hc : plainB c 60 = true) {S : ByteArray} (hS : b ++ ⟨#[1]⟩ ++ t ++ t ++ ⟨#[2]⟩ ++ c = S) : S.size ≤ 300 ∧ Subj S S.data.toList := by
  obtain ⟨b1, b2⟩ := plainB_true hb
  obtain ⟨t1, t2⟩ := plainB_true ht
  obtain ⟨c1, c2⟩ := plainB_true hc
  have hl : S.data.toList = b.data.toList ++ [1] ++ t.data.toList ++ t.data.toList ++ [2] ++ c.data.toList := by
    subst hS
    simp [ByteArray.data_append, Array.toList_append]
  have hlen : S.data.toList.length = S.size := Array.length_toList
  have lb : b.data.toList.length = b.size := Array.length_toList
  have lt : t.data.toList.length = t.size := Array.length_toList
  have lc : c.data.toList.length = c.size := Array.length_toList
  have hsz : S.size ≤ 300 := by
    have := congrArg List.length hl
    simp only [List.length_append, List.length_cons, List.length_nil] at this
    omega
  refine ⟨hsz, rfl, by omega, fun j h => ?_⟩
  have hm : S[j] ∈ S.data.toList := by
    have e : S[j] = S.data.toList[j]'(by omega) := by rw [Array.getElem_toList]; rfl
    rw [e]
    exact List.getElem_mem _
  rw [hl] at hm
  simp only [List.mem_append, List.mem_cons, List.not_mem_nil, or_false] at hm
  rcases hm with ((((hm | hm) | hm) | hm) | hm) | hm
  · have := (b1 _ hm).2; omega
  · rw [hm]; decide
  · have := (t1 _ hm).2; omega
  · have := (t1 _ hm).2; omega
  · rw [hm]; decide
  · have := (c1 _ hm).2; omega

theorem law_tw (w : World) (b t c : ByteArray) : Calls Tryf.prog 8 #[.string b, .string t, .string c] w (LawPost w) := by
  cases g0 : decide ((2147483647 : Int) < b.size) with
  | true => exact law_tw_e0 g0
  | false =>
    cases g1 : decide ((2147483647 : Int) < t.size) with
    | true => exact law_tw_e1 g0 g1
    | false =>
      cases g2 : decide ((2147483647 : Int) < c.size) with
      | true => exact law_tw_e2 g0 g1 g2
      | false =>
        have k0 := of_decide_eq_false g0
        have k1 := of_decide_eq_false g1
        have k2 := of_decide_eq_false g2
        cases hb : plainB b 60 with
        | false => exact law_tw_e3 g0 g1 g2 (plain_is (by omega) hb)
        | true =>
          cases ht : plainB t 60 with
          | false => exact law_tw_e4 g0 g1 g2 (plain_is (by omega) hb) (plain_is (by omega) ht)
          | true =>
            cases hc : plainB c 60 with
            | false => exact law_tw_e5 g0 g1 g2 (plain_is (by omega) hb) (plain_is (by omega) ht) (plain_is (by omega) hc)
            | true =>
              cases g3 : ((t.size : Int) == 0) with
              | true => exact law_tw_e6 g0 g1 g2 (plain_is (by omega) hb) (plain_is (by omega) ht) (plain_is (by omega) hc) g3
              | false =>
                obtain ⟨S, hS⟩ : ∃ S, b ++ ⟨#[1]⟩ ++ t ++ t ++ ⟨#[2]⟩ ++ c = S := ⟨_, rfl⟩
                obtain ⟨hsz, hsub⟩ := subj_tw hb ht hc hS
                refine law_tw_main g0 g1 g2 (plain_is (by omega) hb) (plain_is (by omega) ht) (plain_is (by omega) hc) g3 (by have := (plainB_true hb).2; omega) (by have := (plainB_true ht).2; omega) (by have := (plainB_true hc).2; omega) hS rfl (by have := hsub.len; omega) (Lib.hid fun w1 => ?_)
                by_cases h200 : S.size ≤ 200
                · exact fm_calls hsub h200
                · exact fm_far hsub hsz (by omega)

end Go.Proofs.YtkbdngcbifonkaaFmt
