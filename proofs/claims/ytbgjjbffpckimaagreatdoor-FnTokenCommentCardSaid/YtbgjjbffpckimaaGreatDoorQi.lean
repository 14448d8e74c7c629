/-
  The tokens of a text: the manual: its state, brackets, comments.
-/
import Derived.Test.YtbgjjbffpckimaaGreatDoorQb
import Derived.Test.YtbgjjbffpckimaaGreatDoorQd
namespace Go.Proofs.YtbgjjbffpckimaaGreatDoor
set_option linter.all false
open Go.RowKit

/-- The byte ahead, 0 at the end. -/
def hb : Bs → Nat
  | [] => 0
  | c :: _ => c.toNat

/-- A state of the manual's lexer: the text, the rest of it, what is told; the line is one by the rest. -/
structure Ls (w : World) (p : Nat) (s : ByteArray) (r : Bs) (cd : Int) : Prop where
  c0 : w.cell? ⟨p, 0, none⟩ = some (.string s)
  c1 : ∃ i : Nat, w.cell? ⟨p, 1, none⟩ = some (.int .i64 (i : Int)) ∧ s.data.toList.drop i = r ∧ i ≤ s.size
  c2 : w.cell? ⟨p, 2, none⟩ = some (.int .i64 (1 + nl s.data.toList - nl r))
  c3 : w.cell? ⟨p, 3, none⟩ = some (.int .i64 cd)
  fz : ∀ j, w.frozen? ⟨p, j, none⟩ = false
  sz : s.size ≤ 2000

section
variable {w w' : World} {p : Nat} {s : ByteArray} {r : Bs} {cd : Int}
theorem Ls.lt (h : Ls w p s r cd) : p < w.heap.size := World.block_lt_of_cell? w _ h.c0
theorem Ls.keep {T : Nat → Prop} (h : Ls w p s r cd) (hc : Ch T w w') (hT : ¬ T p) : Ls w' p s r cd := by
  obtain ⟨i, h1, h2⟩ := h.c1
  exact ⟨hc.cell_some h.c0 hT, ⟨i, hc.cell_some h1 hT, h2⟩, hc.cell_some h.c2 hT, hc.cell_some h.c3 hT, fun j => (hc.frozen (p := ⟨p, j, none⟩) h.lt hT).trans (h.fz j), h.sz⟩
theorem Ls.moved (h : Ls w p s r cd) (hc : Ch (fun _ => False) w w') : Ls w' p s r cd := h.keep hc id
end
theorem nl_nn (r : Bs) : 0 ≤ nl r ∧ nl r ≤ (r.length : Int) := by
  unfold nl
  have := List.length_filter_le (· == (10 : UInt8)) r
  omega
theorem nl_apps (a r : Bs) : nl (a ++ r) = nl a + nl r := by simp [nl]
theorem drop_nil' {s : ByteArray} {r : Bs} {i : Nat} (h : s.data.toList.drop i = r) (hi : i ≤ s.size) : (s.size ≤ i ↔ r = []) := by
  have hl : s.data.toList.length = s.size := Array.length_toList
  rw [← h, List.drop_eq_nil_iff, hl]
theorem drop_len {s : ByteArray} {r : Bs} {i : Nat} (h : s.data.toList.drop i = r) : r.length = s.size - i := by
  have hl : s.data.toList.length = s.size := Array.length_toList
  rw [← h, List.length_drop, hl]
/-- The byte at a distance. -/
theorem hb_drop {s : ByteArray} {r : Bs} {i k : Nat} (h : s.data.toList.drop i = r) (hk : i + k < s.size) : hb (r.drop k) = (s[i + k]).toNat := by
  rw [← h, List.drop_drop, List.drop_eq_getElem_cons (by simpa using hk)]
  rfl
theorem hb_end {s : ByteArray} {r : Bs} {i k : Nat} (h : s.data.toList.drop i = r) (hk : s.size ≤ i + k) : hb (r.drop k) = 0 := by
  rw [← h, List.drop_drop, List.drop_eq_nil_of_le (by simpa using hk)]
  rfl

set_option maxRecDepth 100000 in
set_option maxHeartbeats 4000000 in
theorem isDone_calls {w : World} {p : Nat} {s : ByteArray} {r : Bs} {cd : Int} (H : Hid (Ls w p s r cd)) :
    Calls Tryz.prog 21 #[ptr p] w fun e w' => e = .returned (.bool (decide (r = []))) ∧ Ch (fun _ => False) w w' := by
  obtain ⟨i, h1, h2, h3⟩ := H.out.c1
  have h0 := H.out.c0
  have hsz := H.out.sz
  have hd := drop_nil' h2 h3
  have hv : decide ((s.size : Int) ≤ (i : Int)) = decide (r = []) := by
    rw [decide_eq_decide]
    exact ⟨fun h => hd.1 (by omega), fun h => by have := hd.2 h; omega⟩
  have hv2 : decide (s.size ≤ i) = decide (r = []) := by rw [← hv]; simp
  have HV := Lib.hid hv2
  clear hv hv2 hd h2
  go_enter Tryz.func21, Tryz.ntmps21
  go_wp2_with fail
  refine wp_region_noPanic ?_
  go_region_law (fail)
  all_goals
    refine NoPanic.normal ?_
    go_wp2_with fail
    go_ret
    refine ⟨?_, by first | exact Ch.refl _ _ | exact (Ch.refl _ _).drew | exact (Ch.refl _ _).drew.drew | exact (Ch.refl _ _).drew.drew.drew⟩
    exact congrArg (fun b => Ending.returned (.bool b)) HV.out

set_option maxRecDepth 100000 in
set_option maxHeartbeats 4000000 in
theorem byteAt_calls {w : World} {p : Nat} {s : ByteArray} {r : Bs} {cd : Int} (H : Hid (Ls w p s r cd)) (k : Nat) (hk : k < 10000) :
    Calls Tryz.prog 22 #[ptr p, .int .i64 (k : Int)] w fun e w' => e = .returned (.int .u8 (hb (r.drop k) : Int)) ∧ Ch (fun _ => False) w w' := by
  obtain ⟨i, h1, h2, h3⟩ := H.out.c1
  have h0 := H.out.c0
  have hsz := H.out.sz
  have hw : IntKind.i64.wrap ((i : Int) + (k : Int)) = (i : Int) + (k : Int) := by rw [IntKind.wrap_i64]; omega
  go_enter Tryz.func22, Tryz.ntmps22
  go_wp2_with fail
  refine wp_region_noPanic ?_
  by_cases hlt : i + k < s.size
  · have hv := hb_drop h2 hlt
    have HV : Hid (∀ n (hn : n < s.size), n = i + k → ((s[n]'hn).toNat : Int) = (hb (r.drop k) : Int)) := Lib.hid fun n hn e => by subst e; rw [hv]
    have g2 : (0 : Int) ≤ (i : Int) + (k : Int) := by omega
    have g1 : ¬ (s.size : Int) ≤ (i : Int) + (k : Int) := by omega
    clear h2 hv
    go_region_law (fail)
    all_goals
      refine NoPanic.normal ?_
      go_wp2_with fail
      refine wp_region_noPanic ?_
      go_region_law (fail)
      all_goals
        refine NoPanic.normal ?_
        go_wp2_with fail
        go_ret
        exact ⟨congrArg (fun b => Ending.returned (.int .u8 b)) (HV.out _ (by omega) (by omega)), by first | exact Ch.refl _ _ | exact (Ch.refl _ _).drew | exact (Ch.refl _ _).drew.drew | exact (Ch.refl _ _).drew.drew.drew⟩
  · have HV := Lib.hid (hb_end (k := k) h2 (by omega))
    have g1 : (s.size : Int) ≤ (i : Int) + (k : Int) := by omega
    clear h2
    go_region_law (fail)
    all_goals
      refine NoPanic.normal ?_
      go_wp2_with fail
      go_ret
      exact ⟨by rw [HV.out]; rfl, by first | exact Ch.refl _ _ | exact (Ch.refl _ _).drew | exact (Ch.refl _ _).drew.drew | exact (Ch.refl _ _).drew.drew.drew⟩
end Go.Proofs.YtbgjjbffpckimaaGreatDoor

namespace Go.Proofs.YtbgjjbffpckimaaGreatDoor
set_option linter.all false
open Go.RowKit

section
variable {w w' : World} {p : Nat} {s : ByteArray} {r : Bs} {cd : Int}
theorem Ls.tell (h : Ls w p s r cd) (v : Int) : Ls (w.setCell ⟨p, 3, none⟩ (.int .i64 v)) p s r v := by
  obtain ⟨i, h1, h2⟩ := h.c1
  exact ⟨co h.c0 (addr_ne (by decide)), ⟨i, co h1 (addr_ne (by decide)), h2⟩, co h.c2 (addr_ne (by decide)), cs h.c3, fun j => by rw [World.frozen?_setCell]; exact h.fz j, h.sz⟩
theorem Ls.at1 {c : UInt8} {t : Bs} {i : Nat} (h : Ls w p s (c :: t) cd) (hi : w.cell? ⟨p, 1, none⟩ = some (.int .i64 (i : Int))) : s.data.toList.drop (i + 1) = t ∧ i + 1 ≤ s.size := by
  obtain ⟨i2, h1, h2, h3⟩ := h.c1
  obtain rfl : i2 = i := by rw [hi] at h1; simp at h1; omega
  have hl := drop_len h2
  have := congrArg (List.drop 1) h2
  rw [List.drop_drop] at this
  simp at hl
  exact ⟨this, by omega⟩
theorem Ls.adv {c : UInt8} {t : Bs} {i : Nat} (h : Ls w p s (c :: t) cd) (hc : c ≠ 10) (hi : w.cell? ⟨p, 1, none⟩ = some (.int .i64 (i : Int))) : Ls (w.setCell ⟨p, 1, none⟩ (.int .i64 ((i : Int) + 1))) p s t cd := by
  have ha := h.at1 hi
  have h2 := h.c2
  rw [nl_cons, if_neg hc, Int.zero_add] at h2
  exact ⟨co h.c0 (addr_ne (by decide)), ⟨i + 1, cs hi, ha.1, ha.2⟩, co h2 (addr_ne (by decide)), co h.c3 (addr_ne (by decide)), fun j => by rw [World.frozen?_setCell]; exact h.fz j, h.sz⟩
theorem Ls.nline {t : Bs} {i : Nat} (h : Ls w p s ((10 : UInt8) :: t) cd) (hi : w.cell? ⟨p, 1, none⟩ = some (.int .i64 (i : Int))) :
    Ls ((w.setCell ⟨p, 2, none⟩ (.int .i64 (1 + nl s.data.toList - nl ((10 : UInt8) :: t) + 1))).setCell ⟨p, 1, none⟩ (.int .i64 ((i : Int) + 1))) p s t cd := by
  have ha := h.at1 hi
  have e : 1 + nl s.data.toList - nl ((10 : UInt8) :: t) + 1 = 1 + nl s.data.toList - nl t := by rw [nl_cons]; simp; omega
  rw [e]
  exact ⟨co (co h.c0 (addr_ne (by decide))) (addr_ne (by decide)), ⟨i + 1, cs (co hi (addr_ne (by decide))), ha.1, ha.2⟩, co (cs h.c2) (addr_ne (by decide)), co (co h.c3 (addr_ne (by decide))) (addr_ne (by decide)),
    fun j => by rw [World.frozen?_setCell, World.frozen?_setCell]; exact h.fz j, h.sz⟩
theorem ch_p {p : Nat} {w w' : World} (h : Ch (· = p) w w') (k : Nat) (v : Value) : Ch (· = p) w (w'.setCell ⟨p, k, none⟩ v) := h.setCell (p := ⟨p, k, none⟩) (fun _ => rfl) v
theorem Ls.nls (h : Ls w p s r cd) : 0 ≤ nl r ∧ nl r ≤ nl s.data.toList ∧ nl s.data.toList ≤ 2000 ∧ r.length ≤ 2000 := by
  obtain ⟨i, _, h2, h3⟩ := h.c1
  have e := List.take_append_drop i s.data.toList
  rw [h2] at e
  have e2 := congrArg nl e
  rw [nl_apps] at e2
  have a := nl_nn r
  have b := nl_nn (s.data.toList.take i)
  have c := nl_nn s.data.toList
  have hl : s.data.toList.length = s.size := Array.length_toList
  have hd := drop_len h2
  have hs := h.sz
  omega
theorem Ls.wrap (h : Ls w p s r cd) {i : Nat} (hi : w.cell? ⟨p, 1, none⟩ = some (.int .i64 (i : Int))) : IntKind.i64.wrap ((i : Int) + 1) = (i : Int) + 1 ∧ IntKind.i64.wrap (1 + nl s.data.toList - nl r + 1) = 1 + nl s.data.toList - nl r + 1 := by
  obtain ⟨i2, h1, h2, h3⟩ := h.c1
  obtain rfl : i2 = i := by rw [hi] at h1; simp at h1; omega
  have hb := h.nls
  have hs := h.sz
  rw [IntKind.wrap_i64, IntKind.wrap_i64]
  omega
end

set_option maxRecDepth 100000 in
set_option maxHeartbeats 4000000 in
theorem step_calls {w : World} {p : Nat} {s : ByteArray} {c : UInt8} {t : Bs} {cd : Int} (H : Hid (Ls w p s (c :: t) cd)) :
    Calls Tryz.prog 23 #[ptr p] w fun e w' => e = .returned (.tuple #[]) ∧ Ls w' p s t cd ∧ Ch (· = p) w w' := by
  obtain ⟨i, h1, h2, h3⟩ := H.out.c1
  have h0 := H.out.c0
  have h4 := H.out.c2
  have hz := H.out.fz
  have hsz := H.out.sz
  have hpl := H.out.lt
  have hlen := drop_len h2
  have hlt : i < s.size := by simp at hlen; omega
  have hv := hb_drop (k := 0) h2 hlt
  have hsi : ∀ n (hn : n < s.size), n = i → s[n]'hn = c := fun n hn e => by subst e; exact UInt8.toNat_inj.1 hv.symm
  have hsc := hsi i hlt rfl
  have hnext : s.data.toList.drop (i + 1) = t := by
    have := congrArg (List.drop 1) h2
    rw [List.drop_drop] at this
    exact this
  have HD : Hid (∀ w1, Ch (fun _ => False) w w1 → Calls Tryz.prog 21 #[ptr p] w1 fun e w' => e = .returned (.bool false) ∧ Ch (fun _ => False) w1 w') := Lib.hid fun w1 hc =>
    (isDone_calls (Lib.hid (H.out.moved hc))).mono fun e w' h => ⟨by rw [h.1]; simp, h.2⟩
  have HS := Lib.hid hsi
  have HN := Lib.hid hnext
  clear hnext h2 hv hsi
  go_enter Tryz.func23, Tryz.ntmps23
  go_wp2_with fail
  refine wp_region_noPanic ?_
  have hws := H.out.wrap h1
  have hw1 := hws.1
  have hw2 := hws.2
  clear hws
  by_cases h10 : c = 10
  · subst h10
    go_region_law (go_simp; go_at_call 21; refine (HD.out _ (by first | exact Ch.refl _ _ | exact (Ch.refl _ _).drew | exact (Ch.refl _ _).drew.drew)).mono ?_; rintro e w2 ⟨rfl, hc⟩
                   have hcc : Ch (fun _ => False) w w2 := Ch.trans (by first | exact Ch.refl _ _ | exact (Ch.refl _ _).drew | exact (Ch.refl _ _).drew.drew) hc
                   have k0 := hcc.cell_some h0 id
                   have k1 := hcc.cell_some h1 id)
    all_goals
      refine NoPanic.normal ?_
      have hL := H.out.moved hcc
      have k2 := hL.c2
      have kz := hL.fz
      go_wp2_with fail
      refine bodyPost_end (results_none rfl _ _ _) rfl ?_
      refine ⟨rfl, ?_, ch_p (ch_p (Ch.mono (T := fun _ => False) (by first | exact hcc | exact hcc.drew | exact hcc.drew.drew) fun _ _ h => h.elim) _ _) _ _⟩
      first | exact hL.nline k1 | exact (H.out.moved hcc.drew).nline k1 | exact (H.out.moved hcc.drew.drew).nline k1
  · have g10 : ((c.toNat : Int) == 10) = false := by
      have : c.toNat ≠ 10 := fun e => h10 (UInt8.toNat_inj.1 (by rw [e]; rfl))
      simp; omega
    go_region_law (go_simp; go_at_call 21; refine (HD.out _ (by first | exact Ch.refl _ _ | exact (Ch.refl _ _).drew | exact (Ch.refl _ _).drew.drew)).mono ?_; rintro e w2 ⟨rfl, hc⟩
                   have hcc : Ch (fun _ => False) w w2 := Ch.trans (by first | exact Ch.refl _ _ | exact (Ch.refl _ _).drew | exact (Ch.refl _ _).drew.drew) hc
                   have k0 := hcc.cell_some h0 id
                   have k1 := hcc.cell_some h1 id)
    all_goals
      refine NoPanic.normal ?_
      have hL := H.out.moved hcc
      have k2 := hL.c2
      have kz := hL.fz
      go_wp2_with fail
      refine bodyPost_end (results_none rfl _ _ _) rfl ?_
      refine ⟨rfl, ?_, ch_p (Ch.mono (T := fun _ => False) (by first | exact hcc | exact hcc.drew | exact hcc.drew.drew) fun _ _ h => h.elim) _ _⟩
      first | exact hL.adv h10 k1 | exact (H.out.moved hcc.drew).adv h10 k1 | exact (H.out.moved hcc.drew.drew).adv h10 k1
end Go.Proofs.YtbgjjbffpckimaaGreatDoor

namespace Go.Proofs.YtbgjjbffpckimaaGreatDoor
set_option linter.all false
open Go.RowKit

/-- What is told behind 'tell'. -/
def tl (cd v : Int) : Int := if cd = 0 then v else cd

set_option maxRecDepth 100000 in
theorem tell_calls {w : World} {p : Nat} {s : ByteArray} {r : Bs} {cd v : Int} (H : Hid (Ls w p s r cd)) :
    Calls Tryz.prog 49 #[ptr p, .int .i64 v] w fun e w' => e = .returned (.tuple #[]) ∧ Ls w' p s r (tl cd v) ∧ Ch (· = p) w w' := by
  have h3 := H.out.c3
  have hz := H.out.fz
  have hl := H.out.lt
  go_enter Tryz.func49, Tryz.ntmps49
  by_cases h0 : cd = 0
  · subst h0
    go_wp2_with fail
    refine bodyPost_end (results_none rfl _ _ _) rfl ?_
    exact ⟨rfl, H.out.tell v, ch_p (Ch.refl _ _) _ _⟩
  · have g0 : (cd == 0) = false := by simpa using h0
    have e : tl cd v = cd := by unfold tl; rw [if_neg h0]
    rw [e]
    go_wp2_with fail
    refine bodyPost_end (results_none rfl _ _ _) rfl ?_
    exact ⟨rfl, H.out, Ch.refl _ _⟩

def StepsRel (p : Nat) (s : ByteArray) (r : Bs) (cd : Int) (n m : Nat) (v1 : Value) (w0 wr : World) : Prop :=
  ∃ k : Nat, v1 = .int .i64 (k : Int) ∧ k ≤ n ∧ Ls wr p s (r.drop (n - k)) cd ∧ Ch (· = p) w0 wr ∧ m = k

set_option maxRecDepth 100000 in
set_option maxHeartbeats 1000000 in
theorem steps_calls {w : World} {p : Nat} {s : ByteArray} {r : Bs} {cd : Int} (n : Nat) (H : Hid (Ls w p s r cd)) (hn : n ≤ r.length) :
    Calls Tryz.prog 46 #[ptr p, .int .i64 (n : Int)] w fun e w' => e = .returned (.tuple #[]) ∧ Ls w' p s (r.drop n) cd ∧ Ch (· = p) w w' := by
  have hrl := H.out.nls
  go_enter Tryz.func46, Tryz.ntmps46
  go_wp2_with fail
  go_loopg [1] n (fun m v1 wr => StepsRel p s r cd n m v1 w wr)
  case atStart => exact ⟨n, rfl, Nat.le_refl _, by simpa using H.out, Ch.refl _ _, rfl⟩
  case round =>
    obtain ⟨k, rfl, hk, hls, hc, hm⟩ := hrel
    have HC := Lib.hid hc
    cases k with
    | zero =>
      have HL := Lib.hid hls
      clear hls hc
      go_wp2_with fail
      refine bodyPost_end (results_none rfl _ _ _) rfl ?_
      exact ⟨rfl, HL.out, HC.out⟩
    | succ k =>
      have hne : n - (k + 1) < r.length := by omega
      have hd := List.drop_eq_getElem_cons hne
      rw [hd] at hls
      have HL := Lib.hid hls
      have e1 : n - (k + 1) + 1 = n - k := by omega
      rw [e1] at HL
      clear hls hc hd
      have g0 : ((0 : Int) < ((k + 1 : Nat) : Int)) := by omega
      have hw : IntKind.i64.wrap (((k + 1 : Nat) : Int) - 1) = (k : Int) := by rw [IntKind.wrap_i64]; omega
      go_wp2_with fail
      refine (step_calls HL).mono ?_
      rintro e w2 ⟨rfl, hl2, hc2⟩
      have HL2 := Lib.hid hl2
      have HC2 := Lib.hid (HC.out.trans hc2)
      clear hl2 hc2
      simp only []
      go_wp2_with fail
      go_roundg k
      case measure => omega
      case rel => exact ⟨k, rfl, by omega, HL2.out, HC2.out, rfl⟩

/-- The byte's classes, of a number. -/
def nDec (b : Nat) : Bool := decide (48 ≤ b) && decide (b ≤ 57)
def nLet (b : Nat) : Bool := (decide (97 ≤ b) && decide (b ≤ 122)) || (decide (65 ≤ b) && decide (b ≤ 90)) || decide (b = 95)
theorem nDec_hb (r : Bs) : nDec (hb r) = hdIs isDec r := by
  cases r <;> rfl
theorem nLet_hb (r : Bs) : nLet (hb r) = hdIs isLet r := by
  cases r <;> rfl

set_option maxRecDepth 100000 in
theorem digit_calls {w : World} {b : Nat} : Calls Tryz.prog 52 #[.int .u8 (b : Int)] w fun e w' => e = .returned (.bool (nDec b)) ∧ w' = w := by
  go_enter Tryz.func52, Tryz.ntmps52
  go_wp2_with fail
  all_goals go_ret
  all_goals refine ⟨?_, rfl⟩
  all_goals refine congrArg (fun b => Ending.returned (.bool b)) ?_
  all_goals unfold nDec
  all_goals (rw [Bool.eq_iff_iff]; simp; try omega)

set_option maxRecDepth 100000 in
theorem letter_calls {w : World} {b : Nat} : Calls Tryz.prog 50 #[.int .u8 (b : Int)] w fun e w' => e = .returned (.bool (nLet b)) ∧ w' = w := by
  go_enter Tryz.func50, Tryz.ntmps50
  go_wp2_with fail
  all_goals go_ret
  all_goals refine ⟨?_, rfl⟩
  all_goals refine congrArg (fun b => Ending.returned (.bool b)) ?_
  all_goals unfold nLet
  all_goals (rw [Bool.eq_iff_iff]; simp; try omega)
end Go.Proofs.YtbgjjbffpckimaaGreatDoor

namespace Go.Proofs.YtbgjjbffpckimaaGreatDoor
set_option linter.all false
open Go.RowKit

theorem byteAt_at {w : World} {p : Nat} {s : ByteArray} {r : Bs} {cd : Int} (H : Hid (Ls w p s r cd)) (k : Nat) {a b : Int} (ha : a = (k : Int)) (hk : k < 10000) (hbv : (hb (r.drop k) : Int) = b) :
    Calls Tryz.prog 22 #[ptr p, .int .i64 a] w fun e w' => e = .returned (.int .u8 b) ∧ Ch (fun _ => False) w w' := by
  subst ha
  subst hbv
  exact byteAt_calls H k hk

theorem eqs_lt : ∀ {t : Bs} {k : Nat}, k < eqs t → hb (t.drop k) = 61
  | [], k, h => by simp [eqs] at h
  | c :: t, k, h => by
    unfold eqs at h
    rw [List.takeWhile_cons] at h
    by_cases hc : (c == 61) = true
    · rw [if_pos hc] at h
      cases k with
      | zero => rw [eq_of_beq hc]; rfl
      | succ k => exact eqs_lt (t := t) (by unfold eqs; simpa using h)
    · rw [if_neg hc] at h
      simp at h
theorem eqs_drop : ∀ t : Bs, t.drop (eqs t) = t.dropWhile (· == 61)
  | [] => rfl
  | c :: t => by
    unfold eqs
    rw [List.takeWhile_cons, List.dropWhile_cons]
    by_cases hc : (c == 61) = true
    · rw [if_pos hc, if_pos hc]
      exact eqs_drop t
    · rw [if_neg hc, if_neg hc]
      rfl
theorem eqs_not (t : Bs) : hb (t.dropWhile (· == 61)) ≠ 61 := by
  induction t with
  | nil => decide
  | cons c t ih =>
    rw [List.dropWhile_cons]
    by_cases hc : (c == 61) = true
    · rw [if_pos hc]; exact ih
    · rw [if_neg hc]
      intro h
      exact hc (by simpa using (UInt8.toNat_inj.1 (show c.toNat = (61 : UInt8).toNat from h)))
theorem eqs_le (t : Bs) : eqs t ≤ t.length := by
  unfold eqs
  exact (List.takeWhile_sublist _).length_le
theorem hb_is {r : Bs} {c : UInt8} (hc : c ≠ 0) : hb r = c.toNat ↔ r.head? = some c := by
  cases r with
  | nil =>
    refine ⟨fun h => absurd (UInt8.toNat_inj.1 (show (0 : UInt8).toNat = c.toNat from h)).symm hc, fun h => by simp at h⟩
  | cons d t => exact ⟨fun h => by rw [UInt8.toNat_inj.1 h]; rfl, fun h => by simp at h; rw [h]; rfl⟩

/-- The level of a bracket, -1 where there is none. -/
def brkN (b : UInt8) (r : Bs) : Int := match brk b r with
  | some k => (k : Int)
  | none => -1
theorem brkN_eq {b : UInt8} (hb0 : b ≠ 0) (r : Bs) : brkN b r = if hb r = b.toNat ∧ hb ((r.drop 1).dropWhile (· == 61)) = b.toNat then (eqs (r.drop 1) : Int) else -1 := by
  simp only [hb_is hb0]
  unfold brkN
  cases r with
  | nil => simp [brk]
  | cons c t =>
    simp only [brk, List.head?_cons, Option.some.injEq, List.drop_succ_cons, List.drop_zero]
    by_cases h : c = b ∧ (t.dropWhile (· == 61)).head? = some b
    · rw [if_pos h, if_pos h]
    · rw [if_neg h, if_neg h]

def BrRel (p : Nat) (s : ByteArray) (r : Bs) (cd : Int) (n : Nat) (v5 : Value) (w0 wr : World) : Prop :=
  ∃ k : Nat, v5 = .int .i64 (k : Int) ∧ k ≤ eqs (r.drop 1) ∧ Ch (fun _ => False) w0 wr ∧ n = eqs (r.drop 1) - k

set_option maxRecDepth 100000 in
set_option maxHeartbeats 1000000 in
theorem bracket_calls {w : World} {p : Nat} {s : ByteArray} {r : Bs} {cd : Int} {b : UInt8} (hb0 : b ≠ 0) (H : Hid (Ls w p s r cd)) :
    Calls Tryz.prog 47 #[ptr p, .int .u8 (b.toNat : Int)] w fun e w' => e = .returned (.int .i64 (brkN b r)) ∧ Ch (fun _ => False) w w' := by
  have hrl := H.out.nls
  have hel := eqs_le (r.drop 1)
  have hel2 : (r.drop 1).length ≤ 2000 := by rw [List.length_drop]; omega
  go_enter Tryz.func47, Tryz.ntmps47
  go_wp2_with fail
  go_loopg [5] (eqs (r.drop 1)) (fun n v5 wr => BrRel p s r cd n v5 w wr)
  case atStart => exact ⟨0, rfl, Nat.zero_le _, Ch.refl _ _, rfl⟩
  case round =>
    obtain ⟨k, rfl, hk, hc, hn⟩ := hrel
    have HC := Lib.hid hc
    have HL := Lib.hid (H.out.moved hc)
    clear hc
    have hw : IntKind.i64.wrap (1 + (k : Int)) = 1 + (k : Int) := by rw [IntKind.wrap_i64]; omega
    have hw2 : IntKind.i64.wrap ((k : Int) + 1) = (k : Int) + 1 := by rw [IntKind.wrap_i64]; omega
    by_cases hlt : k < eqs (r.drop 1)
    · have hv : (hb (r.drop (1 + k)) : Int) = 61 := by rw [← List.drop_drop, eqs_lt hlt]; rfl
      have HV := Lib.hid hv
      clear hv
      go_wp2_with fail
      refine (byteAt_at HL (1 + k) (by omega) (by omega) HV.out).mono ?_
      rintro e w2 ⟨rfl, hc2⟩
      have HC2 := Lib.hid (HC.out.trans hc2)
      clear hc2
      simp only []
      go_wp2_with fail
      go_roundg (eqs (r.drop 1) - (k + 1))
      case measure => omega
      case rel => exact ⟨k + 1, rfl, hlt, HC2.out, rfl⟩
    · have hke : k = eqs (r.drop 1) := by omega
      have hdd : r.drop (1 + k) = (r.drop 1).dropWhile (· == 61) := by rw [← List.drop_drop, hke, eqs_drop]
      have hnn := eqs_not (r.drop 1)
      have hbe := brkN_eq hb0 r
      rw [← hdd] at hnn hbe
      rw [← hke] at hbe
      generalize hx : hb (r.drop (1 + k)) = x at hnn hbe
      generalize hy : hb r = y at hbe
      have HX : Hid ((hb (r.drop (1 + k)) : Int) = (x : Int)) := Lib.hid (by rw [hx])
      have HY : Hid ((hb (r.drop 0) : Int) = (y : Int)) := Lib.hid (by rw [List.drop_zero, hy])
      have g61 : ((x : Int) == 61) = false := by simp; omega
      clear hdd hx hy hke
      go_wp2_with fail
      refine (byteAt_at HL (1 + k) (by omega) (by omega) HX.out).mono ?_
      rintro e w2 ⟨rfl, hc2⟩
      have HC2 := Lib.hid (HC.out.trans hc2)
      have HL2 := Lib.hid (HL.out.moved hc2)
      clear hc2 HL HC
      simp only []
      go_wp2_with fail
      refine (byteAt_at HL2 0 rfl (by omega) HY.out).mono ?_
      rintro e w3 ⟨rfl, hc3⟩
      have HC3 := Lib.hid (HC2.out.trans hc3)
      have HL3 := Lib.hid (HL2.out.moved hc3)
      clear hc3 HL2 HC2
      simp only []
      by_cases hyb : y = b.toNat
      · have gy : ((y : Int) == (b.toNat : Int)) = true := by simp; omega
        go_wp2_with fail
        refine (byteAt_at HL3 (1 + k) (by omega) (by omega) HX.out).mono ?_
        rintro e w4 ⟨rfl, hc4⟩
        have HC4 := Lib.hid (HC3.out.trans hc4)
        clear hc4 HL3 HC3
        simp only []
        by_cases hxb : x = b.toNat
        · have gx : ((x : Int) == (b.toNat : Int)) = true := by simp; omega
          rw [if_pos ⟨hyb, hxb⟩] at hbe
          have HB := Lib.hid hbe
          clear hbe
          go_wp2_with fail
          go_ret
          exact ⟨by rw [HB.out]; rfl, HC4.out⟩
        · have gx : ((x : Int) == (b.toNat : Int)) = false := by simp; omega
          rw [if_neg (fun h => hxb h.2)] at hbe
          have HB := Lib.hid hbe
          clear hbe
          go_wp2_with fail
          go_ret
          exact ⟨by rw [HB.out]; rfl, HC4.out⟩
      · have gy : ((y : Int) == (b.toNat : Int)) = false := by simp; omega
        rw [if_neg (fun h => hyb h.1)] at hbe
        have HB := Lib.hid hbe
        clear hbe
        go_wp2_with fail
        go_ret
        exact ⟨by rw [HB.out]; rfl, HC3.out⟩
end Go.Proofs.YtbgjjbffpckimaaGreatDoor

namespace Go.Proofs.YtbgjjbffpckimaaGreatDoor
set_option linter.all false
open Go.RowKit

theorem isDone_at {w : World} {p : Nat} {s : ByteArray} {r : Bs} {cd : Int} (H : Hid (Ls w p s r cd)) {v : Bool} (hv : decide (r = []) = v) :
    Calls Tryz.prog 21 #[ptr p] w fun e w' => e = .returned (.bool v) ∧ Ch (fun _ => False) w w' := by
  subst hv
  exact isDone_calls H
theorem steps_at {w : World} {p : Nat} {s : ByteArray} {r : Bs} {cd : Int} (H : Hid (Ls w p s r cd)) (n : Nat) {a : Int} (ha : a = (n : Int)) (hn : n ≤ r.length) :
    Calls Tryz.prog 46 #[ptr p, .int .i64 a] w fun e w' => e = .returned (.tuple #[]) ∧ Ls w' p s (r.drop n) cd ∧ Ch (· = p) w w' := by
  subst ha
  exact steps_calls n H hn

theorem brk_len {b : UInt8} {r : Bs} {k : Nat} (h : brk b r = some k) : k + 2 ≤ r.length := by
  cases r with
  | nil => simp [brk] at h
  | cons c t =>
    simp only [brk] at h
    split at h
    · rename_i hc
      have hk : eqs t = k := by simpa using h
      have h2 : t.dropWhile (· == 61) ≠ [] := by
        intro e
        rw [e] at hc
        simp at hc
      have h3 := eqs_drop t
      have h4 : (t.drop (eqs t)).length = t.length - eqs t := List.length_drop
      have h5 : 0 < (t.dropWhile (· == 61)).length := List.length_pos_iff.2 h2
      rw [h3] at h4
      rw [List.length_cons]
      omega
    · cases h
theorem brkN_some {b : UInt8} {r : Bs} {k : Nat} : brkN b r = (k : Int) ↔ brk b r = some k := by
  unfold brkN
  cases h : brk b r with
  | none => simp
  | some j => simp; omega

theorem hb_10 {R : Bs} (h : hb R = 10) : ∃ t, R = 10 :: t := by
  cases R with
  | nil => simp [hb] at h
  | cons c t => exact ⟨t, by rw [UInt8.toNat_inj.1 (show c.toNat = (10 : UInt8).toNat from h)]⟩
theorem cut10_no {R : Bs} (h : ∀ t, R ≠ 10 :: t) : cut10 R = R := by
  cases R with
  | nil => rfl
  | cons c t =>
    have : c ≠ 10 := fun e => h t (by rw [e])
    rw [cut10, if_neg this]

/-- The loop of 'long': what is read so far, and what is told. -/
def LoInv (k : Nat) (R0 acc r : Bs) (cd : Int) : Prop :=
  (cd = 0 ∧ longB k R0 = (longB k r).map (acc ++ ·)) ∨ (cd = 2 ∧ longB k R0 = .no 2)
theorem map_map {f g : Bs → Bs} : ∀ z : Rz Bs, (z.map f).map g = z.map (fun x => g (f x))
  | .ok _ _ => rfl
  | .no _ => rfl
theorem LoInv.start (k : Nat) (R0 : Bs) : LoInv k R0 [] R0 0 := .inl ⟨rfl, by cases longB k R0 <;> rfl⟩
theorem LoInv.next {k : Nat} {R0 acc t : Bs} {c : UInt8} {cd : Int} (h : LoInv k R0 acc (c :: t) cd) (h1 : ¬ brk 93 (c :: t) = some k) (h2 : ¬ (k = 0 ∧ c = 91 ∧ t.head? = some 91)) : LoInv k R0 (acc ++ [c]) t cd := by
  rcases h with ⟨h0, h⟩ | h
  · refine .inl ⟨h0, ?_⟩
    rw [h, longB, if_neg h1, if_neg h2, map_map]
    simp
  · exact .inr h
theorem LoInv.open {k : Nat} {R0 acc t acc2 r2 : Bs} {c : UInt8} {cd : Int} (h : LoInv k R0 acc (c :: t) cd) (h1 : ¬ brk 93 (c :: t) = some k) (h2 : k = 0 ∧ c = 91 ∧ t.head? = some 91) : LoInv k R0 acc2 r2 (tl cd 2) := by
  rcases h with ⟨h0, h⟩ | h
  · refine .inr ⟨by rw [h0]; rfl, ?_⟩
    rw [h, longB, if_neg h1, if_pos h2]
    rfl
  · exact .inr ⟨by rw [h.1]; rfl, h.2⟩

/-- What 'long' leaves. -/
def LoPost (p : Nat) (s : ByteArray) (k : Nat) (R0 : Bs) (w : World) (e : Ending) (w' : World) : Prop :=
  Ch (· = p) w w' ∧ ((∃ x r', longB k R0 = .ok x r' ∧ e = .returned (.string ⟨x.toArray⟩) ∧ Ls w' p s r' 0) ∨ (∃ (kk : Nat) (v : ByteArray) (r' : Bs), longB k R0 = .no kk ∧ (kk = 1 ∨ kk = 2) ∧ e = .returned (.string v) ∧ Ls w' p s r' (kk : Int)))
theorem LoInv.nil {p k : Nat} {s : ByteArray} {R0 acc : Bs} {cd : Int} {w w' : World} (h : LoInv k R0 acc [] cd) (hl : Ls w' p s [] (tl cd 1)) (hc : Ch (· = p) w w') (v : ByteArray) : LoPost p s k R0 w (.returned (.string v)) w' := by
  refine ⟨hc, .inr ?_⟩
  rcases h with ⟨rfl, h⟩ | ⟨rfl, h⟩
  · exact ⟨1, v, [], by rw [h, longB]; rfl, .inl rfl, rfl, hl⟩
  · exact ⟨2, v, [], h, .inr rfl, rfl, hl⟩
theorem LoInv.close {p k : Nat} {s : ByteArray} {R0 acc t : Bs} {c : UInt8} {cd : Int} {w w' : World} (h : LoInv k R0 acc (c :: t) cd) (h1 : brk 93 (c :: t) = some k) (hl : Ls w' p s ((c :: t).drop (k + 2)) cd) (hc : Ch (· = p) w w') : LoPost p s k R0 w (.returned (.string ⟨acc.toArray⟩)) w' := by
  refine ⟨hc, ?_⟩
  rcases h with ⟨rfl, h⟩ | ⟨rfl, h⟩
  · refine .inl ⟨acc, _, ?_, rfl, hl⟩
    rw [h, longB, if_pos h1]
    simp [Rz.map]
  · exact .inr ⟨2, _, _, h, .inr rfl, rfl, hl⟩

def LoRel (p : Nat) (s : ByteArray) (k : Nat) (R0 : Bs) (n : Nat) (v5 : Value) (w0 wr : World) : Prop :=
  ∃ acc r cd, LoInv k R0 acc r cd ∧ acc.length + r.length ≤ 2000 ∧ wr.ownsRow w0.heap.size 5 1 v5 acc.length (Lib.byteCells acc) ∧ Ls wr p s r cd ∧ Ch (· = p) w0 wr ∧ n = r.length
theorem bcs (a b : Bs) : Lib.byteCells (a ++ b) = Lib.byteCells a ++ Lib.byteCells b := by simp [Lib.byteCells]

set_option maxRecDepth 100000 in
set_option maxHeartbeats 4000000 in
theorem long_calls {w : World} {p : Nat} {s : ByteArray} {r : Bs} {k : Nat} {b : UInt8} (H : Hid (Ls w p s r 0)) (hbk : brk b r = some k) {a : Int} (ha : a = (k : Int)) {R0 : Bs} (hR0 : cut10 (r.drop (k + 2)) = R0) :
    Calls Tryz.prog 48 #[ptr p, .int .i64 a] w (LoPost p s k R0 w) := by
  obtain ⟨i0, hi0, hz0, hz1, hz2⟩ := info_parts Tryz.info5
  have I0 := Lib.hid hi0
  have Z0 := Lib.hid hz0
  have Z1 := Lib.hid hz1
  have Z2 := Lib.hid hz2
  clear hi0 hz0 hz1 hz2
  subst ha
  have hkl := brk_len hbk
  have hrl := H.out.nls
  have hpl := H.out.lt
  have hw1 : IntKind.i64.wrap ((k : Int) + 2) = (k : Int) + 2 := by rw [IntKind.wrap_i64]; omega
  have HC : Hid (Ch (· = p) w w) := Lib.hid (Ch.refl _ _)
  have hdl : (r.drop (k + 2)).length ≤ 2000 := by rw [List.length_drop]; omega
  clear hbk
  go_enter Tryz.func48, Tryz.ntmps48
  go_wp2_with fail
  refine (steps_at H (k + 2) (by push_cast; omega) (hkl)).mono ?_
  rintro e wq1 ⟨rfl, hl1, hq1⟩
  have HL1 := Lib.hid hl1
  have HC1 := Lib.hid (HC.out.trans hq1)
  clear hq1 H HC hl1
  simp only []
  go_wp2_with fail
  by_cases h10 : ∃ t, r.drop (k + 2) = 10 :: t
  · obtain ⟨t, ht⟩ := h10
    obtain rfl : R0 = t := by rw [← hR0, ht]; rfl
    rw [ht] at HL1 hdl
    clear ht hR0
    refine (byteAt_at HL1 0 (rfl) (by omega) (show ((hb ((10 : UInt8) :: R0) : Nat) : Int) = 10 from rfl)).mono ?_
    rintro e wq2 ⟨rfl, hq2⟩
    have HL2 := Lib.hid (HL1.out.moved hq2)
    have HC2 := Lib.hid (HC1.out.trans (hq2.mono fun _ _ h => h.elim))
    clear hq2 HL1 HC1
    simp only []
    go_wp2_with fail
    refine (step_calls HL2).mono ?_
    rintro e wq3 ⟨rfl, hl3, hq3⟩
    have HL3 := Lib.hid hl3
    have HC3 := Lib.hid (HC2.out.trans hq3)
    clear hq3 HL2 HC2 hl3
    simp only []
    go_wp2_with fail
    have hO0 := World.ownsRow_lit (e := 5) (size := 1) (base := wq3.heap.size) wq3 #[] 0 (by simp) (by unfold maxLen; omega) rfl
    have HO0 := Lib.hid (hO0.mono HC3.out.size)
    have HLb := Lib.hid (HL3.out.moved ((Ch.refl _ _).alloc (.cells #[] 5)))
    have HCb := Lib.hid (HC3.out.alloc (.cells #[] 5))
    have hr0 := HL3.out.nls
    clear hO0 HL3 HC3
    go_loopg [5] (R0).length (fun n v5 wr => LoRel p s k (R0) n v5 w wr)
    case atStart => exact ⟨[], R0, 0, LoInv.start k _, by simp; omega, HO0.out, HLb.out, HCb.out, rfl⟩
    case round =>
      obtain ⟨acc, r, cd, hinv, hlen, ho, hls, hc, hn⟩ := hrel
      have HI := Lib.hid hinv
      have HO := Lib.hid ho
      have HL := Lib.hid hls
      have HC := Lib.hid hc
      have HN := Lib.hid hn
      clear hinv ho hls hc hn HO0 HLb HCb
      cases r with
      | nil =>
        go_wp2_with fail
        refine (isDone_at HL (v := true) (by simp)).mono ?_
        rintro e wq11 ⟨rfl, hq11⟩
        have HL11 := Lib.hid (HL.out.moved hq11)
        have HC11 := Lib.hid (HC.out.trans (hq11.mono fun _ _ h => h.elim))
        have HO11 := Lib.hid (hq11.owns HO.out fun _ _ h => h)
        clear hq11 HL HC HO
        simp only []
        go_wp2_with fail
        refine (tell_calls (v := 1) HL11).mono ?_
        rintro e wq12 ⟨rfl, hl12, hq12⟩
        have HL12 := Lib.hid hl12
        have HC12 := Lib.hid (HC11.out.trans hq12)
        have HO12 := Lib.hid (hq12.owns HO11.out fun k hk e => by have := HO11.out.lt k hk; omega)
        clear hq12 HL11 HC11 hl12 HO11
        simp only []
        go_wp2_with fail
        go_ret
        exact HI.out.nil HL12.out HC12.out _
      | cons c t =>
        have htl : t.length < 2000 := by simp at hlen; omega
        have hal : acc.length < 2000 := by simp at hlen; omega
        go_wp2_with fail
        refine (isDone_at HL (v := false) (by simp)).mono ?_
        rintro e wq21 ⟨rfl, hq21⟩
        have HL21 := Lib.hid (HL.out.moved hq21)
        have HC21 := Lib.hid (HC.out.trans (hq21.mono fun _ _ h => h.elim))
        have HO21 := Lib.hid (hq21.owns HO.out fun _ _ h => h)
        clear hq21 HL HC HO
        simp only []
        go_wp2_with fail
        refine (bracket_calls (b := 93) (by decide) HL21).mono ?_
        rintro e wq22 ⟨rfl, hq22⟩
        have HL22 := Lib.hid (HL21.out.moved hq22)
        have HC22 := Lib.hid (HC21.out.trans (hq22.mono fun _ _ h => h.elim))
        have HO22 := Lib.hid (hq22.owns HO21.out fun _ _ h => h)
        clear hq22 HL21 HC21 HO21
        simp only []
        by_cases hbr : brk 93 (c :: t) = some k
        · rw [brkN_some.2 hbr]
          have HBR := Lib.hid hbr
          have hb2 := brk_len hbr
          clear hbr
          go_wp2_with fail
          refine (steps_at HL22 (k + 2) (by push_cast; omega) (hb2)).mono ?_
          rintro e wq23 ⟨rfl, hl23, hq23⟩
          have HL23 := Lib.hid hl23
          have HC23 := Lib.hid (HC22.out.trans hq23)
          have HO23 := Lib.hid (hq23.owns HO22.out fun k hk e => by have := HO22.out.lt k hk; omega)
          clear hq23 HL22 HC22 hl23 HO22
          have hcv := own_convert HO23.out
          simp only []
          go_wp2_with fail
          go_ret
          exact HI.out.close HBR.out HL23.out HC23.out
        · have gbr : (brkN 93 (c :: t) == (k : Int)) = false := by
            have := fun h => hbr (brkN_some.1 h)
            simpa using this
          generalize brkN 93 (c :: t) = bv at gbr ⊢
          have HBR := Lib.hid hbr
          clear hbr
          by_cases hk0 : k = 0
          · subst hk0
            go_wp2_with fail
            refine (byteAt_at HL22 0 (rfl) (by omega) (show ((hb (c :: t) : Nat) : Int) = (c.toNat : Int) from rfl)).mono ?_
            rintro e wq23 ⟨rfl, hq23⟩
            have HL23 := Lib.hid (HL22.out.moved hq23)
            have HC23 := Lib.hid (HC22.out.trans (hq23.mono fun _ _ h => h.elim))
            have HO23 := Lib.hid (hq23.owns HO22.out fun _ _ h => h)
            clear hq23 HL22 HC22 HO22
            simp only []
            by_cases hc91 : c = 91
            · subst hc91
              have e91 : ((UInt8.toNat 91 : Nat) : Int) = 91 := rfl
              simp only [e91]
              go_wp2_with fail
              refine (byteAt_at HL23 1 (rfl) (by omega) (show ((hb t : Nat) : Int) = _ from rfl)).mono ?_
              rintro e wq24 ⟨rfl, hq24⟩
              have HL24 := Lib.hid (HL23.out.moved hq24)
              have HC24 := Lib.hid (HC23.out.trans (hq24.mono fun _ _ h => h.elim))
              have HO24 := Lib.hid (hq24.owns HO23.out fun _ _ h => h)
              clear hq24 HL23 HC23 HO23
              simp only []
              by_cases ht91 : t.head? = some 91
              · have g91 : ((hb t : Int) == 91) = true := by
                  have := (hb_is (r := t) (c := 91) (by decide)).2 ht91
                  rw [this]; rfl
                go_wp2_with fail
                refine (tell_calls (v := 2) HL24).mono ?_
                rintro e wq25 ⟨rfl, hl25, hq25⟩
                have HL25 := Lib.hid hl25
                have HC25 := Lib.hid (HC24.out.trans hq25)
                have HO25 := Lib.hid (hq25.owns HO24.out fun k hk e => by have := HO24.out.lt k hk; omega)
                clear hq25 HL24 HC24 hl25 HO24
                simp only []
                go_wp2_with fail
                refine (byteAt_at HL25 0 (rfl) (by omega) (show ((hb ((91 : UInt8) :: t) : Nat) : Int) = (91 : Int) from rfl)).mono ?_
                rintro e wq26 ⟨rfl, hq26⟩
                have HL26 := Lib.hid (HL25.out.moved hq26)
                have HC26 := Lib.hid (HC25.out.trans (hq26.mono fun _ _ h => h.elim))
                have HO26 := Lib.hid (hq26.owns HO25.out fun _ _ h => h)
                clear hq26 HL25 HC25 HO25
                simp only []
                go_wp2_with (at_builtin; refine wpList_append_lies _ rfl (.tmp 43) (.tmp 46) 36 rfl w.heap.size 5 i0 _ 1 1 Tryz.underlying36 I0.out Z0.out Z1.out Z2.out rfl (by omega) _ _ _ rfl (HO26.out.alloc _) ⟨wq26.heap.size, 0, none⟩ 1 1 [.int .u8 (91 : Int)] rfl rfl (World.news_of_block (heap_alloc_new wq26 _)) (by intro y hy; simp at hy; subst hy; rfl) (by omega) (by unfold maxLen; omega) (by omega) (by have := HC26.out.size; simp; omega) (wq26.heap.size + 1) (by simp) ?_; intro ga capa wa howna hgrowa hata hlta
                             have hLa := Ls.keep (HL26.out.moved ((Ch.refl _ _).alloc _)) (T := fun i => w.heap.size ≤ i) (Ch.grown (Ch.refl _ _) hgrowa (fun i hi _ => by have := HO26.out.lt i hi; omega)) (by omega)
                             have hCa : Ch (· = p) w wa := (HC26.out.alloc _).grown hgrowa (fun i hi hlt => by have := HO26.out.lt i hi; omega)
                             have HLa := Lib.hid hLa
                             have HCa := Lib.hid hCa
                             have HOa := Lib.hid howna
                             clear hLa hCa howna hgrowa hata hlta)
                refine (step_calls HLa).mono ?_
                rintro e wq27 ⟨rfl, hl27, hq27⟩
                have HL27 := Lib.hid hl27
                have HC27 := Lib.hid (HCa.out.trans hq27)
                have HO27 := Lib.hid (hq27.owns HOa.out fun k hk e => by have := HOa.out.lt k hk; omega)
                clear hq27 HLa HCa hl27 HOa
                simp only []
                go_wp2_with fail
                have hgk : t.length < gk := by (have := HN.out; simp at this; omega)
                go_roundg t.length
                case measure => omega
                case rel =>
                  refine ⟨acc ++ [(91 : UInt8)], t, _, HI.out.open HBR.out ⟨rfl, rfl, ht91⟩, by simp at hlen ⊢; omega, ?_, HL27.out, HC27.out, rfl⟩
                  rw [bcs, List.length_append]
                  exact HO27.out
              · have g91 : ((hb t : Int) == 91) = false := by
                  have h91 : hb t ≠ 91 := fun h => ht91 ((hb_is (r := t) (c := 91) (by decide)).1 h)
                  simp
                  omega
                go_wp2_with fail
                refine (byteAt_at HL24 0 (rfl) (by omega) (show ((hb ((91 : UInt8) :: t) : Nat) : Int) = (91 : Int) from rfl)).mono ?_
                rintro e wq25 ⟨rfl, hq25⟩
                have HL25 := Lib.hid (HL24.out.moved hq25)
                have HC25 := Lib.hid (HC24.out.trans (hq25.mono fun _ _ h => h.elim))
                have HO25 := Lib.hid (hq25.owns HO24.out fun _ _ h => h)
                clear hq25 HL24 HC24 HO24
                simp only []
                go_wp2_with (at_builtin; refine wpList_append_lies _ rfl (.tmp 43) (.tmp 46) 36 rfl w.heap.size 5 i0 _ 1 1 Tryz.underlying36 I0.out Z0.out Z1.out Z2.out rfl (by omega) _ _ _ rfl (HO25.out.alloc _) ⟨wq25.heap.size, 0, none⟩ 1 1 [.int .u8 (91 : Int)] rfl rfl (World.news_of_block (heap_alloc_new wq25 _)) (by intro y hy; simp at hy; subst hy; rfl) (by omega) (by unfold maxLen; omega) (by omega) (by have := HC25.out.size; simp; omega) (wq25.heap.size + 1) (by simp) ?_; intro ga capa wa howna hgrowa hata hlta
                             have hLa := Ls.keep (HL25.out.moved ((Ch.refl _ _).alloc _)) (T := fun i => w.heap.size ≤ i) (Ch.grown (Ch.refl _ _) hgrowa (fun i hi _ => by have := HO25.out.lt i hi; omega)) (by omega)
                             have hCa : Ch (· = p) w wa := (HC25.out.alloc _).grown hgrowa (fun i hi hlt => by have := HO25.out.lt i hi; omega)
                             have HLa := Lib.hid hLa
                             have HCa := Lib.hid hCa
                             have HOa := Lib.hid howna
                             clear hLa hCa howna hgrowa hata hlta)
                refine (step_calls HLa).mono ?_
                rintro e wq26 ⟨rfl, hl26, hq26⟩
                have HL26 := Lib.hid hl26
                have HC26 := Lib.hid (HCa.out.trans hq26)
                have HO26 := Lib.hid (hq26.owns HOa.out fun k hk e => by have := HOa.out.lt k hk; omega)
                clear hq26 HLa HCa hl26 HOa
                simp only []
                go_wp2_with fail
                have hgk : t.length < gk := by (have := HN.out; simp at this; omega)
                go_roundg t.length
                case measure => omega
                case rel =>
                  refine ⟨acc ++ [(91 : UInt8)], t, _, HI.out.next HBR.out (fun h => ht91 h.2.2), by simp at hlen ⊢; omega, ?_, HL26.out, HC26.out, rfl⟩
                  rw [bcs, List.length_append]
                  exact HO26.out
            · have g91 : ((c.toNat : Int) == 91) = false := by
                have : c.toNat ≠ 91 := fun e => hc91 (UInt8.toNat_inj.1 (by rw [e]; rfl))
                simp
                omega
              go_wp2_with fail
              refine (byteAt_at HL23 0 (rfl) (by omega) (show ((hb (c :: t) : Nat) : Int) = (c.toNat : Int) from rfl)).mono ?_
              rintro e wq24 ⟨rfl, hq24⟩
              have HL24 := Lib.hid (HL23.out.moved hq24)
              have HC24 := Lib.hid (HC23.out.trans (hq24.mono fun _ _ h => h.elim))
              have HO24 := Lib.hid (hq24.owns HO23.out fun _ _ h => h)
              clear hq24 HL23 HC23 HO23
              simp only []
              go_wp2_with (at_builtin; refine wpList_append_lies _ rfl (.tmp 43) (.tmp 46) 36 rfl w.heap.size 5 i0 _ 1 1 Tryz.underlying36 I0.out Z0.out Z1.out Z2.out rfl (by omega) _ _ _ rfl (HO24.out.alloc _) ⟨wq24.heap.size, 0, none⟩ 1 1 [.int .u8 (c.toNat : Int)] rfl rfl (World.news_of_block (heap_alloc_new wq24 _)) (by intro y hy; simp at hy; subst hy; rfl) (by omega) (by unfold maxLen; omega) (by omega) (by have := HC24.out.size; simp; omega) (wq24.heap.size + 1) (by simp) ?_; intro ga capa wa howna hgrowa hata hlta
                           have hLa := Ls.keep (HL24.out.moved ((Ch.refl _ _).alloc _)) (T := fun i => w.heap.size ≤ i) (Ch.grown (Ch.refl _ _) hgrowa (fun i hi _ => by have := HO24.out.lt i hi; omega)) (by omega)
                           have hCa : Ch (· = p) w wa := (HC24.out.alloc _).grown hgrowa (fun i hi hlt => by have := HO24.out.lt i hi; omega)
                           have HLa := Lib.hid hLa
                           have HCa := Lib.hid hCa
                           have HOa := Lib.hid howna
                           clear hLa hCa howna hgrowa hata hlta)
              refine (step_calls HLa).mono ?_
              rintro e wq25 ⟨rfl, hl25, hq25⟩
              have HL25 := Lib.hid hl25
              have HC25 := Lib.hid (HCa.out.trans hq25)
              have HO25 := Lib.hid (hq25.owns HOa.out fun k hk e => by have := HOa.out.lt k hk; omega)
              clear hq25 HLa HCa hl25 HOa
              simp only []
              go_wp2_with fail
              have hgk : t.length < gk := by (have := HN.out; simp at this; omega)
              go_roundg t.length
              case measure => omega
              case rel =>
                refine ⟨acc ++ [c], t, _, HI.out.next HBR.out (fun h => hc91 h.2.1), by simp at hlen ⊢; omega, ?_, HL25.out, HC25.out, rfl⟩
                rw [bcs, List.length_append]
                exact HO25.out
          · have gk0 : ((k : Int) == 0) = false := by simp; omega
            go_wp2_with fail
            refine (byteAt_at HL22 0 (rfl) (by omega) (show ((hb (c :: t) : Nat) : Int) = (c.toNat : Int) from rfl)).mono ?_
            rintro e wq23 ⟨rfl, hq23⟩
            have HL23 := Lib.hid (HL22.out.moved hq23)
            have HC23 := Lib.hid (HC22.out.trans (hq23.mono fun _ _ h => h.elim))
            have HO23 := Lib.hid (hq23.owns HO22.out fun _ _ h => h)
            clear hq23 HL22 HC22 HO22
            simp only []
            go_wp2_with (at_builtin; refine wpList_append_lies _ rfl (.tmp 43) (.tmp 46) 36 rfl w.heap.size 5 i0 _ 1 1 Tryz.underlying36 I0.out Z0.out Z1.out Z2.out rfl (by omega) _ _ _ rfl (HO23.out.alloc _) ⟨wq23.heap.size, 0, none⟩ 1 1 [.int .u8 (c.toNat : Int)] rfl rfl (World.news_of_block (heap_alloc_new wq23 _)) (by intro y hy; simp at hy; subst hy; rfl) (by omega) (by unfold maxLen; omega) (by omega) (by have := HC23.out.size; simp; omega) (wq23.heap.size + 1) (by simp) ?_; intro ga capa wa howna hgrowa hata hlta
                         have hLa := Ls.keep (HL23.out.moved ((Ch.refl _ _).alloc _)) (T := fun i => w.heap.size ≤ i) (Ch.grown (Ch.refl _ _) hgrowa (fun i hi _ => by have := HO23.out.lt i hi; omega)) (by omega)
                         have hCa : Ch (· = p) w wa := (HC23.out.alloc _).grown hgrowa (fun i hi hlt => by have := HO23.out.lt i hi; omega)
                         have HLa := Lib.hid hLa
                         have HCa := Lib.hid hCa
                         have HOa := Lib.hid howna
                         clear hLa hCa howna hgrowa hata hlta)
            refine (step_calls HLa).mono ?_
            rintro e wq24 ⟨rfl, hl24, hq24⟩
            have HL24 := Lib.hid hl24
            have HC24 := Lib.hid (HCa.out.trans hq24)
            have HO24 := Lib.hid (hq24.owns HOa.out fun k hk e => by have := HOa.out.lt k hk; omega)
            clear hq24 HLa HCa hl24 HOa
            simp only []
            go_wp2_with fail
            have hgk : t.length < gk := by (have := HN.out; simp at this; omega)
            go_roundg t.length
            case measure => omega
            case rel =>
              refine ⟨acc ++ [c], t, _, HI.out.next HBR.out (fun h => hk0 h.1), by simp at hlen ⊢; omega, ?_, HL24.out, HC24.out, rfl⟩
              rw [bcs, List.length_append]
              exact HO24.out
  · have g10 : ((hb (r.drop (k + 2)) : Int) == 10) = false := by
      have h1 : hb (r.drop (k + 2)) ≠ 10 := fun h => h10 (hb_10 h)
      simp only [beq_eq_false_iff_ne, ne_eq]
      omega
    have hcut : r.drop (k + 2) = R0 := by rw [← hR0]; exact (cut10_no (fun t h => h10 ⟨t, h⟩)).symm
    rw [hcut] at g10 HL1 hdl
    clear hcut h10 hR0
    refine (byteAt_at HL1 0 (rfl) (by omega) (show ((hb R0 : Nat) : Int) = _ from rfl)).mono ?_
    rintro e wq2 ⟨rfl, hq2⟩
    have HL2 := Lib.hid (HL1.out.moved hq2)
    have HC2 := Lib.hid (HC1.out.trans (hq2.mono fun _ _ h => h.elim))
    clear hq2 HL1 HC1
    simp only []
    go_wp2_with fail
    have hO0 := World.ownsRow_lit (e := 5) (size := 1) (base := wq2.heap.size) wq2 #[] 0 (by simp) (by unfold maxLen; omega) rfl
    have HO0 := Lib.hid (hO0.mono HC2.out.size)
    have HLb := Lib.hid (HL2.out.moved ((Ch.refl _ _).alloc (.cells #[] 5)))
    have HCb := Lib.hid (HC2.out.alloc (.cells #[] 5))
    have hr0 := HL2.out.nls
    clear hO0 HL2 HC2
    go_loopg [5] (R0).length (fun n v5 wr => LoRel p s k (R0) n v5 w wr)
    case atStart => exact ⟨[], R0, 0, LoInv.start k _, by simp; omega, HO0.out, HLb.out, HCb.out, rfl⟩
    case round =>
      obtain ⟨acc, r, cd, hinv, hlen, ho, hls, hc, hn⟩ := hrel
      have HI := Lib.hid hinv
      have HO := Lib.hid ho
      have HL := Lib.hid hls
      have HC := Lib.hid hc
      have HN := Lib.hid hn
      clear hinv ho hls hc hn HO0 HLb HCb
      cases r with
      | nil =>
        go_wp2_with fail
        refine (isDone_at HL (v := true) (by simp)).mono ?_
        rintro e wq11 ⟨rfl, hq11⟩
        have HL11 := Lib.hid (HL.out.moved hq11)
        have HC11 := Lib.hid (HC.out.trans (hq11.mono fun _ _ h => h.elim))
        have HO11 := Lib.hid (hq11.owns HO.out fun _ _ h => h)
        clear hq11 HL HC HO
        simp only []
        go_wp2_with fail
        refine (tell_calls (v := 1) HL11).mono ?_
        rintro e wq12 ⟨rfl, hl12, hq12⟩
        have HL12 := Lib.hid hl12
        have HC12 := Lib.hid (HC11.out.trans hq12)
        have HO12 := Lib.hid (hq12.owns HO11.out fun k hk e => by have := HO11.out.lt k hk; omega)
        clear hq12 HL11 HC11 hl12 HO11
        simp only []
        go_wp2_with fail
        go_ret
        exact HI.out.nil HL12.out HC12.out _
      | cons c t =>
        have htl : t.length < 2000 := by simp at hlen; omega
        have hal : acc.length < 2000 := by simp at hlen; omega
        go_wp2_with fail
        refine (isDone_at HL (v := false) (by simp)).mono ?_
        rintro e wq21 ⟨rfl, hq21⟩
        have HL21 := Lib.hid (HL.out.moved hq21)
        have HC21 := Lib.hid (HC.out.trans (hq21.mono fun _ _ h => h.elim))
        have HO21 := Lib.hid (hq21.owns HO.out fun _ _ h => h)
        clear hq21 HL HC HO
        simp only []
        go_wp2_with fail
        refine (bracket_calls (b := 93) (by decide) HL21).mono ?_
        rintro e wq22 ⟨rfl, hq22⟩
        have HL22 := Lib.hid (HL21.out.moved hq22)
        have HC22 := Lib.hid (HC21.out.trans (hq22.mono fun _ _ h => h.elim))
        have HO22 := Lib.hid (hq22.owns HO21.out fun _ _ h => h)
        clear hq22 HL21 HC21 HO21
        simp only []
        by_cases hbr : brk 93 (c :: t) = some k
        · rw [brkN_some.2 hbr]
          have HBR := Lib.hid hbr
          have hb2 := brk_len hbr
          clear hbr
          go_wp2_with fail
          refine (steps_at HL22 (k + 2) (by push_cast; omega) (hb2)).mono ?_
          rintro e wq23 ⟨rfl, hl23, hq23⟩
          have HL23 := Lib.hid hl23
          have HC23 := Lib.hid (HC22.out.trans hq23)
          have HO23 := Lib.hid (hq23.owns HO22.out fun k hk e => by have := HO22.out.lt k hk; omega)
          clear hq23 HL22 HC22 hl23 HO22
          have hcv := own_convert HO23.out
          simp only []
          go_wp2_with fail
          go_ret
          exact HI.out.close HBR.out HL23.out HC23.out
        · have gbr : (brkN 93 (c :: t) == (k : Int)) = false := by
            have := fun h => hbr (brkN_some.1 h)
            simpa using this
          generalize brkN 93 (c :: t) = bv at gbr ⊢
          have HBR := Lib.hid hbr
          clear hbr
          by_cases hk0 : k = 0
          · subst hk0
            go_wp2_with fail
            refine (byteAt_at HL22 0 (rfl) (by omega) (show ((hb (c :: t) : Nat) : Int) = (c.toNat : Int) from rfl)).mono ?_
            rintro e wq23 ⟨rfl, hq23⟩
            have HL23 := Lib.hid (HL22.out.moved hq23)
            have HC23 := Lib.hid (HC22.out.trans (hq23.mono fun _ _ h => h.elim))
            have HO23 := Lib.hid (hq23.owns HO22.out fun _ _ h => h)
            clear hq23 HL22 HC22 HO22
            simp only []
            by_cases hc91 : c = 91
            · subst hc91
              have e91 : ((UInt8.toNat 91 : Nat) : Int) = 91 := rfl
              simp only [e91]
              go_wp2_with fail
              refine (byteAt_at HL23 1 (rfl) (by omega) (show ((hb t : Nat) : Int) = _ from rfl)).mono ?_
              rintro e wq24 ⟨rfl, hq24⟩
              have HL24 := Lib.hid (HL23.out.moved hq24)
              have HC24 := Lib.hid (HC23.out.trans (hq24.mono fun _ _ h => h.elim))
              have HO24 := Lib.hid (hq24.owns HO23.out fun _ _ h => h)
              clear hq24 HL23 HC23 HO23
              simp only []
              by_cases ht91 : t.head? = some 91
              · have g91 : ((hb t : Int) == 91) = true := by
                  have := (hb_is (r := t) (c := 91) (by decide)).2 ht91
                  rw [this]; rfl
                go_wp2_with fail
                refine (tell_calls (v := 2) HL24).mono ?_
                rintro e wq25 ⟨rfl, hl25, hq25⟩
                have HL25 := Lib.hid hl25
                have HC25 := Lib.hid (HC24.out.trans hq25)
                have HO25 := Lib.hid (hq25.owns HO24.out fun k hk e => by have := HO24.out.lt k hk; omega)
                clear hq25 HL24 HC24 hl25 HO24
                simp only []
                go_wp2_with fail
                refine (byteAt_at HL25 0 (rfl) (by omega) (show ((hb ((91 : UInt8) :: t) : Nat) : Int) = (91 : Int) from rfl)).mono ?_
                rintro e wq26 ⟨rfl, hq26⟩
                have HL26 := Lib.hid (HL25.out.moved hq26)
                have HC26 := Lib.hid (HC25.out.trans (hq26.mono fun _ _ h => h.elim))
                have HO26 := Lib.hid (hq26.owns HO25.out fun _ _ h => h)
                clear hq26 HL25 HC25 HO25
                simp only []
                go_wp2_with (at_builtin; refine wpList_append_lies _ rfl (.tmp 43) (.tmp 46) 36 rfl w.heap.size 5 i0 _ 1 1 Tryz.underlying36 I0.out Z0.out Z1.out Z2.out rfl (by omega) _ _ _ rfl (HO26.out.alloc _) ⟨wq26.heap.size, 0, none⟩ 1 1 [.int .u8 (91 : Int)] rfl rfl (World.news_of_block (heap_alloc_new wq26 _)) (by intro y hy; simp at hy; subst hy; rfl) (by omega) (by unfold maxLen; omega) (by omega) (by have := HC26.out.size; simp; omega) (wq26.heap.size + 1) (by simp) ?_; intro ga capa wa howna hgrowa hata hlta
                             have hLa := Ls.keep (HL26.out.moved ((Ch.refl _ _).alloc _)) (T := fun i => w.heap.size ≤ i) (Ch.grown (Ch.refl _ _) hgrowa (fun i hi _ => by have := HO26.out.lt i hi; omega)) (by omega)
                             have hCa : Ch (· = p) w wa := (HC26.out.alloc _).grown hgrowa (fun i hi hlt => by have := HO26.out.lt i hi; omega)
                             have HLa := Lib.hid hLa
                             have HCa := Lib.hid hCa
                             have HOa := Lib.hid howna
                             clear hLa hCa howna hgrowa hata hlta)
                refine (step_calls HLa).mono ?_
                rintro e wq27 ⟨rfl, hl27, hq27⟩
                have HL27 := Lib.hid hl27
                have HC27 := Lib.hid (HCa.out.trans hq27)
                have HO27 := Lib.hid (hq27.owns HOa.out fun k hk e => by have := HOa.out.lt k hk; omega)
                clear hq27 HLa HCa hl27 HOa
                simp only []
                go_wp2_with fail
                have hgk : t.length < gk := by (have := HN.out; simp at this; omega)
                go_roundg t.length
                case measure => omega
                case rel =>
                  refine ⟨acc ++ [(91 : UInt8)], t, _, HI.out.open HBR.out ⟨rfl, rfl, ht91⟩, by simp at hlen ⊢; omega, ?_, HL27.out, HC27.out, rfl⟩
                  rw [bcs, List.length_append]
                  exact HO27.out
              · have g91 : ((hb t : Int) == 91) = false := by
                  have h91 : hb t ≠ 91 := fun h => ht91 ((hb_is (r := t) (c := 91) (by decide)).1 h)
                  simp
                  omega
                go_wp2_with fail
                refine (byteAt_at HL24 0 (rfl) (by omega) (show ((hb ((91 : UInt8) :: t) : Nat) : Int) = (91 : Int) from rfl)).mono ?_
                rintro e wq25 ⟨rfl, hq25⟩
                have HL25 := Lib.hid (HL24.out.moved hq25)
                have HC25 := Lib.hid (HC24.out.trans (hq25.mono fun _ _ h => h.elim))
                have HO25 := Lib.hid (hq25.owns HO24.out fun _ _ h => h)
                clear hq25 HL24 HC24 HO24
                simp only []
                go_wp2_with (at_builtin; refine wpList_append_lies _ rfl (.tmp 43) (.tmp 46) 36 rfl w.heap.size 5 i0 _ 1 1 Tryz.underlying36 I0.out Z0.out Z1.out Z2.out rfl (by omega) _ _ _ rfl (HO25.out.alloc _) ⟨wq25.heap.size, 0, none⟩ 1 1 [.int .u8 (91 : Int)] rfl rfl (World.news_of_block (heap_alloc_new wq25 _)) (by intro y hy; simp at hy; subst hy; rfl) (by omega) (by unfold maxLen; omega) (by omega) (by have := HC25.out.size; simp; omega) (wq25.heap.size + 1) (by simp) ?_; intro ga capa wa howna hgrowa hata hlta
                             have hLa := Ls.keep (HL25.out.moved ((Ch.refl _ _).alloc _)) (T := fun i => w.heap.size ≤ i) (Ch.grown (Ch.refl _ _) hgrowa (fun i hi _ => by have := HO25.out.lt i hi; omega)) (by omega)
                             have hCa : Ch (· = p) w wa := (HC25.out.alloc _).grown hgrowa (fun i hi hlt => by have := HO25.out.lt i hi; omega)
                             have HLa := Lib.hid hLa
                             have HCa := Lib.hid hCa
                             have HOa := Lib.hid howna
                             clear hLa hCa howna hgrowa hata hlta)
                refine (step_calls HLa).mono ?_
                rintro e wq26 ⟨rfl, hl26, hq26⟩
                have HL26 := Lib.hid hl26
                have HC26 := Lib.hid (HCa.out.trans hq26)
                have HO26 := Lib.hid (hq26.owns HOa.out fun k hk e => by have := HOa.out.lt k hk; omega)
                clear hq26 HLa HCa hl26 HOa
                simp only []
                go_wp2_with fail
                have hgk : t.length < gk := by (have := HN.out; simp at this; omega)
                go_roundg t.length
                case measure => omega
                case rel =>
                  refine ⟨acc ++ [(91 : UInt8)], t, _, HI.out.next HBR.out (fun h => ht91 h.2.2), by simp at hlen ⊢; omega, ?_, HL26.out, HC26.out, rfl⟩
                  rw [bcs, List.length_append]
                  exact HO26.out
            · have g91 : ((c.toNat : Int) == 91) = false := by
                have : c.toNat ≠ 91 := fun e => hc91 (UInt8.toNat_inj.1 (by rw [e]; rfl))
                simp
                omega
              go_wp2_with fail
              refine (byteAt_at HL23 0 (rfl) (by omega) (show ((hb (c :: t) : Nat) : Int) = (c.toNat : Int) from rfl)).mono ?_
              rintro e wq24 ⟨rfl, hq24⟩
              have HL24 := Lib.hid (HL23.out.moved hq24)
              have HC24 := Lib.hid (HC23.out.trans (hq24.mono fun _ _ h => h.elim))
              have HO24 := Lib.hid (hq24.owns HO23.out fun _ _ h => h)
              clear hq24 HL23 HC23 HO23
              simp only []
              go_wp2_with (at_builtin; refine wpList_append_lies _ rfl (.tmp 43) (.tmp 46) 36 rfl w.heap.size 5 i0 _ 1 1 Tryz.underlying36 I0.out Z0.out Z1.out Z2.out rfl (by omega) _ _ _ rfl (HO24.out.alloc _) ⟨wq24.heap.size, 0, none⟩ 1 1 [.int .u8 (c.toNat : Int)] rfl rfl (World.news_of_block (heap_alloc_new wq24 _)) (by intro y hy; simp at hy; subst hy; rfl) (by omega) (by unfold maxLen; omega) (by omega) (by have := HC24.out.size; simp; omega) (wq24.heap.size + 1) (by simp) ?_; intro ga capa wa howna hgrowa hata hlta
                           have hLa := Ls.keep (HL24.out.moved ((Ch.refl _ _).alloc _)) (T := fun i => w.heap.size ≤ i) (Ch.grown (Ch.refl _ _) hgrowa (fun i hi _ => by have := HO24.out.lt i hi; omega)) (by omega)
                           have hCa : Ch (· = p) w wa := (HC24.out.alloc _).grown hgrowa (fun i hi hlt => by have := HO24.out.lt i hi; omega)
                           have HLa := Lib.hid hLa
                           have HCa := Lib.hid hCa
                           have HOa := Lib.hid howna
                           clear hLa hCa howna hgrowa hata hlta)
              refine (step_calls HLa).mono ?_
              rintro e wq25 ⟨rfl, hl25, hq25⟩
              have HL25 := Lib.hid hl25
              have HC25 := Lib.hid (HCa.out.trans hq25)
              have HO25 := Lib.hid (hq25.owns HOa.out fun k hk e => by have := HOa.out.lt k hk; omega)
              clear hq25 HLa HCa hl25 HOa
              simp only []
              go_wp2_with fail
              have hgk : t.length < gk := by (have := HN.out; simp at this; omega)
              go_roundg t.length
              case measure => omega
              case rel =>
                refine ⟨acc ++ [c], t, _, HI.out.next HBR.out (fun h => hc91 h.2.1), by simp at hlen ⊢; omega, ?_, HL25.out, HC25.out, rfl⟩
                rw [bcs, List.length_append]
                exact HO25.out
          · have gk0 : ((k : Int) == 0) = false := by simp; omega
            go_wp2_with fail
            refine (byteAt_at HL22 0 (rfl) (by omega) (show ((hb (c :: t) : Nat) : Int) = (c.toNat : Int) from rfl)).mono ?_
            rintro e wq23 ⟨rfl, hq23⟩
            have HL23 := Lib.hid (HL22.out.moved hq23)
            have HC23 := Lib.hid (HC22.out.trans (hq23.mono fun _ _ h => h.elim))
            have HO23 := Lib.hid (hq23.owns HO22.out fun _ _ h => h)
            clear hq23 HL22 HC22 HO22
            simp only []
            go_wp2_with (at_builtin; refine wpList_append_lies _ rfl (.tmp 43) (.tmp 46) 36 rfl w.heap.size 5 i0 _ 1 1 Tryz.underlying36 I0.out Z0.out Z1.out Z2.out rfl (by omega) _ _ _ rfl (HO23.out.alloc _) ⟨wq23.heap.size, 0, none⟩ 1 1 [.int .u8 (c.toNat : Int)] rfl rfl (World.news_of_block (heap_alloc_new wq23 _)) (by intro y hy; simp at hy; subst hy; rfl) (by omega) (by unfold maxLen; omega) (by omega) (by have := HC23.out.size; simp; omega) (wq23.heap.size + 1) (by simp) ?_; intro ga capa wa howna hgrowa hata hlta
                         have hLa := Ls.keep (HL23.out.moved ((Ch.refl _ _).alloc _)) (T := fun i => w.heap.size ≤ i) (Ch.grown (Ch.refl _ _) hgrowa (fun i hi _ => by have := HO23.out.lt i hi; omega)) (by omega)
                         have hCa : Ch (· = p) w wa := (HC23.out.alloc _).grown hgrowa (fun i hi hlt => by have := HO23.out.lt i hi; omega)
                         have HLa := Lib.hid hLa
                         have HCa := Lib.hid hCa
                         have HOa := Lib.hid howna
                         clear hLa hCa howna hgrowa hata hlta)
            refine (step_calls HLa).mono ?_
            rintro e wq24 ⟨rfl, hl24, hq24⟩
            have HL24 := Lib.hid hl24
            have HC24 := Lib.hid (HCa.out.trans hq24)
            have HO24 := Lib.hid (hq24.owns HOa.out fun k hk e => by have := HOa.out.lt k hk; omega)
            clear hq24 HLa HCa hl24 HOa
            simp only []
            go_wp2_with fail
            have hgk : t.length < gk := by (have := HN.out; simp at this; omega)
            go_roundg t.length
            case measure => omega
            case rel =>
              refine ⟨acc ++ [c], t, _, HI.out.next HBR.out (fun h => hk0 h.1), by simp at hlen ⊢; omega, ?_, HL24.out, HC24.out, rfl⟩
              rw [bcs, List.length_append]
              exact HO24.out
end Go.Proofs.YtbgjjbffpckimaaGreatDoor

namespace Go.Proofs.YtbgjjbffpckimaaGreatDoor
set_option linter.all false
open Go.RowKit

/-- What a reader leaves: it read on to r', or something is told. -/
def RdPost (p : Nat) (s : ByteArray) {α : Type} (z : Rz α) (w : World) (w' : World) : Prop :=
  Ch (· = p) w w' ∧ ((∃ x r', z = .ok x r' ∧ Ls w' p s r' 0) ∨ (∃ (kk : Nat) (r' : Bs), z = .no kk ∧ (kk = 1 ∨ kk = 2) ∧ Ls w' p s r' (kk : Int)))

def ComRel (p : Nat) (s : ByteArray) (r0 : Bs) (cd : Int) (n : Nat) (w0 wr : World) : Prop :=
  ∃ r, r.dropWhile (· != 10) = r0.dropWhile (· != 10) ∧ Ls wr p s r cd ∧ Ch (· = p) w0 wr ∧ n = r.length
theorem drop_10 (t : Bs) : ((10 : UInt8) :: t).dropWhile (· != 10) = 10 :: t := rfl
theorem drop_no {c : UInt8} (t : Bs) (h : c ≠ 10) : (c :: t).dropWhile (· != 10) = t.dropWhile (· != 10) := by
  rw [List.dropWhile_cons, if_pos (by simpa using h)]
theorem take_91 {r : Bs} : r.take 2 = [91, 61] ↔ r.head? = some 91 ∧ (r.drop 1).head? = some 61 := by
  match r with
  | [] => simp
  | [c] => simp
  | c :: d :: t => simp

set_option maxRecDepth 100000 in
set_option maxHeartbeats 4000000 in
theorem comment_calls {w : World} {p : Nat} {s : ByteArray} {r : Bs} (H : Hid (Ls w p s ((45 : UInt8) :: 45 :: r) 0)) :
    Calls Tryz.prog 25 #[ptr p] w fun e w' => e = .returned (.tuple #[]) ∧ RdPost p s (comP r) w w' := by
  have HC : Hid (Ch (· = p) w w) := Lib.hid (Ch.refl _ _)
  have hpl := H.out.lt
  go_enter Tryz.func25, Tryz.ntmps25
  go_wp2_with fail
  refine (steps_at H 2 (rfl) (by simp)).mono ?_
  rintro e wq1 ⟨rfl, hl1, hq1⟩
  have HL1 := Lib.hid hl1
  have HC1 := Lib.hid (HC.out.trans hq1)
  clear hq1 H HC hl1
  simp only []
  go_wp2_with fail
  refine (bracket_calls (b := 91) (by decide) HL1).mono ?_
  rintro e wq2 ⟨rfl, hq2⟩
  have HL2 := Lib.hid (HL1.out.moved hq2)
  have HC2 := Lib.hid (HC1.out.trans (hq2.mono fun _ _ h => h.elim))
  clear hq2 HL1 HC1
  simp only []
  cases hbk : brk 91 r with
  | some k =>
    have hbn : brkN 91 (List.drop 2 ((45 : UInt8) :: 45 :: r)) = (k : Int) := brkN_some.2 hbk
    rw [hbn]
    have hcm : comP r = (longB k (cut10 (r.drop (k + 2)))).map fun _ => () := by unfold comP; rw [hbk]
    have HBK : Hid (brk 91 (List.drop 2 ((45 : UInt8) :: 45 :: r)) = some k) := Lib.hid hbk
    have HCM := Lib.hid hcm
    clear hbn hbk hcm
    go_wp2_with fail
    refine (long_calls HL2 HBK.out rfl rfl).mono ?_
    rintro e w9 ⟨hc9, hpost⟩
    have HC9 := Lib.hid (HC2.out.trans hc9)
    have HP := Lib.hid hpost
    clear hc9 hpost
    have hret : ∃ v, e = .returned (.string v) := by
      rcases HP.out with ⟨x, r9, _, rfl, _⟩ | ⟨kk, v, r9, _, _, rfl, _⟩
      · exact ⟨_, rfl⟩
      · exact ⟨_, rfl⟩
    obtain ⟨v, rfl⟩ := hret
    simp only []
    go_wp2_with fail
    refine bodyPost_ret (results_none rfl _ _ _) rfl ?_
    refine ⟨rfl, HC9.out, ?_⟩
    rcases HP.out with ⟨x, r9, hz, _, hl⟩ | ⟨kk, v, r9, hz, hk, _, hl⟩
    · exact .inl ⟨(), r9, by rw [HCM.out]; exact congrArg (Rz.map fun _ => ()) hz, hl⟩
    · exact .inr ⟨kk, r9, by rw [HCM.out]; exact congrArg (Rz.map fun _ => ()) hz, hk, hl⟩
  | none =>
    have hbn : brkN 91 (List.drop 2 ((45 : UInt8) :: 45 :: r)) = -1 := by show brkN 91 r = -1; unfold brkN; rw [hbk]
    rw [hbn]
    have hcm : comP r = if r.take 2 = [91, 61] then .no 2 else .ok () (r.dropWhile (· != 10)) := by unfold comP; rw [hbk]
    clear hbn hbk
    have HL0 : Hid (Ls wq2 p s r 0) := Lib.hid HL2.out
    clear HL2
    have h91i := hb_is (r := r) (c := 91) (by decide)
    have h61i := hb_is (r := r.drop 1) (c := 61) (by decide)
    by_cases h91 : r.head? = some 91
    · have hv : ((hb (r.drop 0) : Nat) : Int) = 91 := by rw [List.drop_zero, h91i.2 h91]; rfl
      have HV := Lib.hid hv
      clear hv h91i
      go_wp2_with fail
      refine (byteAt_at HL0 0 (rfl) (by omega) (HV.out)).mono ?_
      rintro e wq3 ⟨rfl, hq3⟩
      have HL3 := Lib.hid (HL0.out.moved hq3)
      have HC3 := Lib.hid (HC2.out.trans (hq3.mono fun _ _ h => h.elim))
      clear hq3 HL0 HC2
      simp only []
      go_wp2_with fail
      by_cases h61 : (r.drop 1).head? = some 61
      · have hv : ((hb (r.drop 1) : Nat) : Int) = 61 := by rw [h61i.2 h61]; rfl
        rw [if_pos (take_91.2 ⟨h91, h61⟩)] at hcm
        have HV1 := Lib.hid hv
        have HCM := Lib.hid hcm
        clear hv h61i hcm h91 h61
        go_wp2_with fail
        refine (byteAt_at HL3 1 (rfl) (by omega) (HV1.out)).mono ?_
        rintro e wq4 ⟨rfl, hq4⟩
        have HL4 := Lib.hid (HL3.out.moved hq4)
        have HC4 := Lib.hid (HC3.out.trans (hq4.mono fun _ _ h => h.elim))
        clear hq4 HL3 HC3
        simp only []
        go_wp2_with fail
        refine (tell_calls (v := 2) HL4).mono ?_
        rintro e wq5 ⟨rfl, hl5, hq5⟩
        have HL5 := Lib.hid hl5
        have HC5 := Lib.hid (HC4.out.trans hq5)
        clear hq5 HL4 HC4 hl5
        simp only []
        go_wp2_with fail
        go_loopg [] r.length (fun n wr => ComRel p s r 2 n w wr)
        case atStart => exact ⟨r, rfl, HL5.out, HC5.out, rfl⟩
        case round =>
          obtain ⟨r1, hdr, hls, hc, hn⟩ := hrel
          have HDR := Lib.hid hdr
          have HL := Lib.hid hls
          have HC := Lib.hid hc
          have HN := Lib.hid hn
          clear hdr hls hc hn HL5 HC5
          cases r1 with
          | nil =>
            go_wp2_with fail
            refine (isDone_at HL (v := true) (by simp)).mono ?_
            rintro e wq31 ⟨rfl, hq31⟩
            have HL31 := Lib.hid (HL.out.moved hq31)
            have HC31 := Lib.hid (HC.out.trans (hq31.mono fun _ _ h => h.elim))
            clear hq31 HL HC
            simp only []
            go_wp2_with fail
            refine bodyPost_end (results_none rfl _ _ _) rfl ?_
            exact ⟨rfl, HC31.out, .inr ⟨2, [], HCM.out, .inr rfl, HL31.out⟩⟩
          | cons c t =>
            by_cases hc10 : c = 10
            · subst hc10
              go_wp2_with fail
              refine (isDone_at HL (v := false) (by simp)).mono ?_
              rintro e wq41 ⟨rfl, hq41⟩
              have HL41 := Lib.hid (HL.out.moved hq41)
              have HC41 := Lib.hid (HC.out.trans (hq41.mono fun _ _ h => h.elim))
              clear hq41 HL HC
              simp only []
              go_wp2_with fail
              refine (byteAt_at HL41 0 (rfl) (by omega) (show ((hb ((10 : UInt8) :: t) : Nat) : Int) = 10 from rfl)).mono ?_
              rintro e wq42 ⟨rfl, hq42⟩
              have HL42 := Lib.hid (HL41.out.moved hq42)
              have HC42 := Lib.hid (HC41.out.trans (hq42.mono fun _ _ h => h.elim))
              clear hq42 HL41 HC41
              simp only []
              go_wp2_with fail
              refine bodyPost_end (results_none rfl _ _ _) rfl ?_
              exact ⟨rfl, HC42.out, .inr ⟨2, (10 :: t), HCM.out, .inr rfl, HL42.out⟩⟩
            · have g10 : ((c.toNat : Int) == 10) = false := by
                have : c.toNat ≠ 10 := fun e => hc10 (UInt8.toNat_inj.1 (by rw [e]; rfl))
                simp
                omega
              go_wp2_with fail
              refine (isDone_at HL (v := false) (by simp)).mono ?_
              rintro e wq51 ⟨rfl, hq51⟩
              have HL51 := Lib.hid (HL.out.moved hq51)
              have HC51 := Lib.hid (HC.out.trans (hq51.mono fun _ _ h => h.elim))
              clear hq51 HL HC
              simp only []
              go_wp2_with fail
              refine (byteAt_at HL51 0 (rfl) (by omega) (show ((hb (c :: t) : Nat) : Int) = (c.toNat : Int) from rfl)).mono ?_
              rintro e wq52 ⟨rfl, hq52⟩
              have HL52 := Lib.hid (HL51.out.moved hq52)
              have HC52 := Lib.hid (HC51.out.trans (hq52.mono fun _ _ h => h.elim))
              clear hq52 HL51 HC51
              simp only []
              go_wp2_with fail
              refine (step_calls HL52).mono ?_
              rintro e wq53 ⟨rfl, hl53, hq53⟩
              have HL53 := Lib.hid hl53
              have HC53 := Lib.hid (HC52.out.trans hq53)
              clear hq53 HL52 HC52 hl53
              simp only []
              go_wp2_with fail
              have hgk : t.length < gk := by (have := HN.out; simp at this; omega)
              go_roundg t.length
              case measure => omega
              case rel => exact ⟨t, by rw [← drop_no t hc10]; exact HDR.out, HL53.out, HC53.out, rfl⟩
      · have g61 : ((hb (r.drop 1) : Int) == 61) = false := by
          have h1 : hb (r.drop 1) ≠ 61 := fun h => h61 (h61i.1 h)
          simp only [beq_eq_false_iff_ne, ne_eq]
          omega
        rw [if_neg (fun h => h61 (take_91.1 h).2)] at hcm
        generalize hx : hb (r.drop 1) = x at g61
        have HX : Hid ((hb (r.drop 1) : Int) = (x : Int)) := Lib.hid (by rw [hx])
        have HCM := Lib.hid hcm
        clear h61i hcm h91 h61 hx
        go_wp2_with fail
        refine (byteAt_at HL3 1 (rfl) (by omega) (HX.out)).mono ?_
        rintro e wq4 ⟨rfl, hq4⟩
        have HL4 := Lib.hid (HL3.out.moved hq4)
        have HC4 := Lib.hid (HC3.out.trans (hq4.mono fun _ _ h => h.elim))
        clear hq4 HL3 HC3
        simp only []
        go_wp2_with fail
        go_loopg [] r.length (fun n wr => ComRel p s r 0 n w wr)
        case atStart => exact ⟨r, rfl, HL4.out, HC4.out, rfl⟩
        case round =>
          obtain ⟨r1, hdr, hls, hc, hn⟩ := hrel
          have HDR := Lib.hid hdr
          have HL := Lib.hid hls
          have HC := Lib.hid hc
          have HN := Lib.hid hn
          clear hdr hls hc hn HL4 HC4
          cases r1 with
          | nil =>
            go_wp2_with fail
            refine (isDone_at HL (v := true) (by simp)).mono ?_
            rintro e wq31 ⟨rfl, hq31⟩
            have HL31 := Lib.hid (HL.out.moved hq31)
            have HC31 := Lib.hid (HC.out.trans (hq31.mono fun _ _ h => h.elim))
            clear hq31 HL HC
            simp only []
            go_wp2_with fail
            refine bodyPost_end (results_none rfl _ _ _) rfl ?_
            exact ⟨rfl, HC31.out, .inl ⟨(), [], by rw [HCM.out, ← HDR.out]; rfl, HL31.out⟩⟩
          | cons c t =>
            by_cases hc10 : c = 10
            · subst hc10
              go_wp2_with fail
              refine (isDone_at HL (v := false) (by simp)).mono ?_
              rintro e wq41 ⟨rfl, hq41⟩
              have HL41 := Lib.hid (HL.out.moved hq41)
              have HC41 := Lib.hid (HC.out.trans (hq41.mono fun _ _ h => h.elim))
              clear hq41 HL HC
              simp only []
              go_wp2_with fail
              refine (byteAt_at HL41 0 (rfl) (by omega) (show ((hb ((10 : UInt8) :: t) : Nat) : Int) = 10 from rfl)).mono ?_
              rintro e wq42 ⟨rfl, hq42⟩
              have HL42 := Lib.hid (HL41.out.moved hq42)
              have HC42 := Lib.hid (HC41.out.trans (hq42.mono fun _ _ h => h.elim))
              clear hq42 HL41 HC41
              simp only []
              go_wp2_with fail
              refine bodyPost_end (results_none rfl _ _ _) rfl ?_
              exact ⟨rfl, HC42.out, .inl ⟨(), (10 :: t), by rw [HCM.out, ← HDR.out]; rfl, HL42.out⟩⟩
            · have g10 : ((c.toNat : Int) == 10) = false := by
                have : c.toNat ≠ 10 := fun e => hc10 (UInt8.toNat_inj.1 (by rw [e]; rfl))
                simp
                omega
              go_wp2_with fail
              refine (isDone_at HL (v := false) (by simp)).mono ?_
              rintro e wq51 ⟨rfl, hq51⟩
              have HL51 := Lib.hid (HL.out.moved hq51)
              have HC51 := Lib.hid (HC.out.trans (hq51.mono fun _ _ h => h.elim))
              clear hq51 HL HC
              simp only []
              go_wp2_with fail
              refine (byteAt_at HL51 0 (rfl) (by omega) (show ((hb (c :: t) : Nat) : Int) = (c.toNat : Int) from rfl)).mono ?_
              rintro e wq52 ⟨rfl, hq52⟩
              have HL52 := Lib.hid (HL51.out.moved hq52)
              have HC52 := Lib.hid (HC51.out.trans (hq52.mono fun _ _ h => h.elim))
              clear hq52 HL51 HC51
              simp only []
              go_wp2_with fail
              refine (step_calls HL52).mono ?_
              rintro e wq53 ⟨rfl, hl53, hq53⟩
              have HL53 := Lib.hid hl53
              have HC53 := Lib.hid (HC52.out.trans hq53)
              clear hq53 HL52 HC52 hl53
              simp only []
              go_wp2_with fail
              have hgk : t.length < gk := by (have := HN.out; simp at this; omega)
              go_roundg t.length
              case measure => omega
              case rel => exact ⟨t, by rw [← drop_no t hc10]; exact HDR.out, HL53.out, HC53.out, rfl⟩
    · have g91 : ((hb r : Int) == 91) = false := by
        have h1 : hb r ≠ 91 := fun h => h91 (h91i.1 h)
        simp only [beq_eq_false_iff_ne, ne_eq]
        omega
      rw [if_neg (fun h => h91 (take_91.1 h).1)] at hcm
      generalize hx : hb r = x at g91
      have HX : Hid ((hb (r.drop 0) : Int) = (x : Int)) := Lib.hid (by rw [List.drop_zero, hx])
      have HCM := Lib.hid hcm
      clear h91i h61i hcm h91 hx
      go_wp2_with fail
      refine (byteAt_at HL0 0 (rfl) (by omega) (HX.out)).mono ?_
      rintro e wq3 ⟨rfl, hq3⟩
      have HL3 := Lib.hid (HL0.out.moved hq3)
      have HC3 := Lib.hid (HC2.out.trans (hq3.mono fun _ _ h => h.elim))
      clear hq3 HL0 HC2
      simp only []
      go_wp2_with fail
      go_loopg [] r.length (fun n wr => ComRel p s r 0 n w wr)
      case atStart => exact ⟨r, rfl, HL3.out, HC3.out, rfl⟩
      case round =>
        obtain ⟨r1, hdr, hls, hc, hn⟩ := hrel
        have HDR := Lib.hid hdr
        have HL := Lib.hid hls
        have HC := Lib.hid hc
        have HN := Lib.hid hn
        clear hdr hls hc hn HL3 HC3
        cases r1 with
        | nil =>
          go_wp2_with fail
          refine (isDone_at HL (v := true) (by simp)).mono ?_
          rintro e wq31 ⟨rfl, hq31⟩
          have HL31 := Lib.hid (HL.out.moved hq31)
          have HC31 := Lib.hid (HC.out.trans (hq31.mono fun _ _ h => h.elim))
          clear hq31 HL HC
          simp only []
          go_wp2_with fail
          refine bodyPost_end (results_none rfl _ _ _) rfl ?_
          exact ⟨rfl, HC31.out, .inl ⟨(), [], by rw [HCM.out, ← HDR.out]; rfl, HL31.out⟩⟩
        | cons c t =>
          by_cases hc10 : c = 10
          · subst hc10
            go_wp2_with fail
            refine (isDone_at HL (v := false) (by simp)).mono ?_
            rintro e wq41 ⟨rfl, hq41⟩
            have HL41 := Lib.hid (HL.out.moved hq41)
            have HC41 := Lib.hid (HC.out.trans (hq41.mono fun _ _ h => h.elim))
            clear hq41 HL HC
            simp only []
            go_wp2_with fail
            refine (byteAt_at HL41 0 (rfl) (by omega) (show ((hb ((10 : UInt8) :: t) : Nat) : Int) = 10 from rfl)).mono ?_
            rintro e wq42 ⟨rfl, hq42⟩
            have HL42 := Lib.hid (HL41.out.moved hq42)
            have HC42 := Lib.hid (HC41.out.trans (hq42.mono fun _ _ h => h.elim))
            clear hq42 HL41 HC41
            simp only []
            go_wp2_with fail
            refine bodyPost_end (results_none rfl _ _ _) rfl ?_
            exact ⟨rfl, HC42.out, .inl ⟨(), (10 :: t), by rw [HCM.out, ← HDR.out]; rfl, HL42.out⟩⟩
          · have g10 : ((c.toNat : Int) == 10) = false := by
              have : c.toNat ≠ 10 := fun e => hc10 (UInt8.toNat_inj.1 (by rw [e]; rfl))
              simp
              omega
            go_wp2_with fail
            refine (isDone_at HL (v := false) (by simp)).mono ?_
            rintro e wq51 ⟨rfl, hq51⟩
            have HL51 := Lib.hid (HL.out.moved hq51)
            have HC51 := Lib.hid (HC.out.trans (hq51.mono fun _ _ h => h.elim))
            clear hq51 HL HC
            simp only []
            go_wp2_with fail
            refine (byteAt_at HL51 0 (rfl) (by omega) (show ((hb (c :: t) : Nat) : Int) = (c.toNat : Int) from rfl)).mono ?_
            rintro e wq52 ⟨rfl, hq52⟩
            have HL52 := Lib.hid (HL51.out.moved hq52)
            have HC52 := Lib.hid (HC51.out.trans (hq52.mono fun _ _ h => h.elim))
            clear hq52 HL51 HC51
            simp only []
            go_wp2_with fail
            refine (step_calls HL52).mono ?_
            rintro e wq53 ⟨rfl, hl53, hq53⟩
            have HL53 := Lib.hid hl53
            have HC53 := Lib.hid (HC52.out.trans hq53)
            clear hq53 HL52 HC52 hl53
            simp only []
            go_wp2_with fail
            have hgk : t.length < gk := by (have := HN.out; simp at this; omega)
            go_roundg t.length
            case measure => omega
            case rel => exact ⟨t, by rw [← drop_no t hc10]; exact HDR.out, HL53.out, HC53.out, rfl⟩
end Go.Proofs.YtbgjjbffpckimaaGreatDoor
