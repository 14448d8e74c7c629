/-
  THE SCANNER BY WHAT IS LEFT OF THE TEXT: Peek, Next, Newline.
-/
import Derived.Test.YtbgjjbffpckimaaDoorSc
import Derived.Test.YtbgjjbffpckimaaDoorLex
namespace Go.Proofs.YtbgjjbffpckimaaDoor
set_option linter.all false
open Go.RowKit

/-- The blocks of a scanner. -/
structure Bl where
  Z : Nat
  B : Nat
  F : Nat
  S : Nat
  X : Addr
def Tr (b : Bl) (k : Nat) : Prop := Tz b.Z b.B b.F b.S k

/-- The next byte, -1 at the end. -/
def hd : Bs → Int
  | [] => -1
  | c :: _ => (c.toNat : Int)

/-- A scanner: what is left of its text, and its line. -/
structure Rd (w : World) (b : Bl) (r : Bs) (L : Int) : Prop where
  sc : ∃ s i, Sc w b.Z b.B b.F b.S b.X s i ∧ s.data.toList.drop i = r ∧ i ≤ s.size
  ln : w.cell? ⟨b.Z, 1, none⟩ = some (.int .i64 L)
  lo : -1 ≤ L
  hi : L + (r.length : Int) ≤ 4100

section
variable {w w' : World} {b : Bl} {r : Bs} {L : Int}
theorem Rd.keep {T : Nat → Prop} (h : Rd w b r L) (hc : Ch T w w') (hT : ∀ k, Tr b k → ¬ T k) (h2 : ¬ T 2) : Rd w' b r L := by
  obtain ⟨s, i, hs, hr⟩ := h.sc
  exact ⟨⟨s, i, hs.keep hc hT h2, hr⟩, hc.cell_some h.ln (hT _ (.inl rfl)), h.lo, h.hi⟩
theorem Rd.moved (h : Rd w b r L) (hc : Ch (fun _ => False) w w') : Rd w' b r L := h.keep hc (fun _ _ => id) id
theorem Rd.size (h : Rd w b r L) : ∀ k, Tr b k → k < w.heap.size := by
  obtain ⟨s, i, hs, hr⟩ := h.sc
  obtain ⟨r, u, lb, hb, _⟩ := hs.bio
  rintro k (rfl | rfl | rfl | rfl)
  · exact World.block_lt_of_cell? w _ hs.z3
  · exact World.block_lt_of_cell? w _ hb.b0
  · obtain ⟨v, hv⟩ := Option.isSome_iff_exists.1 (hb.f 0 (by omega))
    exact World.block_lt_of_cell? w _ hv
  · exact World.block_lt_of_cell? w _ hb.s0
theorem Rd.z0 (h : Rd w b r L) : ∃ v : ByteArray, w.cell? ⟨b.Z, 0, none⟩ = some (.string v) := by
  obtain ⟨s, i, hs, hr⟩ := h.sc
  exact hs.z0
theorem Rd.z2 (h : Rd w b r L) : ∃ v : Int, w.cell? ⟨b.Z, 2, none⟩ = some (.int .i64 v) := by
  obtain ⟨s, i, hs, hr⟩ := h.sc
  exact hs.z2
theorem Rd.zz (h : Rd w b r L) : ∀ j, w.frozen? ⟨b.Z, j, none⟩ = false := by
  obtain ⟨s, i, hs, hr⟩ := h.sc
  exact hs.zz
theorem Rd.g2 (h : Rd w b r L) : 2 < w.heap.size := by
  obtain ⟨s, i, hs, hr⟩ := h.sc
  exact World.block_lt_of_cell? w _ hs.eof
theorem Rd.n2 (h : Rd w b r L) : ¬ Tr b 2 := by
  obtain ⟨s, i, hs, hr⟩ := h.sc
  exact hs.n2
theorem Rd.len (h : Rd w b r L) : r.length < 4096 := by
  obtain ⟨s, i, hs, rfl, hi⟩ := h.sc
  have := hs.s4
  have e : s.data.toList.length = s.size := Array.length_toList
  rw [List.length_drop, e]
  omega

theorem drop_cons {s : ByteArray} {i : Nat} {c : UInt8} {t : Bs} (h : s.data.toList.drop i = c :: t) : ∃ hi : i < s.size, s[i] = c ∧ s.data.toList.drop (i + 1) = t := by
  have e : s.data.toList.length = s.size := Array.length_toList
  have hi : i < s.size := by
    have := congrArg List.length h
    rw [List.length_drop, e, List.length_cons] at this
    omega
  have hi' : i < s.data.toList.length := by omega
  rw [List.drop_eq_getElem_cons hi'] at h
  injection h with h1 h2
  exact ⟨hi, h1, h2⟩
theorem drop_nil {s : ByteArray} {i : Nat} (h : s.data.toList.drop i = []) (hi : i ≤ s.size) : i = s.size := by
  have e : s.data.toList.length = s.size := Array.length_toList
  have := congrArg List.length h
  rw [List.length_drop, e] at this
  simp at this
  omega

/-- The scanner behind a step of the reader. -/
theorem Rd.on {s : ByteArray} {i j : Nat} {r' : Bs} (h : Rd w b r L) (hc : Ch (Tb b.B b.F b.S) w w') (hs : Sc w' b.Z b.B b.F b.S b.X s j) (hj : j ≤ s.size) (hr : s.data.toList.drop j = r') (hl : r'.length ≤ r.length) : Rd w' b r' L :=
  ⟨⟨s, j, hs, hr, hj⟩, hc.cell_some h.ln hs.nZ, h.lo, by have := h.hi; omega⟩
end

set_option maxRecDepth 100000 in
set_option maxHeartbeats 4000000 in
theorem readNext_c {w : World} {b : Bl} {c : UInt8} {t : Bs} {L : Int} (H : Hid (Rd w b (c :: t) L)) :
    Calls Tryd.prog 34 #[ptr b.Z] w fun e w' => e = .returned (.int .i64 (c.toNat : Int)) ∧ Ch (Tb b.B b.F b.S) w w' ∧ Rd w' b t L := by
  obtain ⟨s, i, hs, hr, hi⟩ := H.out.sc
  obtain ⟨hlt, rfl, ht⟩ := drop_cons hr
  refine (readNext_some (Lib.hid hs) hlt).mono ?_
  rintro e w' ⟨rfl, hc, r', u', hb, h0, h1⟩
  exact ⟨rfl, hc, H.out.on (i := i) hc (hs.on hc ⟨r', u', _, hb, h1⟩) (by omega) ht (by simp)⟩

set_option maxRecDepth 100000 in
set_option maxHeartbeats 4000000 in
theorem readNext_e {w : World} {b : Bl} {L : Int} (H : Hid (Rd w b [] L)) :
    Calls Tryd.prog 34 #[ptr b.Z] w fun e w' => e = .returned (.int .i64 (-1)) ∧ Ch (Tb b.B b.F b.S) w w' ∧ Rd w' b [] L := by
  obtain ⟨s, i, hs, hr, hi⟩ := H.out.sc
  obtain rfl := drop_nil hr hi
  refine (readNext_eof (Lib.hid hs)).mono ?_
  rintro e w' ⟨rfl, hc, hs'⟩
  exact ⟨rfl, hc, H.out.on (i := s.size) hc hs' (Nat.le_refl _) hr (by simp)⟩

theorem tb_tr {b : Bl} {w w' : World} (h : Ch (Tb b.B b.F b.S) w w') : Ch (Tr b) w w' := h.mono fun _ _ h => .inr h

theorem peek_calls {w : World} {b : Bl} {r : Bs} {L : Int} (H : Hid (Rd w b r L)) :
    Calls Tryd.prog 21 #[ptr b.Z] w fun e w' => e = .returned (.int .i64 (hd r)) ∧ Ch (Tr b) w w' ∧ Rd w' b r L := by
  obtain ⟨s, i, hs, hr, hi⟩ := H.out.sc
  cases r with
  | nil =>
    obtain rfl := drop_nil hr hi
    refine (peek_eof (Lib.hid hs)).mono ?_
    rintro e w' ⟨rfl, hc, hs'⟩
    exact ⟨rfl, tb_tr hc, H.out.on (i := s.size) hc hs' (Nat.le_refl _) hr (by simp)⟩
  | cons c t =>
    obtain ⟨hlt, rfl, ht⟩ := drop_cons hr
    refine (peek_some (Lib.hid hs) hlt).mono ?_
    rintro e w' ⟨rfl, hc, hs'⟩
    exact ⟨rfl, tb_tr hc, H.out.on (i := i) hc hs' (by omega) hr (by simp)⟩

theorem Rd.setCol {w : World} {b : Bl} {r : Bs} {L : Int} (h : Rd w b r L) (v : Int) : Rd (w.setCell ⟨b.Z, 2, none⟩ (.int .i64 v)) b r L := by
  obtain ⟨s, i, hs, hr⟩ := h.sc
  exact ⟨⟨s, i, hs.pos 2 (.inr rfl) v, hr⟩, co h.ln (addr_ne (by decide)), h.lo, h.hi⟩
theorem Rd.setLine {w : World} {b : Bl} {r : Bs} {L : Int} (h : Rd w b r L) (v : Int) (h0 : -1 ≤ v) (h1 : v + (r.length : Int) ≤ 4100) : Rd (w.setCell ⟨b.Z, 1, none⟩ (.int .i64 v)) b r v := by
  obtain ⟨s, i, hs, hr⟩ := h.sc
  exact ⟨⟨s, i, hs.pos 1 (.inl rfl) v, hr⟩, cs h.ln, h0, h1⟩
theorem ch_z {b : Bl} {w w' : World} (h : Ch (Tr b) w w') (k : Nat) (v : Value) : Ch (Tr b) w (w'.setCell ⟨b.Z, k, none⟩ v) := h.setCell (p := ⟨b.Z, k, none⟩) (fun _ => .inl rfl) v

set_option maxRecDepth 100000 in
set_option maxHeartbeats 4000000 in
theorem next_c {w : World} {b : Bl} {c : UInt8} {t : Bs} {L : Int} (H : Hid (Rd w b (c :: t) L)) (h10 : c.toNat ≠ 10) (h13 : c.toNat ≠ 13) :
    Calls Tryd.prog 23 #[ptr b.Z] w fun e w' => e = .returned (.int .i64 (c.toNat : Int)) ∧ Ch (Tr b) w w' ∧ Rd w' b t L := by
  have g1 : ((c.toNat : Int) == -1) = false := by simp <;> omega
  have g2 : ((c.toNat : Int) == 10) = false := by simp <;> omega
  have g3 : ((c.toNat : Int) == 13) = false := by simp <;> omega
  go_enter Tryd.func23, Tryd.ntmps23
  go_wp2_with fail
  refine (readNext_c H).mono ?_
  rintro e w' ⟨rfl, hc, hs⟩
  obtain ⟨v2, e2⟩ := hs.z2
  have x2 := hs.zz 2
  have HC := Lib.hid hc
  have HS := Lib.hid hs
  clear hc hs
  simp only []
  go_wp2_with fail
  go_ret
  exact ⟨rfl, ch_z (tb_tr HC.out) 2 _, HS.out.setCol _⟩

set_option maxRecDepth 100000 in
set_option maxHeartbeats 4000000 in
theorem next_e {w : World} {b : Bl} {L : Int} (H : Hid (Rd w b [] L)) :
    Calls Tryd.prog 23 #[ptr b.Z] w fun e w' => e = .returned (.int .i64 (-1)) ∧ Ch (Tr b) w w' ∧ Rd w' b [] (-1) := by
  go_enter Tryd.func23, Tryd.ntmps23
  go_wp2_with fail
  refine (readNext_e H).mono ?_
  rintro e w' ⟨rfl, hc, hs⟩
  obtain ⟨v2, e2⟩ := hs.z2
  have e1 := hs.ln
  have x1 := hs.zz 1
  have x2 := hs.zz 2
  have HC := Lib.hid hc
  have HS := Lib.hid hs
  clear hc hs
  simp only []
  go_wp2_with fail
  go_ret
  exact ⟨rfl, ch_z (ch_z (tb_tr HC.out) 1 _) 2 _, (HS.out.setLine (-1) (by omega) (by simp)).setCol _⟩

set_option maxRecDepth 100000 in
set_option maxHeartbeats 4000000 in
theorem newline_calls {w : World} {b : Bl} {t : Bs} {L : Int} (H : Hid (Rd w b t L)) (hl : L + 1 + (t.length : Int) ≤ 4100) (h13 : hd t ≠ 13) :
    Calls Tryd.prog 36 #[ptr b.Z, .int .i64 10] w fun e w' => e = .returned (.tuple #[]) ∧ Ch (Tr b) w w' ∧ Rd w' b t (L + 1) := by
  obtain ⟨v2, e2⟩ := H.out.z2
  have e1 := H.out.ln
  have x1 := H.out.zz 1
  have x2 := H.out.zz 2
  have lo := H.out.lo
  have hw : IntKind.i64.wrap (L + 1) = L + 1 := by rw [IntKind.wrap_i64]; omega
  have g : (hd t == 13) = false := by simpa using h13
  go_enter Tryd.func36, Tryd.ntmps36
  go_wp2_with fail
  refine (peek_calls (b := b) (r := t) (L := L + 1) (Lib.hid ((H.out.setLine (L + 1) (by omega) hl).setCol 0))).mono ?_
  rintro e w' ⟨rfl, hc, hs⟩
  have HC := Lib.hid hc
  have HS := Lib.hid hs
  clear hc hs
  simp only []
  go_wp2_with fail
  refine bodyPost_end (results_none rfl _ _ _) rfl ?_
  exact ⟨rfl, (ch_z (ch_z (Ch.refl _ _) 1 _) 2 _).trans HC.out, HS.out⟩

set_option maxRecDepth 100000 in
set_option maxHeartbeats 4000000 in
theorem next_n {w : World} {b : Bl} {t : Bs} {L : Int} (H : Hid (Rd w b (10 :: t) L)) (h13 : hd t ≠ 13) :
    Calls Tryd.prog 23 #[ptr b.Z] w fun e w' => e = .returned (.int .i64 10) ∧ Ch (Tr b) w w' ∧ Rd w' b t (L + 1) := by
  have hl := H.out.hi
  go_enter Tryd.func23, Tryd.ntmps23
  go_wp2_with fail
  refine (readNext_c H).mono ?_
  rintro e w' ⟨rfl, hc, hs⟩
  have HC := Lib.hid hc
  have HS := Lib.hid hs
  clear hc hs
  have e10 : ((UInt8.toNat 10 : Nat) : Int) = 10 := rfl
  simp only [e10]
  go_wp2_with fail
  refine (newline_calls HS (by simp only [List.length_cons] at hl; omega) h13).mono ?_
  rintro e w2 ⟨rfl, hc2, hs2⟩
  have HC2 := Lib.hid hc2
  have HS2 := Lib.hid hs2
  clear hc2 hs2
  simp only []
  go_wp2_with fail
  go_ret
  exact ⟨rfl, (tb_tr HC.out).trans HC2.out, HS2.out⟩

/-- The rest and the line behind the next byte. -/
def tl1 : Bs → Bs
  | [] => []
  | _ :: t => t
def ln1 (r : Bs) (L : Int) : Int := match r with
  | [] => -1
  | c :: _ => if c = 10 then L + 1 else L
/-- No carriage return. -/
def NoCr (r : Bs) : Prop := ∀ c ∈ r, c ≠ 13
theorem NoCr.hd {r : Bs} (h : NoCr r) : hd r ≠ 13 := by
  cases r with
  | nil => simp [YtbgjjbffpckimaaDoor.hd]
  | cons c t =>
    have := h c (by simp)
    intro e
    apply this
    have e' : (c.toNat : Int) = 13 := e
    exact UInt8.toNat_inj.1 (by show c.toNat = 13; omega)
theorem NoCr.tail {c : UInt8} {r : Bs} (h : NoCr (c :: r)) : NoCr r := fun x hx => h x (by simp [hx])

theorem next_calls {w : World} {b : Bl} {r : Bs} {L : Int} (H : Hid (Rd w b r L)) (h13 : NoCr r) :
    Calls Tryd.prog 23 #[ptr b.Z] w fun e w' => e = .returned (.int .i64 (hd r)) ∧ Ch (Tr b) w w' ∧ Rd w' b (tl1 r) (ln1 r L) := by
  cases r with
  | nil => exact next_e H
  | cons c t =>
    have hc13 := h13 c (by simp)
    by_cases h : c = 10
    · subst h
      exact next_n H h13.tail.hd
    · have := next_c H (fun e => h (UInt8.toNat_inj.1 e)) (fun e => hc13 (UInt8.toNat_inj.1 e))
      rw [show ln1 (c :: t) L = L from if_neg h]
      exact this

end Go.Proofs.YtbgjjbffpckimaaDoor
