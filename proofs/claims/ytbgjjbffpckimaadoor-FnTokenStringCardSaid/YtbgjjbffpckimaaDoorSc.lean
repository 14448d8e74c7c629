/-
  THE SCANNER's readNext, Peek, Next.
-/
import Derived.Test.YtbgjjbffpckimaaDoorRdb
import Derived.LaidEql
namespace Go.Proofs.YtbgjjbffpckimaaDoor
set_option linter.all false
open Go.RowKit

theorem eq_nil_eof (X : Addr) (w : World) : (binOp .eql 46 .nilIface (eofv X)).run Tryd.prog w = .ok (.bool false) w :=
  run_eql_iface_nil_left w 128 (.pointer (some X)) Tryd.underlying46
theorem cmp128 : (Tryd.prog.info? 128).map (·.comparable) = some true := by kernel_rfl
theorem inf130 : (Tryd.prog.info? 130).isSome = true := by kernel_rfl
theorem eq_eof_eof (X : Addr) (w : World) : (binOp .eql 46 (eofv X) (eofv X)).run Tryd.prog w = .ok (.bool true) w := by
  obtain ⟨i, hi, hc⟩ := Option.map_eq_some_iff.1 cmp128
  obtain ⟨j, hj⟩ := Option.isSome_iff_exists.1 inf130
  exact run_eql_iface_ptr_same w X Tryd.underlying46 Tryd.underlying128 hi hc hj

def Tz (Z B F S : Nat) (b : Nat) : Prop := b = Z ∨ Tb B F S b

/-- A scanner: its block Z, its reader, the text s read up to i. -/
structure Sc (w : World) (Z B F S : Nat) (X : Addr) (s : ByteArray) (i : Nat) : Prop where
  z0 : ∃ v : ByteArray, w.cell? ⟨Z, 0, none⟩ = some (.string v)
  z1 : ∃ v : Int, w.cell? ⟨Z, 1, none⟩ = some (.int .i64 v)
  z2 : ∃ v : Int, w.cell? ⟨Z, 2, none⟩ = some (.int .i64 v)
  z3 : w.cell? ⟨Z, 3, none⟩ = some (ptr B)
  zz : ∀ j, w.frozen? ⟨Z, j, none⟩ = false
  nZ : ¬ Tb B F S Z
  eof : w.cell? ⟨2, 0, none⟩ = some (eofv X)
  n2 : ¬ Tz Z B F S 2
  s4 : s.size < 4096
  bio : ∃ r u lb, BioAt w B F S s i r u lb ∧ r ≤ i

section
variable {w w' : World} {Z B F S : Nat} {X : Addr} {s : ByteArray} {i j : Nat}
theorem Sc.keep {T : Nat → Prop} (h : Sc w Z B F S X s i) (hc : Ch T w w') (hT : ∀ b, Tz Z B F S b → ¬ T b) (h2 : ¬ T 2) : Sc w' Z B F S X s i := by
  obtain ⟨v0, h0⟩ := h.z0
  obtain ⟨v1, h1⟩ := h.z1
  obtain ⟨v2, h2'⟩ := h.z2
  obtain ⟨r, u, lb, hb, hr⟩ := h.bio
  have lZ : Z < w.heap.size := World.block_lt_of_cell? w _ h.z3
  have tZ := hT Z (.inl rfl)
  exact ⟨⟨v0, hc.cell_some h0 tZ⟩, ⟨v1, hc.cell_some h1 tZ⟩, ⟨v2, hc.cell_some h2' tZ⟩, hc.cell_some h.z3 tZ, fun j => (hc.frozen (p := ⟨Z, j, none⟩) lZ tZ).trans (h.zz j), h.nZ, hc.cell_some h.eof h2, h.n2, h.s4,
    ⟨r, u, lb, hb.keep hc (hT B (.inr (.inl rfl))) (hT F (.inr (.inr (.inl rfl)))) (hT S (.inr (.inr (.inr rfl)))), hr⟩⟩
theorem Sc.moved (h : Sc w Z B F S X s i) (hc : Ch (fun _ => False) w w') : Sc w' Z B F S X s i := h.keep hc (fun _ _ => id) id
/-- The reader has gone on. -/
theorem Sc.on (h : Sc w Z B F S X s i) (hc : Ch (Tb B F S) w w') (hb : ∃ r u lb, BioAt w' B F S s j r u lb ∧ r ≤ j) : Sc w' Z B F S X s j := by
  obtain ⟨v0, h0⟩ := h.z0
  obtain ⟨v1, h1⟩ := h.z1
  obtain ⟨v2, h2'⟩ := h.z2
  have lZ : Z < w.heap.size := World.block_lt_of_cell? w _ h.z3
  exact ⟨⟨v0, hc.cell_some h0 h.nZ⟩, ⟨v1, hc.cell_some h1 h.nZ⟩, ⟨v2, hc.cell_some h2' h.nZ⟩, hc.cell_some h.z3 h.nZ, fun j => (hc.frozen (p := ⟨Z, j, none⟩) lZ h.nZ).trans (h.zz j), h.nZ, hc.cell_some h.eof (fun e => h.n2 (.inr e)), h.n2, h.s4, hb⟩
/-- Line or column written. -/
theorem Sc.pos (h : Sc w Z B F S X s i) (k : Nat) (hk : k = 1 ∨ k = 2) (v : Int) : Sc (w.setCell ⟨Z, k, none⟩ (.int .i64 v)) Z B F S X s i := by
  obtain ⟨v0, h0⟩ := h.z0
  obtain ⟨v1, h1⟩ := h.z1
  obtain ⟨v2, h2'⟩ := h.z2
  obtain ⟨r, u, lb, hb, hr⟩ := h.bio
  have nZ := h.nZ
  have hc : Ch (fun b => b = Z) w (w.setCell ⟨Z, k, none⟩ (.int .i64 v)) := Ch.setCell (T := fun b => b = Z) (Ch.refl _ _) (p := ⟨Z, k, none⟩) (fun _ => rfl) _
  have d : ∀ {j k : Nat}, ¬ j = k → ¬ (⟨Z, j, none⟩ : Addr) = ⟨Z, k, none⟩ := fun e => addr_ne e
  refine ⟨⟨v0, co h0 (d (by omega))⟩, ?_, ?_, co h.z3 (d (by omega)), fun j => by rw [World.frozen?_setCell]; exact h.zz j, h.nZ, hc.cell_some h.eof (fun e => h.n2 (.inl e)), h.n2, h.s4,
    ⟨r, u, lb, hb.keep hc (fun e => nZ (.inl e.symm)) (fun e => nZ (.inr (.inl e.symm))) (fun e => nZ (.inr (.inr e.symm))), hr⟩⟩
  · rcases hk with rfl | rfl
    · exact ⟨v, cs h1⟩
    · exact ⟨v1, co h1 (d (by decide))⟩
  · rcases hk with rfl | rfl
    · exact ⟨v2, co h2' (d (by decide))⟩
    · exact ⟨v, cs h2'⟩
end

set_option maxRecDepth 100000 in
set_option maxHeartbeats 4000000 in
theorem readNext_some {w : World} {Z B F S : Nat} {X : Addr} {s : ByteArray} {i : Nat} (H : Hid (Sc w Z B F S X s i)) (hi : i < s.size) :
    Calls Tryd.prog 34 #[ptr Z] w fun e w' => e = .returned (.int .i64 (s[i].toNat : Int)) ∧ Ch (Tb B F S) w w' ∧ ∃ r' u', BioAt w' B F S s (i + 1) r' u' (s[i].toNat : Int) ∧ 0 < r' ∧ r' ≤ i + 1 := by
  obtain ⟨r, u, lb, hb, hr⟩ := H.out.bio
  have HB := Lib.hid hb
  clear hb
  have z3 := H.out.z3
  have he := H.out.eof
  have n2 := H.out.n2
  have hw : IntKind.i64.wrap ((s[i].toNat : Nat) : Int) = ((s[i].toNat : Nat) : Int) := by rw [IntKind.wrap_i64]; have := (s[i]).toNat_lt; omega
  go_enter Tryd.func34, Tryd.ntmps34
  go_wp2_with fail
  refine (readByte_some HB hr H.out.s4 hi).mono ?_
  rintro e w' ⟨rfl, hc, hbb⟩
  have he2 := hc.cell_some he (fun e => n2 (.inr e))
  have qe := eq_nil_eof X w'
  have HC := Lib.hid hc
  have HBB := Lib.hid hbb
  clear hc hbb
  simp only []
  go_wp2_with fail
  go_ret
  exact ⟨rfl, HC.out, HBB.out⟩

set_option maxRecDepth 100000 in
set_option maxHeartbeats 4000000 in
theorem readNext_eof {w : World} {Z B F S : Nat} {X : Addr} {s : ByteArray} (H : Hid (Sc w Z B F S X s s.size)) :
    Calls Tryd.prog 34 #[ptr Z] w fun e w' => e = .returned (.int .i64 (-1)) ∧ Ch (Tb B F S) w w' ∧ Sc w' Z B F S X s s.size := by
  obtain ⟨r, u, lb, hb, hr⟩ := H.out.bio
  have HB := Lib.hid hb
  clear hb
  have z3 := H.out.z3
  have he := H.out.eof
  have n2 := H.out.n2
  go_enter Tryd.func34, Tryd.ntmps34
  go_wp2_with fail
  refine (readByte_eof HB hr H.out.s4 he (fun e => n2 (.inr e))).mono ?_
  rintro e w' ⟨rfl, hc, hbb⟩
  have he2 := hc.cell_some he (fun e => n2 (.inr e))
  have qe := eq_eof_eof X w'
  have HC := Lib.hid hc
  have HBB := Lib.hid hbb
  clear hc hbb
  simp only []
  go_wp2_with fail
  go_ret
  exact ⟨rfl, HC.out, H.out.on HC.out ⟨_, _, _, HBB.out, Nat.zero_le _⟩⟩

set_option maxRecDepth 100000 in
set_option maxHeartbeats 4000000 in
theorem peek_some {w : World} {Z B F S : Nat} {X : Addr} {s : ByteArray} {i : Nat} (H : Hid (Sc w Z B F S X s i)) (hi : i < s.size) :
    Calls Tryd.prog 21 #[ptr Z] w fun e w' => e = .returned (.int .i64 (s[i].toNat : Int)) ∧ Ch (Tb B F S) w w' ∧ Sc w' Z B F S X s i := by
  have z3 := H.out.z3
  have nZ := H.out.nZ
  have g1 : ((s[i].toNat : Int) != -1) = true := by simp <;> omega
  go_enter Tryd.func21, Tryd.ntmps21
  go_wp2_with fail
  refine (readNext_some H hi).mono ?_
  rintro e w' ⟨rfl, hc, r', u', hb, h0, h1⟩
  have e3 := hc.cell_some z3 nZ
  have HC := Lib.hid hc
  have HB := Lib.hid hb
  clear hc hb
  simp only []
  go_wp2_with fail
  refine (unread_calls HB (fun _ => rfl) h0).mono ?_
  rintro e w2 ⟨rfl, hb2, hc2⟩
  have HC2 := Lib.hid hc2
  have HB2 := Lib.hid hb2
  clear hc2 hb2
  simp only []
  go_wp2_with fail
  go_ret
  exact ⟨rfl, HC.out.trans HC2.out, H.out.on (HC.out.trans HC2.out) ⟨_, _, _, HB2.out, by omega⟩⟩

set_option maxRecDepth 100000 in
set_option maxHeartbeats 4000000 in
theorem peek_eof {w : World} {Z B F S : Nat} {X : Addr} {s : ByteArray} (H : Hid (Sc w Z B F S X s s.size)) :
    Calls Tryd.prog 21 #[ptr Z] w fun e w' => e = .returned (.int .i64 (-1)) ∧ Ch (Tb B F S) w w' ∧ Sc w' Z B F S X s s.size := by
  go_enter Tryd.func21, Tryd.ntmps21
  go_wp2_with fail
  refine (readNext_eof H).mono ?_
  rintro e w' ⟨rfl, hc, hs⟩
  have HC := Lib.hid hc
  have HS := Lib.hid hs
  clear hc hs
  simp only []
  go_wp2_with fail
  go_ret
  exact ⟨rfl, HC.out, HS.out⟩

set_option maxRecDepth 100000 in
set_option maxHeartbeats 4000000 in
theorem next_some {w : World} {Z B F S : Nat} {X : Addr} {s : ByteArray} {i : Nat} (H : Hid (Sc w Z B F S X s i)) (hi : i < s.size) (h10 : s[i].toNat ≠ 10) (h13 : s[i].toNat ≠ 13) :
    Calls Tryd.prog 23 #[ptr Z] w fun e w' => e = .returned (.int .i64 (s[i].toNat : Int)) ∧ Ch (Tz Z B F S) w w' ∧ Sc w' Z B F S X s (i + 1) := by
  have g1 : ((s[i].toNat : Int) == -1) = false := by simp <;> omega
  have g2 : ((s[i].toNat : Int) == 10) = false := by simp <;> omega
  have g3 : ((s[i].toNat : Int) == 13) = false := by simp <;> omega
  go_enter Tryd.func23, Tryd.ntmps23
  go_wp2_with fail
  refine (readNext_some H hi).mono ?_
  rintro e w' ⟨rfl, hc, r', u', hb, h0, h1⟩
  have hs := H.out.on hc ⟨r', u', _, hb, h1⟩
  obtain ⟨v2, e2⟩ := hs.z2
  have x2 := hs.zz 2
  have HC := Lib.hid hc
  have HS := Lib.hid hs
  clear hc hb hs
  simp only []
  go_wp2_with fail
  go_ret
  exact ⟨rfl, (HC.out.mono fun _ _ h => .inr h).setCell (p := ⟨Z, 2, none⟩) (fun _ => .inl rfl) _, HS.out.pos 2 (.inr rfl) _⟩

set_option maxRecDepth 100000 in
set_option maxHeartbeats 4000000 in
theorem next_eof {w : World} {Z B F S : Nat} {X : Addr} {s : ByteArray} (H : Hid (Sc w Z B F S X s s.size)) :
    Calls Tryd.prog 23 #[ptr Z] w fun e w' => e = .returned (.int .i64 (-1)) ∧ Ch (Tz Z B F S) w w' ∧ Sc w' Z B F S X s s.size := by
  go_enter Tryd.func23, Tryd.ntmps23
  go_wp2_with fail
  refine (readNext_eof H).mono ?_
  rintro e w' ⟨rfl, hc, hs⟩
  obtain ⟨v1, e1⟩ := hs.z1
  obtain ⟨v2, e2⟩ := hs.z2
  have x1 := hs.zz 1
  have x2 := hs.zz 2
  have HC := Lib.hid hc
  have HS := Lib.hid hs
  clear hc hs
  simp only []
  go_wp2_with fail
  go_ret
  exact ⟨rfl, ((HC.out.mono fun _ _ h => .inr h).setCell (p := ⟨Z, 1, none⟩) (fun _ => .inl rfl) _).setCell (p := ⟨Z, 2, none⟩) (fun _ => .inl rfl) _, (HS.out.pos 1 (.inl rfl) _).pos 2 (.inr rfl) _⟩

end Go.Proofs.YtbgjjbffpckimaaDoor
