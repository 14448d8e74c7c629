/-
  bufio.Reader OVER strings.Reader: a text that is read byte by byte.
-/
import Derived.Test.YtbgjjbffpckimaaDoorProg
import Derived.Test.YtbgjjbffpckimaaDoorMem
import Derived.KernelRfl
import Derived.Deep.LoopGhost
import Derived.Deep.RegionHeld3
import Derived.BigQuiet
import Derived.OwnWalk
import Derived.Lib.LazyBuf
namespace Go.Proofs.YtbgjjbffpckimaaDoor
set_option linter.all false
open Go.RowKit

abbrev ptr (b : Nat) : Value := .pointer (some ⟨b, 0, none⟩)
theorem addr_ne {S i j : Nat} (h : i ≠ j) : (⟨S, i, none⟩ : Addr) ≠ ⟨S, j, none⟩ := fun e => h (by injection e)

/-- The blocks of a reader. -/
def Tb (B F S : Nat) (b : Nat) : Prop := b = B ∨ b = F ∨ b = S

/-- A reader: its block B, its buffer F, the text's reader S; the text s is read up to i; the buffer holds what lies from r to u. -/
structure BioAt (w : World) (B F S : Nat) (s : ByteArray) (i r u : Nat) (lb : Int) : Prop where
  b0 : w.cell? ⟨B, 0, none⟩ = some (.slice (some ⟨F, 0, none⟩) 4096 4096)
  b1 : w.cell? ⟨B, 1, none⟩ = some (.iface 35 (ptr S))
  b2 : w.cell? ⟨B, 2, none⟩ = some (.int .i64 (r : Int))
  b3 : w.cell? ⟨B, 3, none⟩ = some (.int .i64 (u : Int))
  b4 : w.cell? ⟨B, 4, none⟩ = some .nilIface
  b5 : w.cell? ⟨B, 5, none⟩ = some (.int .i64 lb)
  b6 : ∃ v : Int, w.cell? ⟨B, 6, none⟩ = some (.int .i64 v)
  bz : ∀ j, w.frozen? ⟨B, j, none⟩ = false
  f : ∀ k, k < 4096 → (w.cell? ⟨F, k, none⟩).isSome = true
  fv : ∀ k, r ≤ k → k < u → ∀ h : i + (k - r) < s.size, w.cell? ⟨F, k, none⟩ = some (.int .u8 (s[i + (k - r)].toNat : Int))
  fz : ∀ k, w.frozen? ⟨F, k, none⟩ = false
  s0 : w.cell? ⟨S, 0, none⟩ = some (.string s)
  s1 : w.cell? ⟨S, 1, none⟩ = some (.int .i64 ((i + (u - r) : Nat) : Int))
  s2 : ∃ v : Int, w.cell? ⟨S, 2, none⟩ = some (.int .i64 v)
  sz : ∀ j, w.frozen? ⟨S, j, none⟩ = false
  ru : r ≤ u
  u4 : u ≤ 4096
  isz : i + (u - r) ≤ s.size
  nBF : ¬ B = F
  nBS : ¬ B = S
  nFS : ¬ F = S

section bio
variable {w w' : World} {B F S : Nat} {s : ByteArray} {i r u : Nat} {lb : Int}

theorem BioAt.keep {T : Nat → Prop} (h : BioAt w B F S s i r u lb) (hc : Ch T w w') (hB : ¬ T B) (hF : ¬ T F) (hS : ¬ T S) : BioAt w' B F S s i r u lb := by
  have lB : B < w.heap.size := World.block_lt_of_cell? w _ h.b0
  have lF : F < w.heap.size := by
    have := h.f 0 (by omega)
    obtain ⟨v, hv⟩ := Option.isSome_iff_exists.1 this
    exact World.block_lt_of_cell? w _ hv
  have lS : S < w.heap.size := World.block_lt_of_cell? w _ h.s0
  obtain ⟨v6, h6⟩ := h.b6
  obtain ⟨v2, h2⟩ := h.s2
  exact ⟨hc.cell_some h.b0 hB, hc.cell_some h.b1 hB, hc.cell_some h.b2 hB, hc.cell_some h.b3 hB, hc.cell_some h.b4 hB, hc.cell_some h.b5 hB, ⟨v6, hc.cell_some h6 hB⟩, fun j => (hc.frozen (p := ⟨B, j, none⟩) lB hB).trans (h.bz j),
    fun k hk => by rw [hc.cell (p := ⟨F, k, none⟩) lF hF]; exact h.f k hk, fun k h1 h2 h3 => hc.cell_some (h.fv k h1 h2 h3) hF, fun k => (hc.frozen (p := ⟨F, k, none⟩) lF hF).trans (h.fz k),
    hc.cell_some h.s0 hS, hc.cell_some h.s1 hS, ⟨v2, hc.cell_some h2 hS⟩, fun j => (hc.frozen (p := ⟨S, j, none⟩) lS hS).trans (h.sz j), h.ru, h.u4, h.isz, h.nBF, h.nBS, h.nFS⟩

theorem BioAt.moved (h : BioAt w B F S s i r u lb) (hc : Ch (fun _ => False) w w') : BioAt w' B F S s i r u lb := h.keep hc id id id
end bio

section bio2
variable {w w' : World} {B F S : Nat} {s : ByteArray} {i r u : Nat} {lb : Int}

theorem co {w : World} {a b : Addr} {x y : Value} (h : w.cell? b = some y) (n : ¬ a = b) : (w.setCell a x).cell? b = some y := (World.cell?_setCell_other _ _ _ _ n).trans h
theorem cs {w : World} {a : Addr} {x y : Value} (h : w.cell? a = some y) : (w.setCell a x).cell? a = some x := World.cell?_setCell_same _ _ _ h

theorem isome_co {w : World} {a b : Addr} {x : Value} (h : (w.cell? b).isSome = true) : ((w.setCell a x).cell? b).isSome = true := by
  obtain ⟨y, hy⟩ := Option.isSome_iff_exists.1 h
  by_cases e : a = b
  · subst e; rw [cs hy]; rfl
  · rw [co hy e]; rfl

theorem BioAt.setB5 (h : BioAt w B F S s i r u lb) (x : Int) : BioAt (w.setCell ⟨B, 5, none⟩ (.int .i64 x)) B F S s i r u x := by
  have nF : ∀ {j k}, ¬ (⟨B, j, none⟩ : Addr) = ⟨F, k, none⟩ := fun e => h.nBF (congrArg Addr.block e)
  have nS : ∀ {j k}, ¬ (⟨B, j, none⟩ : Addr) = ⟨S, k, none⟩ := fun e => h.nBS (congrArg Addr.block e)
  obtain ⟨v6, h6⟩ := h.b6
  obtain ⟨v2, h2⟩ := h.s2
  have zf : ∀ a, (w.setCell ⟨B, 5, none⟩ (.int .i64 x)).frozen? a = w.frozen? a := fun a => by rw [World.frozen?_setCell]
  exact ⟨co h.b0 (addr_ne (by decide)), co h.b1 (addr_ne (by decide)), co h.b2 (addr_ne (by decide)), co h.b3 (addr_ne (by decide)), co h.b4 (addr_ne (by decide)), cs h.b5, ⟨v6, co h6 (addr_ne (by decide))⟩, fun j => (zf _).trans (h.bz j),
    fun k hk => isome_co (h.f k hk), fun k h1 h2 h3 => co (h.fv k h1 h2 h3) nF, fun k => (zf _).trans (h.fz k), co h.s0 nS, co h.s1 nS, ⟨v2, co h2 nS⟩, fun j => (zf _).trans (h.sz j), h.ru, h.u4, h.isz, h.nBF, h.nBS, h.nFS⟩

theorem BioAt.setB6 (h : BioAt w B F S s i r u lb) (x : Int) : BioAt (w.setCell ⟨B, 6, none⟩ (.int .i64 x)) B F S s i r u lb := by
  have nF : ∀ {j k}, ¬ (⟨B, j, none⟩ : Addr) = ⟨F, k, none⟩ := fun e => h.nBF (congrArg Addr.block e)
  have nS : ∀ {j k}, ¬ (⟨B, j, none⟩ : Addr) = ⟨S, k, none⟩ := fun e => h.nBS (congrArg Addr.block e)
  obtain ⟨v6, h6⟩ := h.b6
  obtain ⟨v2, h2⟩ := h.s2
  have zf : ∀ a, (w.setCell ⟨B, 6, none⟩ (.int .i64 x)).frozen? a = w.frozen? a := fun a => by rw [World.frozen?_setCell]
  exact ⟨co h.b0 (addr_ne (by decide)), co h.b1 (addr_ne (by decide)), co h.b2 (addr_ne (by decide)), co h.b3 (addr_ne (by decide)), co h.b4 (addr_ne (by decide)), co h.b5 (addr_ne (by decide)), ⟨x, cs h6⟩, fun j => (zf _).trans (h.bz j),
    fun k hk => isome_co (h.f k hk), fun k h1 h2 h3 => co (h.fv k h1 h2 h3) nF, fun k => (zf _).trans (h.fz k), co h.s0 nS, co h.s1 nS, ⟨v2, co h2 nS⟩, fun j => (zf _).trans (h.sz j), h.ru, h.u4, h.isz, h.nBF, h.nBS, h.nFS⟩

/-- One byte on. -/
theorem BioAt.fwd (h : BioAt w B F S s i r u lb) (hr : r < u) : BioAt (w.setCell ⟨B, 2, none⟩ (.int .i64 ((r + 1 : Nat) : Int))) B F S s (i + 1) (r + 1) u lb := by
  have nF : ∀ {j k}, ¬ (⟨B, j, none⟩ : Addr) = ⟨F, k, none⟩ := fun e => h.nBF (congrArg Addr.block e)
  have nS : ∀ {j k}, ¬ (⟨B, j, none⟩ : Addr) = ⟨S, k, none⟩ := fun e => h.nBS (congrArg Addr.block e)
  obtain ⟨v6, h6⟩ := h.b6
  obtain ⟨v2, h2⟩ := h.s2
  have hz := h.isz
  have zf : ∀ a, (w.setCell ⟨B, 2, none⟩ (.int .i64 ((r + 1 : Nat) : Int))).frozen? a = w.frozen? a := fun a => by rw [World.frozen?_setCell]
  have e1 : i + (u - r) = i + 1 + (u - (r + 1)) := by omega
  refine ⟨co h.b0 (addr_ne (by decide)), co h.b1 (addr_ne (by decide)), cs h.b2, co h.b3 (addr_ne (by decide)), co h.b4 (addr_ne (by decide)), co h.b5 (addr_ne (by decide)), ⟨v6, co h6 (addr_ne (by decide))⟩, fun j => (zf _).trans (h.bz j),
    fun k hk => isome_co (h.f k hk), fun k h1 h2 h3 => ?_, fun k => (zf _).trans (h.fz k), co h.s0 nS, ?_, ⟨v2, co h2 nS⟩, fun j => (zf _).trans (h.sz j), by omega, h.u4, by omega, h.nBF, h.nBS, h.nFS⟩
  · have e2 : i + 1 + (k - (r + 1)) = i + (k - r) := by omega
    have := co (x := .int .i64 ((r + 1 : Nat) : Int)) (h.fv k (by omega) h2 (by omega)) (a := ⟨B, 2, none⟩) nF
    simp only [e2]; exact this
  · rw [← e1]; exact co h.s1 nS

/-- One byte back. -/
theorem BioAt.back {b : UInt8} (h : BioAt w B F S s (i + 1) r u lb) (hr : 0 < r) (hb : ∀ h : i < s.size, s[i] = b) : BioAt ((w.setCell ⟨B, 2, none⟩ (.int .i64 ((r - 1 : Nat) : Int))).setCell ⟨F, r - 1, none⟩ (.int .u8 (b.toNat : Int))) B F S s i (r - 1) u lb := by
  have nF : ∀ {j k}, ¬ (⟨B, j, none⟩ : Addr) = ⟨F, k, none⟩ := fun e => h.nBF (congrArg Addr.block e)
  have nF' : ∀ {j k}, ¬ (⟨F, j, none⟩ : Addr) = ⟨B, k, none⟩ := fun e => h.nBF (congrArg Addr.block e).symm
  have nS : ∀ {j k}, ¬ (⟨B, j, none⟩ : Addr) = ⟨S, k, none⟩ := fun e => h.nBS (congrArg Addr.block e)
  have nS' : ∀ {j k}, ¬ (⟨F, j, none⟩ : Addr) = ⟨S, k, none⟩ := fun e => h.nFS (congrArg Addr.block e)
  obtain ⟨v6, h6⟩ := h.b6
  obtain ⟨v2, h2⟩ := h.s2
  have hz := h.isz
  have hru := h.ru
  have hu4 := h.u4
  have zf : ∀ a, ((w.setCell ⟨B, 2, none⟩ (.int .i64 ((r - 1 : Nat) : Int))).setCell ⟨F, r - 1, none⟩ (.int .u8 (b.toNat : Int))).frozen? a = w.frozen? a := fun a => by rw [World.frozen?_setCell, World.frozen?_setCell]
  have e1 : i + 1 + (u - r) = i + (u - (r - 1)) := by omega
  refine ⟨co (co h.b0 (addr_ne (by decide))) nF', co (co h.b1 (addr_ne (by decide))) nF', co (cs h.b2) nF', co (co h.b3 (addr_ne (by decide))) nF', co (co h.b4 (addr_ne (by decide))) nF', co (co h.b5 (addr_ne (by decide))) nF', ⟨v6, co (co h6 (addr_ne (by decide))) nF'⟩, fun j => (zf _).trans (h.bz j),
    fun k hk => isome_co (isome_co (h.f k hk)), fun k h1 h2 h3 => ?_, fun k => (zf _).trans (h.fz k), co (co h.s0 nS) nS', ?_, ⟨v2, co (co h2 nS) nS'⟩, fun j => (zf _).trans (h.sz j), by omega, h.u4, by omega, h.nBF, h.nBS, h.nFS⟩
  · by_cases e : k = r - 1
    · subst e
      obtain ⟨y, hy⟩ := Option.isSome_iff_exists.1 (h.f (r - 1) (by omega))
      have e3 : i + (r - 1 - (r - 1)) = i := by omega
      rw [cs (co hy nF)]
      simp only [e3, hb]
    · have e2 : i + (k - (r - 1)) = i + 1 + (k - r) := by omega
      simp only [e2]
      exact co (co (h.fv k (by omega) h2 (by omega)) nF) (addr_ne (Ne.symm e))
  · rw [← e1]; exact co (co h.s1 nS) nS'

theorem BioAt.drew (h : BioAt w B F S s i r u lb) : BioAt w.drew B F S s i r u lb := h.moved ((Ch.refl _ _).drew)
end bio2

set_option maxRecDepth 100000 in
set_option maxHeartbeats 4000000 in
theorem readErr_calls {w : World} {B : Nat} {v : Value} (b4 : w.cell? ⟨B, 4, none⟩ = some v) (bz : w.frozen? ⟨B, 4, none⟩ = false) (hv : v.oneCell' = true) :
    Calls Tryd.prog 52 #[ptr B] w fun e w' => e = .returned v ∧ w' = w.setCell ⟨B, 4, none⟩ .nilIface := by
  go_enter Tryd.func52, Tryd.ntmps52
  go_wp2_with fail
  go_ret
  exact ⟨rfl, rfl⟩

/-- The region of a number in a code. -/
noncomputable def rgd (id : Nat) : Code → Option Code
  | .region i ops d => if i = id then some (.region i ops d) else none
  | .seq a b => (rgd id a).orElse fun _ => rgd id b
  | .cond _ a b => (rgd id a).orElse fun _ => rgd id b
  | .block _ b => rgd id b
  | .loop b => rgd id b
  | .scope b => rgd id b
  | _ => none
noncomputable def reg35 (id : Nat) : Code := (rgd id (Tryd.f35.body.getD .skip)).getD .skip

set_option maxRecDepth 100000 in
set_option maxHeartbeats 4000000 in
theorem un_reg {w : World} {B F k : Nat} {b : UInt8} {Q : Exit → Act → World → Prop} {u1 u2 u3 u4 u5 u6 u7 u8 u9 u10 u11 u12 u13 u14 u15 u16 u17 u18 u19 u20 u21 u22 u23 u24 u25 u26 u27 u28 u29 u30 u31 u32 u33 u34 u35 u36 u37 u38 u39 u40 u41 u42 u43 u44 u45 u46 u47 u48 u49 u50 u51 u52 u53 u54 u55 u56 u57 : Value} (b0 : w.cell? ⟨B, 0, none⟩ = some (.slice (some ⟨F, 0, none⟩) 4096 4096)) (b2 : w.cell? ⟨B, 2, none⟩ = some (.int .i64 (k : Int))) (b5 : w.cell? ⟨B, 5, none⟩ = some (.int .i64 (b.toNat : Int))) {v : Value} (ff : w.cell? ⟨F, k, none⟩ = some v) (fz : w.frozen? ⟨F, k, none⟩ = false) (hk : k < 4096)
    (hQ : ∀ (w' : World) (y38 y39 y40 y41 y42 y43 y44 y45 y46 y47 y48 y49 y50 y51 : Value), (w' = w.setCell ⟨F, k, none⟩ (.int .u8 (b.toNat : Int)) ∨ w' = (w.setCell ⟨F, k, none⟩ (.int .u8 (b.toNat : Int))).drew) → Q .normal { tmps := #[ptr B, u1, u2, u3, u4, u5, u6, u7, u8, u9, u10, u11, u12, u13, u14, u15, u16, u17, u18, u19, u20, u21, u22, u23, u24, u25, u26, u27, u28, u29, u30, u31, u32, u33, u34, u35, u36, u37, y38, y39, y40, y41, y42, y43, y44, y45, y46, y47, y48, y49, y50, y51, u52, u53, u54, u55, u56, u57], defers := [] } w') :
    (reg35 6).wp Tryd.prog Q { tmps := #[ptr B, u1, u2, u3, u4, u5, u6, u7, u8, u9, u10, u11, u12, u13, u14, u15, u16, u17, u18, u19, u20, u21, u22, u23, u24, u25, u26, u27, u28, u29, u30, u31, u32, u33, u34, u35, u36, u37, u38, u39, u40, u41, u42, u43, u44, u45, u46, u47, u48, u49, u50, u51, u52, u53, u54, u55, u56, u57], defers := [] } w := by
  have hw2 : IntKind.u8.wrap (b.toNat : Int) = (b.toNat : Int) := by rw [IntKind.wrap_u8]; have := b.toNat_lt; omega
  have g5 : (k : Int) < 4096 := by omega
  have g6 : (0 : Int) ≤ (k : Int) := by omega
  have HQ := Lib.hid hQ
  clear hQ
  conv => arg 2; whnf
  refine wp_region_noPanic ?_
  go_region_law (fail)
  all_goals
    refine NoPanic.normal ?_
    first
    | exact HQ.out _ _ _ _ _ _ _ _ _ _ _ _ _ _ _ (.inl rfl)
    | exact HQ.out _ _ _ _ _ _ _ _ _ _ _ _ _ _ _ (.inr rfl)

set_option maxRecDepth 100000 in
set_option maxHeartbeats 4000000 in
theorem unread_calls {w : World} {B F S : Nat} {s : ByteArray} {i r u : Nat} {b : UInt8} (H : Hid (BioAt w B F S s (i + 1) r u (b.toNat : Int))) (hb : ∀ h : i < s.size, s[i] = b) (hr : 0 < r) :
    Calls Tryd.prog 35 #[ptr B] w fun e w' => e = .returned .nilIface ∧ BioAt w' B F S s i (r - 1) u (-1) ∧ Ch (Tb B F S) w w' := by
  have b0 := H.out.b0
  have b2 := H.out.b2
  have b3 := H.out.b3
  have b5 := H.out.b5
  obtain ⟨v6, b6⟩ := H.out.b6
  have z2 := H.out.bz 2
  have z5 := H.out.bz 5
  have z6 := H.out.bz 6
  have hru := H.out.ru
  have hu4 := H.out.u4
  obtain ⟨fv, ff⟩ := Option.isSome_iff_exists.1 (H.out.f (r - 1) (by omega))
  have fz := H.out.fz (r - 1)
  have nBF := H.out.nBF
  have g1 : ¬ (b.toNat : Int) < 0 := by omega
  have g2 : ((r : Int) == 0) = false := by simp; omega
  have g3 : (0 : Int) < (r : Int) := by omega
  have g4 : decide ((b.toNat : Int) < 0) = false := decide_eq_false g1
  have hw1 : IntKind.i64.wrap ((r : Int) - 1) = ((r - 1 : Nat) : Int) := by rw [IntKind.wrap_i64]; omega
  have hw2 : IntKind.u8.wrap (b.toNat : Int) = (b.toNat : Int) := by rw [IntKind.wrap_u8]; have := b.toNat_lt; omega
  have g5 : ((r - 1 : Nat) : Int) < 4096 := by omega
  have g6 : (0 : Int) ≤ ((r - 1 : Nat) : Int) := by omega
  go_enter Tryd.func35, Tryd.ntmps35
  go_wp2_with fail
  refine un_reg (F := F) (k := r - 1) (b := b) ((World.cell?_setCell_other _ _ _ _ (addr_ne (by decide))).trans b0) (World.cell?_setCell_same _ _ _ b2) ((World.cell?_setCell_other _ _ _ _ (addr_ne (by decide))).trans b5) ((World.cell?_setCell_other _ _ _ _ (fun e => nBF (congrArg Addr.block e))).trans ff) (by rw [World.frozen?_setCell]; exact fz) (by omega) ?_
  intro w2 _ _ _ _ _ _ _ _ _ _ _ _ _ _ hw2'
  have hc2 : Ch (Tb B F S) w w2 := by
    rcases hw2' with rfl | rfl
    · exact (((Ch.refl _ _).setCell (p := ⟨B, 2, none⟩) (fun _ => .inl rfl) _).setCell (p := ⟨F, r - 1, none⟩) (fun _ => .inr (.inl rfl)) _)
    · exact (((Ch.refl _ _).setCell (p := ⟨B, 2, none⟩) (fun _ => .inl rfl) _).setCell (p := ⟨F, r - 1, none⟩) (fun _ => .inr (.inl rfl)) _).drew
  have h2 : Hid (BioAt w2 B F S s i (r - 1) u (b.toNat : Int)) := by
    rcases hw2' with rfl | rfl
    · exact Lib.hid (H.out.back hr hb)
    · exact Lib.hid (H.out.back hr hb).drew
  clear hw2'
  have c5 := h2.out.b5
  obtain ⟨v6', c6⟩ := h2.out.b6
  have y5 := h2.out.bz 5
  have y6 := h2.out.bz 6
  simp only [Exit.then]
  go_wp2_with fail
  go_ret
  exact ⟨rfl, (h2.out.setB5 (-1)).setB6 (-1), (hc2.setCell (p := ⟨B, 5, none⟩) (fun _ => .inl rfl) _).setCell (p := ⟨B, 6, none⟩) (fun _ => .inl rfl) _⟩
end Go.Proofs.YtbgjjbffpckimaaDoor
