/-
  spec.ptMatcher at \x01(.+)%1\x02: what it keeps in memory; spec.has, spec.ptWith.
-/
import Derived.Test.YtkbdngcbifonkaaFmtRdf
import Derived.Test.YtkbdngcbifonkaaFmtTwp
namespace Go.Proofs.YtkbdngcbifonkaaFmt
set_option linter.all false
open Go.RowKit

/-- The matcher's block M: the subject, the items, the steps that are left. -/
structure MatAt (w : World) (M I ic D0 D2 D5 : Nat) (s : ByteArray) (L : Int) : Prop where
  m0 : w.cell? ⟨M, 0, none⟩ = some (.string s)
  m1 : w.cell? ⟨M, 1, none⟩ = some (.slice (some ⟨I, 0, none⟩) 6 ic)
  m2 : w.cell? ⟨M, 2, none⟩ = some (.int .i64 L)
  f2 : w.frozen? ⟨M, 2, none⟩ = false
  it : ItemsAt w I D0 D2 D5
  nI : I ≠ M
  n0 : D0 ≠ M
  n2 : D2 ≠ M
  n5 : D5 ≠ M

theorem MatAt.lt {w : World} {M I ic D0 D2 D5 : Nat} {s : ByteArray} {L : Int} (h : MatAt w M I ic D0 D2 D5 s L) : M < w.heap.size := World.block_lt_of_cell? w _ h.m0

theorem MatAt.moved {w w' : World} {M I ic D0 D2 D5 : Nat} {s : ByteArray} {L : Int} (h : MatAt w M I ic D0 D2 D5 s L) (hc : Ch (fun _ => False) w w') : MatAt w' M I ic D0 D2 D5 s L :=
  ⟨hc.cell_some h.m0 id, hc.cell_some h.m1 id, hc.cell_some h.m2 id, (hc.frozen (p := ⟨M, 2, none⟩) h.lt id).trans h.f2, h.it.keep hc id id id id, h.nI, h.n0, h.n2, h.n5⟩

theorem MatAt.left {w : World} {M I ic D0 D2 D5 : Nat} {s : ByteArray} {L : Int} (h : MatAt w M I ic D0 D2 D5 s L) (L' : Int) : MatAt (w.setCell ⟨M, 2, none⟩ (.int .i64 L')) M I ic D0 D2 D5 s L' := by
  have ch : Ch (· = M) w (w.setCell ⟨M, 2, none⟩ (.int .i64 L')) := (Ch.refl (· = M) w).setCell (p := ⟨M, 2, none⟩) (fun _ => rfl) _
  exact ⟨by rw [World.cell?_setCell_other _ _ _ _ (addr_ne (by decide))]; exact h.m0, by rw [World.cell?_setCell_other _ _ _ _ (addr_ne (by decide))]; exact h.m1, World.cell?_setCell_same _ _ _ h.m2, by rw [World.frozen?_setCell]; exact h.f2, h.it.keep ch h.nI h.n0 h.n2 h.n5, h.nI, h.n0, h.n2, h.n5⟩

/-- What ptWith gives: the captures, one of them. -/
def WithPost (w : World) (a b : Int) (e : Ending) (w' : World) : Prop :=
  Ch (fun _ => False) w w' ∧ ∃ B c, e = .returned (.slice (some ⟨B, 0, none⟩) 1 c) ∧ w'.cell? ⟨B, 0, none⟩ = some (.int .i64 a) ∧ w'.cell? ⟨B, 1, none⟩ = some (.int .i64 b) ∧ w.heap.size ≤ B ∧ 1 ≤ c

theorem bits_and_127 (b : Nat) (hb : b < 128) : bits BinOp.and IntKind.u8 (b : Int) 127 = (b : Int) := by
  have h : ∀ x : Fin 128, bits BinOp.and IntKind.u8 ((x.val : Nat) : Int) 127 = ((x.val : Nat) : Int) := by decide
  exact h ⟨b, hb⟩

theorem Tryf.info92 : (Tryf.prog.info? 92).map (fun i => (i.zero, i.size, i.bytes)) = some (some (.agg #[.int .i64 0, .int .i64 0]), 2, 16) := by kernel_rfl

theorem with_grown {w W w9 : World} {base G0 H g' c' : Nat} {a b p q : Int} (hW : Ch (fun _ => False) w W) (hG0 : w.heap.size < G0) (hH : w.heap.size < H) (hbox : ∀ i v, (#[Value.int .i64 a, .int .i64 b])[i]? = some v → W.cell? ⟨w.heap.size, i, none⟩ = some v)
    (hown9 : w9.ownsRow base 92 2 (.slice (some ⟨g', 0, none⟩) (0 + 1) c') (0 + 1) ([] ++ [.int .i64 p, .int .i64 q]))
    (hgrow9 : W.grownBy w9 (Value.slice (some ⟨G0, 0, none⟩) 0 0).ownBlock) (hat9 : (Value.slice (some ⟨G0, 0, none⟩) 0 0).ownBlock = some g' ∨ g' = H) :
    Ch (fun _ => False) w w9 ∧ w.heap.size < g' ∧ w9.cell? ⟨g', 0, none⟩ = some (.int .i64 p) ∧ w9.cell? ⟨g', 1, none⟩ = some (.int .i64 q) ∧ w9.frozen? ⟨g', 0, none⟩ = false ∧ w9.frozen? ⟨g', 1, none⟩ = false ∧ w9.cell? ⟨w.heap.size, 0, none⟩ = some (.int .i64 a) ∧ w9.cell? ⟨w.heap.size, 1, none⟩ = some (.int .i64 b) ∧ 1 ≤ c' ∧ w.heap.size < w9.heap.size := by
  have hch9 : Ch (fun _ => False) w w9 := hW.grown hgrow9 (fun k hk hlt => by cases hk; exact absurd hlt (by show ¬ G0 < w.heap.size; omega))
  have hch8 : Ch (· = G0) W w9 := (Ch.refl _ _).grown hgrow9 (fun k hk _ => by cases hk; rfl)
  have b0 := hch8.cell_some (hbox 0 _ rfl) (show ¬ w.heap.size = G0 by omega)
  refine ⟨hch9, ?_, ?_, ?_, hown9.frozenAt 0, hown9.frozenAt 1, b0, hch8.cell_some (hbox 1 _ rfl) (show ¬ w.heap.size = G0 by omega), ?_, World.block_lt_of_cell? _ _ b0⟩
  · rcases hat9 with h | h
    · cases h; exact hG0
    · omega
  · have := hown9.cellAt 0 (by simp); simpa using this
  · have := hown9.cellAt 1 (by simp); simpa using this
  · rcases hown9.2 with ⟨h2, _⟩ | ⟨g9, cap9, cur, hv, _, _, hn9, _⟩
    · cases h2
    · cases hv
      simpa using hn9

theorem box_at {w W : World} {a b : Int} (hW : Ch (fun _ => False) (w.alloc (.cells #[.int .i64 a, .int .i64 b] 92)) W) : ∀ i v, (#[Value.int .i64 a, .int .i64 b])[i]? = some v → W.cell? ⟨w.heap.size, i, none⟩ = some v :=
  fun i v h => hW.cell_some ((World.cell?_alloc_at _ _ _ _ rfl).trans h) id

theorem two_ints (p q : Int) : ∀ y ∈ ([Value.int .i64 p, .int .i64 q] : List Value), y.oneCell' = true := by intro y hy; simp at hy; rcases hy with rfl | rfl <;> rfl

theorem news_two {W : World} {X : Nat} {p q : Int} (h0 : W.cell? ⟨X, 0, none⟩ = some (.int .i64 p)) (h1 : W.cell? ⟨X, 1, none⟩ = some (.int .i64 q)) : ∀ j u, ([Value.int .i64 p, .int .i64 q] : List Value)[j]? = some u → W.cell? ((⟨X, 0, none⟩ : Addr).add j) = some u := by
  intro j u hu
  have e : (⟨X, 0, none⟩ : Addr).add j = ⟨X, j, none⟩ := by simp [Addr.add]; omega
  rw [e]
  match j, hu with
  | 0, hu => cases hu; exact h0
  | 1, hu => cases hu; exact h1

set_option maxRecDepth 100000 in
set_option maxHeartbeats 4000000 in
theorem with_one {w : World} {X xc : Nat} {a b p q : Int} (h0 : w.cell? ⟨X, 0, none⟩ = some (.int .i64 p)) (h1 : w.cell? ⟨X, 1, none⟩ = some (.int .i64 q)) (hc : 1 ≤ xc) :
    Calls Tryf.prog 46 #[.slice (some ⟨X, 0, none⟩) 1 xc, .int .i64 1, .agg #[.int .i64 a, .int .i64 b]] w (WithPost w a b) := by
  obtain ⟨i0, hi0, hz0, hz1, hz2⟩ := info_parts Tryf.info92
  have I0 := Lib.hid hi0
  have Z0 := Lib.hid hz0
  have Z1 := Lib.hid hz1
  have Z2 := Lib.hid hz2
  clear hi0 hz0 hz1 hz2
  have hX := World.block_lt_of_cell? w _ h0
  have HW : Hid (Ch (fun _ => False) w ((w.alloc (.cells #[.int .i64 a, .int .i64 b] 92)).alloc (.cells #[] 92))) := Lib.hid (((Ch.refl _ _).alloc _).alloc _)
  have HBX : Hid (Ch (fun _ => False) (w.alloc (.cells #[.int .i64 a, .int .i64 b] 92)) ((w.alloc (.cells #[.int .i64 a, .int .i64 b] 92)).alloc (.cells #[] 92))) := Lib.hid ((Ch.refl _ _).alloc _)
  have HN := Lib.hid (news_two (HW.out.cell_some h0 id) (HW.out.cell_some h1 id))
  have hal : (w.alloc (.cells #[.int .i64 a, .int .i64 b] 92)).heap.size = w.heap.size + 1 := by simp
  have HOWN := Lib.hid (World.ownsRow_made (base := w.heap.size + 1) (e := 92) (size := 2) (w.alloc (.cells #[.int .i64 a, .int .i64 b] 92)) #[] 0 (by simp) (Nat.zero_le _) rfl)
  rw [hal] at HOWN
  clear h0 h1 hal
  go_enter Tryf.func46, Tryf.ntmps46
  go_wp2_with (at_builtin; refine wpList_append_lies _ rfl (.tmp 8) (.tmp 9) 64 rfl (w.heap.size + 1) 92 i0 _ 2 16 Tryf.underlying64 I0.out Z0.out Z1.out Z2.out rfl (by omega) _ 0 [] rfl HOWN.out ⟨X, 0, none⟩ 1 xc [.int .i64 p, .int .i64 q] rfl rfl HN.out (two_ints _ _) (by omega) (by unfold maxLen; omega) (by omega) (by simp) (w.heap.size + 2) (by simp) ?_; intro g' c' w9 hown9 hgrow9 hat9 hlt9; obtain ⟨hch9, hg9, d0, d1, f0, f1, b0, b1, hc9, hl9⟩ := with_grown HW.out (Nat.lt_succ_self _) (by omega) (box_at HBX.out) hown9 hgrow9 hat9; have HCH9 := Lib.hid hch9; clear hown9 hgrow9 hat9 hch9)
  refine wp_loop_rounds 1 ?_
  rw [rounds_succ]
  go_wp2_with fail
  go_ret
  refine ⟨(HCH9.out.setCell (fun h => absurd h (show ¬ g' < w.heap.size by omega)) _).setCell (fun h => absurd h (show ¬ g' < w.heap.size by omega)) _, g', c', rfl, ?_, ?_, by omega, hc9⟩
  · rw [World.cell?_setCell_other _ _ _ _ (addr_ne (by decide))]
    exact World.cell?_setCell_same _ _ _ d0
  · exact World.cell?_setCell_same _ _ _ ((World.cell?_setCell_other _ _ _ _ (addr_ne (by decide))).trans d1)

set_option maxRecDepth 100000 in
set_option maxHeartbeats 4000000 in
theorem with_none {w : World} {X xc : Nat} {a b : Int} (hX : X < w.heap.size) :
    Calls Tryf.prog 46 #[.slice (some ⟨X, 0, none⟩) 0 xc, .int .i64 1, .agg #[.int .i64 a, .int .i64 b]] w (WithPost w a b) := by
  obtain ⟨i0, hi0, hz0, hz1, hz2⟩ := info_parts Tryf.info92
  have I0 := Lib.hid hi0
  have Z0 := Lib.hid hz0
  have Z1 := Lib.hid hz1
  have Z2 := Lib.hid hz2
  clear hi0 hz0 hz1 hz2
  have HW : Hid (Ch (fun _ => False) w (((w.alloc (.cells #[.int .i64 a, .int .i64 b] 92)).alloc (.cells #[] 92)).alloc (.cells #[.int .i64 0, .int .i64 0] 92))) := Lib.hid ((((Ch.refl _ _).alloc _).alloc _).alloc _)
  have HBX : Hid (Ch (fun _ => False) (w.alloc (.cells #[.int .i64 a, .int .i64 b] 92)) (((w.alloc (.cells #[.int .i64 a, .int .i64 b] 92)).alloc (.cells #[] 92)).alloc (.cells #[.int .i64 0, .int .i64 0] 92))) := Lib.hid (((Ch.refl _ _).alloc _).alloc _)
  have n0 : (((w.alloc (.cells #[.int .i64 a, .int .i64 b] 92)).alloc (.cells #[] 92)).alloc (.cells #[.int .i64 0, .int .i64 0] 92)).cell? ⟨w.heap.size + 2, 0, none⟩ = some (.int .i64 0) := World.cell?_alloc_at _ _ _ _ (by simp)
  have n1 : (((w.alloc (.cells #[.int .i64 a, .int .i64 b] 92)).alloc (.cells #[] 92)).alloc (.cells #[.int .i64 0, .int .i64 0] 92)).cell? ⟨w.heap.size + 2, 1, none⟩ = some (.int .i64 0) := World.cell?_alloc_at _ _ _ _ (by simp)
  have HN := Lib.hid (news_two n0 n1)
  have hal : (w.alloc (.cells #[.int .i64 a, .int .i64 b] 92)).heap.size = w.heap.size + 1 := by simp
  have HOWN := Lib.hid (Ch.owns (T := fun _ => False) (((Ch.refl _ _).alloc (.cells #[.int .i64 0, .int .i64 0] 92))) (World.ownsRow_made (base := w.heap.size + 1) (e := 92) (size := 2) (w.alloc (.cells #[.int .i64 a, .int .i64 b] 92)) #[] 0 (by simp) (Nat.zero_le _) rfl) (fun _ _ => id))
  rw [hal] at HOWN
  clear n0 n1 hal
  go_enter Tryf.func46, Tryf.ntmps46
  go_wp2_with fail
  refine wp_loop_rounds 2 ?_
  rw [rounds_succ]
  go_wp2_with (at_builtin; refine wpList_append_lies _ rfl (.tmp 15) (.tmp 17) 64 rfl (w.heap.size + 1) 92 i0 _ 2 16 Tryf.underlying64 I0.out Z0.out Z1.out Z2.out rfl (by omega) _ 0 [] rfl HOWN.out ⟨w.heap.size + 2, 0, none⟩ 1 1 [.int .i64 0, .int .i64 0] rfl rfl HN.out (two_ints _ _) (by omega) (by unfold maxLen; omega) (by omega) (by simp) (w.heap.size + 3) (by simp) ?_; intro g' c' w9 hown9 hgrow9 hat9 hlt9; obtain ⟨hch9, hg9, d0, d1, f0, f1, b0, b1, hc9, hl9⟩ := with_grown HW.out (Nat.lt_succ_self _) (by omega) (box_at HBX.out) hown9 hgrow9 hat9; have HCH9 := Lib.hid hch9; clear hown9 hgrow9 hat9 hch9)
  rw [rounds_succ]
  go_wp2_with fail
  go_ret
  refine ⟨(HCH9.out.setCell (fun h => absurd h (show ¬ g' < w.heap.size by omega)) _).setCell (fun h => absurd h (show ¬ g' < w.heap.size by omega)) _, g', c', rfl, ?_, ?_, by omega, hc9⟩
  · rw [World.cell?_setCell_other _ _ _ _ (addr_ne (by decide))]
    exact World.cell?_setCell_same _ _ _ d0
  · exact World.cell?_setCell_same _ _ _ ((World.cell?_setCell_other _ _ _ _ (addr_ne (by decide))).trans d1)

set_option maxRecDepth 100000 in
set_option maxHeartbeats 4000000 in
theorem has_no {w : World} {M I ic D0 D2 D5 : Nat} {s : ByteArray} {L : Int} {at' : Nat} {a0 a2 a3 : Int} {sB : Option Addr} {sn sc : Nat} (HM : Hid (MatAt w M I ic D0 D2 D5 s L)) (ha : s.size ≤ at') (hs : at' ≤ 100000) :
    Calls Tryf.prog 64 #[ptr M, .agg #[.int .i64 a0, .slice sB sn sc, .int .u8 a2, .int .i64 a3, .int .u8 0, .int .u8 0], .int .i64 (at' : Int)] w fun e w' => e = .returned (.bool false) ∧ Ch (fun _ => False) w w' := by
  have q0 := HM.out.m0
  have ql := HM.out.lt
  have g1 : decide ((at' : Int) < s.size) = false := decide_eq_false (by omega)
  have g2 : decide (at' < s.size) = false := decide_eq_false (by omega)
  go_enter Tryf.func64, Tryf.ntmps64
  go_wp2_with fail
  go_quiet (fail)
  simp only [Exit.then]
  go_wp2_with fail
  go_ret
  exact ⟨rfl, ((Ch.refl _ _).alloc _).drewN _⟩

set_option maxRecDepth 100000 in
set_option maxHeartbeats 4000000 in
theorem has_in {w : World} {M I ic D0 D2 D5 D : Nat} {s : ByteArray} {L : Int} {at' b : Nat} {a0 a2 a3 : Int} {f : Nat → Bool} (HM : Hid (MatAt w M I ic D0 D2 D5 s L)) (hs : s.size ≤ 100000) (ha : at' < s.size) (hb : s[at'].toNat = b) (hb2 : b < 128) (HS : Hid (SetIs w D f)) :
    Calls Tryf.prog 64 #[ptr M, .agg #[.int .i64 a0, .slice (some ⟨D, 0, none⟩) 128 128, .int .u8 a2, .int .i64 a3, .int .u8 0, .int .u8 0], .int .i64 (at' : Int)] w fun e w' => e = .returned (.bool (f b)) ∧ Ch (fun _ => False) w w' := by
  have q0 := HM.out.m0
  have ql := HM.out.lt
  have qd := HS.out.2 b hb2
  have qdl := HS.out.1
  have g1 : decide ((at' : Int) < s.size) = true := decide_eq_true (by omega)
  have g2 : decide (at' < s.size) = true := decide_eq_true ha
  have g3 : (at' : Int) < s.size := by omega
  have g4 : (0 : Int) ≤ (at' : Int) := by omega
  have hb3 : (s[at'].toNat : Int) = (b : Int) := by omega
  have hbits : bits BinOp.and IntKind.u8 (b : Int) 127 = (b : Int) := bits_and_127 b hb2
  have b0 : (0 : Int) ≤ (b : Int) := by omega
  have b1 : (b : Int) < 128 := by omega
  go_enter Tryf.func64, Tryf.ntmps64
  go_wp2_with fail
  go_quiet (fail)
  simp only [Exit.then]
  go_wp2_with fail
  go_ret
  exact ⟨rfl, ((Ch.refl _ _).alloc _).drewN _⟩
end Go.Proofs.YtkbdngcbifonkaaFmt
