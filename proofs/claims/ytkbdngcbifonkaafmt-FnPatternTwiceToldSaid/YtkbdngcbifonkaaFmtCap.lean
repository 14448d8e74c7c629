/-
  THE CAPTURES OF A MATCH: how they lie in memory, and the walks of the methods that set, restore and read them.
-/
import Derived.Test.YtkbdngcbifonkaaFmtProg
import Derived.Test.YtkbdngcbifonkaaFmtMem
import Derived.Test.YtkbdngcbifonkaaFmtPm
import Derived.Deep.AppendLies
import Derived.KernelRfl
import Derived.Deep.LoopGhost
import Derived.Shelf.Spec.TrailingZeros
namespace Go.Proofs.YtkbdngcbifonkaaFmt
set_option linter.all false
open Go.RowKit

abbrev u32s (caps : List Nat) : List Value := caps.map fun (n : Nat) => Value.int .u32 (n : Int)

/-- The captures 'caps' of the match data at block M; their row is one of the blocks from B on. -/
structure CapsAt (w : World) (B M : Nat) (caps : List Nat) (g c : Nat) : Prop where
  c0 : w.cell? ⟨M, 0, none⟩ = some (.slice (some ⟨g, 0, none⟩) caps.length c)
  f0 : w.frozen? ⟨M, 0, none⟩ = false
  own : w.ownsRow B 106 1 (.slice (some ⟨g, 0, none⟩) caps.length c) caps.length (u32s caps)
  ne : ¬ g = M
  base : B ≤ M
  lt : M < w.heap.size

theorem CapsAt.g_lt {w : World} {B M g c : Nat} {caps : List Nat} (h : CapsAt w B M caps g c) : B ≤ g ∧ g < w.heap.size := h.own.lt g rfl

theorem CapsAt.cellAt {w : World} {B M g c : Nat} {caps : List Nat} (h : CapsAt w B M caps g c) (s : Nat) (hs : s < caps.length) : w.cell? ⟨g, s, none⟩ = some (.int .u32 caps[s]) := by
  rw [h.own.cellAt s (by omega)]
  simp [u32s, hs]

theorem CapsAt.drew {w : World} {B M g c : Nat} {caps : List Nat} (h : CapsAt w B M caps g c) : CapsAt w.drew B M caps g c := ⟨h.c0, h.f0, h.own.drew, h.ne, h.base, h.lt⟩

theorem CapsAt.keep {w w' : World} {B M g c : Nat} {caps : List Nat} {T : Nat → Prop} (h : CapsAt w B M caps g c) (hc : Ch T w w') (hT : ∀ k, B ≤ k → k < w.heap.size → ¬ T k) : CapsAt w' B M caps g c :=
  ⟨hc.cell_some h.c0 (hT M h.base h.lt), (hc.frozen (p := ⟨M, 0, none⟩) h.lt (hT M h.base h.lt)).trans h.f0, hc.owns h.own (fun k hk => by cases hk; exact hT g h.g_lt.1 h.g_lt.2), h.ne, h.base, Nat.lt_of_lt_of_le h.lt hc.size⟩

theorem CapsAt.store {w : World} {B M g c : Nat} {caps : List Nat} (h : CapsAt w B M caps g c) (s n : Nat) : CapsAt (w.setCell ⟨g, s, none⟩ (.int .u32 n)) B M (caps.set s n) g c := by
  refine ⟨?_, ?_, ?_, h.ne, h.base, by simp [h.lt]⟩
  · rw [World.cell?_setCell_other _ _ _ _ (fun e => h.ne (by injection e)), List.length_set]
    exact h.c0
  · rw [World.frozen?_setCell]
    exact h.f0
  · have := (h.own.stored s (.int .u32 n)).1
    rw [List.length_set]
    simpa [u32s, List.map_set] using this

/-- The blocks that a step of the captures may turn. -/
abbrev Tc (M g : Nat) (b : Nat) : Prop := b = M ∨ b = g

theorem Ch.caps {a b c : World} {M g g' : Nat} (h : Ch (Tc M g) a b) (hg : g' = g ∨ a.heap.size ≤ g') (k : Ch (Tc M g') b c) : Ch (Tc M g) a c :=
  h.trans' k (fun i hi e => by
    rcases e with e | e
    · exact .inl e
    · rcases hg with hg | hg
      · exact .inr (e.trans hg)
      · omega)

theorem CapsAt.push {w w1 w2 : World} {B M g c g' c' n : Nat} {caps : List Nat} (h : CapsAt w B M caps g c) (hw1 : Ch (fun _ => False) w w1) (hg : w1.grownBy w2 (some g)) (hat : some g = some g' ∨ w1.heap.size ≤ g')
    (ho : w2.ownsRow B 106 1 (.slice (some ⟨g', 0, none⟩) (caps.length + 1) c') (caps.length + 1) (u32s caps ++ [.int .u32 n])) :
    CapsAt (w2.setCell ⟨M, 0, none⟩ (.slice (some ⟨g', 0, none⟩) (caps.length + 1) c')) B M (caps ++ [n]) g' c' ∧ w2.cell? ⟨M, 0, none⟩ = some (.slice (some ⟨g, 0, none⟩) caps.length c) ∧ w2.frozen? ⟨M, 0, none⟩ = false ∧
      Ch (Tc M g) w (w2.setCell ⟨M, 0, none⟩ (.slice (some ⟨g', 0, none⟩) (caps.length + 1) c')) ∧ (g' = g ∨ w.heap.size ≤ g') := by
  have hgM : ¬ M = g := fun e => h.ne e.symm
  have s1 := hw1.size
  have s2 := hg.size
  have hgl := h.g_lt
  have hne : ¬ g' = M := by
    rcases hat with e | e
    · cases e; exact h.ne
    · have := h.lt; omega
  have ch2 : Ch (· = g) w w2 := (hw1.mono (T' := (· = g)) (fun _ _ h => h.elim)).grown hg (fun k hk _ => by cases hk; rfl)
  have d : w2.cell? ⟨M, 0, none⟩ = some (.slice (some ⟨g, 0, none⟩) caps.length c) := ch2.cell_some h.c0 hgM
  have f : w2.frozen? ⟨M, 0, none⟩ = false := (ch2.frozen (p := ⟨M, 0, none⟩) h.lt hgM).trans h.f0
  refine ⟨⟨?_, by rw [World.frozen?_setCell]; exact f, ?_, hne, h.base, by have := h.lt; simp; omega⟩, d, f, ?_, hat.imp (fun e => by cases e; rfl) (fun e => by omega)⟩
  · rw [List.length_append]; exact World.cell?_setCell_same _ _ _ d
  · rw [List.length_append]
    have := Ch.owns (T := (· = M)) ((Ch.refl (· = M) w2).setCell (p := ⟨M, 0, none⟩) (fun _ => rfl) (.slice (some ⟨g', 0, none⟩) (caps.length + 1) c')) ho (fun k hk => by cases hk; exact hne)
    simpa [u32s] using this
  · exact (ch2.mono (T' := Tc M g) (fun i _ e => .inr e)).setCell (p := ⟨M, 0, none⟩) (fun _ => .inl rfl) _

theorem restore_calls {w : World} {B M g c s n : Nat} {caps : List Nat} (h : CapsAt w B M caps g c) (hs : s < caps.length) (hl : caps.length ≤ 1000) :
    Calls Tryf.prog 60 #[.pointer (some ⟨M, 0, none⟩), .int .i64 s, .int .u32 n] w fun e w' => e = .returned (.tuple #[]) ∧ CapsAt w' B M (caps.set s n) g c ∧ Ch (· = g) w w' := by
  have c0 := h.c0
  have hc := h.cellAt s hs
  have hf := h.own.frozenAt s
  have hs0 : (0 : Int) ≤ s := Int.natCast_nonneg _
  have hs1 : (s : Int) < caps.length := by omega
  have H := Lib.hid h
  clear h
  go_enter Tryf.func60, Tryf.ntmps60
  go_wp2
  go_end0
  exact ⟨rfl, H.out.store s n, (Ch.refl (· = g) w).setCell (p := ⟨g, s, none⟩) (fun _ => rfl) _⟩

theorem Tryf.info106 : (Tryf.prog.info? 106).map (fun i => (i.zero, i.size, i.bytes)) = some (some (.int .u32 0), 1, 4) := by kernel_rfl

set_option maxRecDepth 100000 in
set_option maxHeartbeats 1000000 in
theorem set_calls {w : World} {B M g c s p : Nat} {caps : List Nat} (h : CapsAt w B M caps g c) (hs : s ≤ 100) (hl : caps.length ≤ 1000) (hp : p ≤ 100000) :
    Calls Tryf.prog 59 #[.pointer (some ⟨M, 0, none⟩), .int .i64 s, .int .i64 p] w fun e w' => ∃ g' c', e = .returned (.int .u32 ((Pm.pad caps s).getD s 0 : Nat)) ∧ CapsAt w' B M ((Pm.pad caps s).set s (2 * p)) g' c' ∧ Ch (Tc M g) w w' ∧ (g' = g ∨ w.heap.size ≤ g') := by
  obtain ⟨i0, hi0, hz0, hz1, hz2⟩ := info_parts Tryf.info106
  have I0 := Lib.hid hi0
  have Z0 := Lib.hid hz0
  have Z1 := Lib.hid hz1
  have Z2 := Lib.hid hz2
  clear hi0 hz0 hz1 hz2
  have H := Lib.hid h
  clear h
  go_enter Tryf.func59, Tryf.ntmps59
  go_wp2_with fail
  go_loopg [8] (s + 1 - caps.length) (fun n v wr => ∃ g2 c2, CapsAt wr B M (caps ++ List.replicate (s + 1 - caps.length - n) 0) g2 c2 ∧ Ch (Tc M g) w wr ∧ (g2 = g ∨ w.heap.size ≤ g2) ∧ n ≤ s + 1 - caps.length)
  case atStart => exact ⟨g, c, by simpa using H.out, .refl _ _, .inl rfl, by omega⟩
  case round =>
    clear H
    obtain ⟨g2, c2, hcaps, hch, hgg, hn⟩ := hrel
    have HGG := Lib.hid hgg
    clear hgg
    generalize hcs : caps ++ List.replicate (s + 1 - caps.length - gk) 0 = cs at hcaps
    have hlen : cs.length = caps.length + (s + 1 - caps.length - gk) := by rw [← hcs]; simp
    have c0 := hcaps.c0
    have z0 := hcaps.lt
    have f0 := hcaps.f0
    have HC := Lib.hid hcaps
    have HCS := Lib.hid hcs
    have HCH := Lib.hid hch
    clear hcs hch hcaps
    by_cases hlt : cs.length ≤ s
    · have hlti : (cs.length : Int) ≤ s := by omega
      have hl2 : cs.length ≤ 2000 := by omega
      have HL := Lib.hid hlen
      clear hlen
      go_wp2_with (at_builtin; refine wpList_append_lies _ rfl (.tmp 19) (.tmp 20) 107 rfl B 106 i0 _ 1 4 Tryf.underlying107 I0.out Z0.out Z1.out Z2.out rfl (by omega) _ _ (u32s cs) rfl (HC.out.own.alloc _) ⟨wr.heap.size, 0, none⟩ 1 1 [.int .u32 0] rfl rfl (World.news_of_block (heap_alloc_new wr _)) (by intro y hy; simp at hy; subst hy; rfl) (by omega) (by unfold maxLen; omega) (by omega) (by have := HC.out.base; simp; omega) (wr.heap.size + 1) (by simp) ?_; intro g' c' w9 hown9 hgrow9 hat9 hlt9
                   obtain ⟨hp1, d9, f9, hch9, hg9⟩ := HC.out.push (n := 0) ((Ch.refl _ _).alloc _) hgrow9 (hat9.imp id (fun e => by simp; omega)) hown9
                   have HP1 := Lib.hid hp1
                   have HCH9 := Lib.hid hch9
                   have HG9 := Lib.hid hg9
                   clear hp1 hg9 hch9 hown9 hgrow9 hat9 hlt9)
      have HL' := HL.out
      have hgk : 0 < gk := by omega
      go_roundg (gk - 1)
      case measure => omega
      case rel =>
        refine ⟨g', c', ?_, HCH.out.caps HGG.out HCH9.out, ?_, by omega⟩
        rotate_left
        · rcases HG9.out with e | e
          · rw [e]; exact HGG.out
          · exact .inr (Nat.le_trans HCH.out.size e)
        have e : caps ++ List.replicate (s + 1 - caps.length - (gk - 1)) 0 = cs ++ [0] := by
          rw [← HCS.out, List.append_assoc, ← List.replicate_succ', show s + 1 - caps.length - (gk - 1) = s + 1 - caps.length - gk + 1 from by omega]
        rw [e]
        exact HP1.out
    · have hcp : cs = Pm.pad caps s := by
        have : gk = 0 := by omega
        rw [← HCS.out, this]
        rfl
      have hcel := HC.out.cellAt s (by omega)
      have hfz := HC.out.own.frozenAt s
      have hs0 : (0 : Int) ≤ s := Int.natCast_nonneg _
      have hs1 : (s : Int) < cs.length := by omega
      have hp0 : (0 : Int) ≤ p := Int.natCast_nonneg _
      have hgt := HC.out.ne
      have HCP := Lib.hid hcp
      have HL := Lib.hid hlen
      clear hcp hlen
      go_wp2_with fail
      go_ret
      refine ⟨g2, c2, ?_, ?_, HCH.out.caps HGG.out ((Ch.refl (Tc M g2) wr).setCell (p := ⟨g2, s, none⟩) (fun _ => .inr rfl) _), HGG.out⟩
      · rw [← HCP.out, List.getD_eq_getElem?_getD, List.getElem?_eq_getElem (by omega)]; rfl
      · have := HC.out.store s (2 * p)
        rw [← HCP.out]
        rw [show ((p : Int) * 2) = ((2 * p : Nat) : Int) from by omega]
        exact this
theorem length_calls {w : World} {B M g c : Nat} {caps : List Nat} (h : CapsAt w B M caps g c) :
    Calls Tryf.prog 29 #[.pointer (some ⟨M, 0, none⟩)] w fun e w' => e = .returned (.int .i64 caps.length) ∧ w = w' := by
  have c0 := h.c0
  clear h
  go_enter Tryf.func29, Tryf.ntmps29
  go_wp2
  go_ret
  exact ⟨rfl, rfl⟩

theorem capture_calls {w : World} {B M g c s : Nat} {caps : List Nat} (h : CapsAt w B M caps g c) (hs : s < caps.length) (hl : caps[s] ≤ 1000000) :
    Calls Tryf.prog 28 #[.pointer (some ⟨M, 0, none⟩), .int .i64 s] w fun e w' => e = .returned (.int .i64 ((caps[s] / 2 : Nat) : Int)) ∧ w = w' := by
  have c0 := h.c0
  have hc := h.cellAt s hs
  have hs0 : (0 : Int) ≤ s := Int.natCast_nonneg _
  have hs1 : (s : Int) < caps.length := by omega
  generalize caps[s] = n at hc hl ⊢
  have hn0 : (0 : Int) ≤ n := Int.natCast_nonneg _
  clear h
  go_enter Tryf.func28, Tryf.ntmps28
  go_wp2
  go_ret
  exact ⟨by simp, rfl⟩

theorem ispos_calls {w : World} {B M g c s : Nat} {caps : List Nat} (h : CapsAt w B M caps g c) (hs : s < caps.length) (hl : caps[s] % 2 = 0) (hl2 : caps[s] ≤ 1000000) :
    Calls Tryf.prog 30 #[.pointer (some ⟨M, 0, none⟩), .int .i64 s] w fun e w' => e = .returned (.bool false) ∧ w = w' := by
  have c0 := h.c0
  have hc := h.cellAt s hs
  have hs0 : (0 : Int) ≤ s := Int.natCast_nonneg _
  have hs1 : (s : Int) < caps.length := by omega
  generalize caps[s] = n at hc hl hl2 ⊢
  have hn0 : (0 : Int) ≤ n := Int.natCast_nonneg _
  have hb : bits BinOp.and IntKind.u32 (n : Int) 1 = 0 := by
    have h := bits_and_u32_nat n 1 (by omega) (by omega)
    rw [Nat.and_one_is_mod, hl] at h
    exact h
  clear h
  go_enter Tryf.func30, Tryf.ntmps30
  go_wp2
  go_ret
  exact ⟨by simp, rfl⟩

theorem newState_calls (w : World) :
    Calls Tryf.prog 58 #[] w fun e w' => e = .returned (.pointer (some ⟨w.heap.size + 1, 0, none⟩)) ∧ CapsAt w' w.heap.size (w.heap.size + 1) [] w.heap.size 0 ∧ Ch (fun _ => False) w w' ∧ w'.heap.size = w.heap.size + 2 := by
  go_enter Tryf.func58, Tryf.ntmps58
  go_wp2
  go_ret
  refine ⟨rfl, ⟨World.cell?_alloc_at _ _ _ _ (by simp), World.frozen?_alloc_at _ _ _ _ (by simp), (World.ownsRow_made w #[] 0 (Nat.le_refl _) (Nat.zero_le _) rfl).alloc _, by omega, by omega, by simp⟩, ((Ch.refl _ _).alloc _).alloc _, by simp⟩

end Go.Proofs.YtkbdngcbifonkaaFmt
