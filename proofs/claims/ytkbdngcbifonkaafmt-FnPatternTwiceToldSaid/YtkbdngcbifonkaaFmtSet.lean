/-
  A SET IS READ: the walk of parseClassSet.
-/
import Derived.Test.YtkbdngcbifonkaaFmtCls
namespace Go.Proofs.YtkbdngcbifonkaaFmt
set_option linter.all false
open Go.RowKit

/-- At the end of the loop. -/
def SetDone (w0 : World) (S A cap j C : Nat) (l : List UInt8) (neg : Bool) (k : Nat) (es : List Pm.Elem) (a' : Act) (w' : World) : Prop :=
  (∃ g c us, SetAt w0 S A cap j C l neg k es w' g c us) ∧
  ∃ u1 u5 u6 u7 u8 u9 u10 u11 u12 u13 u14 u15 u16 u17 u18 u19 u20 u21 u22 u23 u24 u25 u26 u27 u28 u29 u30 u31 u32 u33 u34 u35 u36 u37 u38 u39 u40 u41 u42 u43 u44 u45 u46 u47 u48 u49 u50 u51 u52 u53 u54 u55 u56 u57 u58 u59 u60 u61 u62 u63 u64 u65 u66 u67 u68 u69 u70 u71 u72 u73 u74 u75 u76 u77 u78 u79 u80 u81 u82 u83 u84 u85 u86 u87 u88 u89 u90 u91 u92 u93 u94 u95 u96 u97 u98 u99 u100 u101 u102 u103 u104 u105 u106 u107 u108 u109 u110 u111 u112 u113 u114 u115 u116 u117 u118 u119 u120 u121 u122 u123 u124 u125 u126 : Value, a' = { tmps := #[ptr S, u1, .nilIface, ptr C, .bool false, u5, u6, u7, u8, u9, u10, u11, u12, u13, u14, u15, u16, u17, u18, u19, u20, u21, u22, u23, u24, u25, u26, u27, u28, u29, u30, u31, u32, u33, u34, u35, u36, u37, u38, u39, u40, u41, u42, u43, u44, u45, u46, u47, u48, u49, u50, u51, u52, u53, u54, u55, u56, u57, u58, u59, u60, u61, u62, u63, u64, u65, u66, u67, u68, u69, u70, u71, u72, u73, u74, u75, u76, u77, u78, u79, u80, u81, u82, u83, u84, u85, u86, u87, u88, u89, u90, u91, u92, u93, u94, u95, u96, u97, u98, u99, u100, u101, u102, u103, u104, u105, u106, u107, u108, u109, u110, u111, u112, u113, u114, u115, u116, u117, u118, u119, u120, u121, u122, u123, u124, u125, u126], defers := [] }

theorem SetAt.cls {w0 w : World} {S A cap j C k g c : Nat} {l : List UInt8} {neg : Bool} {es : List Pm.Elem} {us : List Value} (h : SetAt w0 S A cap j C l neg k es w g c us) : RepCls w (fun b => w0.heap.size ≤ b ∧ b < w.heap.size) (.iface 172 (ptr C)) (.set neg es) := by
  have hg := own_g h.own
  refine ⟨C, g, c, ⟨by have := h.base; omega, h.lt⟩, hg, rfl, h.c0, h.c1, fun i hi => ?_⟩
  refine ⟨us.getD i undef, ?_, (h.rep i hi).keep (fun b hb => ⟨rfl, hb.1, hb.2.1⟩)⟩
  have hl : us.length = es.length := by have := h.own.1; omega
  have hc := h.own.cells (g := g) rfl i (us.getD i undef) (by rw [List.getD_eq_getElem?_getD, List.getElem?_eq_getElem (by omega)]; rfl)
  have hadd : (⟨g, 0, none⟩ : Addr).add i = ⟨g, i, none⟩ := by unfold Addr.add; split <;> simp_all
  rw [hadd] at hc
  exact hc

theorem SetAt.start {w0 : World} {S A cap j k : Nat} {l : List UInt8} (h : Scan w0 S A cap l k j) (hA : A < w0.heap.size) :
    SetAt w0 S A cap j (w0.heap.size + 1) l false k [] ((w0.alloc (.cells #[] 129)).alloc (.cells #[.bool false, .slice (some ⟨w0.heap.size, 0, none⟩) 0 0] 175)) w0.heap.size 0 [] := by
  have hS := World.block_lt_of_cell? w0 _ h.c0
  have ch : Ch (· = S) w0 ((w0.alloc (.cells #[] 129)).alloc (.cells #[.bool false, .slice (some ⟨w0.heap.size, 0, none⟩) 0 0] 175)) := ((Ch.refl _ _).alloc _).alloc _
  have hc : ∀ i, ((w0.alloc (.cells #[] 129)).alloc (.cells #[.bool false, .slice (some ⟨w0.heap.size, 0, none⟩) 0 0] 175)).cell? ⟨w0.heap.size + 1, i, none⟩ = #[Value.bool false, .slice (some ⟨w0.heap.size, 0, none⟩) 0 0][i]? := fun i => World.cell?_alloc_at _ _ _ _ (by simp)
  have hf : ∀ i, ((w0.alloc (.cells #[] 129)).alloc (.cells #[.bool false, .slice (some ⟨w0.heap.size, 0, none⟩) 0 0] 175)).frozen? ⟨w0.heap.size + 1, i, none⟩ = false := fun i => World.frozen?_alloc_at _ _ _ _ (by simp)
  exact {
    scan := h.kept (T := fun _ => False) (((Ch.refl _ _).alloc _).alloc _) id id
    ch := ch
    old := ⟨hS, hA⟩
    base := by omega
    lt := by simp
    c0 := hc 0
    c1 := hc 1
    f0 := hf 0
    f1 := hf 1
    ne := by omega
    len := by simp
    own := (World.ownsRow_made w0 #[] 0 (Nat.le_refl _) (Nat.zero_le _) rfl).alloc _
    rep := fun i hi => absurd hi (by simp) }

theorem SetAt.negate {w0 w : World} {S A cap j C k g c : Nat} {l : List UInt8} {es : List Pm.Elem} {us : List Value} (h : SetAt w0 S A cap j C l false k es w g c us) : SetAt w0 S A cap j C l true k es (w.setCell ⟨C, 0, none⟩ (.bool true)) g c us := by
  have hCS : ¬ C = S := by have := h.base; have := h.old.1; omega
  have hCA : ¬ C = A := by have := h.old.2; have := h.base; omega
  have ch : Ch (· = C) w (w.setCell ⟨C, 0, none⟩ (.bool true)) := (Ch.refl (· = C) w).setCell (p := ⟨C, 0, none⟩) (fun _ => rfl) _
  exact {
    scan := h.scan.kept ch (fun e => hCS e.symm) (fun e => hCA e.symm)
    ch := h.ch.trans' ch (fun i hi e => by have := h.base; omega)
    old := h.old
    base := h.base
    lt := by simp [h.lt]
    c0 := World.cell?_setCell_same _ _ _ h.c0
    c1 := by rw [World.cell?_setCell_other _ _ _ _ (addr_ne (by decide))]; exact h.c1
    f0 := by rw [World.frozen?_setCell]; exact h.f0
    f1 := by rw [World.frozen?_setCell]; exact h.f1
    ne := h.ne
    len := h.len
    own := ch.owns h.own (fun k hk => by cases hk; exact h.ne)
    rep := fun i hi => (h.rep i hi).keep (fun b hb => ⟨ch.block b hb.2.1 hb.2.2.1, hb.1, by simp [hb.2.1], hb.2.2⟩) }

theorem SetAt.cut {w0 w : World} {S A cap j C k g c : Nat} {l : List UInt8} {neg : Bool} {es : List Pm.Elem} {us : List Value} (h : SetAt w0 S A cap j C l neg k es w g c us) :
    SetAt w0 S A cap j C l neg k [] (w.setCell ⟨C, 1, none⟩ (.slice (some ⟨g, 0, none⟩) 0 c)) g c [] := by
  have hCS : ¬ C = S := by have := h.base; have := h.old.1; omega
  have hCA : ¬ C = A := by have := h.old.2; have := h.base; omega
  have ch : Ch (· = C) w (w.setCell ⟨C, 1, none⟩ (.slice (some ⟨g, 0, none⟩) 0 c)) := (Ch.refl (· = C) w).setCell (p := ⟨C, 1, none⟩) (fun _ => rfl) _
  exact {
    scan := h.scan.kept ch (fun e => hCS e.symm) (fun e => hCA e.symm)
    ch := h.ch.trans' ch (fun i hi e => by have := h.base; omega)
    old := h.old
    base := h.base
    lt := by simp [h.lt]
    c0 := by rw [World.cell?_setCell_other _ _ _ _ (addr_ne (by decide))]; exact h.c0
    c1 := World.cell?_setCell_same _ _ _ h.c1
    f0 := by rw [World.frozen?_setCell]; exact h.f0
    f1 := by rw [World.frozen?_setCell]; exact h.f1
    ne := h.ne
    len := by simp
    own := ch.owns (by simpa using own_cut h.own (Nat.zero_le _)) (fun k hk => by cases hk; exact h.ne)
    rep := fun i hi => absurd hi (by simp) }

/-- The cells of the row. -/
theorem SetAt.at_ {w0 w : World} {S A cap j C k g c : Nat} {l : List UInt8} {neg : Bool} {es : List Pm.Elem} {us : List Value} (h : SetAt w0 S A cap j C l neg k es w g c us) (i : Nat) (v : Value) (hv : us[i]? = some v) : w.cell? ⟨g, i, none⟩ = some v := by
  have hc := h.own.cells (g := g) rfl i v hv
  have hadd : (⟨g, 0, none⟩ : Addr).add i = ⟨g, i, none⟩ := by unfold Addr.add; split <;> simp_all
  rw [hadd] at hc
  exact hc

theorem SetAt.len_us {w0 w : World} {S A cap j C k g c : Nat} {l : List UInt8} {neg : Bool} {es : List Pm.Elem} {us : List Value} (h : SetAt w0 S A cap j C l neg k es w g c us) : us.length = es.length := by have := h.own.1; omega

/-- A range whose ends were read before. -/
theorem SetAt.ranged {w0 w : World} {S A cap j C k g c : Nat} {l : List UInt8} {neg : Bool} {b a : Pm.Atom} {x y : Value} (h : SetAt w0 S A cap j C l neg k [.atom b, .atom a] w g c [x, y]) :
    SetAt w0 S A cap j C l neg k [] ((w.setCell ⟨C, 1, none⟩ (.slice (some ⟨g, 0, none⟩) 0 c)).alloc (.cells #[x, y] 178)) g c [] ∧
    RepElem ((w.setCell ⟨C, 1, none⟩ (.slice (some ⟨g, 0, none⟩) 0 c)).alloc (.cells #[x, y] 178)) (fun b => w0.heap.size ≤ b ∧ b < ((w.setCell ⟨C, 1, none⟩ (.slice (some ⟨g, 0, none⟩) 0 c)).alloc (.cells #[x, y] 178)).heap.size ∧ b ≠ C ∧ b ≠ g) (.iface 176 (ptr w.heap.size)) (.range b a) := by
  have hc := h.cut
  have hg := (own_g h.own).2
  have hlt := h.lt
  have hb := h.base
  have chC : Ch (· = C) w ((w.setCell ⟨C, 1, none⟩ (.slice (some ⟨g, 0, none⟩) 0 c)).alloc (.cells #[x, y] 178)) := ((Ch.refl (· = C) w).setCell (p := ⟨C, 1, none⟩) (fun _ => rfl) _).alloc _
  have key : Keeps w ((w.setCell ⟨C, 1, none⟩ (.slice (some ⟨g, 0, none⟩) 0 c)).alloc (.cells #[x, y] 178)) (fun b => w0.heap.size ≤ b ∧ b < w.heap.size ∧ b ≠ C ∧ b ≠ g) (fun b => w0.heap.size ≤ b ∧ b < ((w.setCell ⟨C, 1, none⟩ (.slice (some ⟨g, 0, none⟩) 0 c)).alloc (.cells #[x, y] 178)).heap.size ∧ b ≠ C ∧ b ≠ g) := fun b hb =>
    ⟨chC.block b hb.2.1 hb.2.2.1, hb.1, by simp; omega, hb.2.2⟩
  refine ⟨hc.moved (hc.scan.kept (T := fun _ => False) ((Ch.refl _ _).alloc _) id id) ((Ch.refl _ _).alloc _) (by simp), w.heap.size, x, y, ⟨by omega, by simp, by omega, by omega⟩, rfl, ?_, ?_, ?_, ?_⟩
  · exact World.cell?_alloc_at _ _ _ _ (by simp)
  · exact World.cell?_alloc_at _ _ _ _ (by simp)
  · exact RepAtom.keep key (h.rep 0 (by simp))
  · exact RepAtom.keep key (h.rep 1 (by simp))

set_option maxRecDepth 100000 in
set_option maxHeartbeats 4000000 in
theorem parseSet_false {w : World} {S A cap k j f k2 : Nat} {l : List UInt8} {es : List Pm.Elem} (h : Scan w S A cap l k j) (hA : A < w.heap.size) (hk : k < l.length) (h94 : (at_ l k == 94) = false) (hgo : setGo l f k [] false = some (es, k2)) :
    Calls Tryf.prog 66 #[ptr S] w fun e w' => ∃ v, e = .returned v ∧ RepCls w' (fun b => w.heap.size ≤ b ∧ b < w'.heap.size) v (.set false es) ∧ Scan w' S A cap l k2 j ∧ Ch (· = S) w w' := by
  obtain ⟨i0, hi0, hz0, hz1, hz2⟩ := info_parts Tryf.info129
  have I0 := Lib.hid hi0
  have Z0 := Lib.hid hz0
  have Z1 := Lib.hid hz1
  have Z2 := Lib.hid hz2
  clear hi0 hz0 hz1 hz2
  have hseen : seen l k = k := by unfold seen; rw [if_neg (by omega)]
  have HGO := Lib.hid hgo
  clear hgo
  have hst := SetAt.start h hA
  have hll := h.len
  clear h
  have HST := Lib.hid hst
  clear hst
  go_enter Tryf.func66, Tryf.ntmps66
  go_wp2_with fail
  refine wp_scope_jumps 0 (SetDone w S A cap j (w.heap.size + 1) l false k2 es) (fun a' _ => 0) rfl ?_ ?_
  · go_wp2_with fail
    refine (scan_peek HST.out.scan (by omega)).mono ?_
    rintro e w1 ⟨rfl, hs, hc, hz⟩
    rw [hseen] at hs
    have hb := HST.out.moved hs hc (by simp)
    clear hseen hs hc hz HST
    have HB := Lib.hid hb
    clear hb
    go_wp2_with fail
    go_loopg [4] f (fun n r wr => ∃ k es' g c q us, r = .bool q ∧ setGo l n k es' q = some (es, k2) ∧ SetAt w S A cap j (w.heap.size + 1) l false k es' wr g c us)
    case atStart => exact ⟨k, [], _, _, false, _, rfl, HGO.out, HB.out⟩
    case round =>
      clear HB HGO
      obtain ⟨k, es', g, c, q, us, rfl, hgo, hset⟩ := hrel
      obtain ⟨n, rfl⟩ : ∃ n, gk = n + 1 := by
        cases gk with
        | zero => simp [setGo] at hgo
        | succ n => exact ⟨n, rfl⟩
      have hm1 : ¬ at_ l k = -1 := by
        intro h1
        simp [setGo, atomAt, h1] at hgo
      have hkl := at_lt hm1
      have hseen : seen l k = k := by unfold seen; rw [if_neg (by omega)]
      have t1 := beq_no hm1
      have hesl := hset.len
      have HSET := Lib.hid hset
      by_cases h93 : at_ l k = 93
      · have hgo' := hgo
        simp only [setGo, if_pos h93] at hgo'
        obtain ⟨hne, rfl⟩ : es' ≠ [] ∧ q = false := by
          split at hgo'
          · assumption
          · cases hgo'
        rw [if_pos ⟨hne, rfl⟩] at hgo'
        obtain ⟨rfl, rfl⟩ : es' = es ∧ k + 1 = k2 := by cases hgo'; exact ⟨rfl, rfl⟩
        have t2 : (at_ l k == 93) = true := by simp [h93]
        have hlen : (0 : Int) < es'.length := by have := List.length_pos_iff.2 hne; omega
        clear hgo hgo' hset hm1 h93 hne
        go_wp2_with fail
        refine (scan_peek HSET.out.scan (by omega)).mono ?_
        rintro e w2 ⟨rfl, hs, hc2, hz⟩
        rw [hseen] at hs
        have hset2 := HSET.out.moved hs hc2 HSET.out.len
        have q1 := hset2.c1
        have HSET2 := Lib.hid hset2
        clear hset2 hs hz HSET
        go_wp2_with fail
        refine (scan_next HSET2.out.scan (by omega)).mono ?_
        rintro e w3 ⟨rfl, hs, hc3, hz⟩
        have haf : after l k = k + 1 := by simp only [after]; omega
        rw [haf] at hs
        have hset3 := HSET2.out.moved hs hc3 (by omega)
        have HSET3 := Lib.hid hset3
        clear hset3 hs hz HSET2 haf
        go_wp2_with fail
        go_step3
        refine ⟨rfl, ⟨_, _, _, HSET3.out⟩, ?_⟩
        (repeat apply Exists.intro)
        rfl
      by_cases h45 : at_ l k = 45
      · have hgo' := hgo
        simp only [setGo, if_neg h93, if_pos h45] at hgo'
        obtain ⟨hne, rfl⟩ : es' ≠ [] ∧ q = false := by
          split at hgo'
          · assumption
          · cases hgo'
        rw [if_pos ⟨hne, rfl⟩] at hgo'
        have t2 := beq_no h93
        have t3 : (at_ l k == 45) = true := by simp [h45]
        have hlen : (0 : Int) < es'.length := by have := List.length_pos_iff.2 hne; omega
        have HGO := Lib.hid hgo'
        clear hgo hgo' hset hm1 h93 h45 hne
        go_wp2_with fail
        refine (scan_peek HSET.out.scan (by omega)).mono ?_
        rintro e w2 ⟨rfl, hs, hc2, hz⟩
        rw [hseen] at hs
        have hset2 := HSET.out.moved hs hc2 HSET.out.len
        have q1 := hset2.c1
        have HSET2 := Lib.hid hset2
        clear hset2 hs hz HSET
        go_wp2_with fail
        refine (scan_next HSET2.out.scan (by omega)).mono ?_
        rintro e w3 ⟨rfl, hs, hc3, hz⟩
        have haf : after l k = k + 1 := by simp only [after]; omega
        rw [haf] at hs
        have hset3 := HSET2.out.moved hs hc3 (by omega)
        have HSET3 := Lib.hid hset3
        clear hset3 hs hz HSET2 haf
        go_wp2_with fail
        go_roundg n
        case measure => omega
        case rel => exact ⟨_, _, _, _, true, _, rfl, HGO.out, HSET3.out⟩
      obtain ⟨a, k', hat⟩ : ∃ a k', atomAt l k = some (a, k') := by
        cases hat : atomAt l k with
        | none => simp only [setGo, if_neg h93, if_neg h45, hat] at hgo; cases hgo
        | some p => exact ⟨p.1, p.2, rfl⟩
      have hgo' := hgo
      simp only [setGo, if_neg h93, if_neg h45, hat] at hgo'
      have t2 := beq_no h93
      have t3 := beq_no h45
      have hatl := atomAt_lt hat
      have HAT := Lib.hid hat
      clear hgo hset hm1 h93 h45 hat
      cases q with
      | false =>
        simp only [Bool.false_eq_true, if_false] at hgo'
        have HGO := Lib.hid hgo'
        clear hgo'
        go_wp2_with fail
        refine (scan_peek HSET.out.scan (by omega)).mono ?_
        rintro e w2 ⟨rfl, hs, hc2, hz⟩
        rw [hseen] at hs
        have hset2 := HSET.out.moved hs hc2 HSET.out.len
        have q1 := hset2.c1
        have HSET2 := Lib.hid hset2
        clear hset2 hs hz HSET
        go_wp2_with fail
        go_region_law (first
          | (refine step_append_lies _ rfl (.tmp 52) (.tmp 55) 173 rfl w.heap.size 129 i0 _ 1 16 Tryf.underlying173 I0.out Z0.out Z1.out Z2.out rfl (by omega) _ _ us rfl (HSET3.out.own.alloc _) ⟨w3.heap.size, 0, none⟩ 1 1 [.iface u x] rfl rfl (World.news_of_block (heap_alloc_new w3 _)) HV.out (by omega) (by unfold maxLen; omega) (by omega) (by simp; exact Nat.le_of_lt (Nat.lt_of_lt_of_le (Nat.lt_trans HSET3.out.base HSET3.out.lt) (Nat.le_succ _))) (w3.heap.size + 1) (by simp) ?_; intro g' c' w4 hown4 hgrow4 hat4 hlt4
             have hpush : SetAt w S A cap j (w.heap.size + 1) l false k' (es' ++ [.atom a]) (w4.setCell ⟨w.heap.size + 1, 1, none⟩ (.slice (some ⟨g', 0, none⟩) (es'.length + 1) c')) g' c' (us ++ [.iface u x]) := HSET3.out.push (by omega) HR.out ((Ch.refl _ _).alloc _) hgrow4 (hat4.imp id (fun e => by simp; omega)) hown4
             have d4 : w4.cell? ⟨w.heap.size + 1, 1, none⟩ = some (.slice (some ⟨g, 0, none⟩) es'.length c) := hgrow4.cell (by rw [World.cell?_alloc_lt _ _ _ HSET3.out.lt]; exact HSET3.out.c1) (by intro e; exact HSET3.out.ne (by injection e with e; exact e.symm))
             have f4 : w4.frozen? ⟨w.heap.size + 1, 1, none⟩ = false := (hgrow4.frozen_far ⟨w.heap.size + 1, 1, none⟩ (by have := HSET3.out.lt; simp; omega) (by intro e; exact HSET3.out.ne (by injection e with e; exact e.symm))).trans ((World.frozen?_alloc_old _ _ _ (Nat.ne_of_lt HSET3.out.lt)).trans HSET3.out.f1)
             have HPUSH := Lib.hid hpush
             clear hown4 hgrow4 hat4 hlt4 hpush)
          | (go_simp; go_at_call 55; refine (parseClass_atom HSET2.out.scan.drew HAT.out false).mono ?_; rintro e w3 ⟨u, x, rfl, hr, hs3, hc3⟩
             have hset3 := HSET2.out.moved (w' := w3) hs3 ⟨hc3.os, hc3.tape, hc3.output, hc3.size, hc3.block⟩ (by omega)
             have q3 := hset3.c1
             have z3 := hset3.lt
             have hr' : RepElem w3 (fun b => w.heap.size ≤ b ∧ b < w3.heap.size ∧ b ≠ w.heap.size + 1 ∧ b ≠ g) (.iface u x) (.atom a) := RepAtom.keep (ok := fun b => w2.drew.heap.size ≤ b ∧ b < w3.heap.size) (fun b hb => ⟨rfl, by have h1 := HSET2.out.lt; have h2 := HSET2.out.base; have h3 := (own_g HSET2.out.own).2; have h4 := hb.1; simp at h4; omega⟩) hr
             have HV : Hid (∀ y ∈ [Value.iface u x], y.oneCell' = true) := by intro y hy; simp at hy; subst hy; rfl
             have HR := Lib.hid hr'
             have HSET3 := Lib.hid hset3
             clear hr hr' hs3 hc3 hset3))
        all_goals
          go_wp2_with fail
          go_roundg n
          case measure => omega
          case rel => exact ⟨_, _, _, _, false, _, rfl, HGO.out, HPUSH.out⟩
      | true =>
        simp only [if_true] at hgo'
        obtain ⟨b, rfl⟩ : ∃ b, es' = [.atom b] := by
          split at hgo'
          · exact ⟨_, rfl⟩
          · cases hgo'
        have hlu := HSET.out.len_us
        obtain ⟨y, rfl⟩ : ∃ y, us = [y] := by
          match us, hlu with
          | [y], _ => exact ⟨y, rfl⟩
        obtain ⟨u0, x0, rfl⟩ : ∃ u0 x0, y = .iface u0 x0 := RepAtom.form (HSET.out.rep 0 (by simp))
        have HGO := Lib.hid hgo'
        clear hgo' hlu
        go_wp2_with fail
        refine (scan_peek HSET.out.scan (by omega)).mono ?_
        rintro e w2 ⟨rfl, hs, hc2, hz⟩
        rw [hseen] at hs
        have hset2 := HSET.out.moved hs hc2 HSET.out.len
        have q1 := hset2.c1
        have HSET2 := Lib.hid hset2
        clear hset2 hs hz HSET
        go_wp2_with fail
        go_region_law (first
          | (refine step_append_lies _ rfl (.tmp 52) (.tmp 55) 173 rfl w.heap.size 129 i0 _ 1 16 Tryf.underlying173 I0.out Z0.out Z1.out Z2.out rfl (by omega) _ _ [.iface u0 x0] rfl (HSET3.out.own.alloc _) ⟨w3.heap.size, 0, none⟩ 1 1 [.iface u x] rfl rfl (World.news_of_block (heap_alloc_new w3 _)) HV.out (by omega) (by unfold maxLen; omega) (by omega) (by simp; exact Nat.le_of_lt (Nat.lt_of_lt_of_le (Nat.lt_trans HSET3.out.base HSET3.out.lt) (Nat.le_succ _))) (w3.heap.size + 1) (by simp) ?_; intro g' c' w4 hown4 hgrow4 hat4 hlt4
             have hpush : SetAt w S A cap j (w.heap.size + 1) l false k' [.atom b, .atom a] (w4.setCell ⟨w.heap.size + 1, 1, none⟩ (.slice (some ⟨g', 0, none⟩) (1 + 1) c')) g' c' [.iface u0 x0, .iface u x] := HSET3.out.push (by omega) HR.out ((Ch.refl _ _).alloc _) hgrow4 (hat4.imp id (fun e => by simp; omega)) hown4
             have d4 : w4.cell? ⟨w.heap.size + 1, 1, none⟩ = some (.slice (some ⟨g, 0, none⟩) 1 c) := hgrow4.cell (by rw [World.cell?_alloc_lt _ _ _ HSET3.out.lt]; exact HSET3.out.c1) (by intro e; exact HSET3.out.ne (by injection e with e; exact e.symm))
             have f4 : w4.frozen? ⟨w.heap.size + 1, 1, none⟩ = false := (hgrow4.frozen_far ⟨w.heap.size + 1, 1, none⟩ (by have := HSET3.out.lt; simp; omega) (by intro e; exact HSET3.out.ne (by injection e with e; exact e.symm))).trans ((World.frozen?_alloc_old _ _ _ (Nat.ne_of_lt HSET3.out.lt)).trans HSET3.out.f1)
             have HPUSH := Lib.hid hpush
             clear hown4 hgrow4 hat4 hlt4 hpush)
          | (go_simp; go_at_call 55; refine (parseClass_atom HSET2.out.scan.drew HAT.out false).mono ?_; rintro e w3 ⟨u, x, rfl, hr, hs3, hc3⟩
             have hset3 := HSET2.out.moved (w' := w3) hs3 ⟨hc3.os, hc3.tape, hc3.output, hc3.size, hc3.block⟩ (by omega)
             have q3 := hset3.c1
             have z3 := hset3.lt
             have hr' : RepElem w3 (fun b => w.heap.size ≤ b ∧ b < w3.heap.size ∧ b ≠ w.heap.size + 1 ∧ b ≠ g) (.iface u x) (.atom a) := RepAtom.keep (ok := fun b => w2.drew.heap.size ≤ b ∧ b < w3.heap.size) (fun b hb => ⟨rfl, by have h1 := HSET2.out.lt; have h2 := HSET2.out.base; have h3 := (own_g HSET2.out.own).2; have h4 := hb.1; simp at h4; omega⟩) hr
             have HV : Hid (∀ y ∈ [Value.iface u x], y.oneCell' = true) := by intro y hy; simp at hy; subst hy; rfl
             have HR := Lib.hid hr'
             have HSET3 := Lib.hid hset3
             clear hr hr' hs3 hc3 hset3))
        all_goals
          go_wp2_with fail
          have HP : Hid (SetAt w S A cap j (w.heap.size + 1) l false k' [.atom b, .atom a] (w4.setCell ⟨w.heap.size + 1, 1, none⟩ (.slice (some ⟨g', 0, none⟩) 2 c')) g' c' [.iface u0 x0, .iface u x]) := HPUSH
          clear HPUSH d4 f4 HSET3 HR HV q3 z3
          generalize hwp : w4.setCell ⟨w.heap.size + 1, 1, none⟩ (.slice (some ⟨g', 0, none⟩) 2 c') = wp at HP ⊢
          clear hwp
          have p0 : wp.cell? ⟨g', 0, none⟩ = some (.iface u0 x0) := HP.out.at_ 0 _ rfl
          have p1 : wp.cell? ⟨g', 1, none⟩ = some (.iface u x) := HP.out.at_ 1 _ rfl
          have pc : wp.cell? ⟨w.heap.size + 1, 1, none⟩ = some (.slice (some ⟨g', 0, none⟩) 2 c') := HP.out.c1
          have pf := HP.out.f1
          have plt := HP.out.lt
          have pg := (own_g HP.out.own).2
          have pne := HP.out.ne
          have hnb : ∀ (W : World) (o1 o2 : Obj), W.heap.size = wp.heap.size → (((W.alloc o1).alloc o2).drew.drew.drew).heap[wp.heap.size + 1]? = some o2 := by
            intro W o1 o2 hW
            have hh := heap_alloc_new (W.alloc o1) o2
            rw [World.size_alloc, hW] at hh
            exact hh
          have HNB := Lib.hid hnb
          have HV : Hid (∀ y ∈ [Value.iface 176 (ptr wp.heap.size)], y.oneCell' = true) := by intro y hy; simp at hy; subst hy; rfl
          clear hnb
          go_region
          go_wp2_with fail
          go_region
          go_wp2_with fail
          go_region
          go_wp2_with (at_builtin; (refine wpList_append_lies _ rfl (.tmp 102) (.tmp 108) 173 rfl w.heap.size 129 i0 _ 1 16 Tryf.underlying173 I0.out Z0.out Z1.out Z2.out rfl (by omega) _ 0 [] rfl (((((HP.out.cut.own.alloc _).alloc _).drew).drew).drew) ⟨wp.heap.size + 1, 0, none⟩ 1 1 [.iface 176 (ptr wp.heap.size)] rfl rfl (World.news_of_block (HNB.out _ _ _ (by simp))) HV.out (by omega) (by unfold maxLen; omega) (by omega) (by simp; omega) (wp.heap.size + 2) (by simp) ?_); intro g2 c2 w8 hown8 hgrow8 hat8 hlt8
                       have hpush : SetAt w S A cap j (w.heap.size + 1) l false k' [.range b a] (w8.setCell ⟨w.heap.size + 1, 1, none⟩ (.slice (some ⟨g2, 0, none⟩) 1 c2)) g2 c2 [.iface 176 (ptr wp.heap.size)] := HP.out.ranged.1.push (by simp; omega) HP.out.ranged.2 ((((Ch.refl _ _).alloc _).drew).drew).drew hgrow8 (hat8.imp id (fun e => by simp; omega)) hown8
                       have ch8 : Ch (fun _ => False) (wp.setCell ⟨w.heap.size + 1, 1, none⟩ (.slice (some ⟨g', 0, none⟩) 0 c')) ((((wp.setCell ⟨w.heap.size + 1, 1, none⟩ (.slice (some ⟨g', 0, none⟩) 0 c')).alloc (.cells #[.iface u0 x0, .iface u x] 178)).alloc (.cells #[.iface 176 (ptr wp.heap.size)] 129)).drew.drew.drew) := (((((Ch.refl _ _).alloc _).alloc _).drew).drew).drew
                       have d8 : w8.cell? ⟨w.heap.size + 1, 1, none⟩ = some (.slice (some ⟨g', 0, none⟩) 0 c') := hgrow8.cell (ch8.cell_some HP.out.cut.c1 id) (by intro e; exact pne (by injection e with e; exact e.symm))
                       have f8 : w8.frozen? ⟨w.heap.size + 1, 1, none⟩ = false := (hgrow8.frozen_far ⟨w.heap.size + 1, 1, none⟩ (by simp; omega) (by intro e; exact pne (by injection e with e; exact e.symm))).trans ((ch8.frozen (p := ⟨w.heap.size + 1, 1, none⟩) HP.out.cut.lt id).trans HP.out.cut.f1)
                       clear ch8
                       have HPUSH := Lib.hid hpush
                       clear hown8 hgrow8 hat8 hlt8 hpush HP)
          go_roundg n
          case measure => omega
          case rel => exact ⟨_, _, _, _, false, _, rfl, HGO.out, HPUSH.out⟩
  · intro a' w' hdone
    obtain ⟨⟨g, c, us, hset⟩, hd⟩ := hdone
    obtain ⟨u1, hd⟩ := hd
    obtain ⟨u5, hd⟩ := hd
    obtain ⟨u6, hd⟩ := hd
    obtain ⟨u7, hd⟩ := hd
    obtain ⟨u8, hd⟩ := hd
    obtain ⟨u9, hd⟩ := hd
    obtain ⟨u10, hd⟩ := hd
    obtain ⟨u11, hd⟩ := hd
    obtain ⟨u12, hd⟩ := hd
    obtain ⟨u13, hd⟩ := hd
    obtain ⟨u14, hd⟩ := hd
    obtain ⟨u15, hd⟩ := hd
    obtain ⟨u16, hd⟩ := hd
    obtain ⟨u17, hd⟩ := hd
    obtain ⟨u18, hd⟩ := hd
    obtain ⟨u19, hd⟩ := hd
    obtain ⟨u20, hd⟩ := hd
    obtain ⟨u21, hd⟩ := hd
    obtain ⟨u22, hd⟩ := hd
    obtain ⟨u23, hd⟩ := hd
    obtain ⟨u24, hd⟩ := hd
    obtain ⟨u25, hd⟩ := hd
    obtain ⟨u26, hd⟩ := hd
    obtain ⟨u27, hd⟩ := hd
    obtain ⟨u28, hd⟩ := hd
    obtain ⟨u29, hd⟩ := hd
    obtain ⟨u30, hd⟩ := hd
    obtain ⟨u31, hd⟩ := hd
    obtain ⟨u32, hd⟩ := hd
    obtain ⟨u33, hd⟩ := hd
    obtain ⟨u34, hd⟩ := hd
    obtain ⟨u35, hd⟩ := hd
    obtain ⟨u36, hd⟩ := hd
    obtain ⟨u37, hd⟩ := hd
    obtain ⟨u38, hd⟩ := hd
    obtain ⟨u39, hd⟩ := hd
    obtain ⟨u40, hd⟩ := hd
    obtain ⟨u41, hd⟩ := hd
    obtain ⟨u42, hd⟩ := hd
    obtain ⟨u43, hd⟩ := hd
    obtain ⟨u44, hd⟩ := hd
    obtain ⟨u45, hd⟩ := hd
    obtain ⟨u46, hd⟩ := hd
    obtain ⟨u47, hd⟩ := hd
    obtain ⟨u48, hd⟩ := hd
    obtain ⟨u49, hd⟩ := hd
    obtain ⟨u50, hd⟩ := hd
    obtain ⟨u51, hd⟩ := hd
    obtain ⟨u52, hd⟩ := hd
    obtain ⟨u53, hd⟩ := hd
    obtain ⟨u54, hd⟩ := hd
    obtain ⟨u55, hd⟩ := hd
    obtain ⟨u56, hd⟩ := hd
    obtain ⟨u57, hd⟩ := hd
    obtain ⟨u58, hd⟩ := hd
    obtain ⟨u59, hd⟩ := hd
    obtain ⟨u60, hd⟩ := hd
    obtain ⟨u61, hd⟩ := hd
    obtain ⟨u62, hd⟩ := hd
    obtain ⟨u63, hd⟩ := hd
    obtain ⟨u64, hd⟩ := hd
    obtain ⟨u65, hd⟩ := hd
    obtain ⟨u66, hd⟩ := hd
    obtain ⟨u67, hd⟩ := hd
    obtain ⟨u68, hd⟩ := hd
    obtain ⟨u69, hd⟩ := hd
    obtain ⟨u70, hd⟩ := hd
    obtain ⟨u71, hd⟩ := hd
    obtain ⟨u72, hd⟩ := hd
    obtain ⟨u73, hd⟩ := hd
    obtain ⟨u74, hd⟩ := hd
    obtain ⟨u75, hd⟩ := hd
    obtain ⟨u76, hd⟩ := hd
    obtain ⟨u77, hd⟩ := hd
    obtain ⟨u78, hd⟩ := hd
    obtain ⟨u79, hd⟩ := hd
    obtain ⟨u80, hd⟩ := hd
    obtain ⟨u81, hd⟩ := hd
    obtain ⟨u82, hd⟩ := hd
    obtain ⟨u83, hd⟩ := hd
    obtain ⟨u84, hd⟩ := hd
    obtain ⟨u85, hd⟩ := hd
    obtain ⟨u86, hd⟩ := hd
    obtain ⟨u87, hd⟩ := hd
    obtain ⟨u88, hd⟩ := hd
    obtain ⟨u89, hd⟩ := hd
    obtain ⟨u90, hd⟩ := hd
    obtain ⟨u91, hd⟩ := hd
    obtain ⟨u92, hd⟩ := hd
    obtain ⟨u93, hd⟩ := hd
    obtain ⟨u94, hd⟩ := hd
    obtain ⟨u95, hd⟩ := hd
    obtain ⟨u96, hd⟩ := hd
    obtain ⟨u97, hd⟩ := hd
    obtain ⟨u98, hd⟩ := hd
    obtain ⟨u99, hd⟩ := hd
    obtain ⟨u100, hd⟩ := hd
    obtain ⟨u101, hd⟩ := hd
    obtain ⟨u102, hd⟩ := hd
    obtain ⟨u103, hd⟩ := hd
    obtain ⟨u104, hd⟩ := hd
    obtain ⟨u105, hd⟩ := hd
    obtain ⟨u106, hd⟩ := hd
    obtain ⟨u107, hd⟩ := hd
    obtain ⟨u108, hd⟩ := hd
    obtain ⟨u109, hd⟩ := hd
    obtain ⟨u110, hd⟩ := hd
    obtain ⟨u111, hd⟩ := hd
    obtain ⟨u112, hd⟩ := hd
    obtain ⟨u113, hd⟩ := hd
    obtain ⟨u114, hd⟩ := hd
    obtain ⟨u115, hd⟩ := hd
    obtain ⟨u116, hd⟩ := hd
    obtain ⟨u117, hd⟩ := hd
    obtain ⟨u118, hd⟩ := hd
    obtain ⟨u119, hd⟩ := hd
    obtain ⟨u120, hd⟩ := hd
    obtain ⟨u121, hd⟩ := hd
    obtain ⟨u122, hd⟩ := hd
    obtain ⟨u123, hd⟩ := hd
    obtain ⟨u124, hd⟩ := hd
    obtain ⟨u125, hd⟩ := hd
    obtain ⟨u126, hd⟩ := hd
    subst hd
    have HSET := Lib.hid hset
    clear hset
    go_wp2_with fail
    simp only [Exit.jump]
    go_ret
    exact ⟨_, rfl, HSET.out.cls, HSET.out.scan, HSET.out.ch⟩

set_option maxRecDepth 100000 in
set_option maxHeartbeats 4000000 in
theorem parseSet_true {w : World} {S A cap k j f k2 : Nat} {l : List UInt8} {es : List Pm.Elem} (h : Scan w S A cap l k j) (hA : A < w.heap.size) (hk : k < l.length) (h94 : (at_ l k == 94) = true) (hgo : setGo l f (k + 1) [] false = some (es, k2)) :
    Calls Tryf.prog 66 #[ptr S] w fun e w' => ∃ v, e = .returned v ∧ RepCls w' (fun b => w.heap.size ≤ b ∧ b < w'.heap.size) v (.set true es) ∧ Scan w' S A cap l k2 j ∧ Ch (· = S) w w' := by
  obtain ⟨i0, hi0, hz0, hz1, hz2⟩ := info_parts Tryf.info129
  have I0 := Lib.hid hi0
  have Z0 := Lib.hid hz0
  have Z1 := Lib.hid hz1
  have Z2 := Lib.hid hz2
  clear hi0 hz0 hz1 hz2
  have hseen : seen l k = k := by unfold seen; rw [if_neg (by omega)]
  have HGO := Lib.hid hgo
  clear hgo
  have hst := SetAt.start h hA
  have hll := h.len
  clear h
  have HST := Lib.hid hst
  clear hst
  go_enter Tryf.func66, Tryf.ntmps66
  go_wp2_with fail
  refine wp_scope_jumps 0 (SetDone w S A cap j (w.heap.size + 1) l true k2 es) (fun a' _ => 0) rfl ?_ ?_
  · go_wp2_with fail
    refine (scan_peek HST.out.scan (by omega)).mono ?_
    rintro e w1 ⟨rfl, hs, hc, hz⟩
    rw [hseen] at hs
    have hb := HST.out.moved hs hc (by simp)
    clear hseen hs hc hz HST
    have HB := Lib.hid hb
    clear hb
    have q0 := HB.out.c0
    have f0 := HB.out.f0
    go_wp2_with fail
    refine (scan_next HB.out.negate.scan (by omega)).mono ?_
    rintro e w2 ⟨rfl, hs, hc2, hz⟩
    have haf : after l k = k + 1 := by simp only [after]; omega
    rw [haf] at hs
    have hb2 := HB.out.negate.moved hs hc2 (by simp)
    clear hs hc2 hz haf HB q0 f0
    have HB := Lib.hid hb2
    clear hb2
    go_wp2_with fail
    go_loopg [4] f (fun n r wr => ∃ k es' g c q us, r = .bool q ∧ setGo l n k es' q = some (es, k2) ∧ SetAt w S A cap j (w.heap.size + 1) l true k es' wr g c us)
    case atStart => exact ⟨(k + 1), [], _, _, false, _, rfl, HGO.out, HB.out⟩
    case round =>
      clear HB HGO
      obtain ⟨k, es', g, c, q, us, rfl, hgo, hset⟩ := hrel
      obtain ⟨n, rfl⟩ : ∃ n, gk = n + 1 := by
        cases gk with
        | zero => simp [setGo] at hgo
        | succ n => exact ⟨n, rfl⟩
      have hm1 : ¬ at_ l k = -1 := by
        intro h1
        simp [setGo, atomAt, h1] at hgo
      have hkl := at_lt hm1
      have hseen : seen l k = k := by unfold seen; rw [if_neg (by omega)]
      have t1 := beq_no hm1
      have hesl := hset.len
      have HSET := Lib.hid hset
      by_cases h93 : at_ l k = 93
      · have hgo' := hgo
        simp only [setGo, if_pos h93] at hgo'
        obtain ⟨hne, rfl⟩ : es' ≠ [] ∧ q = false := by
          split at hgo'
          · assumption
          · cases hgo'
        rw [if_pos ⟨hne, rfl⟩] at hgo'
        obtain ⟨rfl, rfl⟩ : es' = es ∧ k + 1 = k2 := by cases hgo'; exact ⟨rfl, rfl⟩
        have t2 : (at_ l k == 93) = true := by simp [h93]
        have hlen : (0 : Int) < es'.length := by have := List.length_pos_iff.2 hne; omega
        clear hgo hgo' hset hm1 h93 hne
        go_wp2_with fail
        refine (scan_peek HSET.out.scan (by omega)).mono ?_
        rintro e w2 ⟨rfl, hs, hc2, hz⟩
        rw [hseen] at hs
        have hset2 := HSET.out.moved hs hc2 HSET.out.len
        have q1 := hset2.c1
        have HSET2 := Lib.hid hset2
        clear hset2 hs hz HSET
        go_wp2_with fail
        refine (scan_next HSET2.out.scan (by omega)).mono ?_
        rintro e w3 ⟨rfl, hs, hc3, hz⟩
        have haf : after l k = k + 1 := by simp only [after]; omega
        rw [haf] at hs
        have hset3 := HSET2.out.moved hs hc3 (by omega)
        have HSET3 := Lib.hid hset3
        clear hset3 hs hz HSET2 haf
        go_wp2_with fail
        go_step3
        refine ⟨rfl, ⟨_, _, _, HSET3.out⟩, ?_⟩
        (repeat apply Exists.intro)
        rfl
      by_cases h45 : at_ l k = 45
      · have hgo' := hgo
        simp only [setGo, if_neg h93, if_pos h45] at hgo'
        obtain ⟨hne, rfl⟩ : es' ≠ [] ∧ q = false := by
          split at hgo'
          · assumption
          · cases hgo'
        rw [if_pos ⟨hne, rfl⟩] at hgo'
        have t2 := beq_no h93
        have t3 : (at_ l k == 45) = true := by simp [h45]
        have hlen : (0 : Int) < es'.length := by have := List.length_pos_iff.2 hne; omega
        have HGO := Lib.hid hgo'
        clear hgo hgo' hset hm1 h93 h45 hne
        go_wp2_with fail
        refine (scan_peek HSET.out.scan (by omega)).mono ?_
        rintro e w2 ⟨rfl, hs, hc2, hz⟩
        rw [hseen] at hs
        have hset2 := HSET.out.moved hs hc2 HSET.out.len
        have q1 := hset2.c1
        have HSET2 := Lib.hid hset2
        clear hset2 hs hz HSET
        go_wp2_with fail
        refine (scan_next HSET2.out.scan (by omega)).mono ?_
        rintro e w3 ⟨rfl, hs, hc3, hz⟩
        have haf : after l k = k + 1 := by simp only [after]; omega
        rw [haf] at hs
        have hset3 := HSET2.out.moved hs hc3 (by omega)
        have HSET3 := Lib.hid hset3
        clear hset3 hs hz HSET2 haf
        go_wp2_with fail
        go_roundg n
        case measure => omega
        case rel => exact ⟨_, _, _, _, true, _, rfl, HGO.out, HSET3.out⟩
      obtain ⟨a, k', hat⟩ : ∃ a k', atomAt l k = some (a, k') := by
        cases hat : atomAt l k with
        | none => simp only [setGo, if_neg h93, if_neg h45, hat] at hgo; cases hgo
        | some p => exact ⟨p.1, p.2, rfl⟩
      have hgo' := hgo
      simp only [setGo, if_neg h93, if_neg h45, hat] at hgo'
      have t2 := beq_no h93
      have t3 := beq_no h45
      have hatl := atomAt_lt hat
      have HAT := Lib.hid hat
      clear hgo hset hm1 h93 h45 hat
      cases q with
      | false =>
        simp only [Bool.false_eq_true, if_false] at hgo'
        have HGO := Lib.hid hgo'
        clear hgo'
        go_wp2_with fail
        refine (scan_peek HSET.out.scan (by omega)).mono ?_
        rintro e w2 ⟨rfl, hs, hc2, hz⟩
        rw [hseen] at hs
        have hset2 := HSET.out.moved hs hc2 HSET.out.len
        have q1 := hset2.c1
        have HSET2 := Lib.hid hset2
        clear hset2 hs hz HSET
        go_wp2_with fail
        go_region_law (first
          | (refine step_append_lies _ rfl (.tmp 52) (.tmp 55) 173 rfl w.heap.size 129 i0 _ 1 16 Tryf.underlying173 I0.out Z0.out Z1.out Z2.out rfl (by omega) _ _ us rfl (HSET3.out.own.alloc _) ⟨w3.heap.size, 0, none⟩ 1 1 [.iface u x] rfl rfl (World.news_of_block (heap_alloc_new w3 _)) HV.out (by omega) (by unfold maxLen; omega) (by omega) (by simp; exact Nat.le_of_lt (Nat.lt_of_lt_of_le (Nat.lt_trans HSET3.out.base HSET3.out.lt) (Nat.le_succ _))) (w3.heap.size + 1) (by simp) ?_; intro g' c' w4 hown4 hgrow4 hat4 hlt4
             have hpush : SetAt w S A cap j (w.heap.size + 1) l true k' (es' ++ [.atom a]) (w4.setCell ⟨w.heap.size + 1, 1, none⟩ (.slice (some ⟨g', 0, none⟩) (es'.length + 1) c')) g' c' (us ++ [.iface u x]) := HSET3.out.push (by omega) HR.out ((Ch.refl _ _).alloc _) hgrow4 (hat4.imp id (fun e => by simp; omega)) hown4
             have d4 : w4.cell? ⟨w.heap.size + 1, 1, none⟩ = some (.slice (some ⟨g, 0, none⟩) es'.length c) := hgrow4.cell (by rw [World.cell?_alloc_lt _ _ _ HSET3.out.lt]; exact HSET3.out.c1) (by intro e; exact HSET3.out.ne (by injection e with e; exact e.symm))
             have f4 : w4.frozen? ⟨w.heap.size + 1, 1, none⟩ = false := (hgrow4.frozen_far ⟨w.heap.size + 1, 1, none⟩ (by have := HSET3.out.lt; simp; omega) (by intro e; exact HSET3.out.ne (by injection e with e; exact e.symm))).trans ((World.frozen?_alloc_old _ _ _ (Nat.ne_of_lt HSET3.out.lt)).trans HSET3.out.f1)
             have HPUSH := Lib.hid hpush
             clear hown4 hgrow4 hat4 hlt4 hpush)
          | (go_simp; go_at_call 55; refine (parseClass_atom HSET2.out.scan.drew HAT.out false).mono ?_; rintro e w3 ⟨u, x, rfl, hr, hs3, hc3⟩
             have hset3 := HSET2.out.moved (w' := w3) hs3 ⟨hc3.os, hc3.tape, hc3.output, hc3.size, hc3.block⟩ (by omega)
             have q3 := hset3.c1
             have z3 := hset3.lt
             have hr' : RepElem w3 (fun b => w.heap.size ≤ b ∧ b < w3.heap.size ∧ b ≠ w.heap.size + 1 ∧ b ≠ g) (.iface u x) (.atom a) := RepAtom.keep (ok := fun b => w2.drew.heap.size ≤ b ∧ b < w3.heap.size) (fun b hb => ⟨rfl, by have h1 := HSET2.out.lt; have h2 := HSET2.out.base; have h3 := (own_g HSET2.out.own).2; have h4 := hb.1; simp at h4; omega⟩) hr
             have HV : Hid (∀ y ∈ [Value.iface u x], y.oneCell' = true) := by intro y hy; simp at hy; subst hy; rfl
             have HR := Lib.hid hr'
             have HSET3 := Lib.hid hset3
             clear hr hr' hs3 hc3 hset3))
        all_goals
          go_wp2_with fail
          go_roundg n
          case measure => omega
          case rel => exact ⟨_, _, _, _, false, _, rfl, HGO.out, HPUSH.out⟩
      | true =>
        simp only [if_true] at hgo'
        obtain ⟨b, rfl⟩ : ∃ b, es' = [.atom b] := by
          split at hgo'
          · exact ⟨_, rfl⟩
          · cases hgo'
        have hlu := HSET.out.len_us
        obtain ⟨y, rfl⟩ : ∃ y, us = [y] := by
          match us, hlu with
          | [y], _ => exact ⟨y, rfl⟩
        obtain ⟨u0, x0, rfl⟩ : ∃ u0 x0, y = .iface u0 x0 := RepAtom.form (HSET.out.rep 0 (by simp))
        have HGO := Lib.hid hgo'
        clear hgo' hlu
        go_wp2_with fail
        refine (scan_peek HSET.out.scan (by omega)).mono ?_
        rintro e w2 ⟨rfl, hs, hc2, hz⟩
        rw [hseen] at hs
        have hset2 := HSET.out.moved hs hc2 HSET.out.len
        have q1 := hset2.c1
        have HSET2 := Lib.hid hset2
        clear hset2 hs hz HSET
        go_wp2_with fail
        go_region_law (first
          | (refine step_append_lies _ rfl (.tmp 52) (.tmp 55) 173 rfl w.heap.size 129 i0 _ 1 16 Tryf.underlying173 I0.out Z0.out Z1.out Z2.out rfl (by omega) _ _ [.iface u0 x0] rfl (HSET3.out.own.alloc _) ⟨w3.heap.size, 0, none⟩ 1 1 [.iface u x] rfl rfl (World.news_of_block (heap_alloc_new w3 _)) HV.out (by omega) (by unfold maxLen; omega) (by omega) (by simp; exact Nat.le_of_lt (Nat.lt_of_lt_of_le (Nat.lt_trans HSET3.out.base HSET3.out.lt) (Nat.le_succ _))) (w3.heap.size + 1) (by simp) ?_; intro g' c' w4 hown4 hgrow4 hat4 hlt4
             have hpush : SetAt w S A cap j (w.heap.size + 1) l true k' [.atom b, .atom a] (w4.setCell ⟨w.heap.size + 1, 1, none⟩ (.slice (some ⟨g', 0, none⟩) (1 + 1) c')) g' c' [.iface u0 x0, .iface u x] := HSET3.out.push (by omega) HR.out ((Ch.refl _ _).alloc _) hgrow4 (hat4.imp id (fun e => by simp; omega)) hown4
             have d4 : w4.cell? ⟨w.heap.size + 1, 1, none⟩ = some (.slice (some ⟨g, 0, none⟩) 1 c) := hgrow4.cell (by rw [World.cell?_alloc_lt _ _ _ HSET3.out.lt]; exact HSET3.out.c1) (by intro e; exact HSET3.out.ne (by injection e with e; exact e.symm))
             have f4 : w4.frozen? ⟨w.heap.size + 1, 1, none⟩ = false := (hgrow4.frozen_far ⟨w.heap.size + 1, 1, none⟩ (by have := HSET3.out.lt; simp; omega) (by intro e; exact HSET3.out.ne (by injection e with e; exact e.symm))).trans ((World.frozen?_alloc_old _ _ _ (Nat.ne_of_lt HSET3.out.lt)).trans HSET3.out.f1)
             have HPUSH := Lib.hid hpush
             clear hown4 hgrow4 hat4 hlt4 hpush)
          | (go_simp; go_at_call 55; refine (parseClass_atom HSET2.out.scan.drew HAT.out false).mono ?_; rintro e w3 ⟨u, x, rfl, hr, hs3, hc3⟩
             have hset3 := HSET2.out.moved (w' := w3) hs3 ⟨hc3.os, hc3.tape, hc3.output, hc3.size, hc3.block⟩ (by omega)
             have q3 := hset3.c1
             have z3 := hset3.lt
             have hr' : RepElem w3 (fun b => w.heap.size ≤ b ∧ b < w3.heap.size ∧ b ≠ w.heap.size + 1 ∧ b ≠ g) (.iface u x) (.atom a) := RepAtom.keep (ok := fun b => w2.drew.heap.size ≤ b ∧ b < w3.heap.size) (fun b hb => ⟨rfl, by have h1 := HSET2.out.lt; have h2 := HSET2.out.base; have h3 := (own_g HSET2.out.own).2; have h4 := hb.1; simp at h4; omega⟩) hr
             have HV : Hid (∀ y ∈ [Value.iface u x], y.oneCell' = true) := by intro y hy; simp at hy; subst hy; rfl
             have HR := Lib.hid hr'
             have HSET3 := Lib.hid hset3
             clear hr hr' hs3 hc3 hset3))
        all_goals
          go_wp2_with fail
          have HP : Hid (SetAt w S A cap j (w.heap.size + 1) l true k' [.atom b, .atom a] (w4.setCell ⟨w.heap.size + 1, 1, none⟩ (.slice (some ⟨g', 0, none⟩) 2 c')) g' c' [.iface u0 x0, .iface u x]) := HPUSH
          clear HPUSH d4 f4 HSET3 HR HV q3 z3
          generalize hwp : w4.setCell ⟨w.heap.size + 1, 1, none⟩ (.slice (some ⟨g', 0, none⟩) 2 c') = wp at HP ⊢
          clear hwp
          have p0 : wp.cell? ⟨g', 0, none⟩ = some (.iface u0 x0) := HP.out.at_ 0 _ rfl
          have p1 : wp.cell? ⟨g', 1, none⟩ = some (.iface u x) := HP.out.at_ 1 _ rfl
          have pc : wp.cell? ⟨w.heap.size + 1, 1, none⟩ = some (.slice (some ⟨g', 0, none⟩) 2 c') := HP.out.c1
          have pf := HP.out.f1
          have plt := HP.out.lt
          have pg := (own_g HP.out.own).2
          have pne := HP.out.ne
          have hnb : ∀ (W : World) (o1 o2 : Obj), W.heap.size = wp.heap.size → (((W.alloc o1).alloc o2).drew.drew.drew).heap[wp.heap.size + 1]? = some o2 := by
            intro W o1 o2 hW
            have hh := heap_alloc_new (W.alloc o1) o2
            rw [World.size_alloc, hW] at hh
            exact hh
          have HNB := Lib.hid hnb
          have HV : Hid (∀ y ∈ [Value.iface 176 (ptr wp.heap.size)], y.oneCell' = true) := by intro y hy; simp at hy; subst hy; rfl
          clear hnb
          go_region
          go_wp2_with fail
          go_region
          go_wp2_with fail
          go_region
          go_wp2_with (at_builtin; (refine wpList_append_lies _ rfl (.tmp 102) (.tmp 108) 173 rfl w.heap.size 129 i0 _ 1 16 Tryf.underlying173 I0.out Z0.out Z1.out Z2.out rfl (by omega) _ 0 [] rfl (((((HP.out.cut.own.alloc _).alloc _).drew).drew).drew) ⟨wp.heap.size + 1, 0, none⟩ 1 1 [.iface 176 (ptr wp.heap.size)] rfl rfl (World.news_of_block (HNB.out _ _ _ (by simp))) HV.out (by omega) (by unfold maxLen; omega) (by omega) (by simp; omega) (wp.heap.size + 2) (by simp) ?_); intro g2 c2 w8 hown8 hgrow8 hat8 hlt8
                       have hpush : SetAt w S A cap j (w.heap.size + 1) l true k' [.range b a] (w8.setCell ⟨w.heap.size + 1, 1, none⟩ (.slice (some ⟨g2, 0, none⟩) 1 c2)) g2 c2 [.iface 176 (ptr wp.heap.size)] := HP.out.ranged.1.push (by simp; omega) HP.out.ranged.2 ((((Ch.refl _ _).alloc _).drew).drew).drew hgrow8 (hat8.imp id (fun e => by simp; omega)) hown8
                       have ch8 : Ch (fun _ => False) (wp.setCell ⟨w.heap.size + 1, 1, none⟩ (.slice (some ⟨g', 0, none⟩) 0 c')) ((((wp.setCell ⟨w.heap.size + 1, 1, none⟩ (.slice (some ⟨g', 0, none⟩) 0 c')).alloc (.cells #[.iface u0 x0, .iface u x] 178)).alloc (.cells #[.iface 176 (ptr wp.heap.size)] 129)).drew.drew.drew) := (((((Ch.refl _ _).alloc _).alloc _).drew).drew).drew
                       have d8 : w8.cell? ⟨w.heap.size + 1, 1, none⟩ = some (.slice (some ⟨g', 0, none⟩) 0 c') := hgrow8.cell (ch8.cell_some HP.out.cut.c1 id) (by intro e; exact pne (by injection e with e; exact e.symm))
                       have f8 : w8.frozen? ⟨w.heap.size + 1, 1, none⟩ = false := (hgrow8.frozen_far ⟨w.heap.size + 1, 1, none⟩ (by simp; omega) (by intro e; exact pne (by injection e with e; exact e.symm))).trans ((ch8.frozen (p := ⟨w.heap.size + 1, 1, none⟩) HP.out.cut.lt id).trans HP.out.cut.f1)
                       clear ch8
                       have HPUSH := Lib.hid hpush
                       clear hown8 hgrow8 hat8 hlt8 hpush HP)
          go_roundg n
          case measure => omega
          case rel => exact ⟨_, _, _, _, false, _, rfl, HGO.out, HPUSH.out⟩
  · intro a' w' hdone
    obtain ⟨⟨g, c, us, hset⟩, hd⟩ := hdone
    obtain ⟨u1, hd⟩ := hd
    obtain ⟨u5, hd⟩ := hd
    obtain ⟨u6, hd⟩ := hd
    obtain ⟨u7, hd⟩ := hd
    obtain ⟨u8, hd⟩ := hd
    obtain ⟨u9, hd⟩ := hd
    obtain ⟨u10, hd⟩ := hd
    obtain ⟨u11, hd⟩ := hd
    obtain ⟨u12, hd⟩ := hd
    obtain ⟨u13, hd⟩ := hd
    obtain ⟨u14, hd⟩ := hd
    obtain ⟨u15, hd⟩ := hd
    obtain ⟨u16, hd⟩ := hd
    obtain ⟨u17, hd⟩ := hd
    obtain ⟨u18, hd⟩ := hd
    obtain ⟨u19, hd⟩ := hd
    obtain ⟨u20, hd⟩ := hd
    obtain ⟨u21, hd⟩ := hd
    obtain ⟨u22, hd⟩ := hd
    obtain ⟨u23, hd⟩ := hd
    obtain ⟨u24, hd⟩ := hd
    obtain ⟨u25, hd⟩ := hd
    obtain ⟨u26, hd⟩ := hd
    obtain ⟨u27, hd⟩ := hd
    obtain ⟨u28, hd⟩ := hd
    obtain ⟨u29, hd⟩ := hd
    obtain ⟨u30, hd⟩ := hd
    obtain ⟨u31, hd⟩ := hd
    obtain ⟨u32, hd⟩ := hd
    obtain ⟨u33, hd⟩ := hd
    obtain ⟨u34, hd⟩ := hd
    obtain ⟨u35, hd⟩ := hd
    obtain ⟨u36, hd⟩ := hd
    obtain ⟨u37, hd⟩ := hd
    obtain ⟨u38, hd⟩ := hd
    obtain ⟨u39, hd⟩ := hd
    obtain ⟨u40, hd⟩ := hd
    obtain ⟨u41, hd⟩ := hd
    obtain ⟨u42, hd⟩ := hd
    obtain ⟨u43, hd⟩ := hd
    obtain ⟨u44, hd⟩ := hd
    obtain ⟨u45, hd⟩ := hd
    obtain ⟨u46, hd⟩ := hd
    obtain ⟨u47, hd⟩ := hd
    obtain ⟨u48, hd⟩ := hd
    obtain ⟨u49, hd⟩ := hd
    obtain ⟨u50, hd⟩ := hd
    obtain ⟨u51, hd⟩ := hd
    obtain ⟨u52, hd⟩ := hd
    obtain ⟨u53, hd⟩ := hd
    obtain ⟨u54, hd⟩ := hd
    obtain ⟨u55, hd⟩ := hd
    obtain ⟨u56, hd⟩ := hd
    obtain ⟨u57, hd⟩ := hd
    obtain ⟨u58, hd⟩ := hd
    obtain ⟨u59, hd⟩ := hd
    obtain ⟨u60, hd⟩ := hd
    obtain ⟨u61, hd⟩ := hd
    obtain ⟨u62, hd⟩ := hd
    obtain ⟨u63, hd⟩ := hd
    obtain ⟨u64, hd⟩ := hd
    obtain ⟨u65, hd⟩ := hd
    obtain ⟨u66, hd⟩ := hd
    obtain ⟨u67, hd⟩ := hd
    obtain ⟨u68, hd⟩ := hd
    obtain ⟨u69, hd⟩ := hd
    obtain ⟨u70, hd⟩ := hd
    obtain ⟨u71, hd⟩ := hd
    obtain ⟨u72, hd⟩ := hd
    obtain ⟨u73, hd⟩ := hd
    obtain ⟨u74, hd⟩ := hd
    obtain ⟨u75, hd⟩ := hd
    obtain ⟨u76, hd⟩ := hd
    obtain ⟨u77, hd⟩ := hd
    obtain ⟨u78, hd⟩ := hd
    obtain ⟨u79, hd⟩ := hd
    obtain ⟨u80, hd⟩ := hd
    obtain ⟨u81, hd⟩ := hd
    obtain ⟨u82, hd⟩ := hd
    obtain ⟨u83, hd⟩ := hd
    obtain ⟨u84, hd⟩ := hd
    obtain ⟨u85, hd⟩ := hd
    obtain ⟨u86, hd⟩ := hd
    obtain ⟨u87, hd⟩ := hd
    obtain ⟨u88, hd⟩ := hd
    obtain ⟨u89, hd⟩ := hd
    obtain ⟨u90, hd⟩ := hd
    obtain ⟨u91, hd⟩ := hd
    obtain ⟨u92, hd⟩ := hd
    obtain ⟨u93, hd⟩ := hd
    obtain ⟨u94, hd⟩ := hd
    obtain ⟨u95, hd⟩ := hd
    obtain ⟨u96, hd⟩ := hd
    obtain ⟨u97, hd⟩ := hd
    obtain ⟨u98, hd⟩ := hd
    obtain ⟨u99, hd⟩ := hd
    obtain ⟨u100, hd⟩ := hd
    obtain ⟨u101, hd⟩ := hd
    obtain ⟨u102, hd⟩ := hd
    obtain ⟨u103, hd⟩ := hd
    obtain ⟨u104, hd⟩ := hd
    obtain ⟨u105, hd⟩ := hd
    obtain ⟨u106, hd⟩ := hd
    obtain ⟨u107, hd⟩ := hd
    obtain ⟨u108, hd⟩ := hd
    obtain ⟨u109, hd⟩ := hd
    obtain ⟨u110, hd⟩ := hd
    obtain ⟨u111, hd⟩ := hd
    obtain ⟨u112, hd⟩ := hd
    obtain ⟨u113, hd⟩ := hd
    obtain ⟨u114, hd⟩ := hd
    obtain ⟨u115, hd⟩ := hd
    obtain ⟨u116, hd⟩ := hd
    obtain ⟨u117, hd⟩ := hd
    obtain ⟨u118, hd⟩ := hd
    obtain ⟨u119, hd⟩ := hd
    obtain ⟨u120, hd⟩ := hd
    obtain ⟨u121, hd⟩ := hd
    obtain ⟨u122, hd⟩ := hd
    obtain ⟨u123, hd⟩ := hd
    obtain ⟨u124, hd⟩ := hd
    obtain ⟨u125, hd⟩ := hd
    obtain ⟨u126, hd⟩ := hd
    subst hd
    have HSET := Lib.hid hset
    clear hset
    go_wp2_with fail
    simp only [Exit.jump]
    go_ret
    exact ⟨_, rfl, HSET.out.cls, HSET.out.scan, HSET.out.ch⟩

end Go.Proofs.YtkbdngcbifonkaaFmt
