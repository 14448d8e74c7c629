/-
  The tokens of a text: the manual: numerals, signs, the next token.
-/
import Derived.Test.YtbgjjbffpckimaaGreatDoorQk
namespace Go.Proofs.YtbgjjbffpckimaaGreatDoor
set_option linter.all false
open Go.RowKit

/-- A numeral, but for what stands behind it. -/
def numQ (r : Bs) : Rz Bs := if r.take 2 = [48, 120] then hexP (r.drop 2) else if r.take 2 = [48, 88] then .no 2 else decP r
/-- A numeral as a token. -/
def numT (r : Bs) : Rz Tok := match numP r with
  | .ok x r' => .ok ⟨4, x, r.take (r.length - r'.length)⟩ r'
  | .no k => .no k
theorem numP_eq (r : Bs) : numP r = match numQ r with
  | .ok x r' => if numEnd r' then .ok x r' else .no 2
  | .no k => .no k := rfl
/-- What is read of a numeral. -/
def NqPost (p : Nat) (s : ByteArray) (r : Bs) (B : Nat) (L : Int) (w : World) (r' : Bs) : Prop :=
  ∃ x f, Blk w B 4 x f L L ∧ ((∃ y, numQ r = .ok y r' ∧ x = ⟨y.toArray⟩ ∧ Ls w p s r' 0) ∨ (numQ r = .no 2 ∧ Ls w p s r' 2))
/-- .. and what stands behind it is looked at. -/
def NrPost (p : Nat) (s : ByteArray) (r : Bs) (B : Nat) (L : Int) (w : World) (r' : Bs) : Prop :=
  ∃ x f, Blk w B 4 x f L L ∧ ((∃ y, numP r = .ok y r' ∧ x = ⟨y.toArray⟩ ∧ Ls w p s r' 0) ∨ (numP r = .no 2 ∧ Ls w p s r' 2))
theorem NqPost.ls {p : Nat} {s : ByteArray} {r : Bs} {B : Nat} {L : Int} {w : World} {r' : Bs} (h : NqPost p s r B L w r') : ∃ cd, Ls w p s r' cd ∧ (cd = 0 ∨ cd = 2) := by
  obtain ⟨x, f, _, ⟨y, _, _, hl⟩ | ⟨_, hl⟩⟩ := h
  · exact ⟨0, hl, .inl rfl⟩
  · exact ⟨2, hl, .inr rfl⟩
theorem NqPost.keep {p : Nat} {s : ByteArray} {r : Bs} {B : Nat} {L : Int} {w w' : World} {r' : Bs} (h : NqPost p s r B L w r') (hc : Ch (fun _ => False) w w') : NqPost p s r B L w' r' := by
  obtain ⟨x, f, hb, ⟨y, hq, hx, hl⟩ | ⟨hq, hl⟩⟩ := h
  · exact ⟨x, f, hb.keep hc id, .inl ⟨y, hq, hx, hl.moved hc⟩⟩
  · exact ⟨x, f, hb.keep hc id, .inr ⟨hq, hl.moved hc⟩⟩
theorem NqPost.fine {p : Nat} {s : ByteArray} {r : Bs} {B : Nat} {L : Int} {w : World} {r' : Bs} (h : NqPost p s r B L w r') (he : numEnd r' = true) : NrPost p s r B L w r' := by
  obtain ⟨x, f, hb, ⟨y, hq, hx, hl⟩ | ⟨hq, hl⟩⟩ := h
  · exact ⟨x, f, hb, .inl ⟨y, by rw [numP_eq, hq]; dsimp only; rw [if_pos he], hx, hl⟩⟩
  · exact ⟨x, f, hb, .inr ⟨by rw [numP_eq, hq], hl⟩⟩
theorem NqPost.bad {p : Nat} {s : ByteArray} {r : Bs} {B : Nat} {L : Int} {w w' : World} {r' : Bs} {cd : Int} (h : NqPost p s r B L w r') (he : numEnd r' = false) (hc : Ch (· = p) w w') (hpB : p ≠ B) (hcd : cd = 0 ∨ cd = 2) (hl : Ls w' p s r' (tl cd 2)) : NrPost p s r B L w' r' := by
  have hl2 : Ls w' p s r' 2 := by
    rcases hcd with rfl | rfl
    · exact hl
    · exact hl
  obtain ⟨x, f, hb, ⟨y, hq, hx, _⟩ | ⟨hq, _⟩⟩ := h
  · exact ⟨x, f, hb.keep hc (fun e => hpB e.symm), .inr ⟨by rw [numP_eq, hq]; dsimp only; rw [if_neg (by rw [he]; decide)], hl2⟩⟩
  · exact ⟨x, f, hb.keep hc (fun e => hpB e.symm), .inr ⟨by rw [numP_eq, hq], hl2⟩⟩
theorem take2_hb {r : Bs} {a b : UInt8} (ha : a ≠ 0) (hb0 : b ≠ 0) : r.take 2 = [a, b] ↔ hb r = a.toNat ∧ hb (r.drop 1) = b.toNat := by
  rw [hb_is ha, hb_is hb0]
  match r with
  | [] => simp
  | [c] => simp
  | c :: d :: t => simp
theorem numEnd_hb (r : Bs) : (!numEnd r) = (nDec (hb r) || nLet (hb r) || hb r == 46) := by
  cases r with
  | nil => rfl
  | cons c t =>
    show (!!(isDec c || isLet c || c == 46)) = (isDec c || isLet c || c.toNat == 46)
    have e : (c == 46) = (c.toNat == 46) := by
      rw [Bool.eq_iff_iff, beq_iff_eq, beq_iff_eq]
      exact ⟨fun h => by rw [h]; rfl, fun h => UInt8.toNat_inj.1 h⟩
    rw [Bool.not_not, e]
theorem hz_nq {p : Nat} {s : ByteArray} {r : Bs} {w w' : World} {e : Ending} {cd : Int} (h : HzPost p s ((r.drop 2).takeWhile isHex) ((r.drop 2).dropWhile isHex) cd w e w') (hcd : (cd = 0 ∧ r.take 2 = [48, 120]) ∨ (cd = 2 ∧ r.take 2 = [48, 88])) :
    Ch (· = p) w w' ∧ ∃ f x, e = .returned (.tuple #[.float .f64 f, .string x]) ∧ ∃ r', ((∃ y, numQ r = .ok y r' ∧ x = ⟨y.toArray⟩ ∧ Ls w' p s r' 0) ∨ (numQ r = .no 2 ∧ Ls w' p s r' 2)) := by
  obtain ⟨hc, hl, f, he⟩ := h
  refine ⟨hc, f, _, he, (r.drop 2).dropWhile isHex, ?_⟩
  rcases hcd with ⟨rfl, ht⟩ | ⟨rfl, ht⟩
  · by_cases hg : 1 ≤ ((r.drop 2).takeWhile isHex).length ∧ ((r.drop 2).takeWhile isHex).length ≤ 12
    · rw [if_pos hg] at hl
      refine .inl ⟨(numeral (hexv ((r.drop 2).takeWhile isHex)) 0).getD [], ?_, ?_, hl⟩
      · unfold numQ
        rw [if_pos ht]
        unfold hexP
        rw [if_pos hg]
      · rw [List.take_of_length_le hg.2]
    · rw [if_neg hg] at hl
      refine .inr ⟨?_, hl⟩
      unfold numQ
      rw [if_pos ht]
      unfold hexP
      rw [if_neg hg]
  · refine .inr ⟨?_, ?_⟩
    · unfold numQ
      rw [if_neg (by rw [ht]; decide), if_pos ht]
    · split at hl
      · exact hl
      · exact hl
theorem ed_nq {p : Nat} {s : ByteArray} {r : Bs} {w w' : World} {e : Ending} (h : EdPost p s r w e w') (h1 : r.take 2 ≠ [48, 120]) (h2 : r.take 2 ≠ [48, 88]) :
    Ch (· = p) w w' ∧ ∃ f x, e = .returned (.tuple #[.float .f64 f, .string x]) ∧ ∃ r', ((∃ y, numQ r = .ok y r' ∧ x = ⟨y.toArray⟩ ∧ Ls w' p s r' 0) ∨ (numQ r = .no 2 ∧ Ls w' p s r' 2)) := by
  obtain ⟨hc, f, x, he, ⟨y, r', hd, hx, hl⟩ | ⟨r', hd, hl⟩⟩ := h
  · exact ⟨hc, f, x, he, r', .inl ⟨y, by unfold numQ; rw [if_neg h1, if_neg h2, hd], hx, hl⟩⟩
  · exact ⟨hc, f, x, he, r', .inr ⟨by unfold numQ; rw [if_neg h1, if_neg h2, hd], hl⟩⟩
theorem Blk.num {w : World} {B : Nat} {k : Int} {x : ByteArray} {f : Nat} {l1 l2 : Int} (h : Blk w B k x f l1 l2) (f' : Nat) (x' : ByteArray) : Blk ((w.setCell ⟨B, 2, none⟩ (.float .f64 f')).setCell ⟨B, 1, none⟩ (.string x')) B k x' f' l1 l2 := (h.set2 f').set1 x'
theorem ch_num (w : World) (B : Nat) (f' : Nat) (x' : ByteArray) : Ch (fun i => i = B) w ((w.setCell ⟨B, 2, none⟩ (.float .f64 f')).setCell ⟨B, 1, none⟩ (.string x')) :=
  ((Ch.refl (fun i => i = B) w).setCell (p := ⟨B, 2, none⟩) (fun _ => rfl) _).setCell (p := ⟨B, 1, none⟩) (fun _ => rfl) _

set_option maxRecDepth 100000 in
set_option maxHeartbeats 4000000 in
theorem number_calls {w : World} {p : Nat} {s : ByteArray} {r : Bs} (H : Hid (Ls w p s r 0)) :
    Calls Tryz.prog 53 #[ptr p] w (TzPost p s r (numT r) w) := by
  have hpl := H.out.lt
  go_enter Tryz.func53, Tryz.ntmps53
  go_wp2_with fail
  have hb0 := Blk.new w 0 ⟨#[]⟩ 0 0 0
  have hcw : Ch (fun _ => False) w (w.alloc (.cells #[.int .i64 0, .string ⟨#[]⟩, .float .f64 0, .int .i64 0, .int .i64 0] 42)) := (Ch.refl _ _).alloc _
  have hsz1 : (w.alloc (.cells #[.int .i64 0, .string ⟨#[]⟩, .float .f64 0, .int .i64 0, .int .i64 0] 42)).heap.size = w.heap.size + 1 := by simp
  generalize w.alloc (.cells #[.int .i64 0, .string ⟨#[]⟩, .float .f64 0, .int .i64 0, .int .i64 0] 42) = w0 at hb0 hcw hsz1 ⊢
  have HL0 := Lib.hid (H.out.moved hcw)
  have HCW := Lib.hid hcw
  have HB0 := Lib.hid hb0
  obtain ⟨L, hL⟩ : ∃ L, 1 + nl s.data.toList - nl r = L := ⟨_, rfl⟩
  have k2 := HL0.out.c2
  rw [hL] at k2
  have HLL := Lib.hid hL
  clear hb0 hcw hL H
  go_cut [3] from 5 (fun s3 wx => s3 = ptr (w.heap.size + 1) ∧ Ls wx p s r 0 ∧ Ch (· = p) w wx ∧ Blk wx (w.heap.size + 1) 4 ⟨#[]⟩ 0 L L ∧ Blk wx w.heap.size 0 ⟨#[]⟩ 0 0 0)
  case first =>
    have hstf := store_flt
    refine wp_region_noPanic ?_
    go_region_law (fail)
    all_goals refine NoPanic.normal ?_
    all_goals go_wp2_with fail
    all_goals go_meet
    all_goals have hcx : Ch (fun _ => False) w0 _ := (Ch.refl (fun _ => False) w0).alloc (.cells (tkV 4 ⟨#[]⟩ 0 L L) 42)
    all_goals have hbx := Blk.new w0 4 ⟨#[]⟩ 0 L L
    all_goals rw [hsz1] at hbx
    all_goals refine ⟨by rw [← hsz1], HL0.out.moved ?_, (HCW.out.trans ?_).mono fun _ _ h => h.elim, ?_, HB0.out.keep (T := fun _ => False) ?_ id⟩
    all_goals first | exact hcx | exact hcx.drew | exact hcx.drew.drew | exact hcx.drew.drew.drew | exact hbx | exact hbx.drew
  case rest =>
  obtain ⟨rfl, hl, hc, hb, ha⟩ := hcut
  have HL := Lib.hid hl
  have HC := Lib.hid hc
  have HB := Lib.hid hb
  have HA := Lib.hid ha
  clear hl hc hb ha k2 HL0 HB0 HCW
  obtain ⟨t, ht⟩ : ∃ t, (hb r == 48 && (hb (r.drop 1) == 120 || hb (r.drop 1) == 88)) = t := ⟨_, rfl⟩
  go_upto_region 2 with fail
  go_cut [26] from 5 (fun s26 wx => s26 = .bool t ∧ Ls wx p s r 0 ∧ Ch (· = p) w wx ∧ Blk wx (w.heap.size + 1) 4 ⟨#[]⟩ 0 L L ∧ Blk wx w.heap.size 0 ⟨#[]⟩ 0 0 0)
  case first =>
    generalize hx : hb r = x at ht
    generalize hy : hb (r.drop 1) = y at ht
    have HX : Hid ((hb (r.drop 0) : Int) = (x : Int)) := Lib.hid (by rw [List.drop_zero, hx])
    have HY : Hid ((hb (r.drop 1) : Int) = (y : Int)) := Lib.hid (by rw [hy])
    have hc0 : Ch (fun _ => False) wc wc := Ch.refl _ _
    have HF := Lib.hid hc0
    clear hx hy hc0
    cases h1 : (x == 48)
    · skip
      rw [h1, Bool.false_and] at ht
      have gx := beq_at (j := 48) (k := 48) rfl h1
      have HT := Lib.hid ht
      clear ht h1
      go_wp2_with fail
      refine (byteAt_at HL 0 (rfl) (by omega) (HX.out)).mono ?_
      rintro e wq1 ⟨rfl, hq1⟩
      have HL1 := Lib.hid (HL.out.moved hq1)
      have HF1 := Lib.hid (HF.out.trans hq1)
      clear hq1 HL HF
      simp only []
      go_wp2_with fail
      go_meet
      exact ⟨congrArg Value.bool HT.out, HL1.out, HC.out.trans (HF1.out.mono fun _ _ h => h.elim), HB.out.keep HF1.out id, HA.out.keep HF1.out id⟩
    · skip
      rw [h1, Bool.true_and] at ht
      have gx := beq_at (j := 48) (k := 48) rfl h1
      clear h1
      cases h2 : (y == 120)
      · skip
        rw [h2, Bool.false_or] at ht
        have gy := beq_at (j := 120) (k := 120) rfl h2
        have gz := beq_at (j := 88) (k := 88) rfl ht
        clear ht h2
        go_wp2_with fail
        refine (byteAt_at HL 0 (rfl) (by omega) (HX.out)).mono ?_
        rintro e wq2 ⟨rfl, hq2⟩
        have HL2 := Lib.hid (HL.out.moved hq2)
        have HF2 := Lib.hid (HF.out.trans hq2)
        clear hq2 HL HF
        simp only []
        go_wp2_with fail
        refine (byteAt_at HL2 1 (rfl) (by omega) (HY.out)).mono ?_
        rintro e wq3 ⟨rfl, hq3⟩
        have HL3 := Lib.hid (HL2.out.moved hq3)
        have HF3 := Lib.hid (HF2.out.trans hq3)
        clear hq3 HL2 HF2
        simp only []
        go_wp2_with fail
        refine (byteAt_at HL3 1 (rfl) (by omega) (HY.out)).mono ?_
        rintro e wq4 ⟨rfl, hq4⟩
        have HL4 := Lib.hid (HL3.out.moved hq4)
        have HF4 := Lib.hid (HF3.out.trans hq4)
        clear hq4 HL3 HF3
        simp only []
        go_wp2_with fail
        go_meet
        exact ⟨rfl, HL4.out, HC.out.trans (HF4.out.mono fun _ _ h => h.elim), HB.out.keep HF4.out id, HA.out.keep HF4.out id⟩
      · skip
        rw [h2, Bool.true_or] at ht
        have gy := beq_at (j := 120) (k := 120) rfl h2
        have HT := Lib.hid ht
        clear ht h2
        go_wp2_with fail
        refine (byteAt_at HL 0 (rfl) (by omega) (HX.out)).mono ?_
        rintro e wq5 ⟨rfl, hq5⟩
        have HL5 := Lib.hid (HL.out.moved hq5)
        have HF5 := Lib.hid (HF.out.trans hq5)
        clear hq5 HL HF
        simp only []
        go_wp2_with fail
        refine (byteAt_at HL5 1 (rfl) (by omega) (HY.out)).mono ?_
        rintro e wq6 ⟨rfl, hq6⟩
        have HL6 := Lib.hid (HL5.out.moved hq6)
        have HF6 := Lib.hid (HF5.out.trans hq6)
        clear hq6 HL5 HF5
        simp only []
        go_wp2_with fail
        go_meet
        exact ⟨congrArg Value.bool HT.out, HL6.out, HC.out.trans (HF6.out.mono fun _ _ h => h.elim), HB.out.keep HF6.out id, HA.out.keep HF6.out id⟩
  case rest =>
  obtain ⟨rfl, hl, hc, hb, ha⟩ := hcut
  clear HL HC HB HA
  have HL := Lib.hid hl
  have HC := Lib.hid hc
  have HB := Lib.hid hb
  have HA := Lib.hid ha
  clear hl hc hb ha
  go_upto_if 26 with fail
  go_cut [] from 5 (fun wx => ∃ r1, NqPost p s r (w.heap.size + 1) L wx r1 ∧ Ch (· = p) w wx ∧ Blk wx w.heap.size 0 ⟨#[]⟩ 0 0 0)
  case first =>
    cases t
    · skip
      have h1 : r.take 2 ≠ [48, 120] := fun h => by
        have h2 := (take2_hb (by decide) (by decide)).1 h
        rw [h2.1, h2.2] at ht
        cases ht
      have h2 : r.take 2 ≠ [48, 88] := fun h => by
        have h2 := (take2_hb (by decide) (by decide)).1 h
        rw [h2.1, h2.2] at ht
        cases ht
      have H1 := Lib.hid h1
      have H2 := Lib.hid h2
      clear ht h1 h2
      go_wp2_with fail
      refine (decimal_calls HL).mono ?_
      rintro e wx hx
      obtain ⟨hcx, f, x, rfl, r1, hr⟩ := ed_nq hx H1.out H2.out
      clear hx
      have HR := Lib.hid hr
      have HCx := Lib.hid (HC.out.trans hcx)
      have HBx := Lib.hid (HB.out.keep hcx (by omega))
      have HAx := Lib.hid (HA.out.keep hcx (by omega))
      obtain ⟨b0, b1, b2, b3, b4⟩ := HBx.out.cells
      have bz := HBx.out.fz
      have hstf := store_flt
      clear hr hcx
      simp only []
      go_wp2_with fail
      go_meet
      have hcn := ch_num wx (w.heap.size + 1) f x
      refine ⟨r1, ⟨x, f, HBx.out.num f x, ?_⟩, HCx.out.trans' hcn (fun i hi h => by omega), HAx.out.keep hcn (by omega)⟩
      rcases HR.out with ⟨y, h1, h2, h3⟩ | ⟨h1, h2⟩
      · exact .inl ⟨y, h1, h2, h3.keep hcn (by omega)⟩
      · exact .inr ⟨h1, h2.keep hcn (by omega)⟩
    · skip
      have h48 : hb r = 48 := by
        cases h : (hb r == 48)
        · rw [h] at ht; cases ht
        · exact eq_of_beq h
      have hlen : 2 ≤ r.length := by
        rw [h48] at ht
        match r with
        | [] => cases ht
        | [c] => cases ht
        | c :: d :: t => simp
      generalize hy : hb (r.drop 1) = y at ht
      have HY : Hid ((hb (r.drop 1) : Int) = (y : Int)) := Lib.hid (by rw [hy])
      cases h88 : (y == 88)
      · skip
        have gy := beq_at (j := 88) (k := 88) rfl h88
        rw [h88, Bool.or_false] at ht
        have ht2 : r.take 2 = [48, 120] := (take2_hb (by decide) (by decide)).2 ⟨h48, by rw [hy]; exact (show hb r = 48 ∧ y = 120 by simpa using ht).2⟩
        have HT := Lib.hid ht2
        clear ht ht2 h48 h88 hy
        go_wp2_with fail
        have HK : Hid (Ch (· = p) wc wc) := Lib.hid (Ch.refl _ _)
        refine (byteAt_at HL 1 (rfl) (by omega) (HY.out)).mono ?_
        rintro e wq7 ⟨rfl, hq7⟩
        have HL7 := Lib.hid (HL.out.moved hq7)
        have HC7 := Lib.hid (HK.out.trans (hq7.mono fun _ _ h => h.elim))
        clear hq7 HL HK
        simp only []
        go_wp2_with fail
        refine (steps_at HL7 2 (rfl) (hlen)).mono ?_
        rintro e wq8 ⟨rfl, hl8, hq8⟩
        have HL8 := Lib.hid hl8
        have HC8 := Lib.hid (HC7.out.trans hq8)
        clear hq8 HL7 HC7 hl8
        simp only []
        go_wp2_with fail
        skip
        refine (hexadecimal_calls HL8).mono ?_
        rintro e wx hx
        obtain ⟨hcx, f, x, rfl, r1, hr⟩ := hz_nq hx (.inl ⟨rfl, HT.out⟩)
        clear hx
        skip
        have HR := Lib.hid hr
        have HKx := Lib.hid (HC8.out.trans hcx)
        have HCx := Lib.hid (HC.out.trans HKx.out)
        have HBx := Lib.hid (HB.out.keep HKx.out (by omega))
        have HAx := Lib.hid (HA.out.keep HKx.out (by omega))
        obtain ⟨b0, b1, b2, b3, b4⟩ := HBx.out.cells
        have bz := HBx.out.fz
        have hstf := store_flt
        clear hr hcx
        simp only []
        go_wp2_with fail
        go_meet
        have hcn := ch_num wx (w.heap.size + 1) f x
        refine ⟨r1, ⟨x, f, HBx.out.num f x, ?_⟩, HCx.out.trans' hcn (fun i hi h => by omega), HAx.out.keep hcn (by omega)⟩
        rcases HR.out with ⟨y, h1, h2, h3⟩ | ⟨h1, h2⟩
        · exact .inl ⟨y, h1, h2, h3.keep hcn (by omega)⟩
        · exact .inr ⟨h1, h2.keep hcn (by omega)⟩
      · skip
        have gy := beq_at (j := 88) (k := 88) rfl h88
        have ht2 : r.take 2 = [48, 88] := (take2_hb (by decide) (by decide)).2 ⟨h48, by rw [hy]; exact eq_of_beq h88⟩
        have HT := Lib.hid ht2
        clear ht ht2 h48 h88 hy
        go_wp2_with fail
        have HK : Hid (Ch (· = p) wc wc) := Lib.hid (Ch.refl _ _)
        refine (byteAt_at HL 1 (rfl) (by omega) (HY.out)).mono ?_
        rintro e wq9 ⟨rfl, hq9⟩
        have HL9 := Lib.hid (HL.out.moved hq9)
        have HC9 := Lib.hid (HK.out.trans (hq9.mono fun _ _ h => h.elim))
        clear hq9 HL HK
        simp only []
        go_wp2_with fail
        refine (tell_calls (v := 2) HL9).mono ?_
        rintro e wq10 ⟨rfl, hl10, hq10⟩
        have HL10 := Lib.hid hl10
        have HC10 := Lib.hid (HC9.out.trans hq10)
        clear hq10 HL9 HC9 hl10
        simp only []
        go_wp2_with fail
        refine (steps_at HL10 2 (rfl) (hlen)).mono ?_
        rintro e wq11 ⟨rfl, hl11, hq11⟩
        have HL11 := Lib.hid hl11
        have HC11 := Lib.hid (HC10.out.trans hq11)
        clear hq11 HL10 HC10 hl11
        simp only []
        go_wp2_with fail
        refine (hexadecimal_calls HL11).mono ?_
        rintro e wx hx
        obtain ⟨hcx, f, x, rfl, r1, hr⟩ := hz_nq hx (.inr ⟨rfl, HT.out⟩)
        clear hx
        have HR := Lib.hid hr
        have HKx := Lib.hid (HC11.out.trans hcx)
        have HCx := Lib.hid (HC.out.trans HKx.out)
        have HBx := Lib.hid (HB.out.keep HKx.out (by omega))
        have HAx := Lib.hid (HA.out.keep HKx.out (by omega))
        obtain ⟨b0, b1, b2, b3, b4⟩ := HBx.out.cells
        have bz := HBx.out.fz
        have hstf := store_flt
        clear hr hcx
        simp only []
        go_wp2_with fail
        go_meet
        have hcn := ch_num wx (w.heap.size + 1) f x
        refine ⟨r1, ⟨x, f, HBx.out.num f x, ?_⟩, HCx.out.trans' hcn (fun i hi h => by omega), HAx.out.keep hcn (by omega)⟩
        rcases HR.out with ⟨y, h1, h2, h3⟩ | ⟨h1, h2⟩
        · exact .inl ⟨y, h1, h2, h3.keep hcn (by omega)⟩
        · exact .inr ⟨h1, h2.keep hcn (by omega)⟩
  case rest =>
  obtain ⟨r1, hq, hc, ha⟩ := hcut
  clear HL HC HB HA ht
  obtain ⟨cd, hl, hcd⟩ := hq.ls
  have HQ := Lib.hid hq
  have HL := Lib.hid hl
  have HC := Lib.hid hc
  have HA := Lib.hid ha
  have HCD := Lib.hid hcd
  clear hl hc hq ha hcd
  obtain ⟨t, ht⟩ : ∃ t, (!numEnd r1) = t := ⟨_, rfl⟩
  have HTT := Lib.hid ht
  have hnb := numEnd_hb r1
  rw [ht] at hnb
  generalize hy : hb r1 = y at hnb
  have HY : Hid ((hb (r1.drop 0) : Int) = (y : Int)) := Lib.hid (by rw [List.drop_zero, hy])
  have HF : Hid (Ch (fun _ => False) wc wc) := Lib.hid (Ch.refl _ _)
  clear hy ht
  go_wp2_with fail
  refine (byteAt_at HL 0 (rfl) (by omega) (HY.out)).mono ?_
  rintro e wq ⟨rfl, hq⟩
  have HL2 := Lib.hid (HL.out.moved hq)
  have HC2 := Lib.hid (HC.out.trans (hq.mono fun _ _ h => h.elim))
  have HQ2 := Lib.hid (HQ.out.keep hq)
  have HA2 := Lib.hid (HA.out.keep hq id)
  clear hq HL HC HQ HA HF
  simp only []
  go_upto_region 9 with fail
  go_cut [59] from 5 (fun s59 wx => s59 = .bool t ∧ wx = wq)
  case first =>
    cases h1 : nDec y
    · skip
      rw [h1, Bool.false_or] at hnb
      cases h2 : nLet y
      · skip
        rw [h2, Bool.false_or] at hnb
        have gz := beq_at (j := 46) (k := 46) rfl hnb.symm
        clear hnb
        go_wp2_with fail
        refine (digit_calls (b := y)).mono ?_
        rintro e wd ⟨rfl, rfl⟩
        rw [h1]
        simp only []
        go_wp2_with fail
        refine (letter_calls (b := y)).mono ?_
        rintro e wd ⟨rfl, rfl⟩
        rw [h2]
        simp only []
        go_wp2_with fail
        go_meet
        exact ⟨rfl, rfl⟩
      · skip
        rw [h2, Bool.true_or] at hnb
        subst hnb
        go_wp2_with fail
        refine (digit_calls (b := y)).mono ?_
        rintro e wd ⟨rfl, rfl⟩
        rw [h1]
        simp only []
        go_wp2_with fail
        refine (letter_calls (b := y)).mono ?_
        rintro e wd ⟨rfl, rfl⟩
        rw [h2]
        simp only []
        go_wp2_with fail
        go_meet
        exact ⟨rfl, rfl⟩
    · skip
      rw [h1, Bool.true_or, Bool.true_or] at hnb
      subst hnb
      go_wp2_with fail
      refine (digit_calls (b := y)).mono ?_
      rintro e wd ⟨rfl, rfl⟩
      rw [h1]
      simp only []
      go_wp2_with fail
      go_meet
      exact ⟨rfl, rfl⟩
  case rest =>
  obtain ⟨rfl, rfl⟩ := hcut
  clear hnb
  go_upto_if 59 with fail
  go_cut [] from 5 (fun wx => NrPost p s r (w.heap.size + 1) L wx r1 ∧ Ch (· = p) w wx ∧ Blk wx w.heap.size 0 ⟨#[]⟩ 0 0 0)
  case first =>
    cases t
    · go_wp2_with fail
      go_meet
      exact ⟨HQ2.out.fine (by simpa using HTT.out), HC2.out, HA2.out⟩
    · go_wp2_with fail
      refine (tell_calls (v := 2) HL2).mono ?_
      rintro e wt ⟨rfl, hlt, hct⟩
      simp only []
      go_wp2_with fail
      go_meet
      exact ⟨HQ2.out.bad (by simpa using HTT.out) hct (by omega) HCD.out hlt, HC2.out.trans hct, HA2.out.keep hct (by omega)⟩
  case rest =>
  obtain ⟨⟨x, f, hb, hr⟩, hc, ha⟩ := hcut
  have HB3 := Lib.hid hb
  have HR3 := Lib.hid hr
  have HC3 := Lib.hid hc
  have HA3 := Lib.hid ha
  clear hr hc HL2 HC2 HA2 HQ2
  obtain ⟨b0, b1, b2, b3, b4⟩ := hb.cells
  obtain ⟨a0, a1, a2, a3, a4⟩ := ha.cells
  have bz := hb.fz
  have az := ha.fz
  have hstf := store_flt
  clear ha hb
  go_wp2_with fail
  refine bodyPost_ret (tok_ret rfl rfl (HA3.out.copied)) rfl ?_
  have hcF := ch_copied wc w.heap.size 4 x f L L
  refine ⟨HC3.out.trans' hcF (fun i hi h => by omega), ?_⟩
  rcases HR3.out with ⟨y, h1, h2, h3⟩ | ⟨h1, h3⟩
  · refine .inl ⟨_, r1, by unfold numT; rw [h1], ⟨f, L, ?_⟩, h3.keep hcF (by omega)⟩
    rw [HLL.out, h2]
    rfl
  · exact .inr ⟨2, r1, by unfold numT; rw [h1], .inr rfl, ⟨_, _, _, _, _, rfl⟩, h3.keep hcF (by omega)⟩
end Go.Proofs.YtbgjjbffpckimaaGreatDoor

namespace Go.Proofs.YtbgjjbffpckimaaGreatDoor
set_option linter.all false
open Go.RowKit

theorem ext_take {s x : ByteArray} {r : Bs} {i : Nat} (h : s.data.toList.drop i = r) : ((s.extract i (i + x.size)).toList == x.toList) = (x.data.toList.isPrefixOf r) := by
  have e1 : (s.extract i (i + x.size)).toList = r.take x.size := by
    rw [← h, ByteArray.toList_eq, ByteArray.data_extract, Array.toList_extract, List.extract_eq_take_drop]
    congr 1
    omega
  have e2 : x.toList = x.data.toList := ByteArray.toList_eq _
  have e3 : x.data.toList.length = x.size := Array.length_toList
  rw [e1, e2, Bool.eq_iff_iff, List.isPrefixOf_iff_prefix, List.prefix_iff_eq_take, beq_iff_eq, e3]
  exact ⟨fun h => h.symm, fun h => h.symm⟩
theorem short_no {s x : ByteArray} {r : Bs} {i : Nat} (h : s.data.toList.drop i = r) (hi : i ≤ s.size) (hl : ¬ i + x.size ≤ s.size) : x.data.toList.isPrefixOf r = false := by
  cases hb : x.data.toList.isPrefixOf r
  · rfl
  · have h1 := (List.isPrefixOf_iff_prefix.1 hb).length_le
    have h2 := drop_len h
    have e3 : x.data.toList.length = x.size := Array.length_toList
    omega

set_option maxRecDepth 100000 in
set_option maxHeartbeats 4000000 in
theorem starts_calls {w : World} {p : Nat} {s x : ByteArray} {r : Bs} {cd : Int} (H : Hid (Ls w p s r cd)) (hx : x.size ≤ 10) :
    Calls Tryz.prog 24 #[ptr p, .string x] w fun e w' => e = .returned (.bool (x.data.toList.isPrefixOf r)) ∧ Ch (fun _ => False) w w' := by
  obtain ⟨i, h1, h2, h3⟩ := H.out.c1
  have h0 := H.out.c0
  have hsz := H.out.sz
  have hw : IntKind.i64.wrap ((i : Int) + (x.size : Int)) = (i : Int) + (x.size : Int) := by rw [IntKind.wrap_i64]; omega
  have H2 := Lib.hid h2
  clear h2
  go_enter Tryz.func24, Tryz.ntmps24
  go_wp2_with fail
  by_cases hlt : i + x.size ≤ s.size
  · have g1 : (i : Int) + (x.size : Int) ≤ (s.size : Int) := by omega
    have g2 : (0 : Int) ≤ (i : Int) := by omega
    have g3 : (i : Int) ≤ (i : Int) + (x.size : Int) := by omega
    go_quiet (fail)
    go_wp2_with fail
    go_ret
    exact ⟨congrArg (fun b => Ending.returned (.bool b)) (ext_take H2.out), (Ch.refl _ _).drewN _⟩
  · have HLT := Lib.hid hlt
    have g1 : ¬ (i : Int) + (x.size : Int) ≤ (s.size : Int) := by omega
    go_quiet (fail)
    go_wp2_with fail
    go_ret
    exact ⟨by rw [short_no H2.out h3 HLT.out]; rfl, (Ch.refl _ _).drewN _⟩
theorem starts_at {w : World} {p : Nat} {s x : ByteArray} {r : Bs} {cd : Int} (H : Hid (Ls w p s r cd)) (y : Bs) {b : Bool} (hx : x = ⟨y.toArray⟩) (hy : y.length ≤ 10) (hb : y.isPrefixOf r = b) :
    Calls Tryz.prog 24 #[ptr p, .string x] w fun e w' => e = .returned (.bool b) ∧ Ch (fun _ => False) w w' := by
  subst hx
  subst hb
  refine (starts_calls H (show y.toArray.size ≤ 10 by simpa using hy)).mono fun e w' h => ?_
  simpa using h

def sgVals : Array Value := #[.string { data := #[46, 46, 46] }, .string { data := #[46, 46] }, .string { data := #[61, 61] }, .string { data := #[126, 61] }, .string { data := #[60, 61] }, .string { data := #[62, 61] }, .string { data := #[43] }, .string { data := #[45] }, .string { data := #[42] }, .string { data := #[47] }, .string { data := #[37] }, .string { data := #[94] }, .string { data := #[35] }, .string { data := #[60] }, .string { data := #[62] }, .string { data := #[61] }, .string { data := #[40] }, .string { data := #[41] }, .string { data := #[123] }, .string { data := #[125] }, .string { data := #[91] }, .string { data := #[93] }, .string { data := #[59] }, .string { data := #[58] }, .string { data := #[44] }, .string { data := #[46] }]
theorem sgVals_get : ∀ k : Nat, k < 26 → sgVals[k]? = some (.string ⟨(sgns.getD k []).toArray⟩) := by
  intro k hk
  rcases k with _|_|_|_|_|_|_|_|_|_|_|_|_|_|_|_|_|_|_|_|_|_|_|_|_|_|k <;> first | rfl | omega
theorem sgns_len : sgns.length = 26 := rfl
theorem sgns_lt : ∀ k : Nat, k < 26 → 1 ≤ (sgns.getD k []).length ∧ (sgns.getD k []).length ≤ 3 ∧ (10 : UInt8) ∉ sgns.getD k [] := by
  intro k hk
  rcases k with _|_|_|_|_|_|_|_|_|_|_|_|_|_|_|_|_|_|_|_|_|_|_|_|_|_|k <;> first | decide | omega

set_option maxRecDepth 100000 in
set_option maxHeartbeats 1000000 in
theorem signs_calls {w : World} : Calls Tryz.prog 71 #[] w fun e w' => e = .returned (.slice (some ⟨w.heap.size, 0, none⟩) 26 26) ∧ w' = w.alloc (.cells sgVals 9) := by
  go_enter Tryz.func71, Tryz.ntmps71
  go_wp2_with fail
  go_ret
  exact ⟨rfl, rfl⟩

theorem find_stop {r : Bs} {k : Nat} (hk : k < 26) (h : (sgns.getD k []).isPrefixOf r = true) : (sgns.drop k).find? (fun s => s.isPrefixOf r) = some (sgns.getD k []) := by
  have hl : k < sgns.length := hk
  rw [List.drop_eq_getElem_cons hl, List.find?_cons]
  have e : sgns.getD k [] = sgns[k] := by rw [List.getD_eq_getElem?_getD, List.getElem?_eq_getElem hl]; rfl
  rw [e] at h ⊢
  rw [h]
theorem find_on {r : Bs} {k : Nat} (hk : k < 26) (h : (sgns.getD k []).isPrefixOf r = false) : (sgns.drop k).find? (fun s => s.isPrefixOf r) = (sgns.drop (k + 1)).find? (fun s => s.isPrefixOf r) := by
  have hl : k < sgns.length := hk
  rw [List.drop_eq_getElem_cons hl, List.find?_cons]
  have e : sgns.getD k [] = sgns[k] := by rw [List.getD_eq_getElem?_getD, List.getElem?_eq_getElem hl]; rfl
  rw [e] at h
  rw [h]
/-- The two beginnings that are open. -/
def sgO (r : Bs) : Bool := [58, 58].isPrefixOf r || [91, 61].isPrefixOf r
theorem pre2 (a b : UInt8) (r : Bs) : [a, b].isPrefixOf r = true ↔ r.take 2 = [a, b] := by
  rw [List.isPrefixOf_iff_prefix, List.prefix_iff_eq_take]
  exact ⟨fun h => h.symm, fun h => h.symm⟩
theorem sgO_eq (r : Bs) : (r.take 2 = [58, 58] ∨ r.take 2 = [91, 61]) ↔ sgO r = true := by
  unfold sgO
  rw [Bool.or_eq_true, pre2, pre2]
def signT (r : Bs) : Rz Tok := (signP r).map fun x => ⟨3, x, x⟩
theorem signP_eq (r : Bs) : signP r = if sgO r then .no 2 else match sgns.find? (fun s => s.isPrefixOf r) with
    | some s => .ok s (r.drop s.length)
    | none => if r.head?.any (fun c => decide (126 < c.toNat)) then .no 2 else .no 1 := by
  unfold signP
  by_cases h : sgO r = true
  · rw [if_pos h, if_pos ((sgO_eq r).2 h)]
  · rw [if_neg h, if_neg (fun h1 => h ((sgO_eq r).1 h1))]
    rfl
def SgRel (p : Nat) (s : ByteArray) (r : Bs) (X A B : Nat) (L : Int) (n : Nat) (v25 : Value) (w0 wr : World) : Prop :=
  ∃ k : Nat, v25 = .int .i64 (k : Int) ∧ k ≤ 26 ∧ sgns.find? (fun s => s.isPrefixOf r) = (sgns.drop k).find? (fun s => s.isPrefixOf r) ∧ Ls wr p s r (cz (!sgO r)) ∧ Ch (· = p) w0 wr ∧ Blk wr B 3 ⟨#[]⟩ 0 L L ∧ Blk wr A 0 ⟨#[]⟩ 0 0 0 ∧ wr.heap[X]? = some (.cells sgVals 9 (0, 0)) ∧ n = 26 - k

set_option maxRecDepth 100000 in
set_option maxHeartbeats 4000000 in
theorem sign_calls {w : World} {p : Nat} {s : ByteArray} {c : UInt8} {tl0 : Bs} (H : Hid (Ls w p s (c :: tl0) 0)) :
    Calls Tryz.prog 55 #[ptr p] w (TzPost p s (c :: tl0) (signT (c :: tl0)) w) := by
  have hpl := H.out.lt
  go_enter Tryz.func55, Tryz.ntmps55
  go_wp2_with fail
  have hb0 := Blk.new w 0 ⟨#[]⟩ 0 0 0
  have hcw : Ch (fun _ => False) w (w.alloc (.cells #[.int .i64 0, .string ⟨#[]⟩, .float .f64 0, .int .i64 0, .int .i64 0] 42)) := (Ch.refl _ _).alloc _
  have hsz1 : (w.alloc (.cells #[.int .i64 0, .string ⟨#[]⟩, .float .f64 0, .int .i64 0, .int .i64 0] 42)).heap.size = w.heap.size + 1 := by simp
  generalize w.alloc (.cells #[.int .i64 0, .string ⟨#[]⟩, .float .f64 0, .int .i64 0, .int .i64 0] 42) = w0 at hb0 hcw hsz1 ⊢
  generalize hr : c :: tl0 = r at H
  have HRC := Lib.hid hr
  have HL0 := Lib.hid (H.out.moved hcw)
  have HCW := Lib.hid hcw
  have HB0 := Lib.hid hb0
  obtain ⟨L, hL⟩ : ∃ L, 1 + nl s.data.toList - nl r = L := ⟨_, rfl⟩
  have k2 := HL0.out.c2
  rw [hL] at k2
  have HLL := Lib.hid hL
  clear hb0 hcw hL H hr
  go_cut [3] from 6 (fun s3 wx => s3 = ptr (w.heap.size + 1) ∧ Ls wx p s r 0 ∧ Ch (· = p) w wx ∧ Blk wx (w.heap.size + 1) 3 ⟨#[]⟩ 0 L L ∧ Blk wx w.heap.size 0 ⟨#[]⟩ 0 0 0)
  case first =>
    have hstf := store_flt
    refine wp_region_noPanic ?_
    go_region_law (fail)
    all_goals refine NoPanic.normal ?_
    all_goals go_wp2_with fail
    all_goals go_meet
    all_goals have hcx : Ch (fun _ => False) w0 _ := (Ch.refl (fun _ => False) w0).alloc (.cells (tkV 3 ⟨#[]⟩ 0 L L) 42)
    all_goals have hbx := Blk.new w0 3 ⟨#[]⟩ 0 L L
    all_goals rw [hsz1] at hbx
    all_goals refine ⟨by rw [← hsz1], HL0.out.moved ?_, (HCW.out.trans ?_).mono fun _ _ h => h.elim, ?_, HB0.out.keep (T := fun _ => False) ?_ id⟩
    all_goals first | exact hcx | exact hcx.drew | exact hcx.drew.drew | exact hcx.drew.drew.drew | exact hbx | exact hbx.drew
  case rest =>
  obtain ⟨rfl, hl, hc, hb, ha⟩ := hcut
  have HL := Lib.hid hl
  have HC := Lib.hid hc
  have HB := Lib.hid hb
  have HA := Lib.hid ha
  clear hl hc hb ha k2 HL0 HB0 HCW
  obtain ⟨t, ht⟩ : ∃ t, sgO r = t := ⟨_, rfl⟩
  go_upto_region 2 with fail
  go_cut [20] from 6 (fun s20 wx => s20 = .bool t ∧ Ls wx p s r 0 ∧ Ch (· = p) w wx ∧ Blk wx (w.heap.size + 1) 3 ⟨#[]⟩ 0 L L ∧ Blk wx w.heap.size 0 ⟨#[]⟩ 0 0 0)
  case first =>
    unfold sgO at ht
    cases h1 : [58, 58].isPrefixOf r
    · rw [h1, Bool.false_or] at ht
      have HH1 := Lib.hid h1
      have HH2 := Lib.hid ht
      clear h1 ht
      go_wp2_with fail
      refine (starts_at HL [58, 58] rfl (by decide) HH1.out).mono ?_
      rintro e wa ⟨rfl, hca⟩
      have HLa := Lib.hid (HL.out.moved hca)
      have HCa := Lib.hid hca
      clear hca
      simp only []
      go_wp2_with fail
      refine (starts_at HLa [91, 61] rfl (by decide) HH2.out).mono ?_
      rintro e wb ⟨rfl, hcb⟩
      have HCb := Lib.hid (HCa.out.trans hcb)
      clear hcb
      simp only []
      go_wp2_with fail
      go_meet
      exact ⟨rfl, HL.out.moved HCb.out, HC.out.trans (HCb.out.mono fun _ _ h => h.elim), HB.out.keep HCb.out id, HA.out.keep HCb.out id⟩
    · rw [h1, Bool.true_or] at ht
      subst ht
      have HH1 := Lib.hid h1
      clear h1
      go_wp2_with fail
      refine (starts_at HL [58, 58] rfl (by decide) HH1.out).mono ?_
      rintro e wa ⟨rfl, hca⟩
      have HCa := Lib.hid hca
      clear hca
      simp only []
      go_wp2_with fail
      go_meet
      exact ⟨rfl, HL.out.moved HCa.out, HC.out.trans (HCa.out.mono fun _ _ h => h.elim), HB.out.keep HCa.out id, HA.out.keep HCa.out id⟩
  case rest =>
  obtain ⟨rfl, hl, hc, hb, ha⟩ := hcut
  clear HL HC HB HA
  have HL := Lib.hid hl
  have HC := Lib.hid hc
  have HB := Lib.hid hb
  have HA := Lib.hid ha
  have HT := Lib.hid ht
  clear hl hc hb ha ht
  go_upto_if 20 with fail
  go_cut [] from 6 (fun wx => Ls wx p s r (cz (!sgO r)) ∧ Ch (· = p) w wx ∧ Blk wx (w.heap.size + 1) 3 ⟨#[]⟩ 0 L L ∧ Blk wx w.heap.size 0 ⟨#[]⟩ 0 0 0)
  case first =>
    cases t
    · go_wp2_with fail
      go_meet
      exact ⟨by rw [HT.out]; exact HL.out, HC.out, HB.out, HA.out⟩
    · go_wp2_with fail
      refine (tell_calls (v := 2) HL).mono ?_
      rintro e wt ⟨rfl, hlt, hct⟩
      simp only []
      go_wp2_with fail
      go_meet
      exact ⟨by rw [HT.out]; exact hlt, HC.out.trans hct, HB.out.keep hct (by omega), HA.out.keep hct (by omega)⟩
  case rest =>
  obtain ⟨hl, hc, hb, ha⟩ := hcut
  clear HL HC HB HA HT
  have HL := Lib.hid hl
  have HC := Lib.hid hc
  have HB := Lib.hid hb
  have HA := Lib.hid ha
  clear hl hc hb ha
  go_wp2_with fail
  refine signs_calls.mono ?_
  rintro e w1 ⟨rfl, rfl⟩
  have hh : (wc.alloc (.cells sgVals 9)).heap[wc.heap.size]? = some (.cells sgVals 9 (0, 0)) := heap_alloc_new wc _
  have hcv : Ch (fun _ => False) wc (wc.alloc (.cells sgVals 9)) := (Ch.refl _ _).alloc _
  have hXp : p < wc.heap.size := HL.out.lt
  have hXB : w.heap.size + 1 < wc.heap.size := HB.out.lt
  have HL1 := Lib.hid (HL.out.moved hcv)
  have HC1 := Lib.hid (HC.out.trans (hcv.mono fun _ _ h => h.elim))
  have HB1 := Lib.hid (HB.out.keep hcv id)
  have HA1 := Lib.hid (HA.out.keep hcv id)
  generalize wc.alloc (.cells sgVals 9) = w1 at hh hcv HL1 HC1 HB1 HA1 ⊢
  generalize wc.heap.size = X at hh hXp hXB ⊢
  have HH := Lib.hid hh
  clear hh hcv HL HC HB HA
  simp only []
  go_wp2_with fail
  go_loopg [25] 26 (fun n v25 wr => SgRel p s r X w.heap.size (w.heap.size + 1) L n v25 w wr)
  case atStart => exact ⟨0, rfl, by omega, rfl, HL1.out, HC1.out, HB1.out, HA1.out, HH.out, rfl⟩
  case round =>
    obtain ⟨k, rfl, hk, hf, hl, hc, hb, ha, hx, hn⟩ := hrel
    have HF := Lib.hid hf
    have HL := Lib.hid hl
    have HC := Lib.hid hc
    have HB := Lib.hid hb
    have HA := Lib.hid ha
    have HX := Lib.hid hx
    have HN := Lib.hid hn
    clear hf hl hc hb ha hx hn HL1 HC1 HB1 HA1 HH
    by_cases hlt : k < 26
    · have c0 : wr.cell? ⟨X, k, none⟩ = some (.string ⟨(sgns.getD k []).toArray⟩) := by rw [Lib.cell_of_heap HX.out]; exact sgVals_get k hlt
      have hsl := sgns_lt k hlt
      obtain ⟨y, hy⟩ : ∃ y, sgns.getD k [] = y := ⟨_, rfl⟩
      rw [hy] at c0 hsl
      have HY := Lib.hid hy
      clear hy
      cases hq : y.isPrefixOf r with
      | true =>
        have HQ := Lib.hid hq
        have hyl : y.length ≤ r.length := (List.isPrefixOf_iff_prefix.1 hq).length_le
        have HYL := Lib.hid hyl
        clear hq hyl
        go_wp2_with fail
        refine (starts_at HL y rfl (by omega) HQ.out).mono ?_
        rintro e wa ⟨rfl, hca⟩
        have HLa := Lib.hid (HL.out.moved hca)
        have HCa := Lib.hid (HC.out.trans (hca.mono fun _ _ h => h.elim))
        have HBa := Lib.hid (HB.out.keep hca id)
        have HAa := Lib.hid (HA.out.keep hca id)
        clear hca HL HC HB HA c0
        simp only []
        obtain ⟨b0, b1, b2, b3, b4⟩ := HBa.out.cells
        have bz := HBa.out.fz
        go_wp2_with fail
        have hcb : Ch (fun i => i = w.heap.size + 1) wa (wa.setCell ⟨w.heap.size + 1, 1, none⟩ (.string ⟨y.toArray⟩)) := (Ch.refl (fun i => i = w.heap.size + 1) wa).setCell (p := ⟨w.heap.size + 1, 1, none⟩) (fun _ => rfl) _
        have HLb := Lib.hid (HLa.out.keep hcb (by omega))
        have HCb := Lib.hid (HCa.out.trans' hcb (fun i hi h => by omega))
        have HBb := Lib.hid (HBa.out.set1 ⟨y.toArray⟩)
        have HAb := Lib.hid (HAa.out.keep hcb (by omega))
        clear hcb HLa HCa HBa HAa b0 b1 b2 b3 b4 bz
        refine (steps_at HLb y.length (by simp) HYL.out).mono ?_
        rintro e wb ⟨rfl, hlb, hcb⟩
        have HLc := Lib.hid hlb
        have HCc := Lib.hid (HCb.out.trans hcb)
        have HBc := Lib.hid (HBb.out.keep hcb (by omega))
        have HAc := Lib.hid (HAb.out.keep hcb (by omega))
        clear hlb hcb HLb HCb HBb HAb
        simp only []
        obtain ⟨b0, b1, b2, b3, b4⟩ := HBc.out.cells
        obtain ⟨a0, a1, a2, a3, a4⟩ := HAc.out.cells
        have az := HAc.out.fz
        have hstf := store_flt
        go_wp2_with fail
        refine bodyPost_ret (tok_ret rfl rfl (HAc.out.copied)) rfl ?_
        have hcF := ch_copied wb w.heap.size 3 ⟨y.toArray⟩ 0 L L
        refine ⟨HCc.out.trans' hcF (fun i hi h => by omega), ?_⟩
        have hl := HLc.out.keep hcF (by omega)
        rw [HRC.out]
        have hfy : sgns.find? (fun s => s.isPrefixOf r) = some y := by rw [HF.out, find_stop hlt (by rw [HY.out]; exact HQ.out), HY.out]
        cases hso : sgO r with
        | true =>
          rw [hso] at hl
          exact .inr ⟨2, _, by unfold signT; rw [signP_eq, hso]; rfl, .inr rfl, ⟨_, _, _, _, _, rfl⟩, hl⟩
        | false =>
          rw [hso] at hl
          exact .inl ⟨⟨3, y, y⟩, r.drop y.length, by unfold signT; rw [signP_eq, hso, hfy]; rfl, ⟨0, L, by rw [HLL.out]; rfl⟩, hl⟩
      | false =>
        have HQ := Lib.hid hq
        clear hq
        go_wp2_with fail
        refine (starts_at HL y rfl (by omega) HQ.out).mono ?_
        rintro e wa ⟨rfl, hca⟩
        have HLa := Lib.hid (HL.out.moved hca)
        have HCa := Lib.hid (HC.out.trans (hca.mono fun _ _ h => h.elim))
        have HBa := Lib.hid (HB.out.keep hca id)
        have HAa := Lib.hid (HA.out.keep hca id)
        have HXa : Hid (wa.heap[X]? = some (.cells sgVals 9 (0, 0))) := Lib.hid ((hca.block X (Array.getElem?_eq_some_iff.1 HX.out).1 id).trans HX.out)
        clear hca HL HC HB HA HX c0
        simp only []
        have hgk : 26 - (k + 1) < gk := by have := HN.out; omega
        go_wp2_with fail
        go_roundg (26 - (k + 1))
        case measure => omega
        case rel => exact ⟨k + 1, rfl, hlt, by rw [HF.out, find_on hlt (by rw [HY.out]; exact HQ.out)], HLa.out, HCa.out, HBa.out, HAa.out, HXa.out, rfl⟩
    · have hfn : sgns.find? (fun s => s.isPrefixOf r) = none := by
        rw [HF.out, List.drop_eq_nil_of_le (by rw [sgns_len]; omega)]
        rfl
      have HFN := Lib.hid hfn
      have hr1 := HRC.out
      subst hr1
      have hsp : signP (c :: tl0) = if sgO (c :: tl0) then .no 2 else if 126 < c.toNat then .no 2 else .no 1 := by
        rw [signP_eq, hfn]
        by_cases h126 : 126 < c.toNat <;> simp [h126]
      have HSP := Lib.hid hsp
      clear hfn hsp
      by_cases h126 : 126 < c.toNat
      · have g1 : (126 : Int) < (c.toNat : Int) := by omega
        have H126 := Lib.hid h126
        clear h126
        go_wp2_with fail
        have HK : Hid (Ch (· = p) wr wr) := Lib.hid (Ch.refl _ _)
        refine (byteAt_at HL 0 (rfl) (by omega) (show ((hb (c :: tl0) : Nat) : Int) = (c.toNat : Int) from rfl)).mono ?_
        rintro e wq1 ⟨rfl, hq1⟩
        have HL1 := Lib.hid (HL.out.moved hq1)
        have HC1 := Lib.hid (HK.out.trans (hq1.mono fun _ _ h => h.elim))
        clear hq1 HL HK
        simp only []
        go_wp2_with fail
        refine (tell_calls (v := 2) HL1).mono ?_
        rintro e wq2 ⟨rfl, hl2, hq2⟩
        have HL2 := Lib.hid hl2
        have HC2 := Lib.hid (HC1.out.trans hq2)
        clear hq2 HL1 HC1 hl2
        simp only []
        go_wp2_with fail
        refine (tell_calls (v := 1) HL2).mono ?_
        rintro e wq3 ⟨rfl, hl3, hq3⟩
        have HL3 := Lib.hid hl3
        have HC3 := Lib.hid (HC2.out.trans hq3)
        clear hq3 HL2 HC2 hl3
        simp only []
        go_wp2_with fail
        refine (step_calls HL3).mono ?_
        rintro e wq4 ⟨rfl, hl4, hq4⟩
        have HL4 := Lib.hid hl4
        have HC4 := Lib.hid (HC3.out.trans hq4)
        clear hq4 HL3 HC3 hl4
        simp only []
        have HBc := Lib.hid (HB.out.keep HC4.out (by omega))
        have HAc := Lib.hid (HA.out.keep HC4.out (by omega))
        obtain ⟨b0, b1, b2, b3, b4⟩ := HBc.out.cells
        obtain ⟨a0, a1, a2, a3, a4⟩ := HAc.out.cells
        have az := HAc.out.fz
        have hstf := store_flt
        go_wp2_with fail
        refine bodyPost_ret (tok_ret rfl rfl (HAc.out.copied)) rfl ?_
        have hcF := ch_copied wq4 w.heap.size 3 ⟨#[]⟩ 0 L L
        refine ⟨(HC.out.trans HC4.out).trans' hcF (fun i hi h => by omega), ?_⟩
        have hl := HL4.out.keep hcF (by omega)
        cases hso : sgO (c :: tl0) with
        | true =>
          rw [hso] at hl
          exact .inr ⟨2, _, by unfold signT; rw [HSP.out, hso]; rfl, .inr rfl, ⟨_, _, _, _, _, rfl⟩, hl⟩
        | false =>
          rw [hso] at hl
          exact .inr ⟨2, _, by unfold signT; rw [HSP.out, hso, if_pos H126.out]; rfl, .inr rfl, ⟨_, _, _, _, _, rfl⟩, hl⟩
      · have g1 : ¬ (126 : Int) < (c.toNat : Int) := by omega
        have H126 := Lib.hid h126
        clear h126
        go_wp2_with fail
        have HK : Hid (Ch (· = p) wr wr) := Lib.hid (Ch.refl _ _)
        refine (byteAt_at HL 0 (rfl) (by omega) (show ((hb (c :: tl0) : Nat) : Int) = (c.toNat : Int) from rfl)).mono ?_
        rintro e wq1 ⟨rfl, hq1⟩
        have HL1 := Lib.hid (HL.out.moved hq1)
        have HC1 := Lib.hid (HK.out.trans (hq1.mono fun _ _ h => h.elim))
        clear hq1 HL HK
        simp only []
        go_wp2_with fail
        refine (tell_calls (v := 1) HL1).mono ?_
        rintro e wq2 ⟨rfl, hl2, hq2⟩
        have HL2 := Lib.hid hl2
        have HC2 := Lib.hid (HC1.out.trans hq2)
        clear hq2 HL1 HC1 hl2
        simp only []
        go_wp2_with fail
        refine (step_calls HL2).mono ?_
        rintro e wq3 ⟨rfl, hl3, hq3⟩
        have HL3 := Lib.hid hl3
        have HC3 := Lib.hid (HC2.out.trans hq3)
        clear hq3 HL2 HC2 hl3
        simp only []
        have HBc := Lib.hid (HB.out.keep HC3.out (by omega))
        have HAc := Lib.hid (HA.out.keep HC3.out (by omega))
        obtain ⟨b0, b1, b2, b3, b4⟩ := HBc.out.cells
        obtain ⟨a0, a1, a2, a3, a4⟩ := HAc.out.cells
        have az := HAc.out.fz
        have hstf := store_flt
        go_wp2_with fail
        refine bodyPost_ret (tok_ret rfl rfl (HAc.out.copied)) rfl ?_
        have hcF := ch_copied wq3 w.heap.size 3 ⟨#[]⟩ 0 L L
        refine ⟨(HC.out.trans HC3.out).trans' hcF (fun i hi h => by omega), ?_⟩
        have hl := HL3.out.keep hcF (by omega)
        cases hso : sgO (c :: tl0) with
        | true =>
          rw [hso] at hl
          exact .inr ⟨2, _, by unfold signT; rw [HSP.out, hso]; rfl, .inr rfl, ⟨_, _, _, _, _, rfl⟩, hl⟩
        | false =>
          rw [hso] at hl
          exact .inr ⟨1, _, by unfold signT; rw [HSP.out, hso, if_neg H126.out]; rfl, .inl rfl, ⟨_, _, _, _, _, rfl⟩, hl⟩
end Go.Proofs.YtbgjjbffpckimaaGreatDoor

namespace Go.Proofs.YtbgjjbffpckimaaGreatDoor
set_option linter.all false
open Go.RowKit

def strK (z : Rz Bs) : Rz Tok := z.map fun x => ⟨5, x, x⟩
theorem SzPost.all {p : Nat} {s : ByteArray} {z : Rz Bs} {w w' : World} {e : Ending} (h : SzPost p s z w e w') :
    Ch (· = p) w w' ∧ ∃ v r' cd, e = .returned (.string v) ∧ Ls w' p s r' cd ∧ ((∃ x, z = .ok x r' ∧ v = ⟨x.toArray⟩ ∧ cd = 0) ∨ ∃ kk : Nat, z = .no kk ∧ (kk = 1 ∨ kk = 2) ∧ cd = (kk : Int)) := by
  obtain ⟨hc, ⟨x, r', hz, he, hl⟩ | ⟨kk, v, r', hz, hk, he, hl⟩⟩ := h
  · exact ⟨hc, _, r', 0, he, hl, .inl ⟨x, hz, rfl, rfl⟩⟩
  · exact ⟨hc, v, r', _, he, hl, .inr ⟨kk, hz, hk, rfl⟩⟩

set_option maxRecDepth 100000 in
set_option maxHeartbeats 4000000 in
theorem strLong_calls {w : World} {p : Nat} {s : ByteArray} {r : Bs} {k : Nat} (H : Hid (Ls w p s r 0)) (hbk : Hid (brk 91 r = some k)) (hbn : brkN 91 r = (k : Int)) :
    Calls Tryz.prog 54 #[ptr p] w (TzPost p s r (strK (longB k (cut10 (r.drop (k + 2))))) w) := by
  have hpl := H.out.lt
  have hbn0 := hbn
  have HBN := Lib.hid hbn0
  clear hbn hbn0
  go_enter Tryz.func54, Tryz.ntmps54
  obtain ⟨L, hL⟩ : ∃ L, 1 + nl s.data.toList - nl r = L := ⟨_, rfl⟩
  have k2 := H.out.c2
  rw [hL] at k2
  have HLL := Lib.hid hL
  have hstf := store_flt
  clear hL
  go_wp2_with fail
  have hw0 : ∃ w0, w0 = w.alloc (.cells (tkV 0 ⟨#[]⟩ 0 0 0) 42) := ⟨_, rfl⟩
  have hcw : Ch (fun _ => False) w ((w.alloc (.cells (tkV 0 ⟨#[]⟩ 0 0 0) 42)).alloc (.cells (tkV 5 ⟨#[]⟩ 0 L 0) 42)) := ((Ch.refl _ _).alloc _).alloc _
  have hb1 : Blk ((w.alloc (.cells (tkV 0 ⟨#[]⟩ 0 0 0) 42)).alloc (.cells (tkV 5 ⟨#[]⟩ 0 L 0) 42)) (w.heap.size + 1) 5 ⟨#[]⟩ 0 L 0 := by
    have := Blk.new (w.alloc (.cells (tkV 0 ⟨#[]⟩ 0 0 0) 42)) 5 ⟨#[]⟩ 0 L 0
    simpa using this
  have ha1 : Blk ((w.alloc (.cells (tkV 0 ⟨#[]⟩ 0 0 0) 42)).alloc (.cells (tkV 5 ⟨#[]⟩ 0 L 0) 42)) w.heap.size 0 ⟨#[]⟩ 0 0 0 :=
    (Blk.new w 0 ⟨#[]⟩ 0 0 0).keep ((Ch.refl (fun _ => False) _).alloc _) id
  generalize (w.alloc (.cells (tkV 0 ⟨#[]⟩ 0 0 0) 42)).alloc (.cells (tkV 5 ⟨#[]⟩ 0 L 0) 42) = w1 at hcw hb1 ha1 ⊢
  have HL1 := Lib.hid (H.out.moved hcw)
  have HC1 : Hid (Ch (· = p) w w1) := Lib.hid (hcw.mono fun _ _ h => h.elim)
  have HB1 := Lib.hid hb1
  have HA1 := Lib.hid ha1
  clear hcw hb1 ha1 k2 H hw0
  refine (bracket_calls (b := 91) (by decide) HL1).mono ?_
  rintro e w2 ⟨rfl, hq⟩
  have HL2 := Lib.hid (HL1.out.moved hq)
  have HC2 := Lib.hid (HC1.out.trans (hq.mono fun _ _ h => h.elim))
  have HB2 := Lib.hid (HB1.out.keep hq id)
  have HA2 := Lib.hid (HA1.out.keep hq id)
  clear hq HL1 HC1 HB1 HA1
  rw [HBN.out]
  simp only []
  go_wp2_with fail
  refine (long_calls (b := 91) HL2 hbk.out rfl rfl).mono ?_
  intro e w3 hz
  obtain ⟨hc, v, r', cd, rfl, hl, hr⟩ := SzPost.all (z := (longB k (cut10 (r.drop (k + 2))))) hz
  have HL3 := Lib.hid hl
  have HC3 := Lib.hid (HC2.out.trans hc)
  have HB3 := Lib.hid (HB2.out.keep hc (by omega))
  have HA3 := Lib.hid (HA2.out.keep hc (by omega))
  have HR := Lib.hid hr
  have lt3 : w.heap.size + 1 < w3.heap.size := HB3.out.lt
  clear hc hl hr hz HL2 HC2 HB2 HA2
  have hstf := store_flt
  obtain ⟨b0, b1, b2, b3, b4⟩ := HB3.out.cells
  obtain ⟨a0, a1, a2, a3, a4⟩ := HA3.out.cells
  have bz := HB3.out.fz
  have az := HA3.out.fz
  have k2 := HL3.out.c2
  simp only []
  go_wp2_with fail
  have hc1 : Ch (fun i => i = w.heap.size + 1) w3 ((w3.setCell ⟨w.heap.size + 1, 1, none⟩ (.string v)).setCell ⟨w.heap.size + 1, 4, none⟩ (.int .i64 (1 + nl s.data.toList - nl r'))) :=
    ((Ch.refl (fun i => i = w.heap.size + 1) w3).setCell (p := ⟨w.heap.size + 1, 1, none⟩) (fun _ => rfl) _).setCell (p := ⟨w.heap.size + 1, 4, none⟩) (fun _ => rfl) _
  have HA4 := HA3.out.keep hc1 (by omega)
  refine bodyPost_ret (tok_ret rfl rfl HA4.copied) rfl ?_
  have hcF := ch_copied ((w3.setCell ⟨w.heap.size + 1, 1, none⟩ (.string v)).setCell ⟨w.heap.size + 1, 4, none⟩ (.int .i64 (1 + nl s.data.toList - nl r'))) w.heap.size 5 v 0 L (1 + nl s.data.toList - nl r')
  have hlF := (HL3.out.keep hc1 (by omega)).keep hcF (by omega)
  refine ⟨(HC3.out.trans' hc1 (fun i hi h => by omega)).trans' hcF (fun i hi h => by omega), ?_⟩
  rcases HR.out with ⟨x, h1, h2, h3⟩ | ⟨kk, h1, h2, h3⟩
  · subst h3
    exact .inl ⟨⟨5, x, x⟩, r', by rw [strK, h1]; rfl, ⟨0, _, by rw [HLL.out, h2]; rfl⟩, hlF⟩
  · subst h3
    exact .inr ⟨kk, r', by rw [strK, h1]; rfl, h2, ⟨_, _, _, _, _, rfl⟩, hlF⟩

set_option maxRecDepth 100000 in
set_option maxHeartbeats 4000000 in
theorem strQuo_calls {w : World} {p : Nat} {s : ByteArray} {q : UInt8} {r0 r : Bs} (H : Hid (Ls w p s (q :: r0) 0)) (hr : Hid (q :: r0 = r)) (hq0 : Hid (q = 34 ∨ q = 39)) (hbn : brkN 91 (q :: r0) = -1) :
    Calls Tryz.prog 54 #[ptr p] w (TzPost p s r (strK (strB q r0)) w) := by
  have hpl := H.out.lt
  have hbn0 := hbn
  have HBN := Lib.hid hbn0
  clear hbn hbn0
  go_enter Tryz.func54, Tryz.ntmps54
  obtain ⟨L, hL⟩ : ∃ L, 1 + nl s.data.toList - nl (q :: r0) = L := ⟨_, rfl⟩
  have k2 := H.out.c2
  rw [hL] at k2
  have HLL := Lib.hid hL
  have hstf := store_flt
  clear hL
  go_wp2_with fail
  have hw0 : ∃ w0, w0 = w.alloc (.cells (tkV 0 ⟨#[]⟩ 0 0 0) 42) := ⟨_, rfl⟩
  have hcw : Ch (fun _ => False) w ((w.alloc (.cells (tkV 0 ⟨#[]⟩ 0 0 0) 42)).alloc (.cells (tkV 5 ⟨#[]⟩ 0 L 0) 42)) := ((Ch.refl _ _).alloc _).alloc _
  have hb1 : Blk ((w.alloc (.cells (tkV 0 ⟨#[]⟩ 0 0 0) 42)).alloc (.cells (tkV 5 ⟨#[]⟩ 0 L 0) 42)) (w.heap.size + 1) 5 ⟨#[]⟩ 0 L 0 := by
    have := Blk.new (w.alloc (.cells (tkV 0 ⟨#[]⟩ 0 0 0) 42)) 5 ⟨#[]⟩ 0 L 0
    simpa using this
  have ha1 : Blk ((w.alloc (.cells (tkV 0 ⟨#[]⟩ 0 0 0) 42)).alloc (.cells (tkV 5 ⟨#[]⟩ 0 L 0) 42)) w.heap.size 0 ⟨#[]⟩ 0 0 0 :=
    (Blk.new w 0 ⟨#[]⟩ 0 0 0).keep ((Ch.refl (fun _ => False) _).alloc _) id
  generalize (w.alloc (.cells (tkV 0 ⟨#[]⟩ 0 0 0) 42)).alloc (.cells (tkV 5 ⟨#[]⟩ 0 L 0) 42) = w1 at hcw hb1 ha1 ⊢
  have HL1 := Lib.hid (H.out.moved hcw)
  have HC1 : Hid (Ch (· = p) w w1) := Lib.hid (hcw.mono fun _ _ h => h.elim)
  have HB1 := Lib.hid hb1
  have HA1 := Lib.hid ha1
  clear hcw hb1 ha1 k2 H hw0
  refine (bracket_calls (b := 91) (by decide) HL1).mono ?_
  rintro e w2 ⟨rfl, hq⟩
  have HL2 := Lib.hid (HL1.out.moved hq)
  have HC2 := Lib.hid (HC1.out.trans (hq.mono fun _ _ h => h.elim))
  have HB2 := Lib.hid (HB1.out.keep hq id)
  have HA2 := Lib.hid (HA1.out.keep hq id)
  clear hq HL1 HC1 HB1 HA1
  rw [HBN.out]
  simp only []
  go_wp2_with fail
  refine (quoted_calls HL2 hq0.out).mono ?_
  intro e w3 hz
  obtain ⟨hc, v, r', cd, rfl, hl, hr⟩ := SzPost.all (z := (strB q r0)) hz
  have HL3 := Lib.hid hl
  have HC3 := Lib.hid (HC2.out.trans hc)
  have HB3 := Lib.hid (HB2.out.keep hc (by omega))
  have HA3 := Lib.hid (HA2.out.keep hc (by omega))
  have HR := Lib.hid hr
  have lt3 : w.heap.size + 1 < w3.heap.size := HB3.out.lt
  clear hc hl hr hz HL2 HC2 HB2 HA2
  have hstf := store_flt
  obtain ⟨b0, b1, b2, b3, b4⟩ := HB3.out.cells
  obtain ⟨a0, a1, a2, a3, a4⟩ := HA3.out.cells
  have bz := HB3.out.fz
  have az := HA3.out.fz
  have k2 := HL3.out.c2
  simp only []
  go_wp2_with fail
  have hc1 : Ch (fun i => i = w.heap.size + 1) w3 ((w3.setCell ⟨w.heap.size + 1, 1, none⟩ (.string v)).setCell ⟨w.heap.size + 1, 4, none⟩ (.int .i64 (1 + nl s.data.toList - nl r'))) :=
    ((Ch.refl (fun i => i = w.heap.size + 1) w3).setCell (p := ⟨w.heap.size + 1, 1, none⟩) (fun _ => rfl) _).setCell (p := ⟨w.heap.size + 1, 4, none⟩) (fun _ => rfl) _
  have HA4 := HA3.out.keep hc1 (by omega)
  refine bodyPost_ret (tok_ret rfl rfl HA4.copied) rfl ?_
  have hcF := ch_copied ((w3.setCell ⟨w.heap.size + 1, 1, none⟩ (.string v)).setCell ⟨w.heap.size + 1, 4, none⟩ (.int .i64 (1 + nl s.data.toList - nl r'))) w.heap.size 5 v 0 L (1 + nl s.data.toList - nl r')
  have hlF := (HL3.out.keep hc1 (by omega)).keep hcF (by omega)
  refine ⟨(HC3.out.trans' hc1 (fun i hi h => by omega)).trans' hcF (fun i hi h => by omega), ?_⟩
  rcases HR.out with ⟨x, h1, h2, h3⟩ | ⟨kk, h1, h2, h3⟩
  · subst h3
    exact .inl ⟨⟨5, x, x⟩, r', by rw [strK, h1]; rfl, ⟨0, _, by rw [← hr.out, HLL.out, h2]; rfl⟩, hlF⟩
  · subst h3
    exact .inr ⟨kk, r', by rw [strK, h1]; rfl, h2, ⟨_, _, _, _, _, rfl⟩, hlF⟩
end Go.Proofs.YtbgjjbffpckimaaGreatDoor

namespace Go.Proofs.YtbgjjbffpckimaaGreatDoor
set_option linter.all false
open Go.RowKit

theorem TzPost.all {p : Nat} {s : ByteArray} {r : Bs} {z : Rz Tok} {w w' : World} {e : Ending} (h : TzPost p s r z w e w') :
    Ch (· = p) w w' ∧ ∃ a b f l1 l2, e = .returned (.agg (tkV a b f l1 l2)) ∧ ∀ w0 w2, Ch (· = p) w0 w2 → (∀ r' cd, Ls w' p s r' cd → Ls w2 p s r' cd) → TzPost p s r z w0 (.returned (.agg (tkV a b f l1 l2))) w2 := by
  obtain ⟨hc, ⟨t, r', hz, ⟨f, l, he⟩, hl⟩ | ⟨kk, r', hz, hk, ⟨a, b, f, c, d, he⟩, hl⟩⟩ := h
  · exact ⟨hc, _, _, _, _, _, he, fun w0 w2 h1 h2 => ⟨h1, .inl ⟨t, r', hz, ⟨f, l, rfl⟩, h2 _ _ hl⟩⟩⟩
  · exact ⟨hc, _, _, _, _, _, he, fun w0 w2 h1 h2 => ⟨h1, .inr ⟨kk, r', hz, hk, ⟨a, b, f, c, d, rfl⟩, h2 _ _ hl⟩⟩⟩
theorem brk_not91 {c : UInt8} {t : Bs} (h : c ≠ 91) : brk 91 (c :: t) = none := by
  simp only [brk]
  rw [if_neg (fun h1 => h h1.1)]
theorem nextP_let {c : UInt8} {t : Bs} (h : isLet c = true) : nextP (c :: t) = nameP (c :: t) := by rw [nextP, if_pos h]
theorem nextP_num {c : UInt8} {t : Bs} (h : isLet c = false) (h2 : (isDec c || (c == 46 && t.head?.any isDec)) = true) : nextP (c :: t) = numT (c :: t) := by
  rw [nextP, if_neg (by rw [h]; decide), if_pos h2]
  rfl
theorem nextP_quo {c : UInt8} {t : Bs} (h : isLet c = false) (h2 : (isDec c || (c == 46 && t.head?.any isDec)) = false) (h3 : c = 34 ∨ c = 39) : nextP (c :: t) = strK (strB c t) := by
  rw [nextP, if_neg (by rw [h]; decide), if_neg (by rw [h2]; decide), if_pos h3]
  rfl
theorem nextP_long {c : UInt8} {t : Bs} {k : Nat} (h : isLet c = false) (h2 : (isDec c || (c == 46 && t.head?.any isDec)) = false) (h3 : ¬ (c = 34 ∨ c = 39)) (h4 : brk 91 (c :: t) = some k) : nextP (c :: t) = strK (longB k (cut10 ((c :: t).drop (k + 2)))) := by
  rw [nextP, if_neg (by rw [h]; decide), if_neg (by rw [h2]; decide), if_neg h3, h4]
  rfl
theorem nextP_sign {c : UInt8} {t : Bs} (h : isLet c = false) (h2 : (isDec c || (c == 46 && t.head?.any isDec)) = false) (h3 : ¬ (c = 34 ∨ c = 39)) (h4 : brk 91 (c :: t) = none) : nextP (c :: t) = signT (c :: t) := by
  rw [nextP, if_neg (by rw [h]; decide), if_neg (by rw [h2]; decide), if_neg h3, h4]
  rfl
theorem any_dec (t : Bs) : t.head?.any isDec = nDec (hb t) := by cases t <;> rfl
theorem beq_nat {c : UInt8} {k : UInt8} : (c == k) = (c.toNat == k.toNat) := by
  rw [Bool.eq_iff_iff, beq_iff_eq, beq_iff_eq]
  exact ⟨fun h => by rw [h], fun h => UInt8.toNat_inj.1 h⟩

set_option maxRecDepth 100000 in
set_option maxHeartbeats 4000000 in
theorem nextTok_calls {w : World} {p : Nat} {s : ByteArray} {c : UInt8} {t : Bs} (H : Hid (Ls w p s (c :: t) 0)) :
    Calls Tryz.prog 26 #[ptr p] w (TzPost p s (c :: t) (nextP (c :: t)) w) := by
  have hpl := H.out.lt
  go_enter Tryz.func26, Tryz.ntmps26
  go_wp2_with fail
  have hb0 := Blk.new w 0 ⟨#[]⟩ 0 0 0
  have hcw : Ch (fun _ => False) w (w.alloc (.cells #[.int .i64 0, .string ⟨#[]⟩, .float .f64 0, .int .i64 0, .int .i64 0] 42)) := (Ch.refl _ _).alloc _
  generalize w.alloc (.cells #[.int .i64 0, .string ⟨#[]⟩, .float .f64 0, .int .i64 0, .int .i64 0] 42) = w0 at hb0 hcw ⊢
  have HL0 := Lib.hid (H.out.moved hcw)
  have HCW : Hid (Ch (· = p) w w0) := Lib.hid (hcw.mono fun _ _ h => h.elim)
  have HB0 := Lib.hid hb0
  clear hb0 hcw H
  have HK : Hid (Ch (fun _ => False) w0 w0) := Lib.hid (Ch.refl _ _)
  cases hl : isLet c
  · skip
    have hnl : nLet c.toNat = false := hl
    have HLT := Lib.hid hl
    clear hl
    obtain ⟨y, hy⟩ : ∃ y, hb t = y := ⟨_, rfl⟩
    have HY : Hid ((hb ((c :: t).drop 1) : Int) = (y : Int)) := Lib.hid (by rw [← hy]; rfl)
    have hany : t.head?.any isDec = nDec y := by rw [any_dec, hy]
    clear hy
    cases hd : isDec c
    · skip
      have hnd : nDec c.toNat = false := hd
      cases h46 : (c == 46)
      · skip
        have hno : (isDec c || (c == 46 && t.head?.any isDec)) = false := by rw [hd, h46]; rfl
        have HNO := Lib.hid hno
        have g46 := beq_at (j := 46) (k := 46) rfl ((beq_nat (k := 46)).symm.trans h46)
        clear hno hd h46 hany
        by_cases h34 : c = 34
        · skip
          have HQ : Hid (c = 34 ∨ c = 39) := Lib.hid (.inl h34)
          have g34 : ((c.toNat : Int) == 34) = true := by rw [h34]; rfl
          have HBN : Hid (brkN 91 (c :: t) = -1) := Lib.hid (by unfold brkN; rw [brk_not91 (by rw [h34]; decide)])
          clear h34
          go_wp2_with fail
          refine (byteAt_at HL0 0 (rfl) (by omega) (show ((hb (c :: t) : Nat) : Int) = (c.toNat : Int) from rfl)).mono ?_
          rintro e wq1 ⟨rfl, hq1⟩
          have HL1 := Lib.hid (HL0.out.moved hq1)
          have HF1 := Lib.hid (HK.out.trans hq1)
          clear hq1 HL0 HK
          simp only []
          go_wp2_with fail
          refine (letter_calls (b := c.toNat)).mono ?_
          rintro e wd ⟨rfl, rfl⟩
          rw [hnl]
          simp only []
          go_wp2_with fail
          refine (digit_calls (b := c.toNat)).mono ?_
          rintro e wd ⟨rfl, rfl⟩
          rw [hnd]
          simp only []
          go_wp2_with fail
          refine (strQuo_calls HL1 (Lib.hid rfl) HQ HBN.out).mono ?_
          intro e wz hz
          obtain ⟨hc, a, b, f, l1, l2, rfl, hall⟩ := hz.all
          have HZ := Lib.hid hall
          have HA := Lib.hid ((HB0.out.keep HF1.out id).keep hc (by omega))
          have HCz := Lib.hid ((HCW.out.trans (HF1.out.mono fun _ _ h => h.elim)).trans hc)
          clear hz hall hc
          have hstf := store_flt
          obtain ⟨a0, a1, a2, a3, a4⟩ := HA.out.cells
          have az := HA.out.fz
          simp only []
          go_wp2_with fail
          refine bodyPost_ret (tok_ret rfl rfl HA.out.copied) rfl ?_
          have hcF := ch_copied wz w.heap.size a b f l1 l2
          rw [nextP_quo HLT.out HNO.out HQ.out]
          exact HZ.out _ _ (HCz.out.trans' hcF (fun i hi h => by omega)) (fun r' cd hl => hl.keep hcF (by omega))
        · skip
          have g34 : ((c.toNat : Int) == 34) = false := beq_at (k := 34) rfl ((beq_nat (k := 34)).symm.trans (by simpa using h34))
          by_cases h39 : c = 39
          · skip
            have HQ : Hid (c = 34 ∨ c = 39) := Lib.hid (.inr h39)
            have g39 : ((c.toNat : Int) == 39) = true := by rw [h39]; rfl
            have HBN : Hid (brkN 91 (c :: t) = -1) := Lib.hid (by unfold brkN; rw [brk_not91 (by rw [h39]; decide)])
            clear h39 h34
            go_wp2_with fail
            refine (byteAt_at HL0 0 (rfl) (by omega) (show ((hb (c :: t) : Nat) : Int) = (c.toNat : Int) from rfl)).mono ?_
            rintro e wq2 ⟨rfl, hq2⟩
            have HL2 := Lib.hid (HL0.out.moved hq2)
            have HF2 := Lib.hid (HK.out.trans hq2)
            clear hq2 HL0 HK
            simp only []
            go_wp2_with fail
            refine (letter_calls (b := c.toNat)).mono ?_
            rintro e wd ⟨rfl, rfl⟩
            rw [hnl]
            simp only []
            go_wp2_with fail
            refine (digit_calls (b := c.toNat)).mono ?_
            rintro e wd ⟨rfl, rfl⟩
            rw [hnd]
            simp only []
            go_wp2_with fail
            refine (strQuo_calls HL2 (Lib.hid rfl) HQ HBN.out).mono ?_
            intro e wz hz
            obtain ⟨hc, a, b, f, l1, l2, rfl, hall⟩ := hz.all
            have HZ := Lib.hid hall
            have HA := Lib.hid ((HB0.out.keep HF2.out id).keep hc (by omega))
            have HCz := Lib.hid ((HCW.out.trans (HF2.out.mono fun _ _ h => h.elim)).trans hc)
            clear hz hall hc
            have hstf := store_flt
            obtain ⟨a0, a1, a2, a3, a4⟩ := HA.out.cells
            have az := HA.out.fz
            simp only []
            go_wp2_with fail
            refine bodyPost_ret (tok_ret rfl rfl HA.out.copied) rfl ?_
            have hcF := ch_copied wz w.heap.size a b f l1 l2
            rw [nextP_quo HLT.out HNO.out HQ.out]
            exact HZ.out _ _ (HCz.out.trans' hcF (fun i hi h => by omega)) (fun r' cd hl => hl.keep hcF (by omega))
          · skip
            have g39 : ((c.toNat : Int) == 39) = false := beq_at (k := 39) rfl ((beq_nat (k := 39)).symm.trans (by simpa using h39))
            have HQ : Hid (¬ (c = 34 ∨ c = 39)) := Lib.hid (fun h => h.elim h34 h39)
            clear h34 h39
            by_cases h91 : c = 91
            · skip
              have g91 : ((c.toNat : Int) == 91) = true := by rw [h91]; rfl
              clear h91
              cases hbk : brk 91 (c :: t) with
              | some k =>
                have hbn : brkN 91 (c :: t) = (k : Int) := brkN_some.2 hbk
                have HBK := Lib.hid hbk
                have HBN := Lib.hid hbn
                clear hbk hbn
                go_wp2_with fail
                refine (byteAt_at HL0 0 (rfl) (by omega) (show ((hb (c :: t) : Nat) : Int) = (c.toNat : Int) from rfl)).mono ?_
                rintro e wq3 ⟨rfl, hq3⟩
                have HL3 := Lib.hid (HL0.out.moved hq3)
                have HF3 := Lib.hid (HK.out.trans hq3)
                clear hq3 HL0 HK
                simp only []
                go_wp2_with fail
                refine (letter_calls (b := c.toNat)).mono ?_
                rintro e wd ⟨rfl, rfl⟩
                rw [hnl]
                simp only []
                go_wp2_with fail
                refine (digit_calls (b := c.toNat)).mono ?_
                rintro e wd ⟨rfl, rfl⟩
                rw [hnd]
                simp only []
                go_wp2_with fail
                refine (bracket_calls (b := 91) (by decide) HL3).mono ?_
                rintro e wq4 ⟨rfl, hq4⟩
                have HL4 := Lib.hid (HL3.out.moved hq4)
                have HF4 := Lib.hid (HF3.out.trans hq4)
                clear hq4 HL3 HF3
                rw [HBN.out]
                simp only []
                go_wp2_with fail
                refine (strLong_calls HL4 HBK HBN.out).mono ?_
                intro e wz hz
                obtain ⟨hc, a, b, f, l1, l2, rfl, hall⟩ := hz.all
                have HZ := Lib.hid hall
                have HA := Lib.hid ((HB0.out.keep HF4.out id).keep hc (by omega))
                have HCz := Lib.hid ((HCW.out.trans (HF4.out.mono fun _ _ h => h.elim)).trans hc)
                clear hz hall hc
                have hstf := store_flt
                obtain ⟨a0, a1, a2, a3, a4⟩ := HA.out.cells
                have az := HA.out.fz
                simp only []
                go_wp2_with fail
                refine bodyPost_ret (tok_ret rfl rfl HA.out.copied) rfl ?_
                have hcF := ch_copied wz w.heap.size a b f l1 l2
                rw [nextP_long HLT.out HNO.out HQ.out HBK.out]
                exact HZ.out _ _ (HCz.out.trans' hcF (fun i hi h => by omega)) (fun r' cd hl => hl.keep hcF (by omega))
              | none =>
                have hbn : brkN 91 (c :: t) = -1 := by unfold brkN; rw [hbk]
                have HBK := Lib.hid hbk
                have HBN := Lib.hid hbn
                clear hbk hbn
                go_wp2_with fail
                refine (byteAt_at HL0 0 (rfl) (by omega) (show ((hb (c :: t) : Nat) : Int) = (c.toNat : Int) from rfl)).mono ?_
                rintro e wq5 ⟨rfl, hq5⟩
                have HL5 := Lib.hid (HL0.out.moved hq5)
                have HF5 := Lib.hid (HK.out.trans hq5)
                clear hq5 HL0 HK
                simp only []
                go_wp2_with fail
                refine (letter_calls (b := c.toNat)).mono ?_
                rintro e wd ⟨rfl, rfl⟩
                rw [hnl]
                simp only []
                go_wp2_with fail
                refine (digit_calls (b := c.toNat)).mono ?_
                rintro e wd ⟨rfl, rfl⟩
                rw [hnd]
                simp only []
                go_wp2_with fail
                refine (bracket_calls (b := 91) (by decide) HL5).mono ?_
                rintro e wq6 ⟨rfl, hq6⟩
                have HL6 := Lib.hid (HL5.out.moved hq6)
                have HF6 := Lib.hid (HF5.out.trans hq6)
                clear hq6 HL5 HF5
                rw [HBN.out]
                simp only []
                go_wp2_with fail
                refine (sign_calls HL6).mono ?_
                intro e wz hz
                obtain ⟨hc, a, b, f, l1, l2, rfl, hall⟩ := hz.all
                have HZ := Lib.hid hall
                have HA := Lib.hid ((HB0.out.keep HF6.out id).keep hc (by omega))
                have HCz := Lib.hid ((HCW.out.trans (HF6.out.mono fun _ _ h => h.elim)).trans hc)
                clear hz hall hc
                have hstf := store_flt
                obtain ⟨a0, a1, a2, a3, a4⟩ := HA.out.cells
                have az := HA.out.fz
                simp only []
                go_wp2_with fail
                refine bodyPost_ret (tok_ret rfl rfl HA.out.copied) rfl ?_
                have hcF := ch_copied wz w.heap.size a b f l1 l2
                rw [nextP_sign HLT.out HNO.out HQ.out HBK.out]
                exact HZ.out _ _ (HCz.out.trans' hcF (fun i hi h => by omega)) (fun r' cd hl => hl.keep hcF (by omega))
            · skip
              have g91 : ((c.toNat : Int) == 91) = false := beq_at (k := 91) rfl ((beq_nat (k := 91)).symm.trans (by simpa using h91))
              have HBK : Hid (brk 91 (c :: t) = none) := Lib.hid (brk_not91 h91)
              clear h91
              go_wp2_with fail
              refine (byteAt_at HL0 0 (rfl) (by omega) (show ((hb (c :: t) : Nat) : Int) = (c.toNat : Int) from rfl)).mono ?_
              rintro e wq7 ⟨rfl, hq7⟩
              have HL7 := Lib.hid (HL0.out.moved hq7)
              have HF7 := Lib.hid (HK.out.trans hq7)
              clear hq7 HL0 HK
              simp only []
              go_wp2_with fail
              refine (letter_calls (b := c.toNat)).mono ?_
              rintro e wd ⟨rfl, rfl⟩
              rw [hnl]
              simp only []
              go_wp2_with fail
              refine (digit_calls (b := c.toNat)).mono ?_
              rintro e wd ⟨rfl, rfl⟩
              rw [hnd]
              simp only []
              go_wp2_with fail
              refine (sign_calls HL7).mono ?_
              intro e wz hz
              obtain ⟨hc, a, b, f, l1, l2, rfl, hall⟩ := hz.all
              have HZ := Lib.hid hall
              have HA := Lib.hid ((HB0.out.keep HF7.out id).keep hc (by omega))
              have HCz := Lib.hid ((HCW.out.trans (HF7.out.mono fun _ _ h => h.elim)).trans hc)
              clear hz hall hc
              have hstf := store_flt
              obtain ⟨a0, a1, a2, a3, a4⟩ := HA.out.cells
              have az := HA.out.fz
              simp only []
              go_wp2_with fail
              refine bodyPost_ret (tok_ret rfl rfl HA.out.copied) rfl ?_
              have hcF := ch_copied wz w.heap.size a b f l1 l2
              rw [nextP_sign HLT.out HNO.out HQ.out HBK.out]
              exact HZ.out _ _ (HCz.out.trans' hcF (fun i hi h => by omega)) (fun r' cd hl => hl.keep hcF (by omega))
      · skip
        have e46 : c = 46 := eq_of_beq h46
        have g46 : ((c.toNat : Int) == 46) = true := by rw [e46]; rfl
        cases hyd : nDec y
        · skip
          have hno : (isDec c || (c == 46 && t.head?.any isDec)) = false := by rw [hd, h46, hany, hyd]; rfl
          have HNO := Lib.hid hno
          have HQ : Hid (¬ (c = 34 ∨ c = 39)) := Lib.hid (by rw [e46]; decide)
          have HBK : Hid (brk 91 (c :: t) = none) := Lib.hid (brk_not91 (by rw [e46]; decide))
          have g34 : ((c.toNat : Int) == 34) = false := by rw [e46]; rfl
          have g39 : ((c.toNat : Int) == 39) = false := by rw [e46]; rfl
          have g91 : ((c.toNat : Int) == 91) = false := by rw [e46]; rfl
          clear hno hd h46 hany e46
          go_wp2_with fail
          refine (byteAt_at HL0 0 (rfl) (by omega) (show ((hb (c :: t) : Nat) : Int) = (c.toNat : Int) from rfl)).mono ?_
          rintro e wq8 ⟨rfl, hq8⟩
          have HL8 := Lib.hid (HL0.out.moved hq8)
          have HF8 := Lib.hid (HK.out.trans hq8)
          clear hq8 HL0 HK
          simp only []
          go_wp2_with fail
          refine (letter_calls (b := c.toNat)).mono ?_
          rintro e wd ⟨rfl, rfl⟩
          rw [hnl]
          simp only []
          go_wp2_with fail
          refine (digit_calls (b := c.toNat)).mono ?_
          rintro e wd ⟨rfl, rfl⟩
          rw [hnd]
          simp only []
          go_wp2_with fail
          refine (byteAt_at HL8 1 (rfl) (by omega) (HY.out)).mono ?_
          rintro e wq9 ⟨rfl, hq9⟩
          have HL9 := Lib.hid (HL8.out.moved hq9)
          have HF9 := Lib.hid (HF8.out.trans hq9)
          clear hq9 HL8 HF8
          simp only []
          go_wp2_with fail
          refine (digit_calls (b := y)).mono ?_
          rintro e wd ⟨rfl, rfl⟩
          rw [hyd]
          simp only []
          go_wp2_with fail
          refine (sign_calls HL9).mono ?_
          intro e wz hz
          obtain ⟨hc, a, b, f, l1, l2, rfl, hall⟩ := hz.all
          have HZ := Lib.hid hall
          have HA := Lib.hid ((HB0.out.keep HF9.out id).keep hc (by omega))
          have HCz := Lib.hid ((HCW.out.trans (HF9.out.mono fun _ _ h => h.elim)).trans hc)
          clear hz hall hc
          have hstf := store_flt
          obtain ⟨a0, a1, a2, a3, a4⟩ := HA.out.cells
          have az := HA.out.fz
          simp only []
          go_wp2_with fail
          refine bodyPost_ret (tok_ret rfl rfl HA.out.copied) rfl ?_
          have hcF := ch_copied wz w.heap.size a b f l1 l2
          rw [nextP_sign HLT.out HNO.out HQ.out HBK.out]
          exact HZ.out _ _ (HCz.out.trans' hcF (fun i hi h => by omega)) (fun r' cd hl => hl.keep hcF (by omega))
        · skip
          have hno : (isDec c || (c == 46 && t.head?.any isDec)) = true := by rw [hd, h46, hany, hyd]; rfl
          have HNO := Lib.hid hno
          clear hno hd h46 hany e46
          go_wp2_with fail
          refine (byteAt_at HL0 0 (rfl) (by omega) (show ((hb (c :: t) : Nat) : Int) = (c.toNat : Int) from rfl)).mono ?_
          rintro e wq10 ⟨rfl, hq10⟩
          have HL10 := Lib.hid (HL0.out.moved hq10)
          have HF10 := Lib.hid (HK.out.trans hq10)
          clear hq10 HL0 HK
          simp only []
          go_wp2_with fail
          refine (letter_calls (b := c.toNat)).mono ?_
          rintro e wd ⟨rfl, rfl⟩
          rw [hnl]
          simp only []
          go_wp2_with fail
          refine (digit_calls (b := c.toNat)).mono ?_
          rintro e wd ⟨rfl, rfl⟩
          rw [hnd]
          simp only []
          go_wp2_with fail
          refine (byteAt_at HL10 1 (rfl) (by omega) (HY.out)).mono ?_
          rintro e wq11 ⟨rfl, hq11⟩
          have HL11 := Lib.hid (HL10.out.moved hq11)
          have HF11 := Lib.hid (HF10.out.trans hq11)
          clear hq11 HL10 HF10
          simp only []
          go_wp2_with fail
          refine (digit_calls (b := y)).mono ?_
          rintro e wd ⟨rfl, rfl⟩
          rw [hyd]
          simp only []
          go_wp2_with fail
          refine (number_calls HL11).mono ?_
          intro e wz hz
          obtain ⟨hc, a, b, f, l1, l2, rfl, hall⟩ := hz.all
          have HZ := Lib.hid hall
          have HA := Lib.hid ((HB0.out.keep HF11.out id).keep hc (by omega))
          have HCz := Lib.hid ((HCW.out.trans (HF11.out.mono fun _ _ h => h.elim)).trans hc)
          clear hz hall hc
          have hstf := store_flt
          obtain ⟨a0, a1, a2, a3, a4⟩ := HA.out.cells
          have az := HA.out.fz
          simp only []
          go_wp2_with fail
          refine bodyPost_ret (tok_ret rfl rfl HA.out.copied) rfl ?_
          have hcF := ch_copied wz w.heap.size a b f l1 l2
          rw [nextP_num HLT.out HNO.out]
          exact HZ.out _ _ (HCz.out.trans' hcF (fun i hi h => by omega)) (fun r' cd hl => hl.keep hcF (by omega))
    · skip
      have hnd : nDec c.toNat = true := hd
      have hno : (isDec c || (c == 46 && t.head?.any isDec)) = true := by rw [hd]; rfl
      have HNO := Lib.hid hno
      clear hno hd hany
      go_wp2_with fail
      refine (byteAt_at HL0 0 (rfl) (by omega) (show ((hb (c :: t) : Nat) : Int) = (c.toNat : Int) from rfl)).mono ?_
      rintro e wq12 ⟨rfl, hq12⟩
      have HL12 := Lib.hid (HL0.out.moved hq12)
      have HF12 := Lib.hid (HK.out.trans hq12)
      clear hq12 HL0 HK
      simp only []
      go_wp2_with fail
      refine (letter_calls (b := c.toNat)).mono ?_
      rintro e wd ⟨rfl, rfl⟩
      rw [hnl]
      simp only []
      go_wp2_with fail
      refine (digit_calls (b := c.toNat)).mono ?_
      rintro e wd ⟨rfl, rfl⟩
      rw [hnd]
      simp only []
      go_wp2_with fail
      refine (number_calls HL12).mono ?_
      intro e wz hz
      obtain ⟨hc, a, b, f, l1, l2, rfl, hall⟩ := hz.all
      have HZ := Lib.hid hall
      have HA := Lib.hid ((HB0.out.keep HF12.out id).keep hc (by omega))
      have HCz := Lib.hid ((HCW.out.trans (HF12.out.mono fun _ _ h => h.elim)).trans hc)
      clear hz hall hc
      have hstf := store_flt
      obtain ⟨a0, a1, a2, a3, a4⟩ := HA.out.cells
      have az := HA.out.fz
      simp only []
      go_wp2_with fail
      refine bodyPost_ret (tok_ret rfl rfl HA.out.copied) rfl ?_
      have hcF := ch_copied wz w.heap.size a b f l1 l2
      rw [nextP_num HLT.out HNO.out]
      exact HZ.out _ _ (HCz.out.trans' hcF (fun i hi h => by omega)) (fun r' cd hl => hl.keep hcF (by omega))
  · skip
    have hnl : nLet c.toNat = true := hl
    have HLT := Lib.hid hl
    clear hl
    go_wp2_with fail
    refine (byteAt_at HL0 0 (rfl) (by omega) (show ((hb (c :: t) : Nat) : Int) = (c.toNat : Int) from rfl)).mono ?_
    rintro e wq13 ⟨rfl, hq13⟩
    have HL13 := Lib.hid (HL0.out.moved hq13)
    have HF13 := Lib.hid (HK.out.trans hq13)
    clear hq13 HL0 HK
    simp only []
    go_wp2_with fail
    refine (letter_calls (b := c.toNat)).mono ?_
    rintro e wd ⟨rfl, rfl⟩
    rw [hnl]
    simp only []
    go_wp2_with fail
    refine (name_calls HL13).mono ?_
    intro e wz hz
    obtain ⟨hc, a, b, f, l1, l2, rfl, hall⟩ := hz.all
    have HZ := Lib.hid hall
    have HA := Lib.hid ((HB0.out.keep HF13.out id).keep hc (by omega))
    have HCz := Lib.hid ((HCW.out.trans (HF13.out.mono fun _ _ h => h.elim)).trans hc)
    clear hz hall hc
    have hstf := store_flt
    obtain ⟨a0, a1, a2, a3, a4⟩ := HA.out.cells
    have az := HA.out.fz
    simp only []
    go_wp2_with fail
    refine bodyPost_ret (tok_ret rfl rfl HA.out.copied) rfl ?_
    have hcF := ch_copied wz w.heap.size a b f l1 l2
    rw [nextP_let HLT.out]
    exact HZ.out _ _ (HCz.out.trans' hcF (fun i hi h => by omega)) (fun r' cd hl => hl.keep hcF (by omega))
end Go.Proofs.YtbgjjbffpckimaaGreatDoor
