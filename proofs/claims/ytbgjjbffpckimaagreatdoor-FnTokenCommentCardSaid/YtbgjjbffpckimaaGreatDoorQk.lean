/-
  The tokens of a text: the manual: names, decimal numerals.
-/
import Derived.Test.YtbgjjbffpckimaaGreatDoorQj
import Derived.Deep.DeepCutAuto
namespace Go.Proofs.YtbgjjbffpckimaaGreatDoor
set_option linter.all false
open Go.RowKit

/-- A token as a value. -/
abbrev tkV (k : Int) (x : ByteArray) (f : Nat) (l1 l2 : Int) : Array Value := #[.int .i64 k, .string x, .float .f64 f, .int .i64 l1, .int .i64 l2]
/-- What a reader of a token leaves. -/
def TzPost (p : Nat) (s : ByteArray) (r : Bs) (z : Rz Tok) (w : World) (e : Ending) (w' : World) : Prop :=
  Ch (· = p) w w' ∧ ((∃ t r', z = .ok t r' ∧ (∃ f l, e = .returned (.agg (tkV (t.kind : Int) ⟨t.text.toArray⟩ f (1 + nl s.data.toList - nl r) l))) ∧ Ls w' p s r' 0) ∨
    (∃ (kk : Nat) (r' : Bs), z = .no kk ∧ (kk = 1 ∨ kk = 2) ∧ (∃ a b f c d, e = .returned (.agg (tkV a b f c d))) ∧ Ls w' p s r' (kk : Int)))
/-- A token's block. -/
def Blk (w : World) (B : Nat) (k : Int) (x : ByteArray) (f : Nat) (l1 l2 : Int) : Prop := w.heap[B]? = some (.cells (tkV k x f l1 l2) 42 (0, 0))
section
variable {w w' : World} {B : Nat} {k : Int} {x : ByteArray} {f : Nat} {l1 l2 : Int}
theorem Blk.new (w : World) (k : Int) (x : ByteArray) (f : Nat) (l1 l2 : Int) : Blk (w.alloc (.cells (tkV k x f l1 l2) 42)) w.heap.size k x f l1 l2 := heap_alloc_new w _
theorem Blk.lt (h : Blk w B k x f l1 l2) : B < w.heap.size := (Array.getElem?_eq_some_iff.1 h).1
theorem Blk.keep {T : Nat → Prop} (h : Blk w B k x f l1 l2) (hc : Ch T w w') (hT : ¬ T B) : Blk w' B k x f l1 l2 := (hc.block B h.lt hT).trans h
theorem Blk.drew (h : Blk w B k x f l1 l2) : Blk w.drew B k x f l1 l2 := h
theorem Blk.cells (h : Blk w B k x f l1 l2) : w.cell? ⟨B, 0, none⟩ = some (.int .i64 k) ∧ w.cell? ⟨B, 1, none⟩ = some (.string x) ∧ w.cell? ⟨B, 2, none⟩ = some (.float .f64 f) ∧ w.cell? ⟨B, 3, none⟩ = some (.int .i64 l1) ∧ w.cell? ⟨B, 4, none⟩ = some (.int .i64 l2) := by
  refine ⟨?_, ?_, ?_, ?_, ?_⟩ <;> (rw [Lib.cell_of_heap h]; rfl)
theorem Blk.fz (h : Blk w B k x f l1 l2) (j : Nat) : w.frozen? ⟨B, j, none⟩ = false := Lib.frozen_of_heap h j
theorem Blk.set0 (h : Blk w B k x f l1 l2) (a : Int) : Blk (w.setCell ⟨B, 0, none⟩ (.int .i64 a)) B a x f l1 l2 := Lib.heap_setCell_same h _
theorem Blk.set1 (h : Blk w B k x f l1 l2) (a : ByteArray) : Blk (w.setCell ⟨B, 1, none⟩ (.string a)) B k a f l1 l2 := Lib.heap_setCell_same h _
theorem Blk.set2 (h : Blk w B k x f l1 l2) (a : Nat) : Blk (w.setCell ⟨B, 2, none⟩ (.float .f64 a)) B k x a l1 l2 := Lib.heap_setCell_same h _
theorem Blk.set3 (h : Blk w B k x f l1 l2) (a : Int) : Blk (w.setCell ⟨B, 3, none⟩ (.int .i64 a)) B k x f a l2 := Lib.heap_setCell_same h _
theorem Blk.set4 (h : Blk w B k x f l1 l2) (a : Int) : Blk (w.setCell ⟨B, 4, none⟩ (.int .i64 a)) B k x f l1 a := Lib.heap_setCell_same h _
end
theorem sz42 : (Tryz.prog.info? 42).map (·.size) = some 5 := by kernel_rfl
theorem tok_ret {fn : Func} (h : fn.results = #[.cell 2 42]) {tmps : Array Value} {w : World} {A : Nat} (hp : tmps.getD 2 undef = ptr A) {k : Int} {x : ByteArray} {f : Nat} {l1 l2 : Int} (hB : Blk w A k x f l1 l2) :
    (results fn tmps).run Tryz.prog w = .ok (.agg (tkV k x f l1 l2)) w :=
  results_cell_row h tmps w A 42 (tkV k x f l1 l2) (0, 0) _ hp hB Tryz.underlying42 rfl sz42
/-- A token's block behind a copy of it. -/
theorem Blk.copied {w : World} {A : Nat} {k k' : Int} {x x' : ByteArray} {f f' : Nat} {l1 l2 l1' l2' : Int} (h : Blk w A k x f l1 l2) :
    Blk (((((w.setCell ⟨A, 0, none⟩ (.int .i64 k')).setCell ⟨A, 1, none⟩ (.string x')).setCell ⟨A, 2, none⟩ (.float .f64 f')).setCell ⟨A, 3, none⟩ (.int .i64 l1')).setCell ⟨A, 4, none⟩ (.int .i64 l2')) A k' x' f' l1' l2' :=
  ((((h.set0 k').set1 x').set2 f').set3 l1').set4 l2'
/-- The lines of a name do not end. -/
theorem idc_10 {c : UInt8} (h : isIdc c = true) : c ≠ 10 := by rintro rfl; exact absurd h (by decide)
theorem nl_idc : ∀ r : Bs, nl r = nl (r.dropWhile isIdc)
  | [] => rfl
  | c :: t => by
    rw [List.dropWhile_cons]
    by_cases h : isIdc c = true
    · rw [if_pos h, nl_cons, if_neg (idc_10 h), Int.zero_add]; exact nl_idc t
    · rw [if_neg h]
theorem store_flt (a : Addr) (x : Nat) (wx : World) : (store a (.float .f64 x)).run Tryz.prog wx = stored Tryz.prog wx a (.float .f64 x) .plain := run_store Tryz.prog wx a _ .plain rfl
theorem ch_copied (w : World) (A : Nat) (k : Int) (x : ByteArray) (f : Nat) (l1 l2 : Int) :
    Ch (fun i => i = A) w (((((w.setCell ⟨A, 0, none⟩ (.int .i64 k)).setCell ⟨A, 1, none⟩ (.string x)).setCell ⟨A, 2, none⟩ (.float .f64 f)).setCell ⟨A, 3, none⟩ (.int .i64 l1)).setCell ⟨A, 4, none⟩ (.int .i64 l2)) :=
  (((((Ch.refl (fun i => i = A) w).setCell (p := ⟨A, 0, none⟩) (fun _ => rfl) _).setCell (p := ⟨A, 1, none⟩) (fun _ => rfl) _).setCell (p := ⟨A, 2, none⟩) (fun _ => rfl) _).setCell (p := ⟨A, 3, none⟩) (fun _ => rfl) _).setCell (p := ⟨A, 4, none⟩) (fun _ => rfl) _
end Go.Proofs.YtbgjjbffpckimaaGreatDoor

namespace Go.Proofs.YtbgjjbffpckimaaGreatDoor
set_option linter.all false
open Go.RowKit

def NzRel (p : Nat) (s : ByteArray) (T R : Bs) (n : Nat) (v3 : Value) (X : Nat) (w0 wr : World) : Prop :=
  ∃ acc r1, T = acc ++ r1.takeWhile isIdc ∧ r1.dropWhile isIdc = R ∧ acc.length + r1.length ≤ 2000 ∧ nl r1 = nl R ∧ wr.ownsRow (X + 1) 5 1 v3 acc.length (Lib.byteCells acc) ∧ Ls wr p s r1 0 ∧ Ch (· = p) w0 wr ∧ n = r1.length

theorem isWord_at {w : World} {s : ByteArray} {b : Bool} (hb : decide (s.data.toList ∈ kws) = b) : Calls Tryz.prog 67 #[.string s] w fun e w' => e = .returned (.bool b) ∧ Ch (fun _ => False) w w' := by
  subst hb
  exact isWord_calls
set_option maxRecDepth 100000 in
set_option maxHeartbeats 4000000 in
theorem name_calls {w : World} {p : Nat} {s : ByteArray} {r : Bs} (H : Hid (Ls w p s r 0)) :
    Calls Tryz.prog 51 #[ptr p] w (TzPost p s r (nameP r) w) := by
  obtain ⟨i0, hi0, hz0, hz1, hz2⟩ := info_parts Tryz.info5
  have I0 := Lib.hid hi0
  have Z0 := Lib.hid hz0
  have Z1 := Lib.hid hz1
  have Z2 := Lib.hid hz2
  clear hi0 hz0 hz1 hz2
  have hrl := H.out.nls
  have hpl := H.out.lt
  have hnl := nl_idc r
  have HNP : Hid (nameP r = if r.takeWhile isIdc = gotoB then .no 2 else .ok ⟨if r.takeWhile isIdc ∈ kws then 2 else 1, r.takeWhile isIdc, r.takeWhile isIdc⟩ (r.dropWhile isIdc)) := Lib.hid rfl
  have HNL := Lib.hid hnl
  clear hnl
  go_enter Tryz.func51, Tryz.ntmps51
  go_wp2_with fail
  have hb0 := heap_alloc_new w (.cells #[.int .i64 0, .string ⟨#[]⟩, .float .f64 0, .int .i64 0, .int .i64 0] 42)
  have hcw : Ch (fun _ => False) w (w.alloc (.cells #[.int .i64 0, .string ⟨#[]⟩, .float .f64 0, .int .i64 0, .int .i64 0] 42)) := (Ch.refl _ _).alloc _
  have hsz1 : (w.alloc (.cells #[.int .i64 0, .string ⟨#[]⟩, .float .f64 0, .int .i64 0, .int .i64 0] 42)).heap.size = w.heap.size + 1 := by simp
  have HL0 := Lib.hid (H.out.moved hcw)
  generalize w.alloc (.cells #[.int .i64 0, .string ⟨#[]⟩, .float .f64 0, .int .i64 0, .int .i64 0] 42) = w0 at hb0 hcw hsz1 HL0 ⊢
  have HCW := Lib.hid hcw
  have HB0 := Lib.hid hb0
  have hO0 := World.ownsRow_lit (e := 5) (size := 1) (base := w0.heap.size) w0 #[] 0 (by simp) (by unfold maxLen; omega) rfl
  rw [hsz1] at hO0
  have HO0 := Lib.hid hO0
  have HLb := Lib.hid (HL0.out.moved ((Ch.refl _ _).alloc (.cells #[] 5)))
  have HCb : Hid (Ch (· = p) w0 (w0.alloc (.cells #[] 5))) := Lib.hid ((Ch.refl _ _).alloc (.cells #[] 5))
  clear hb0 hcw hO0 HL0 H
  generalize hT : r.takeWhile isIdc = T at HNP
  generalize hR : r.dropWhile isIdc = R at HNP HNL
  have HT := Lib.hid hT
  have HR := Lib.hid hR
  clear hT hR
  go_loopg [3] r.length (fun n v3 wr => NzRel p s T R n v3 w.heap.size w0 wr)
  case atStart => exact ⟨[], r, by rw [← HT.out]; rfl, HR.out, by simp; omega, HNL.out, HO0.out, HLb.out, HCb.out, rfl⟩
  case round =>
    obtain ⟨acc, r1, hT1, hR1, hlen, hnl1, ho, hls, hc, hn⟩ := hrel
    have HT1 := Lib.hid hT1
    have HR1 := Lib.hid hR1
    have HN1 := Lib.hid hnl1
    have HO := Lib.hid ho
    have HL := Lib.hid hls
    have HC := Lib.hid hc
    have HN := Lib.hid hn
    clear hT1 hR1 hnl1 ho hls hc hn HO0 HLb HCb
    cases hd : hdIs isIdc r1 with
    | true =>
      cases r1 with
      | nil => cases hd
      | cons c t =>
        have hidc : isIdc c = true := hd
        have htl : t.length < 2000 := by simp at hlen; omega
        have hal : acc.length < 2000 := by simp at hlen; omega
        have hT2 : T = (acc ++ [c]) ++ t.takeWhile isIdc := by rw [HT1.out, List.takeWhile_cons, if_pos hidc]; simp
        have hR2 : t.dropWhile isIdc = R := by rw [← HR1.out, List.dropWhile_cons, if_pos hidc]
        have hN2 : nl t = nl R := by rw [← HN1.out, nl_cons, if_neg (idc_10 hidc), Int.zero_add]
        have HT2 := Lib.hid hT2
        have HR2 := Lib.hid hR2
        have HN2 := Lib.hid hN2
        clear hd hT2 hR2 hN2
        cases hlt : isLet c with
        | true =>
          have hnl : nLet c.toNat = true := hlt
          clear hlt hidc
          go_wp2_with fail
          refine (byteAt_at HL 0 (rfl) (by omega) (show ((hb (c :: t) : Nat) : Int) = (c.toNat : Int) from rfl)).mono ?_
          rintro e wq11 ⟨rfl, hq11⟩
          have HL11 := Lib.hid (HL.out.moved hq11)
          have HC11 := Lib.hid (HC.out.trans (hq11.mono fun _ _ h => h.elim))
          have HO11 := Lib.hid (hq11.owns HO.out fun _ _ h => h)
          clear hq11 HL HC HO
          simp only []
          go_wp2_with fail
          refine (letter_calls (b := c.toNat)).mono ?_
          rintro e wd ⟨rfl, rfl⟩
          rw [hnl]
          simp only []
          go_wp2_with fail
          refine (byteAt_at HL11 0 (rfl) (by omega) (show ((hb (c :: t) : Nat) : Int) = (c.toNat : Int) from rfl)).mono ?_
          rintro e wq12 ⟨rfl, hq12⟩
          have HL12 := Lib.hid (HL11.out.moved hq12)
          have HC12 := Lib.hid (HC11.out.trans (hq12.mono fun _ _ h => h.elim))
          have HO12 := Lib.hid (hq12.owns HO11.out fun _ _ h => h)
          clear hq12 HL11 HC11 HO11
          simp only []
          go_wp2_with (at_builtin; refine wpList_append_lies _ rfl (.tmp 14) (.tmp 17) 36 rfl (w.heap.size + 1) 5 i0 _ 1 1 Tryz.underlying36 I0.out Z0.out Z1.out Z2.out rfl (by omega) _ _ _ rfl (HO12.out.alloc _) ⟨wq12.heap.size, 0, none⟩ 1 1 [.int .u8 (c.toNat : Int)] rfl rfl (World.news_of_block (heap_alloc_new wq12 _)) (by intro y hy; simp at hy; subst hy; rfl) (by omega) (by unfold maxLen; omega) (by omega) (by have := HC12.out.size; simp; omega) (wq12.heap.size + 1) (by simp) ?_; intro ga capa wa howna hgrowa hata hlta
                       have hLa := Ls.keep (HL12.out.moved ((Ch.refl _ _).alloc _)) (T := fun i => w.heap.size + 1 ≤ i) (Ch.grown (Ch.refl _ _) hgrowa (fun i hi _ => by have := HO12.out.lt i hi; omega)) (by omega)
                       have hCa : Ch (· = p) w0 wa := (HC12.out.alloc _).grown hgrowa (fun i hi hlt => by have := HO12.out.lt i hi; omega)
                       have HLa := Lib.hid hLa
                       have HCa := Lib.hid hCa
                       have HOa := Lib.hid howna
                       clear hLa hCa howna hgrowa hata hlta)
          refine (step_calls HLa).mono ?_
          rintro e wq13 ⟨rfl, hl13, hq13⟩
          have HL13 := Lib.hid hl13
          have HC13 := Lib.hid (HCa.out.trans hq13)
          have HO13 := Lib.hid (hq13.owns HOa.out fun k hk e => by have := HOa.out.lt k hk; omega)
          clear hq13 HLa HCa hl13 HOa
          simp only []
          go_wp2_with fail
          have hgk : t.length < gk := by (have := HN.out; simp at this; omega)
          go_roundg t.length
          case measure => omega
          case rel =>
            refine ⟨acc ++ [c], t, HT2.out, HR2.out, by simp at hlen ⊢; omega, HN2.out, ?_, HL13.out, HC13.out, rfl⟩
            rw [bcs, List.length_append]
            exact HO13.out
        | false =>
          have hnl : nLet c.toNat = false := hlt
          have hnd : nDec c.toNat = true := by
            have h2 : isIdc c = true := hidc
            unfold isIdc at h2
            rw [hlt] at h2
            exact h2
          clear hlt hidc
          go_wp2_with fail
          refine (byteAt_at HL 0 (rfl) (by omega) (show ((hb (c :: t) : Nat) : Int) = (c.toNat : Int) from rfl)).mono ?_
          rintro e wq31 ⟨rfl, hq31⟩
          have HL31 := Lib.hid (HL.out.moved hq31)
          have HC31 := Lib.hid (HC.out.trans (hq31.mono fun _ _ h => h.elim))
          have HO31 := Lib.hid (hq31.owns HO.out fun _ _ h => h)
          clear hq31 HL HC HO
          simp only []
          go_wp2_with fail
          refine (letter_calls (b := c.toNat)).mono ?_
          rintro e wd ⟨rfl, rfl⟩
          rw [hnl]
          simp only []
          go_wp2_with fail
          refine (byteAt_at HL31 0 (rfl) (by omega) (show ((hb (c :: t) : Nat) : Int) = (c.toNat : Int) from rfl)).mono ?_
          rintro e wq32 ⟨rfl, hq32⟩
          have HL32 := Lib.hid (HL31.out.moved hq32)
          have HC32 := Lib.hid (HC31.out.trans (hq32.mono fun _ _ h => h.elim))
          have HO32 := Lib.hid (hq32.owns HO31.out fun _ _ h => h)
          clear hq32 HL31 HC31 HO31
          simp only []
          go_wp2_with fail
          refine (digit_calls (b := c.toNat)).mono ?_
          rintro e wd ⟨rfl, rfl⟩
          rw [hnd]
          simp only []
          go_wp2_with fail
          refine (byteAt_at HL32 0 (rfl) (by omega) (show ((hb (c :: t) : Nat) : Int) = (c.toNat : Int) from rfl)).mono ?_
          rintro e wq33 ⟨rfl, hq33⟩
          have HL33 := Lib.hid (HL32.out.moved hq33)
          have HC33 := Lib.hid (HC32.out.trans (hq33.mono fun _ _ h => h.elim))
          have HO33 := Lib.hid (hq33.owns HO32.out fun _ _ h => h)
          clear hq33 HL32 HC32 HO32
          simp only []
          go_wp2_with (at_builtin; refine wpList_append_lies _ rfl (.tmp 14) (.tmp 17) 36 rfl (w.heap.size + 1) 5 i0 _ 1 1 Tryz.underlying36 I0.out Z0.out Z1.out Z2.out rfl (by omega) _ _ _ rfl (HO33.out.alloc _) ⟨wq33.heap.size, 0, none⟩ 1 1 [.int .u8 (c.toNat : Int)] rfl rfl (World.news_of_block (heap_alloc_new wq33 _)) (by intro y hy; simp at hy; subst hy; rfl) (by omega) (by unfold maxLen; omega) (by omega) (by have := HC33.out.size; simp; omega) (wq33.heap.size + 1) (by simp) ?_; intro ga capa wa howna hgrowa hata hlta
                       have hLa := Ls.keep (HL33.out.moved ((Ch.refl _ _).alloc _)) (T := fun i => w.heap.size + 1 ≤ i) (Ch.grown (Ch.refl _ _) hgrowa (fun i hi _ => by have := HO33.out.lt i hi; omega)) (by omega)
                       have hCa : Ch (· = p) w0 wa := (HC33.out.alloc _).grown hgrowa (fun i hi hlt => by have := HO33.out.lt i hi; omega)
                       have HLa := Lib.hid hLa
                       have HCa := Lib.hid hCa
                       have HOa := Lib.hid howna
                       clear hLa hCa howna hgrowa hata hlta)
          refine (step_calls HLa).mono ?_
          rintro e wq34 ⟨rfl, hl34, hq34⟩
          have HL34 := Lib.hid hl34
          have HC34 := Lib.hid (HCa.out.trans hq34)
          have HO34 := Lib.hid (hq34.owns HOa.out fun k hk e => by have := HOa.out.lt k hk; omega)
          clear hq34 HLa HCa hl34 HOa
          simp only []
          go_wp2_with fail
          have hgk : t.length < gk := by (have := HN.out; simp at this; omega)
          go_roundg t.length
          case measure => omega
          case rel =>
            refine ⟨acc ++ [c], t, HT2.out, HR2.out, by simp at hlen ⊢; omega, HN2.out, ?_, HL34.out, HC34.out, rfl⟩
            rw [bcs, List.length_append]
            exact HO34.out
    | false =>
      have hTa : T = acc ∧ r1 = R := by
        cases r1 with
        | nil => exact ⟨by rw [HT1.out]; simp, HR1.out⟩
        | cons c t =>
          have hc : isIdc c = false := hd
          have h1 := HT1.out
          have h2 := HR1.out
          rw [List.takeWhile_cons, hc] at h1
          rw [List.dropWhile_cons, hc] at h2
          exact ⟨by simpa using h1, h2⟩
      have hnl : nLet (hb r1) = false ∧ nDec (hb r1) = false := by
        rw [nLet_hb, nDec_hb]
        cases r1 with
        | nil => exact ⟨rfl, rfl⟩
        | cons c t =>
          have hc : isIdc c = false := hd
          unfold isIdc at hc
          exact Bool.or_eq_false_iff.1 hc
      obtain ⟨rfl, rfl⟩ := hTa
      obtain ⟨hnl, hnd⟩ := hnl
      clear hd
      go_wp2_with fail
      refine (byteAt_at HL 0 (rfl) (by omega) (show ((hb r1 : Nat) : Int) = _ from rfl)).mono ?_
      rintro e wq51 ⟨rfl, hq51⟩
      have HL51 := Lib.hid (HL.out.moved hq51)
      have HC51 := Lib.hid (HC.out.trans (hq51.mono fun _ _ h => h.elim))
      have HO51 := Lib.hid (hq51.owns HO.out fun _ _ h => h)
      clear hq51 HL HC HO
      simp only []
      go_wp2_with fail
      refine (letter_calls (b := hb r1)).mono ?_
      rintro e wd ⟨rfl, rfl⟩
      rw [hnl]
      simp only []
      go_wp2_with fail
      refine (byteAt_at HL51 0 (rfl) (by omega) (show ((hb r1 : Nat) : Int) = _ from rfl)).mono ?_
      rintro e wq52 ⟨rfl, hq52⟩
      have HL52 := Lib.hid (HL51.out.moved hq52)
      have HC52 := Lib.hid (HC51.out.trans (hq52.mono fun _ _ h => h.elim))
      have HO52 := Lib.hid (hq52.owns HO51.out fun _ _ h => h)
      clear hq52 HL51 HC51 HO51
      simp only []
      go_wp2_with fail
      refine (digit_calls (b := hb r1)).mono ?_
      rintro e wd ⟨rfl, rfl⟩
      rw [hnd]
      simp only []
      go_wp2_with fail
      have HCV : Hid (∀ wx, Ch (fun _ => False) wd wx → (convert 36 9 u3).run Tryz.prog wx = .ok (.string ⟨T.toArray⟩) wx) := Lib.hid fun wx h => own_convert (h.owns HO52.out fun _ _ h => h)
      have cv0 : (convert 36 9 u3).run Tryz.prog wd = .ok (.string ⟨T.toArray⟩) wd := HCV.out _ (Ch.refl _ _)
      have cv1 : (convert 36 9 u3).run Tryz.prog wd.drew = .ok (.string ⟨T.toArray⟩) wd.drew := HCV.out _ ((Ch.refl _ _).drew)
      have cv2 : (convert 36 9 u3).run Tryz.prog wd.drew.drew = .ok (.string ⟨T.toArray⟩) wd.drew.drew := HCV.out _ ((Ch.refl _ _).drew.drew)
      have cv3 : (convert 36 9 u3).run Tryz.prog (wd.alloc (.cells #[.int .i64 0, .string ⟨#[]⟩, .float .f64 0, .int .i64 0, .int .i64 0] 42)) = .ok (.string ⟨T.toArray⟩) (wd.alloc (.cells #[.int .i64 0, .string ⟨#[]⟩, .float .f64 0, .int .i64 0, .int .i64 0] 42)) := HCV.out _ ((Ch.refl _ _).alloc (.cells #[.int .i64 0, .string ⟨#[]⟩, .float .f64 0, .int .i64 0, .int .i64 0] 42))
      have cv4 : (convert 36 9 u3).run Tryz.prog (wd.alloc (.cells #[.int .i64 0, .string ⟨#[]⟩, .float .f64 0, .int .i64 0, .int .i64 0] 42)).drew = .ok (.string ⟨T.toArray⟩) (wd.alloc (.cells #[.int .i64 0, .string ⟨#[]⟩, .float .f64 0, .int .i64 0, .int .i64 0] 42)).drew := HCV.out _ (((Ch.refl _ _).alloc (.cells #[.int .i64 0, .string ⟨#[]⟩, .float .f64 0, .int .i64 0, .int .i64 0] 42)).drew)
      have cv5 : (convert 36 9 u3).run Tryz.prog (wd.alloc (.cells #[.int .i64 0, .string ⟨#[]⟩, .float .f64 0, .int .i64 0, .int .i64 0] 42)).drew.drew = .ok (.string ⟨T.toArray⟩) (wd.alloc (.cells #[.int .i64 0, .string ⟨#[]⟩, .float .f64 0, .int .i64 0, .int .i64 0] 42)).drew.drew := HCV.out _ (((Ch.refl _ _).alloc (.cells #[.int .i64 0, .string ⟨#[]⟩, .float .f64 0, .int .i64 0, .int .i64 0] 42)).drew.drew)
      have k2 := HL52.out.c2
      have hplw := HL52.out.lt
      have hsww := HC52.out.size
      have HBA : Hid (Blk wd w.heap.size 0 ⟨#[]⟩ 0 0 0) := Lib.hid (Blk.keep (w := w0) HB0.out (HC52.out) (by omega))
      go_cut [4] from 21 (fun s4 wx => s4 = ptr wd.heap.size ∧ Ch (fun _ => False) wd wx ∧ Blk wx wd.heap.size 1 ⟨T.toArray⟩ 0 (1 + nl s.data.toList - nl r1) (1 + nl s.data.toList - nl r1))
      case first =>
        have hstf := store_flt
        refine wp_region_noPanic ?_
        go_region_law (fail)
        all_goals refine NoPanic.normal ?_
        all_goals go_wp2_with fail
        all_goals go_meet
        all_goals refine ⟨rfl, ?_, ?_⟩
        all_goals first | exact Blk.new _ _ _ _ _ _ | exact ((Ch.refl _ _).alloc _) | exact ((Ch.refl _ _).alloc _).drew | exact ((Ch.refl _ _).alloc _).drew.drew
      case rest =>
        obtain ⟨rfl, hcx, hBx⟩ := hcut
        have hlx := hBx.lt
        have HLx := Lib.hid (HL52.out.moved hcx)
        have HCx := Lib.hid (HC52.out.trans (hcx.mono fun _ _ h => h.elim))
        have HBX := Lib.hid hBx
        have HBY := Lib.hid (HBA.out.keep hcx id)
        clear hcx k2 HCV cv0 cv1 cv2 cv3 cv4 cv5 HL52 HC52 HO52 HBA
        obtain ⟨b0, b1, b2, b3, b4⟩ := HBX.out.cells
        obtain ⟨kb, hkb⟩ : ∃ kb, decide (T ∈ kws) = kb := ⟨_, rfl⟩
        have HKB := Lib.hid hkb
        obtain ⟨kd, hkd⟩ : ∃ kd : Int, (if kb then 2 else 1) = kd := ⟨_, rfl⟩
        have HKD := Lib.hid hkd
        clear hkd
        have HWD : Hid (decide ((⟨T.toArray⟩ : ByteArray).data.toList ∈ kws) = kb) := Lib.hid (by simpa using hkb)
        clear hkb
        go_wp2_with fail
        refine (isWord_at HWD.out).mono ?_
        rintro e wy ⟨rfl, hcy⟩
        have HLy := Lib.hid (HLx.out.moved hcy)
        have HCy := Lib.hid (HCx.out.trans (hcy.mono fun _ _ h => h.elim))
        have HBXy := Lib.hid (HBX.out.keep hcy id)
        have HBYy := Lib.hid (HBY.out.keep hcy id)
        have HLTy : Hid (wd.heap.size < wy.heap.size) := Lib.hid HBXy.out.lt
        clear b0 b1 b2 b3 b4 hcy HLx HCx HBX HBY HWD
        simp only []
        go_upto_if 34 with fail
        go_cut [] from 21 (fun wx => Ls wx p s r1 0 ∧ Ch (· = p) w0 wx ∧ Blk wx wd.heap.size kd ⟨T.toArray⟩ 0 (1 + nl s.data.toList - nl r1) (1 + nl s.data.toList - nl r1) ∧ Blk wx w.heap.size 0 ⟨#[]⟩ 0 0 0)
        case first =>
          obtain ⟨b0, b1, b2, b3, b4⟩ := HBXy.out.cells
          have bz := HBXy.out.fz
          have hkd := HKD.out
          cases kb
          · go_wp2_with fail
            go_meet
            exact ⟨HLy.out, HCy.out, hkd ▸ HBXy.out, HBYy.out⟩
          · go_wp2_with fail
            go_meet
            have hcB : Ch (fun i => i = wd.heap.size) wy (wy.setCell ⟨wd.heap.size, 0, none⟩ (.int .i64 2)) := (Ch.refl (fun i => i = wd.heap.size) wy).setCell (p := ⟨wd.heap.size, 0, none⟩) (fun _ => rfl) _
            refine ⟨HLy.out.keep hcB (by omega), HCy.out.trans' hcB (fun i hi e => by omega), hkd ▸ HBXy.out.set0 2, HBYy.out.keep hcB (by omega)⟩
        case rest =>
          obtain ⟨hl1, hc1, hx1, hy1⟩ := hcut
          have HL1 := Lib.hid hl1
          have HC1 := Lib.hid hc1
          have HX1 := Lib.hid hx1
          have HY1 := Lib.hid hy1
          clear hl1 hc1 hx1 hy1 HLy HCy HBXy HBYy HLTy
          obtain ⟨gb, hgb⟩ : ∃ gb, decide (T = gotoB) = gb := ⟨_, rfl⟩
          have HGB := Lib.hid hgb
          have HGE : Hid ((T == [103, 111, 116, 111]) = gb) := Lib.hid (by rw [← hgb, Bool.eq_iff_iff, beq_iff_eq, decide_eq_true_iff]; rfl)
          clear hgb
          go_upto_region 8 with fail
          go_cut [38] from 21 (fun s38 wx => s38 = .bool gb ∧ wx = wc)
          case first =>
            obtain ⟨b0, b1, b2, b3, b4⟩ := HX1.out.cells
            go_wp2_with fail
            go_meet
            exact ⟨congrArg Value.bool HGE.out, rfl⟩
          case rest =>
            obtain ⟨rfl, rfl⟩ := hcut
            go_upto_if 38 with fail
            go_cut [] from 21 (fun wx => Ls wx p s r1 (if gb then 2 else 0) ∧ Ch (· = p) w0 wx ∧ Blk wx wd.heap.size kd ⟨T.toArray⟩ 0 (1 + nl s.data.toList - nl r1) (1 + nl s.data.toList - nl r1) ∧ Blk wx w.heap.size 0 ⟨#[]⟩ 0 0 0)
            case first =>
              cases gb
              · go_wp2_with fail
                go_meet
                exact ⟨HL1.out, HC1.out, HX1.out, HY1.out⟩
              · go_wp2_with fail
                refine (tell_calls (v := 2) HL1).mono ?_
                rintro e wt ⟨rfl, hlt, hct⟩
                simp only []
                go_wp2_with fail
                go_meet
                exact ⟨hlt, HC1.out.trans hct, HX1.out.keep hct (by omega), HY1.out.keep hct (by omega)⟩
            case rest =>
              obtain ⟨hl2, hc2, hx2, hy2⟩ := hcut
              have HL2 := Lib.hid hl2
              have HC2 := Lib.hid hc2
              have HY2 := Lib.hid hy2
              clear HL1 HC1 HX1 HY1 hl2 hc2
              obtain ⟨b0, b1, b2, b3, b4⟩ := hx2.cells
              obtain ⟨a0, a1, a2, a3, a4⟩ := hy2.cells
              have bz := hx2.fz
              have az := hy2.fz
              have hstf := store_flt
              clear hx2 hy2
              go_wp2_with fail
              refine bodyPost_ret (tok_ret rfl rfl (HY2.out.copied)) rfl ?_
              have hcW : Ch (· = p) w w0 := HCW.out.mono fun _ _ h => h.elim
              have hcF := ch_copied wc w.heap.size kd ⟨T.toArray⟩ 0 (1 + nl s.data.toList - nl r1) (1 + nl s.data.toList - nl r1)
              have hlF := HL2.out.keep hcF (by omega)
              refine ⟨(hcW.trans' HC2.out (fun _ _ h => h)).trans' hcF (fun i hi h => by omega), ?_⟩
              have hnp := HNP.out
              have hnl := HNL.out
              have hgb := HGB.out
              by_cases hg : T = gotoB
              · rw [if_pos hg] at hnp
                obtain rfl : gb = true := by rw [← hgb]; simpa using hg
                exact .inr ⟨2, r1, hnp, .inr rfl, ⟨_, _, _, _, _, rfl⟩, hlF⟩
              · rw [if_neg hg] at hnp
                obtain rfl : gb = false := by rw [← hgb]; simpa using hg
                refine .inl ⟨_, r1, hnp, ⟨0, 1 + nl s.data.toList - nl r1, ?_⟩, hlF⟩
                have hk := HKB.out
                have hkd := HKD.out
                rw [hnl]
                subst hk
                subst hkd
                by_cases hm : T ∈ kws
                · simp [hm]
                · simp [hm]
end Go.Proofs.YtbgjjbffpckimaaGreatDoor

namespace Go.Proofs.YtbgjjbffpckimaaGreatDoor
set_option linter.all false
open Go.RowKit

/-- What is told where a text is good or open. -/
def cz (b : Bool) : Int := if b then 0 else 2
theorem tl_cz (b : Bool) : tl (cz b) 2 = cz false := by cases b <;> rfl
theorem dec_48 {c : UInt8} (h : isDec c = true) : c.toNat - 48 ≤ 9 := by
  unfold isDec at h
  simp at h
  omega
theorem runv_le : ∀ (l : Bs) (m : Nat), m ≤ 9999999999999999 → (∀ c ∈ l, isDec c = true) → runv m l ≤ 9999999999999999
  | [], _, h, _ => h
  | c :: l, m, h, hl => by
    rw [runv_cons]
    refine runv_le l _ ?_ (fun x hx => hl x (by simp [hx]))
    have := dec_48 (hl c (by simp))
    split <;> omega
theorem mem_takeW {p : UInt8 → Bool} {l : Bs} : ∀ c ∈ l.takeWhile p, p c = true := fun c hc => List.all_eq_true.1 (List.all_takeWhile (l := l) (p := p)) c hc
theorem takeW_le (p : UInt8 → Bool) (l : Bs) : (l.takeWhile p).length ≤ l.length := (List.takeWhile_sublist _).length_le
theorem dropW_le (p : UInt8 → Bool) (l : Bs) : (l.dropWhile p).length ≤ l.length := (List.dropWhile_sublist _).length_le
theorem hb_lt (r : Bs) : hb r < 256 := by
  cases r with
  | nil => decide
  | cons c t => exact c.toNat_lt
/-- The head of a text as a number. -/
theorem head_hb {r : Bs} {c : UInt8} (hc : c ≠ 0) : (r.head? == some c) = (hb r == c.toNat) := by
  rw [Bool.eq_iff_iff, beq_iff_eq, beq_iff_eq]
  exact (hb_is hc).symm
theorem hasDot_hb (r : Bs) : hasDot r = (hb (ptR1 r) == 46) := head_hb (by decide)
theorem hasE_hb (r : Bs) : hasE r = (hb (ptR2 r) == 101 || hb (ptR2 r) == 69) := by
  unfold hasE
  rw [head_hb (c := 101) (by decide), head_hb (c := 69) (by decide)]
  rfl
theorem hasS_hb (r : Bs) : hasS r = (hb ((ptR2 r).drop 1) == 45 || hb ((ptR2 r).drop 1) == 43) := by
  unfold hasS
  rw [head_hb (c := 45) (by decide), head_hb (c := 43) (by decide)]
  rfl
theorem isNeg_hb (r : Bs) : isNeg r = (hb ((ptR2 r).drop 1) == 45) := head_hb (by decide)
theorem hb_cons {r : Bs} {k : Nat} (h : hb r = k) (hk : k ≠ 0) : ∃ c t, r = c :: t ∧ c.toNat = k := by
  cases r with
  | nil => exact absurd h.symm hk
  | cons c t => exact ⟨c, t, rfl, h⟩
/-- The conditions on a decimal numeral, one by one. -/
def dk1 (r : Bs) : Bool := !(hb r == 48 && nDec (hb (r.drop 1)))
def dk2 (r : Bs) : Bool := !hasDot r || (!(ptA r).isEmpty && !(ptB r).isEmpty)
def dk3 (r : Bs) : Bool := !hasE r || (decide (1 ≤ (ptP r).length) && decide ((ptP r).length ≤ 3))
def dk4 (r : Bs) : Bool := decide ((ptA r).length + (ptB r).length ≤ 15)
theorem dk1_eq (r : Bs) : dk1 r = true ↔ ¬ (2 ≤ (ptA r).length ∧ (ptA r).head? = some 48) := by
  unfold dk1 ptA
  match r with
  | [] => simp [hb, nDec]
  | [c] =>
    by_cases hc : isDec c = true
    · simp [List.takeWhile_cons, hc, hb, nDec]
    · simp [List.takeWhile_cons, hc, hb, nDec]
  | c :: d :: t =>
    have e1 : (hb (c :: d :: t) == 48) = (c == 48) := by
      rw [Bool.eq_iff_iff, beq_iff_eq, beq_iff_eq]
      exact ⟨fun h => UInt8.toNat_inj.1 h, fun h => by rw [h]; rfl⟩
    have e2 : nDec (hb ((c :: d :: t).drop 1)) = isDec d := rfl
    rw [e1, e2]
    by_cases hc : isDec c = true
    · by_cases hd : isDec d = true
      · simp [List.takeWhile_cons, hc, hd]
      · simp [List.takeWhile_cons, hc, hd]
    · have : c ≠ 48 := by rintro rfl; exact hc (by decide)
      simp [List.takeWhile_cons, hc, this]
theorem decOk_eq (r : Bs) : decOk r ↔ (dk1 r && dk2 r && dk3 r && dk4 r) = true := by
  unfold decOk
  rw [← dk1_eq]
  simp only [Bool.and_eq_true]
  unfold dk2 dk3 dk4
  simp only [Bool.or_eq_true, Bool.not_eq_true', Bool.and_eq_true, decide_eq_true_eq]
  refine ⟨fun ⟨a, b, c, d⟩ => ⟨⟨⟨a, ?_⟩, ?_⟩, d⟩, fun ⟨⟨⟨a, b⟩, c⟩, d⟩ => ⟨a, ?_, ?_, d⟩⟩
  · cases h : hasDot r
    · exact .inl rfl
    · have := b h
      refine .inr ⟨?_, ?_⟩
      · simpa using this.1
      · simpa using this.2
  · cases h : hasE r
    · exact .inl rfl
    · exact .inr (c h)
  · intro h
    rcases b with b | b
    · rw [h] at b; cases b
    · exact ⟨by simpa using b.1, by simpa using b.2⟩
  · intro h
    rcases c with c | c
    · rw [h] at c; cases c
    · exact c
/-- What 'decimal' leaves. -/
def EdPost (p : Nat) (s : ByteArray) (r : Bs) (w : World) (e : Ending) (w' : World) : Prop :=
  Ch (· = p) w w' ∧ ∃ f x, e = .returned (.tuple #[.float .f64 f, .string x]) ∧ ((∃ y r', decP r = .ok y r' ∧ x = ⟨y.toArray⟩ ∧ Ls w' p s r' 0) ∨ (∃ r', decP r = .no 2 ∧ Ls w' p s r' 2))
theorem EdPost.mk {p : Nat} {s : ByteArray} {r : Bs} {w w' : World} {f : Nat} {x : ByteArray} {z : Option Bs} (hc : Ch (· = p) w w') (hz : numeral (runv (runv 0 (ptA r)) (ptB r)) (expo r) = z) (hx : x = ⟨(z.getD []).toArray⟩)
    (hl : Ls w' p s (ptR5 r) (cz (dk1 r && dk2 r && dk3 r && (z.isSome && dk4 r)))) : EdPost p s r w (.returned (.tuple #[.float .f64 f, .string x])) w' := by
  refine ⟨hc, f, x, rfl, ?_⟩
  unfold decP
  rw [hz]
  by_cases hok : decOk r
  · rw [if_pos hok]
    have h2 := (decOk_eq r).1 hok
    simp only [Bool.and_eq_true] at h2
    cases z with
    | some y =>
      refine .inl ⟨y, _, rfl, hx, ?_⟩
      rw [h2.1.1.1, h2.1.1.2, h2.1.2, h2.2] at hl
      exact hl
    | none =>
      refine .inr ⟨ptR5 r, rfl, ?_⟩
      rw [h2.1.1.1, h2.1.1.2, h2.1.2, h2.2] at hl
      exact hl
  · rw [if_neg hok]
    have h2 : (dk1 r && dk2 r && dk3 r && (z.isSome && dk4 r)) = false := by
      cases hb : (dk1 r && dk2 r && dk3 r && (z.isSome && dk4 r))
      · rfl
      · simp only [Bool.and_eq_true] at hb
        exact absurd ((decOk_eq r).2 (by simp only [Bool.and_eq_true]; exact ⟨⟨hb.1.1, hb.1.2⟩, hb.2.2⟩)) hok
    rw [h2] at hl
    exact .inr ⟨ptR5 r, rfl, hl⟩
end Go.Proofs.YtbgjjbffpckimaaGreatDoor

namespace Go.Proofs.YtbgjjbffpckimaaGreatDoor
set_option linter.all false
open Go.RowKit

theorem run_at {w : World} {p : Nat} {s : ByteArray} {r A R : Bs} {cd : Int} (H : Hid (Ls w p s r cd)) (m : Nat) {a : Int} (ha : a = (m : Int)) (hm : m ≤ 9999999999999999) (hA : r.takeWhile isDec = A) (hR : r.dropWhile isDec = R) :
    Calls Tryz.prog 85 #[ptr p, .int .i64 a] w fun e w' => e = .returned (.tuple #[.int .i64 (runv m A : Int), .int .i64 (A.length : Int)]) ∧ Ls w' p s R cd ∧ Ch (· = p) w w' := by
  subst ha
  subst hA
  subst hR
  exact run_calls H hm
theorem beq_at {x k : Nat} {j : Int} {b : Bool} (hj : j = (k : Int)) (h : (x == k) = b) : ((x : Int) == j) = b := by
  subst hj
  subst h
  rw [Bool.eq_iff_iff, beq_iff_eq, beq_iff_eq]
  omega
/-- A sign of an exponent. -/
def sgE (b : Bool) : Int := if b then -1 else 1

set_option maxRecDepth 100000 in
set_option maxHeartbeats 4000000 in
theorem decimal_calls {w : World} {p : Nat} {s : ByteArray} {r : Bs} (H : Hid (Ls w p s r 0)) :
    Calls Tryz.prog 69 #[ptr p] w (EdPost p s r w) := by
  have hrl := H.out.nls.2.2.2
  have hla : (ptA r).length ≤ 2000 := Nat.le_trans (takeW_le _ _) hrl
  have hlr1 : (ptR1 r).length ≤ 2000 := Nat.le_trans (dropW_le _ _) hrl
  have hlb : (ptB r).length ≤ 2000 := by
    unfold ptB
    split
    · exact Nat.le_trans (takeW_le _ _) (Nat.le_trans (by simp) hlr1)
    · simp
  have hall : ∀ c ∈ ptA r, isDec c = true := mem_takeW
  have hblb : ∀ c ∈ ptB r, isDec c = true := by
    unfold ptB
    split
    · exact mem_takeW
    · intro c hc; cases hc
  have hma : runv 0 (ptA r) ≤ 9999999999999999 := runv_le _ _ (by omega) hall
  have HMB : Hid (runv (runv 0 (ptA r)) (ptB r) ≤ 9999999999999999) := Lib.hid (runv_le _ _ hma hblb)
  have HMA := Lib.hid hma
  clear hall hblb hma hrl hlr1
  have HC : Hid (Ch (· = p) w w) := Lib.hid (Ch.refl _ _)
  go_enter Tryz.func69, Tryz.ntmps69
  obtain ⟨t1, ht1⟩ : ∃ t, (!dk1 r) = t := ⟨_, rfl⟩
  go_upto_region 1 with fail
  go_cut [21] from 14 (fun s21 wx => s21 = .bool t1 ∧ Ls wx p s r 0 ∧ Ch (· = p) w wx)
  case first =>
    unfold dk1 at ht1
    rw [Bool.not_not] at ht1
    generalize hx : hb r = x at ht1
    generalize hy : hb (r.drop 1) = y at ht1
    have HX : Hid ((hb (r.drop 0) : Int) = (x : Int)) := Lib.hid (by rw [List.drop_zero, hx])
    have HY : Hid ((hb (r.drop 1) : Int) = (y : Int)) := Lib.hid (by rw [hy])
    clear hx hy
    cases hx48 : (x == 48)
    · skip
      rw [hx48] at ht1
      have gx := beq_at (j := 48) (k := 48) rfl hx48
      have HT := Lib.hid ht1
      clear ht1 hx48
      go_wp2_with fail
      refine (byteAt_at H 0 (rfl) (by omega) (HX.out)).mono ?_
      rintro e wq1 ⟨rfl, hq1⟩
      have HL1 := Lib.hid (H.out.moved hq1)
      have HC1 := Lib.hid (HC.out.trans (hq1.mono fun _ _ h => h.elim))
      clear hq1 H HC
      simp only []
      go_wp2_with fail
      go_meet
      exact ⟨congrArg Value.bool HT.out, HL1.out, HC1.out⟩
    · skip
      rw [hx48, Bool.true_and] at ht1
      have gx := beq_at (j := 48) (k := 48) rfl hx48
      have HT := Lib.hid ht1
      clear ht1 hx48
      go_wp2_with fail
      refine (byteAt_at H 0 (rfl) (by omega) (HX.out)).mono ?_
      rintro e wq2 ⟨rfl, hq2⟩
      have HL2 := Lib.hid (H.out.moved hq2)
      have HC2 := Lib.hid (HC.out.trans (hq2.mono fun _ _ h => h.elim))
      clear hq2 H HC
      simp only []
      go_wp2_with fail
      refine (byteAt_at HL2 1 (rfl) (by omega) (HY.out)).mono ?_
      rintro e wq3 ⟨rfl, hq3⟩
      have HL3 := Lib.hid (HL2.out.moved hq3)
      have HC3 := Lib.hid (HC2.out.trans (hq3.mono fun _ _ h => h.elim))
      clear hq3 HL2 HC2
      simp only []
      go_wp2_with fail
      refine (digit_calls (b := y)).mono ?_
      rintro e wd ⟨rfl, rfl⟩
      rw [HT.out]
      simp only []
      go_wp2_with fail
      go_meet
      exact ⟨rfl, HL3.out, HC3.out⟩
  case rest =>
  obtain ⟨rfl, hl, hc⟩ := hcut
  have HLa := Lib.hid hl
  have HCa := Lib.hid hc
  clear hl hc H HC
  go_upto_if 21 with fail
  go_cut [] from 14 (fun wx => Ls wx p s r (cz (dk1 r)) ∧ Ch (· = p) w wx)
  case first =>
    have hz : dk1 r = !t1 := by rw [← ht1, Bool.not_not]
    have HZ := Lib.hid hz
    clear ht1 hz
    cases t1
    · skip
      go_wp2_with fail
      go_meet
      rw [HZ.out]
      exact ⟨HLa.out, HCa.out⟩
    · skip
      go_wp2_with fail
      refine (tell_calls (v := 2) HLa).mono ?_
      rintro e wq4 ⟨rfl, hl4, hq4⟩
      have HL4 := Lib.hid hl4
      have HC4 := Lib.hid (HCa.out.trans hq4)
      clear hq4 HLa HCa hl4
      simp only []
      go_wp2_with fail
      go_meet
      rw [HZ.out]
      exact ⟨HL4.out, HC4.out⟩
  case rest =>
  obtain ⟨hl, hc⟩ := hcut
  clear ht1
  have HLb := Lib.hid hl
  have HCb := Lib.hid hc
  clear hl hc HLa HCa
  obtain ⟨d, hd⟩ : ∃ d, hasDot r = d := ⟨_, rfl⟩
  go_upto_region 5 with fail
  refine (run_at HLb 0 rfl (by omega) (A := ptA r) (R := ptR1 r) rfl rfl).mono ?_
  rintro e wq5 ⟨rfl, hl5, hq5⟩
  have HL5 := Lib.hid hl5
  have HC5 := Lib.hid (HCb.out.trans hq5)
  clear hq5 HLb HCb hl5
  simp only []
  go_upto_region 5 with fail
  go_cut [31] from 14 (fun s31 wx => s31 = .bool d ∧ Ls wx p s (ptR1 r) (cz (dk1 r)) ∧ Ch (· = p) w wx)
  case first =>
    have hx := hasDot_hb r
    rw [hd] at hx
    generalize hy : hb (ptR1 r) = x at hx
    have HX : Hid ((hb ((ptR1 r).drop 0) : Int) = (x : Int)) := Lib.hid (by rw [List.drop_zero, hy])
    have gx := beq_at (j := 46) (k := 46) rfl hx.symm
    clear hx hy hd
    go_wp2_with fail
    refine (byteAt_at HL5 0 (rfl) (by omega) (HX.out)).mono ?_
    rintro e wq6 ⟨rfl, hq6⟩
    have HL6 := Lib.hid (HL5.out.moved hq6)
    have HC6 := Lib.hid (HC5.out.trans (hq6.mono fun _ _ h => h.elim))
    clear hq6 HL5 HC5
    simp only []
    go_wp2_with fail
    go_meet
    exact ⟨rfl, HL6.out, HC6.out⟩
  case rest =>
  obtain ⟨rfl, hl, hc⟩ := hcut
  have HLc := Lib.hid hl
  have HCc := Lib.hid hc
  clear hl hc HL5 HC5
  go_upto_if 31 with fail
  go_cut [4, 6, 7] from 14 (fun s4 s6 s7 wx => s4 = .int .i64 (runv (runv 0 (ptA r)) (ptB r) : Int) ∧ s6 = .int .i64 (-((ptB r).length : Int)) ∧ s7 = .int .i64 ((ptB r).length : Int) ∧ Ls wx p s (ptR2 r) (cz (dk1 r && dk2 r)) ∧ Ch (· = p) w wx)
  case first =>
    cases d
    · skip
      have hB : ptB r = [] := by unfold ptB; rw [hd]; rfl
      have hR : ptR2 r = ptR1 r := by unfold ptR2; rw [hd]; rfl
      have h2 : dk2 r = true := by unfold dk2; rw [hd]; rfl
      have HB := Lib.hid hB
      have HR := Lib.hid hR
      have H2 := Lib.hid h2
      clear hB hR h2 hd
      go_wp2_with fail
      go_meet
      rw [HB.out, HR.out, H2.out, Bool.and_true]
      exact ⟨rfl, rfl, rfl, HLc.out, HCc.out⟩
    · skip
      have hh := hasDot_hb r
      rw [hd] at hh
      obtain ⟨c, t, hct, hc⟩ := hb_cons (eq_of_beq hh.symm) (by decide)
      have hB : t.takeWhile isDec = ptB r := by unfold ptB; rw [hd, hct]; rfl
      have hR : t.dropWhile isDec = ptR2 r := by unfold ptR2; rw [hd, hct]; rfl
      have h2 : dk2 r = (!(ptA r).isEmpty && !(ptB r).isEmpty) := by unfold dk2; rw [hd]; rfl
      have H2 := Lib.hid h2
      rw [hct] at HLc
      have HB := Lib.hid hB
      have HR := Lib.hid hR
      clear hB hR h2 hd hh hct hc
      have hwn : IntKind.i64.wrap (-((ptB r).length : Int)) = -((ptB r).length : Int) := by rw [IntKind.wrap_i64]; omega
      go_wp2_with fail
      refine (step_calls HLc).mono ?_
      rintro e wq7 ⟨rfl, hl7, hq7⟩
      have HL7 := Lib.hid hl7
      have HC7 := Lib.hid (HCc.out.trans hq7)
      clear hq7 HLc HCc hl7
      simp only []
      go_wp2_with fail
      refine (run_at HL7 (runv 0 (ptA r)) rfl HMA.out HB.out HR.out).mono ?_
      rintro e wq8 ⟨rfl, hl8, hq8⟩
      have HL8 := Lib.hid hl8
      have HC8 := Lib.hid (HC7.out.trans hq8)
      clear hq8 HL7 HC7 hl8
      simp only []
      go_upto_region 9 with fail
      cases hA : (ptA r).isEmpty
      · skip
        have g1 : (((ptA r).length : Int) == 0) = false := by
          have : ptA r ≠ [] := fun h => by rw [h] at hA; cases hA
          have := List.length_pos_iff.2 this
          simp
          omega
        cases hBe : (ptB r).isEmpty
        · skip
          have g2 : (((ptB r).length : Int) == 0) = false := by
            have : ptB r ≠ [] := fun h => by rw [h] at hBe; cases hBe
            have := List.length_pos_iff.2 this
            simp
            omega
          rw [hA, hBe] at H2
          clear hA hBe
          go_wp2_with fail
          go_meet
          exact ⟨rfl, rfl, rfl, by rw [H2.out]; simpa using HL8.out, HC8.out⟩
        · skip
          have g2 : (((ptB r).length : Int) == 0) = true := by
            have : ptB r = [] := by simpa using hBe
            rw [this]
            rfl
          rw [hA, hBe] at H2
          clear hA hBe
          go_wp2_with fail
          refine (tell_calls (v := 2) HL8).mono ?_
          rintro e wq9 ⟨rfl, hl9, hq9⟩
          have HL9 := Lib.hid hl9
          have HC9 := Lib.hid (HC8.out.trans hq9)
          clear hq9 HL8 HC8 hl9
          simp only []
          go_wp2_with fail
          rw [tl_cz] at HL9
          go_meet
          exact ⟨rfl, rfl, rfl, by rw [H2.out]; simpa using HL9.out, HC9.out⟩
      · skip
        have g1 : (((ptA r).length : Int) == 0) = true := by
          have : ptA r = [] := by simpa using hA
          rw [this]
          rfl
        rw [hA] at H2
        clear hA
        go_wp2_with fail
        refine (tell_calls (v := 2) HL8).mono ?_
        rintro e wq10 ⟨rfl, hl10, hq10⟩
        have HL10 := Lib.hid hl10
        have HC10 := Lib.hid (HC8.out.trans hq10)
        clear hq10 HL8 HC8 hl10
        simp only []
        go_wp2_with fail
        rw [tl_cz] at HL10
        go_meet
        exact ⟨rfl, rfl, rfl, by rw [H2.out]; simpa using HL10.out, HC10.out⟩
  case rest =>
  obtain ⟨rfl, rfl, rfl, hl, hc⟩ := hcut
  have HLd := Lib.hid hl
  have HCd := Lib.hid hc
  clear hl hc HLc HCc
  clear hd
  obtain ⟨d, hd⟩ : ∃ d, hasE r = d := ⟨_, rfl⟩
  go_upto_region 11 with fail
  go_cut [57] from 14 (fun s57 wx => s57 = .bool d ∧ Ls wx p s (ptR2 r) (cz (dk1 r && dk2 r)) ∧ Ch (· = p) w wx)
  case first =>
    have hx := hasE_hb r
    rw [hd] at hx
    generalize hy : hb (ptR2 r) = x at hx
    have HX : Hid ((hb (((ptR2 r)).drop 0) : Int) = (x : Int)) := Lib.hid (by rw [List.drop_zero, hy])
    clear hy
    cases h1 : (x == 101)
    · skip
      rw [h1, Bool.false_or] at hx
      have gx := beq_at (j := 101) (k := 101) rfl h1
      have gy := beq_at (j := 69) (k := 69) rfl hx.symm
      clear h1 hx hd
      go_wp2_with fail
      refine (byteAt_at HLd 0 (rfl) (by omega) (HX.out)).mono ?_
      rintro e wq11 ⟨rfl, hq11⟩
      have HL11 := Lib.hid (HLd.out.moved hq11)
      have HC11 := Lib.hid (HCd.out.trans (hq11.mono fun _ _ h => h.elim))
      clear hq11 HLd HCd
      simp only []
      go_wp2_with fail
      refine (byteAt_at HL11 0 (rfl) (by omega) (HX.out)).mono ?_
      rintro e wq12 ⟨rfl, hq12⟩
      have HL12 := Lib.hid (HL11.out.moved hq12)
      have HC12 := Lib.hid (HC11.out.trans (hq12.mono fun _ _ h => h.elim))
      clear hq12 HL11 HC11
      simp only []
      go_wp2_with fail
      go_meet
      exact ⟨rfl, HL12.out, HC12.out⟩
    · skip
      rw [h1, Bool.true_or] at hx
      have gx := beq_at (j := 101) (k := 101) rfl h1
      have HT := Lib.hid hx
      clear h1 hx hd
      go_wp2_with fail
      refine (byteAt_at HLd 0 (rfl) (by omega) (HX.out)).mono ?_
      rintro e wq13 ⟨rfl, hq13⟩
      have HL13 := Lib.hid (HLd.out.moved hq13)
      have HC13 := Lib.hid (HCd.out.trans (hq13.mono fun _ _ h => h.elim))
      clear hq13 HLd HCd
      simp only []
      go_wp2_with fail
      go_meet
      exact ⟨congrArg Value.bool HT.out.symm, HL13.out, HC13.out⟩
  case rest =>
  obtain ⟨rfl, hl, hc⟩ := hcut
  have HLe := Lib.hid hl
  have HCe := Lib.hid hc
  clear hl hc HLd HCd
  go_upto_if 57 with fail
  go_cut [6] from 14 (fun s6 wx => s6 = .int .i64 (expo r) ∧ Ls wx p s (ptR5 r) (cz (dk1 r && dk2 r && dk3 r)) ∧ Ch (· = p) w wx)
  case first =>
    cases d
    · skip
      have hP : ptP r = [] := by unfold ptP; rw [hd]; rfl
      have hR : ptR5 r = ptR2 r := by unfold ptR5; rw [hd]; rfl
      have h3 : dk3 r = true := by unfold dk3; rw [hd]; rfl
      have he : expo r = -((ptB r).length : Int) := by
        unfold expo
        rw [hP]
        cases isNeg r <;> simp [runv]
      have HE := Lib.hid he
      have HR := Lib.hid hR
      have H3 := Lib.hid h3
      clear hP hR h3 he hd
      go_wp2_with fail
      go_meet
      rw [HE.out, HR.out, H3.out, Bool.and_true]
      exact ⟨rfl, HLe.out, HCe.out⟩
    · skip
      have hh := hasE_hb r
      rw [hd] at hh
      obtain ⟨c, t, hct⟩ : ∃ c t, ptR2 r = c :: t := by
        cases hq : ptR2 r with
        | nil => rw [hq] at hh; cases hh
        | cons c t => exact ⟨c, t, rfl⟩
      have hdr : (ptR2 r).drop 1 = t := by rw [hct]; rfl
      have hP : (ptR4 r).takeWhile isDec = ptP r := by unfold ptP; rw [hd]; rfl
      have hR : (ptR4 r).dropWhile isDec = ptR5 r := by unfold ptR5; rw [hd]; rfl
      have h3 : dk3 r = (decide (1 ≤ (ptP r).length) && decide ((ptP r).length ≤ 3)) := by unfold dk3; rw [hd]; rfl
      have H3 := Lib.hid h3
      rw [hct] at HLe
      have HP := Lib.hid hP
      have HR := Lib.hid hR
      have hS := hasS_hb r
      have hN := isNeg_hb r
      rw [hdr] at hS hN
      have h4 : ptR4 r = if hasS r then t.drop 1 else t := by
        unfold ptR4
        rw [hdr, hct]
        rfl
      have hq : runv 0 (ptP r) ≤ 9999999999999999 := runv_le _ _ (by omega) (by rw [← hP]; exact mem_takeW)
      have he : expo r = -((ptB r).length : Int) + sgE (isNeg r) * ((runv 0 (ptP r) : Int) % 1000) := by
        unfold expo sgE
        cases isNeg r
        · simp; omega
        · simp; omega
      have HE := Lib.hid he
      have HQ := Lib.hid hq
      have hlp : (ptP r).length ≤ 2000 := by
        rw [← hP]
        have h1 := (HLe.out.nls).2.2.2
        rw [List.length_cons] at h1
        refine Nat.le_trans (takeW_le _ _) ?_
        rw [h4]
        split
        · exact Nat.le_trans (by simp) (Nat.le_of_succ_le h1)
        · omega
      clear hP hR h3 hd hh hct hdr he hq
      go_wp2_with fail
      refine (step_calls HLe).mono ?_
      rintro e wq14 ⟨rfl, hl14, hq14⟩
      have HL14 := Lib.hid hl14
      have HC14 := Lib.hid (HCe.out.trans hq14)
      clear hq14 HLe HCe hl14
      simp only []
      obtain ⟨sb, hsb⟩ : ∃ b, hasS r = b := ⟨_, rfl⟩
      go_upto_region 14 with fail
      go_cut [67] from 14 (fun s67 wx => s67 = .bool sb ∧ Ls wx p s t (cz (dk1 r && dk2 r)) ∧ Ch (· = p) w wx)
      case first =>
        have hx := hS
        rw [hsb] at hx
        clear hS hN h4 hsb
        generalize hy : hb t = x at hx
        have HX : Hid ((hb ((t).drop 0) : Int) = (x : Int)) := Lib.hid (by rw [List.drop_zero, hy])
        clear hy
        cases h1 : (x == 45)
        · skip
          rw [h1, Bool.false_or] at hx
          have gx := beq_at (j := 45) (k := 45) rfl h1
          have gy := beq_at (j := 43) (k := 43) rfl hx.symm
          clear h1 hx
          go_wp2_with fail
          refine (byteAt_at HL14 0 (rfl) (by omega) (HX.out)).mono ?_
          rintro e wq15 ⟨rfl, hq15⟩
          have HL15 := Lib.hid (HL14.out.moved hq15)
          have HC15 := Lib.hid (HC14.out.trans (hq15.mono fun _ _ h => h.elim))
          clear hq15 HL14 HC14
          simp only []
          go_wp2_with fail
          refine (byteAt_at HL15 0 (rfl) (by omega) (HX.out)).mono ?_
          rintro e wq16 ⟨rfl, hq16⟩
          have HL16 := Lib.hid (HL15.out.moved hq16)
          have HC16 := Lib.hid (HC15.out.trans (hq16.mono fun _ _ h => h.elim))
          clear hq16 HL15 HC15
          simp only []
          go_wp2_with fail
          go_meet
          exact ⟨rfl, HL16.out, HC16.out⟩
        · skip
          rw [h1, Bool.true_or] at hx
          have gx := beq_at (j := 45) (k := 45) rfl h1
          have HT := Lib.hid hx
          clear h1 hx
          go_wp2_with fail
          refine (byteAt_at HL14 0 (rfl) (by omega) (HX.out)).mono ?_
          rintro e wq17 ⟨rfl, hq17⟩
          have HL17 := Lib.hid (HL14.out.moved hq17)
          have HC17 := Lib.hid (HC14.out.trans (hq17.mono fun _ _ h => h.elim))
          clear hq17 HL14 HC14
          simp only []
          go_wp2_with fail
          go_meet
          exact ⟨congrArg Value.bool HT.out.symm, HL17.out, HC17.out⟩
      case rest =>
      obtain ⟨rfl, hl, hc⟩ := hcut
      have HLf := Lib.hid hl
      have HCf := Lib.hid hc
      clear hl hc HL14 HC14
      obtain ⟨ng, hng⟩ : ∃ b, isNeg r = b := ⟨_, rfl⟩
      rw [hng] at hN HE
      rw [hsb] at hS h4
      go_upto_if 67 with fail
      go_cut [8] from 14 (fun s8 wx => s8 = .int .i64 (sgE ng) ∧ Ls wx p s (ptR4 r) (cz (dk1 r && dk2 r)) ∧ Ch (· = p) w wx)
      case first =>
        have H4 := Lib.hid h4
        cases sb
        · skip
          have hn : ng = false := by
            rw [hN]
            cases h : (hb t == 45)
            · rfl
            · rw [h] at hS; cases hS
          subst hn
          clear hN hS h4 hsb hng
          go_wp2_with fail
          go_meet
          rw [H4.out]
          exact ⟨rfl, HLf.out, HCf.out⟩
        · skip
          obtain ⟨c2, t2, rfl⟩ : ∃ c2 t2, t = c2 :: t2 := by
            cases t with
            | nil => cases hS
            | cons c2 t2 => exact ⟨c2, t2, rfl⟩
          have hN2 : (c2.toNat == 45) = ng := hN.symm
          have gx := beq_at (j := 45) (k := 45) rfl hN2
          clear hN hN2 hS h4 hsb hng
          cases ng
          · skip
            go_wp2_with fail
            refine (byteAt_at HLf 0 (rfl) (by omega) (show ((hb (c2 :: t2) : Nat) : Int) = (c2.toNat : Int) from rfl)).mono ?_
            rintro e wq18 ⟨rfl, hq18⟩
            have HL18 := Lib.hid (HLf.out.moved hq18)
            have HC18 := Lib.hid (HCf.out.trans (hq18.mono fun _ _ h => h.elim))
            clear hq18 HLf HCf
            simp only []
            go_wp2_with fail
            refine (step_calls HL18).mono ?_
            rintro e wq19 ⟨rfl, hl19, hq19⟩
            have HL19 := Lib.hid hl19
            have HC19 := Lib.hid (HC18.out.trans hq19)
            clear hq19 HL18 HC18 hl19
            simp only []
            go_wp2_with fail
            go_meet
            rw [H4.out]
            exact ⟨rfl, HL19.out, HC19.out⟩
          · skip
            go_wp2_with fail
            refine (byteAt_at HLf 0 (rfl) (by omega) (show ((hb (c2 :: t2) : Nat) : Int) = (c2.toNat : Int) from rfl)).mono ?_
            rintro e wq20 ⟨rfl, hq20⟩
            have HL20 := Lib.hid (HLf.out.moved hq20)
            have HC20 := Lib.hid (HCf.out.trans (hq20.mono fun _ _ h => h.elim))
            clear hq20 HLf HCf
            simp only []
            go_wp2_with fail
            refine (step_calls HL20).mono ?_
            rintro e wq21 ⟨rfl, hl21, hq21⟩
            have HL21 := Lib.hid hl21
            have HC21 := Lib.hid (HC20.out.trans hq21)
            clear hq21 HL20 HC20 hl21
            simp only []
            go_wp2_with fail
            go_meet
            rw [H4.out]
            exact ⟨rfl, HL21.out, HC21.out⟩
      case rest =>
      obtain ⟨rfl, hl, hc⟩ := hcut
      have HLg := Lib.hid hl
      have HCg := Lib.hid hc
      clear hl hc HLf HCf
      clear hN hS h4 hsb hng
      have hsg : sgE ng = 1 ∨ sgE ng = -1 := by cases ng <;> simp [sgE]
      generalize sgE ng = sg at hsg HE ⊢
      go_wp2_with fail
      refine (run_at HLg 0 rfl (by omega) HP.out HR.out).mono ?_
      rintro e wq22 ⟨rfl, hl22, hq22⟩
      have HL22 := Lib.hid hl22
      have HC22 := Lib.hid (HCg.out.trans hq22)
      clear hq22 HLg HCg hl22
      simp only []
      have hqq := HQ.out
      generalize runv 0 (ptP r) = q at HE hqq ⊢
      have htm : Int.tmod (q : Int) 1000 = (q : Int) % 1000 := Int.tmod_eq_emod_of_nonneg (by omega)
      have hw1 : IntKind.i64.wrap (sg * ((q : Int) % 1000)) = sg * ((q : Int) % 1000) := by rw [IntKind.wrap_i64]; rcases hsg with rfl | rfl <;> omega
      have hw2 : IntKind.i64.wrap (-((ptB r).length : Int) + sg * ((q : Int) % 1000)) = -((ptB r).length : Int) + sg * ((q : Int) % 1000) := by rw [IntKind.wrap_i64]; rcases hsg with rfl | rfl <;> omega
      clear hsg hqq HQ HP HR
      by_cases h1 : 1 ≤ (ptP r).length
      · skip
        have g1 : ¬ ((ptP r).length : Int) < 1 := by omega
        by_cases h2 : (ptP r).length ≤ 3
        · skip
          have g2 : ¬ (3 : Int) < ((ptP r).length : Int) := by omega
          rw [decide_eq_true h1, decide_eq_true h2] at H3
          clear h1 h2
          go_wp2_with fail
          go_meet
          exact ⟨congrArg (Value.int .i64) HE.out.symm, by rw [H3.out]; simpa using HL22.out, HC22.out⟩
        · skip
          have g2 : (3 : Int) < ((ptP r).length : Int) := by omega
          rw [decide_eq_false h2, Bool.and_false] at H3
          clear h1 h2
          go_wp2_with fail
          refine (tell_calls (v := 2) HL22).mono ?_
          rintro e wq23 ⟨rfl, hl23, hq23⟩
          have HL23 := Lib.hid hl23
          have HC23 := Lib.hid (HC22.out.trans hq23)
          clear hq23 HL22 HC22 hl23
          simp only []
          go_wp2_with fail
          rw [tl_cz] at HL23
          go_meet
          exact ⟨congrArg (Value.int .i64) HE.out.symm, by rw [H3.out]; simpa using HL23.out, HC23.out⟩
      · skip
        have g1 : ((ptP r).length : Int) < 1 := by omega
        rw [decide_eq_false h1, Bool.false_and] at H3
        clear h1
        go_wp2_with fail
        refine (tell_calls (v := 2) HL22).mono ?_
        rintro e wq24 ⟨rfl, hl24, hq24⟩
        have HL24 := Lib.hid hl24
        have HC24 := Lib.hid (HC22.out.trans hq24)
        clear hq24 HL22 HC22 hl24
        simp only []
        go_wp2_with fail
        rw [tl_cz] at HL24
        go_meet
        exact ⟨congrArg (Value.int .i64) HE.out.symm, by rw [H3.out]; simpa using HL24.out, HC24.out⟩
  case rest =>
  obtain ⟨rfl, hl, hc⟩ := hcut
  have HLh := Lib.hid hl
  have HCh := Lib.hid hc
  clear hl hc HLe HCe
  clear hd
  have heb : -3000 ≤ expo r ∧ expo r ≤ 3000 := by
    unfold expo
    split <;> omega
  go_wp2_with fail
  refine (lxNumeral_calls (m := runv (runv 0 (ptA r)) (ptB r)) (e := expo r) HMB.out heb).mono ?_
  rintro e wn hnu
  obtain ⟨hqn, f, rfl⟩ := hnu.all
  have HLn := Lib.hid (HLh.out.moved hqn)
  have HCn := Lib.hid (HCh.out.trans (hqn.mono fun _ _ h => h.elim))
  clear hqn hnu HLh HCh heb
  simp only []
  obtain ⟨z, hz⟩ : ∃ z, numeral (runv (runv 0 (ptA r)) (ptB r)) (expo r) = z := ⟨_, rfl⟩
  have HZ := Lib.hid hz
  rw [hz]
  clear hz
  have hw3 : IntKind.i64.wrap (((ptA r).length : Int) + ((ptB r).length : Int)) = ((ptA r).length : Int) + ((ptB r).length : Int) := by rw [IntKind.wrap_i64]; omega
  cases z with
  | none =>
    clear hw3
    go_wp2_with fail
    refine (tell_calls (v := 2) HLn).mono ?_
    rintro e wq25 ⟨rfl, hl25, hq25⟩
    have HL25 := Lib.hid hl25
    have HC25 := Lib.hid (HCn.out.trans hq25)
    clear hq25 HLn HCn hl25
    simp only []
    go_wp2_with fail
    rw [tl_cz] at HL25
    go_ret2
    exact EdPost.mk HC25.out HZ.out rfl (by simpa using HL25.out)
  | some y =>
    by_cases h15 : (ptA r).length + (ptB r).length ≤ 15
    · skip
      have g1 : ¬ (15 : Int) < ((ptA r).length : Int) + ((ptB r).length : Int) := by omega
      have h4 : dk4 r = true := decide_eq_true h15
      have H4 := Lib.hid h4
      clear h15 h4
      go_wp2_with fail
      go_ret2
      exact EdPost.mk HCn.out HZ.out rfl (by rw [H4.out]; simpa using HLn.out)
    · skip
      have g1 : (15 : Int) < ((ptA r).length : Int) + ((ptB r).length : Int) := by omega
      have h4 : dk4 r = false := decide_eq_false h15
      have H4 := Lib.hid h4
      clear h15 h4
      go_wp2_with fail
      refine (tell_calls (v := 2) HLn).mono ?_
      rintro e wq26 ⟨rfl, hl26, hq26⟩
      have HL26 := Lib.hid hl26
      have HC26 := Lib.hid (HCn.out.trans hq26)
      clear hq26 HLn HCn hl26
      simp only []
      go_wp2_with fail
      rw [tl_cz] at HL26
      go_ret2
      exact EdPost.mk HC26.out HZ.out rfl (by rw [H4.out]; simpa using HL26.out)
end Go.Proofs.YtbgjjbffpckimaaGreatDoor
