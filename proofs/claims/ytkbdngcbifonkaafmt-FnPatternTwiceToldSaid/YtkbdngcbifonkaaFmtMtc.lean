/-
  impl.Matches, WITH THE LIMIT 1: a match without captures, or none.
-/
import Derived.Test.YtkbdngcbifonkaaFmtFnd
import Derived.LoopN
namespace Go.Proofs.YtkbdngcbifonkaaFmt
set_option linter.all false
open Go.RowKit

theorem Tryf.info29 : (Tryf.prog.info? 29).map (fun i => (i.zero, i.size, i.bytes)) = some (some (.agg #[.int .i64 0, .int .i64 0, .slice none 0 0, .slice none 0 0]), 4, 64) := by kernel_rfl

theorem cell_new {W : World} {n : Nat} (hn : W.heap.size = n) (A B : Array Value) (T : TypeId) (j : Nat) (v : Value) (hj : A[j]? = some v) : ((W.alloc (.cells (A ++ B) T)).drew).cell? ⟨n, j, none⟩ = some v := by
  subst hn
  have hl : j < A.size := (Array.getElem?_eq_some_iff.1 hj).1
  have : (A ++ B)[j]? = some v := by rw [Array.getElem?_append_left hl]; exact hj
  exact (World.cell?_alloc_at _ _ _ _ rfl).trans this

/-- The one match, made. -/
def MatchMade (w : World) (a b : Nat) (v : Value) (w' : World) : Prop :=
  Ch (fun _ => False) w w' ∧ ∃ G c x y, v = sliceAt G 1 c ∧ w'.cell? ⟨G, 0, none⟩ = some (.int .i64 (a : Int)) ∧ w'.cell? ⟨G, 1, none⟩ = some (.int .i64 (b : Int)) ∧ w'.cell? ⟨G, 2, none⟩ = some (sliceAt x 0 0) ∧ w'.cell? ⟨G, 3, none⟩ = some (sliceAt y 0 0)

/-- What impl.Matches with the limit 1 gives. -/
def MatchPost (w : World) (res : Option (Nat × Nat)) (e : Ending) (w' : World) : Prop :=
  Ch (fun _ => False) w w' ∧ match res with
    | none => ∃ A c, e = .returned (.tuple #[.slice A 0 c, .bool true])
    | some p => ∃ G c x y, e = .returned (.tuple #[sliceAt G 1 c, .bool true]) ∧ w'.cell? ⟨G, 0, none⟩ = some (.int .i64 (p.1 : Int)) ∧ w'.cell? ⟨G, 1, none⟩ = some (.int .i64 (p.2 : Int)) ∧
        w'.cell? ⟨G, 2, none⟩ = some (sliceAt x 0 0) ∧ w'.cell? ⟨G, 3, none⟩ = some (sliceAt y 0 0)

theorem cap0 {w : World} {B M g c a b : Nat} (h : CapsAt w B M [2 * a, 2 * b] g c) (ha : a ≤ 100000) : Calls Tryf.prog 28 #[ptr M, .int .i64 0] w fun e w' => e = .returned (.int .i64 (a : Int)) ∧ w = w' := by
  have := capture_calls (s := 0) h (by simp) (by simp; omega)
  refine this.mono ?_
  rintro e w' ⟨rfl, rfl⟩
  exact ⟨by simp, rfl⟩
theorem cap1 {w : World} {B M g c a b : Nat} (h : CapsAt w B M [2 * a, 2 * b] g c) (hb : b ≤ 100000) : Calls Tryf.prog 28 #[ptr M, .int .i64 1] w fun e w' => e = .returned (.int .i64 (b : Int)) ∧ w = w' := by
  have := capture_calls (s := 1) h (by simp) (by simp; omega)
  refine this.mono ?_
  rintro e w' ⟨rfl, rfl⟩
  exact ⟨by simp, rfl⟩
theorem cap2 {w : World} {B M g c a b : Nat} (h : CapsAt w B M [2 * a, 2 * b] g c) : Calls Tryf.prog 29 #[ptr M] w fun e w' => e = .returned (.int .i64 2) ∧ w = w' := by
  refine (length_calls h).mono ?_
  rintro e w' ⟨rfl, rfl⟩
  exact ⟨by simp, rfl⟩

set_option maxRecDepth 100000 in
set_option maxHeartbeats 4000000 in
theorem matches_none {w : World} {s t : ByteArray} {l : List UInt8} {sp0 f : Nat} {src : List UInt8} {ps : List Pm.Pat} {head : Bool} (hl : s.data.toList = l) (hll : l.length ≤ 1000) (ht : t.data.toList = src)
    (HP : Hid (Parses l head ps)) (HK : Hid (PatsOk ps)) (hsrc : src.length ≤ 100000) (hsp : sp0 ≤ src.length) (hf : f ≤ 1000000)
    (HF : Hid (Pm.find (Pm.code ps) src head f (src.length + 1 - sp0) sp0 = some none)) :
    Calls Tryf.prog 18 #[.string s, .string t, .int .i64 sp0, .int .i64 1] w (MatchPost w none) := by
  obtain ⟨cp, w1, hconv, hch1, hsz1, hb1, hcp⟩ := conv_bytes w t
  rw [ht] at hconv hcp
  have HB1 : Hid (∀ i (h : i < src.length), w1.cell? ⟨w.heap.size, i, none⟩ = some (.int .u8 (src[i].toNat : Int))) := Lib.hid (by subst ht; simpa using hb1)
  have HCH1 := Lib.hid hch1
  have HSZ1 := Lib.hid hsz1
  clear hb1 hch1 hsz1 ht
  have HL := Lib.hid hl
  clear hl
  go_enter Tryf.func18, Tryf.ntmps18
  go_wp2_with (go_at_call 27; refine (find_calls HL.out hll HP HK (by have := HSZ1.out; omega) HB1 hsrc hcp hsp hf HF).mono ?_; rintro e w2 ⟨hch2, A, c, rfl⟩; have HCH2 := Lib.hid hch2; clear hch2)
  refine wp_loop_rounds 1 ?_
  rw [rounds_succ]
  go_wp2_with fail
  go_ret2
  exact ⟨(HCH1.out.trans HCH2.out).alloc _, _, _, rfl⟩

set_option maxRecDepth 100000 in
set_option maxHeartbeats 4000000 in
theorem matches_some {w : World} {s t : ByteArray} {l : List UInt8} {sp0 f a b : Nat} {src : List UInt8} {ps : List Pm.Pat} {head : Bool} (hl : s.data.toList = l) (hll : l.length ≤ 1000) (ht : t.data.toList = src)
    (HP : Hid (Parses l head ps)) (HK : Hid (PatsOk ps)) (hsrc : src.length ≤ 100000) (hsp : sp0 ≤ src.length) (hf : f ≤ 1000000) (ha : a ≤ 100000) (hb : b ≤ 100000)
    (HF : Hid (Pm.find (Pm.code ps) src head f (src.length + 1 - sp0) sp0 = some (some [2 * a, 2 * b]))) :
    Calls Tryf.prog 18 #[.string s, .string t, .int .i64 sp0, .int .i64 1] w (MatchPost w (some (a, b))) := by
  obtain ⟨i0, hi0, hz0, hz1, hz2⟩ := info_parts Tryf.info29
  have I0 := Lib.hid hi0
  have Z0 := Lib.hid hz0
  have Z1 := Lib.hid hz1
  have Z2 := Lib.hid hz2
  clear hi0 hz0 hz1 hz2
  obtain ⟨cp, w1, hconv, hch1, hsz1, hb1, hcp⟩ := conv_bytes w t
  rw [ht] at hconv hcp
  have HB1 : Hid (∀ i (h : i < src.length), w1.cell? ⟨w.heap.size, i, none⟩ = some (.int .u8 (src[i].toNat : Int))) := Lib.hid (by subst ht; simpa using hb1)
  have HCH1 := Lib.hid hch1
  have HSZ1 := Lib.hid hsz1
  clear hb1 hch1 hsz1 ht
  have HL := Lib.hid hl
  clear hl
  go_enter Tryf.func18, Tryf.ntmps18
  go_wp2_with (go_at_call 27; refine (find_calls HL.out hll HP HK (by have := HSZ1.out; omega) HB1 hsrc hcp hsp hf HF).mono ?_; rintro e w2 ⟨hch2, G, c, B, M, g, c', rfl, hG, hB, hcap⟩; have HCH2 := Lib.hid hch2; have HCAP := Lib.hid hcap; have HB2 := Lib.hid hB; clear hch2 hcap hB)
  have hGl := World.block_lt_of_cell? w2 _ hG
  have HGG := Lib.hid hG
  clear hG
  go_loopg [12, 32] 1 (fun k s12 s32 wr => (k = 1 ∧ s12 = sliceAt w2.heap.size 0 0 ∧ s32 = .int .i64 0 ∧ wr = w2.alloc (.cells #[] 29)) ∨ (k = 0 ∧ s32 = .int .i64 1 ∧ MatchMade w a b s12 wr))
  case atStart => exact .inl ⟨rfl, rfl, rfl, rfl⟩
  case round =>
    rcases hrel with ⟨rfl, rfl, rfl, rfl⟩ | ⟨rfl, rfl, hmm⟩
    · have hG := HGG.out
      go_wp2_with fail
      refine (cap0 (HCAP.out.keep ((Ch.refl _ _).alloc _) (fun _ _ _ => id)) ha).mono ?_
      rintro e w' ⟨rfl, rfl⟩
      go_wp2_with fail
      refine (cap1 (HCAP.out.keep ((Ch.refl _ _).alloc _) (fun _ _ _ => id)) hb).mono ?_
      rintro e w' ⟨rfl, rfl⟩
      simp only []
      (repeat (first | go_values | go_skip | go_guarded | go_step | go_upon))
      refine wp_loop_rounds 1 ?_
      rw [rounds_succ]
      (repeat (first | go_values | go_skip | go_guarded | go_step | go_upon))
      refine (cap2 (HCAP.out.keep (((((Ch.refl _ _).alloc _).alloc _).alloc _).alloc _) (fun _ _ _ => id))).mono ?_
      rintro e w' ⟨rfl, rfl⟩
      simp only []
      (repeat (first | go_values | go_skip | go_guarded | go_step | go_upon))
      go_roundg 0
      case measure => omega
      case rel =>
        refine .inr ⟨rfl, rfl, ?_, _, _, _, _, rfl, cell_new (by simp) _ _ _ _ _ rfl, cell_new (by simp) _ _ _ _ _ rfl, cell_new (by simp) _ _ _ _ _ rfl, cell_new (by simp) _ _ _ _ _ rfl⟩
        exact (((((((HCH1.out.trans HCH2.out).alloc _).alloc _).alloc _).alloc _).alloc _).alloc _).drew
    · obtain ⟨hch, G9, c9, x, y, rfl, h0, h1, h2, h3⟩ := hmm
      have HX := Lib.hid hch
      have H0 := Lib.hid h0
      have H1 := Lib.hid h1
      have H2 := Lib.hid h2
      have H3 := Lib.hid h3
      clear hch h0 h1 h2 h3
      (repeat (first | go_values | go_skip | go_guarded | go_step | go_upon))
      go_ret2
      exact ⟨HX.out, _, _, _, _, rfl, H0.out, H1.out, H2.out, H3.out⟩
end Go.Proofs.YtkbdngcbifonkaaFmt
