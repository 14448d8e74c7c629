/-
  impl.Matches and laws.first9, with the limit 1: a match with one capture.
-/
import Derived.Test.YtkbdngcbifonkaaFmtRdr
import Derived.Test.YtkbdngcbifonkaaFmtFst
import Derived.Deep.RegionHeld3
namespace Go.Proofs.YtkbdngcbifonkaaFmt
set_option linter.all false
open Go.RowKit

noncomputable def reg18 (id : Nat) : Code := (rgc id (Tryf.f18.body.getD .skip)).getD .skip

set_option maxRecDepth 100000 in
set_option maxHeartbeats 4000000 in
theorem m4_reg {w : World} {X Y M : Nat} {v0 v1 v2 : Value} {Q : Exit → Act → World → Prop} {u0 u1 u2 u3 u4 u5 u6 u7 u8 u9 u10 u11 u12 u13 u17 u18 u19 u20 u21 u22 u23 u24 u25 u26 u27 u28 u29 u30 u31 u32 u33 u34 u35 u36 u37 u38 u39 u40 u41 u42 u43 u44 u45 u46 u47 u48 u49 u50 u51 u52 u53 u54 u55 u56 u57 u58 u59 u60 u61 u62 u63 u64 u65 u66 u67 u68 u69 u70 u71 u72 u73 u74 u75 u76 u77 u78 u79 u80 u81 u82 : Value} (x0 : w.cell? ⟨X, 0, none⟩ = some v0) (x1 : w.cell? ⟨X, 1, none⟩ = some v1) (x2 : w.cell? ⟨X, 2, none⟩ = some v2) (x3 : w.cell? ⟨X, 3, none⟩ = some (.slice (some ⟨Y, 0, none⟩) 0 0)) (f3 : w.frozen? ⟨X, 3, none⟩ = false) (hXl : X < w.heap.size) (hXY : ¬ X = Y) {Y0 : Nat} (HOW : Hid (w.ownsRow Y0 4 1 (.slice (some ⟨Y, 0, none⟩) 0 0) 0 [])) (hY0 : Y0 ≤ w.heap.size)
    (HP : Hid (∀ w1, Ch (fun _ => False) w w1 → Calls Tryf.prog 30 #[ptr M, .int .i64 2] w1 fun e w' => e = .returned (.bool false) ∧ w1 = w'))
    (hQ : ∀ (w' : World) (Z zc : Nat) (y69 y70 y71 y72 y73 y74 y75 y76 : Value), Ch (fun b => b = X ∨ b = Y) w w' → w'.cell? ⟨X, 0, none⟩ = some v0 → w'.cell? ⟨X, 1, none⟩ = some v1 → w'.cell? ⟨X, 2, none⟩ = some v2 → w'.cell? ⟨X, 3, none⟩ = some (.slice (some ⟨Z, 0, none⟩) 1 zc) → w'.cell? ⟨Z, 0, none⟩ = some (.bool false) → (Z = Y ∨ w.heap.size ≤ Z) → Q .normal { tmps := #[u0, u1, u2, u3, u4, u5, u6, u7, u8, u9, u10, u11, u12, u13, ptr M, ptr X, .int .i64 2, u17, u18, u19, u20, u21, u22, u23, u24, u25, u26, u27, u28, u29, u30, u31, u32, u33, u34, u35, u36, u37, u38, u39, u40, u41, u42, u43, u44, u45, u46, u47, u48, u49, u50, u51, u52, u53, u54, u55, u56, u57, u58, u59, u60, u61, u62, u63, u64, u65, u66, u67, u68, y69, y70, y71, y72, y73, y74, y75, y76, u77, u78, u79, u80, u81, u82], defers := [] } w') :
    (reg18 16).wp Tryf.prog Q { tmps := #[u0, u1, u2, u3, u4, u5, u6, u7, u8, u9, u10, u11, u12, u13, ptr M, ptr X, .int .i64 2, u17, u18, u19, u20, u21, u22, u23, u24, u25, u26, u27, u28, u29, u30, u31, u32, u33, u34, u35, u36, u37, u38, u39, u40, u41, u42, u43, u44, u45, u46, u47, u48, u49, u50, u51, u52, u53, u54, u55, u56, u57, u58, u59, u60, u61, u62, u63, u64, u65, u66, u67, u68, u69, u70, u71, u72, u73, u74, u75, u76, u77, u78, u79, u80, u81, u82], defers := [] } w := by
  obtain ⟨i0, hi0, hz0, hz1, hz2⟩ := info_parts Tryf.info4
  have I0 := Lib.hid hi0
  have Z0 := Lib.hid hz0
  have Z1 := Lib.hid hz1
  have Z2 := Lib.hid hz2
  clear hi0 hz0 hz1 hz2
  have HQ := Lib.hid hQ
  clear hQ
  conv => arg 2; whnf
  refine wp_region_noPanic ?_
  go_region_law (first
    | (refine step_append_lies _ rfl (.tmp 70) (.tmp 74) 27 rfl Y0 4 i0 _ 1 1 Tryf.underlying27 I0.out Z0.out Z1.out Z2.out rfl (by omega) _ 0 [] rfl (Ch.owns (T := fun _ => False) (((Ch.refl _ _).drew).alloc _) HOW.out (fun _ _ => id)) ⟨w.heap.size, 0, none⟩ 1 1 [.bool false] rfl rfl (World.news_of_block (heap_alloc_new w.drew _)) (by intro y hy; simp at hy; subst hy; rfl) (by omega) (by unfold maxLen; omega) (by omega) (by simp; omega) (w.heap.size + 1) (by simp) ?_; intro g' c' w9 hown9 hgrow9 hat9 hlt9
       have hc9 : Ch (· = Y) w w9 := (((Ch.refl (· = Y) w).drew).alloc _).grown hgrow9 (fun k hk _ => by cases hk; rfl)
       have e3 := hc9.cell_some x3 hXY
       have fz3 := (hc9.frozen (p := ⟨X, 3, none⟩) hXl hXY).trans f3
       have hx : Ch (fun b => b = X ∨ b = Y) w (w9.setCell ⟨X, 3, none⟩ (.slice (some ⟨g', 0, none⟩) (0 + 1) c')) := (hc9.mono fun _ _ h => .inr h).setCell (p := ⟨X, 3, none⟩) (fun _ => .inl rfl) _
       have hg : g' = Y ∨ w.heap.size ≤ g' := by
         rcases hat9 with h | h
         · cases h; exact .inl rfl
         · exact .inr (by omega)
       have hgX : ¬ g' = X := by
         rcases hg with h | h
         · rw [h]; exact fun e => hXY e.symm
         · omega
       have hz : (w9.setCell ⟨X, 3, none⟩ (.slice (some ⟨g', 0, none⟩) (0 + 1) c')).cell? ⟨g', 0, none⟩ = some (.bool false) := by
         rw [World.cell?_setCell_other _ _ _ _ (fun e => hgX (congrArg Addr.block e).symm)]
         have := hown9.cellAt 0 (by simp); simpa using this
       have hs0 : (w9.setCell ⟨X, 3, none⟩ (.slice (some ⟨g', 0, none⟩) (0 + 1) c')).cell? ⟨X, 0, none⟩ = some v0 := by rw [World.cell?_setCell_other _ _ _ _ (addr_ne (by decide))]; exact hc9.cell_some x0 hXY
       have hs1 : (w9.setCell ⟨X, 3, none⟩ (.slice (some ⟨g', 0, none⟩) (0 + 1) c')).cell? ⟨X, 1, none⟩ = some v1 := by rw [World.cell?_setCell_other _ _ _ _ (addr_ne (by decide))]; exact hc9.cell_some x1 hXY
       have hs2 : (w9.setCell ⟨X, 3, none⟩ (.slice (some ⟨g', 0, none⟩) (0 + 1) c')).cell? ⟨X, 2, none⟩ = some v2 := by rw [World.cell?_setCell_other _ _ _ _ (addr_ne (by decide))]; exact hc9.cell_some x2 hXY
       have hs3 : (w9.setCell ⟨X, 3, none⟩ (.slice (some ⟨g', 0, none⟩) (0 + 1) c')).cell? ⟨X, 3, none⟩ = some (.slice (some ⟨g', 0, none⟩) (0 + 1) c') := World.cell?_setCell_same _ _ _ e3
       have HXX := Lib.hid hx
       have HZZ := Lib.hid hz
       have HS0 := Lib.hid hs0
       have HS1 := Lib.hid hs1
       have HS2 := Lib.hid hs2
       have HS3 := Lib.hid hs3
       clear hown9 hgrow9 hat9 hx hz hs0 hs1 hs2 hs3 hc9)
    | (go_simp; go_at_call 30; refine (HP.out _ (by repeat first | exact Ch.refl _ _ | refine Ch.drew ?_ | refine Ch.alloc ?_ _)).mono ?_; rintro e w2 ⟨rfl, rfl⟩))
  all_goals
    refine NoPanic.normal ?_
    exact HQ.out _ _ _ _ _ _ _ _ _ _ _ HXX.out HS0.out HS1.out HS2.out HS3.out HZZ.out hg

theorem cell_peel {w : World} {o : Obj} {k i : Nat} (h : k < w.heap.size) : (w.alloc o).cell? ⟨k, i, none⟩ = w.cell? ⟨k, i, none⟩ := World.cell?_of_block (w := w) (Below.heap_alloc _ _ _ h)
theorem drew_peel {w : World} {p : Addr} : w.drew.cell? p = w.cell? p := rfl

theorem cap4 {w : World} {B M g c : Nat} {l : List Nat} (h : CapsAt w B M l g c) (i x : Nat) (hi : i < l.length) (hx : l[i] = 2 * x) (hl : x ≤ 100000) : Calls Tryf.prog 28 #[ptr M, .int .i64 (i : Int)] w fun e w' => e = .returned (.int .i64 (x : Int)) ∧ w = w' := by
  refine (capture_calls (s := i) h hi (by omega)).mono ?_
  rintro e w' ⟨rfl, rfl⟩
  refine ⟨?_, rfl⟩
  rw [hx, show 2 * x / 2 = x from by omega]

theorem pos4 {w : World} {B M g c : Nat} {l : List Nat} (h : CapsAt w B M l g c) (i x : Nat) (hi : i < l.length) (hx : l[i] = 2 * x) (hl : x ≤ 100000) : Calls Tryf.prog 30 #[ptr M, .int .i64 (i : Int)] w fun e w' => e = .returned (.bool false) ∧ w = w' :=
  ispos_calls (s := i) h hi (by omega) (by omega)

/-- What impl.Matches with the limit 1 gives: one match with one capture. -/
def M4Post (w : World) (a b p q : Nat) (e : Ending) (w' : World) : Prop :=
  Ch (fun _ => False) w w' ∧ ∃ G c C cc P pc, e = .returned (.tuple #[sliceAt G 1 c, .bool true]) ∧ w'.cell? ⟨G, 0, none⟩ = some (.int .i64 (a : Int)) ∧ w'.cell? ⟨G, 1, none⟩ = some (.int .i64 (b : Int)) ∧ w'.cell? ⟨G, 2, none⟩ = some (.slice (some ⟨C, 0, none⟩) 1 cc) ∧ w'.cell? ⟨G, 3, none⟩ = some (.slice (some ⟨P, 0, none⟩) 1 pc) ∧
    w'.cell? ⟨C, 0, none⟩ = some (.int .i64 (p : Int)) ∧ w'.cell? ⟨C, 1, none⟩ = some (.int .i64 (q : Int)) ∧ w'.cell? ⟨P, 0, none⟩ = some (.bool false)

set_option maxRecDepth 100000 in
set_option maxHeartbeats 4000000 in
theorem matches_four {w : World} {s t : ByteArray} {l : List UInt8} {sp0 f a b p q : Nat} {src : List UInt8} {ps : List Pm.Pat} {head : Bool} (hl : s.data.toList = l) (hll : l.length ≤ 1000) (ht : t.data.toList = src)
    (HP : Hid (Parses l head ps)) (HK : Hid (PatsOk ps)) (hsrc : src.length ≤ 100000) (hsp : sp0 ≤ src.length) (hf : f ≤ 1000000) (ha : a ≤ 100000) (hb : b ≤ 100000) (hp : p ≤ 100000) (hq : q ≤ 100000)
    (HF : Hid (Pm.find (Pm.code ps) src head f (src.length + 1 - sp0) sp0 = some (some [2 * a, 2 * b, 2 * p, 2 * q]))) :
    Calls Tryf.prog 18 #[.string s, .string t, .int .i64 sp0, .int .i64 1] w (M4Post w a b p q) := by
  obtain ⟨i0, hi0, hz0, hz1, hz2⟩ := info_parts Tryf.info29
  have I0 := Lib.hid hi0
  have Z0 := Lib.hid hz0
  have Z1 := Lib.hid hz1
  have Z2 := Lib.hid hz2
  clear hi0 hz0 hz1 hz2
  obtain ⟨cp, w1, hconv, hch1, hsz1, hb1, hcp⟩ := conv_bytes w t
  rw [ht] at hconv hcp
  have HB1 : Hid (∀ i (h : i < src.length), w1.cell? ⟨w.heap.size, i, none⟩ = some (.int .u8 (src[i].toNat : Int))) := Lib.hid (by subst ht; simpa using hb1)
  have HCH1 := Lib.hid hch1
  have HSZ1 := Lib.hid hsz1
  clear hb1 hch1 hsz1 ht
  have HL := Lib.hid hl
  clear hl
  go_enter Tryf.func18, Tryf.ntmps18
  go_wp2_with (go_at_call 27; refine (find_calls HL.out hll HP HK (by have := HSZ1.out; omega) HB1 hsrc hcp hsp hf HF).mono ?_; rintro e w2 ⟨hch2, G, c, B, M, g, c', rfl, hG, hB, hcap⟩; have HCH2 := Lib.hid hch2; have HCAP := Lib.hid hcap; have HB2 := Lib.hid hB; clear hch2 hcap hB)
  have hGl := World.block_lt_of_cell? w2 _ hG
  have HGG := Lib.hid hG
  clear hG
  go_loopg [12, 32] 1 (fun k s12 s32 wr => (k = 1 ∧ s12 = sliceAt w2.heap.size 0 0 ∧ s32 = .int .i64 0 ∧ wr = w2.alloc (.cells #[] 29)) ∨ (k = 0 ∧ s32 = .int .i64 1 ∧ M4Post w a b p q (.returned (.tuple #[s12, .bool true])) wr))
  case atStart => exact .inl ⟨rfl, rfl, rfl, rfl⟩
  case round =>
    rcases hrel with ⟨rfl, rfl, rfl, rfl⟩ | ⟨rfl, rfl, hmm⟩
    · have hG := HGG.out
      go_wp2_with fail
      refine (cap4 (HCAP.out.keep ((Ch.refl _ _).alloc _) (fun _ _ _ => id)) 0 a (by simp) rfl ha).mono ?_
      rintro e w' ⟨rfl, rfl⟩
      go_wp2_with fail
      refine (cap4 (HCAP.out.keep ((Ch.refl _ _).alloc _) (fun _ _ _ => id)) 1 b (by simp) rfl hb).mono ?_
      rintro e w' ⟨rfl, rfl⟩
      simp only []
      (repeat (first | go_values | go_skip | go_guarded | go_step | go_upon))
      refine wp_loop_rounds 2 ?_
      rw [rounds_succ]
      (repeat (first | go_values | go_skip | go_guarded | go_step | go_upon))
      refine (length_calls (HCAP.out.keep (((((Ch.refl _ _).alloc _).alloc _).alloc _).alloc _) (fun _ _ _ => id))).mono ?_
      rintro e w' ⟨rfl, rfl⟩
      simp only [List.length_cons, List.length_nil]
      (repeat (first | go_values | go_skip | go_guarded | go_step | go_upon))
      refine (cap4 (HCAP.out.keep (((((Ch.refl _ _).alloc _).alloc _).alloc _).alloc _) (fun _ _ _ => id)) 2 p (by simp) rfl hp).mono ?_
      rintro e w' ⟨rfl, rfl⟩
      simp only []
      (repeat (first | go_values | go_skip | go_guarded | go_step | go_upon))
      refine (pos4 (HCAP.out.keep ((((((Ch.refl _ _).alloc _).alloc _).alloc _).alloc _).alloc _) (fun _ _ _ => id)) 2 p (by simp) rfl hp).mono ?_
      rintro e w' ⟨rfl, rfl⟩
      simp only []
      (repeat (first | go_values | go_skip | go_guarded | go_step | go_upon))
      refine (cap4 (HCAP.out.keep ((((((Ch.refl _ _).alloc _).alloc _).alloc _).alloc _).alloc _) (fun _ _ _ => id)) 3 q (by simp) rfl hq).mono ?_
      rintro e w' ⟨rfl, rfl⟩
      simp only []
      (repeat (first | go_values | go_skip | go_guarded | go_step | go_upon))
      have CHW : ∀ o0 o1 o2 o3 o4 o5 o6, Ch (fun _ => False) w2 ((((((((w2.alloc o0).alloc o1).alloc o2).alloc o3).alloc o4).alloc o5).alloc o6).drew) := fun o0 o1 o2 o3 o4 o5 o6 => ((((((((Ch.refl _ _).alloc _).alloc _).alloc _).alloc _).alloc _).alloc _).alloc _).drew
      have hsz2 : ∀ o0 o1, ((w2.alloc o0).alloc o1).heap.size = w2.heap.size + 1 + 1 := fun o0 o1 => by simp
      refine m4_reg (X := w2.heap.size + 1 + 1 + 1) (Y := w2.heap.size + 1 + 1) (Y0 := w2.heap.size + 1 + 1) (v0 := .int .i64 (a : Int)) (v1 := .int .i64 (b : Int)) (v2 := .slice (some ⟨w2.heap.size + 1 + 1 + 1 + 1 + 1 + 1, 0, none⟩) 1 ((Question.appendCap 1 0 25).cut (w2.tape w2.drawn (Question.appendCap 1 0 25)))) ?x0 ?x1 ?x2 ?x3 ?f3 (by simp) (by omega) ?how (by simp) ?hp ?hq
      case x0 => exact (drew_peel).trans ((cell_peel (by simp)).trans ((cell_peel (by simp)).trans ((cell_peel (by simp)).trans (World.cell?_alloc_at _ _ _ _ (by simp)))))
      case x1 => exact (drew_peel).trans ((cell_peel (by simp)).trans ((cell_peel (by simp)).trans ((cell_peel (by simp)).trans (World.cell?_alloc_at _ _ _ _ (by simp)))))
      case x2 => exact (drew_peel).trans ((cell_peel (by simp)).trans ((cell_peel (by simp)).trans ((cell_peel (by simp)).trans (World.cell?_alloc_at _ _ _ _ (by simp)))))
      case x3 => exact (drew_peel).trans ((cell_peel (by simp)).trans ((cell_peel (by simp)).trans ((cell_peel (by simp)).trans (World.cell?_alloc_at _ _ _ _ (by simp)))))
      case f3 => simp [go_sem]
      case how =>
        have h := World.ownsRow_made (base := w2.heap.size + 1 + 1) (e := 4) (size := 1) ((w2.alloc (.cells #[] 29)).alloc (.cells #[] 25)) #[] 0 (by simp) (Nat.zero_le _) rfl
        rw [hsz2] at h
        exact Lib.hid (Ch.owns (T := fun _ => False) ((((((Ch.refl _ _).alloc _).alloc _).alloc _).alloc _).drew) h (fun _ _ => id))
      case hp =>
        refine Lib.hid fun w1 hc => ?_
        refine (pos4 (HCAP.out.keep ((CHW _ _ _ _ _ _ _).trans hc) (fun _ _ _ => id)) 2 p (by simp) rfl hp).mono ?_
        rintro e w' ⟨rfl, rfl⟩
        exact ⟨rfl, rfl⟩
      case hq =>
        intro w5 Z zc _ _ _ _ _ _ _ _ hch5 y0 y1 y2 y3 yz hZ
        have k0 := hch5.cell_some (p := ⟨w2.heap.size + 1 + 1 + 1 + 1 + 1 + 1, 0, none⟩) (v := .int .i64 (p : Int)) ((drew_peel).trans (by refine (World.cell?_alloc_at _ _ _ _ (by simp)).trans ?_; rw [Array.getElem?_append_left (by simp)]; rfl)) (by simp; omega)
        have k1 := hch5.cell_some (p := ⟨w2.heap.size + 1 + 1 + 1 + 1 + 1 + 1, 1, none⟩) (v := .int .i64 (q : Int)) ((drew_peel).trans (by refine (World.cell?_alloc_at _ _ _ _ (by simp)).trans ?_; rw [Array.getElem?_append_left (by simp)]; rfl)) (by simp; omega)
        have hc25 : Ch (fun _ => False) w2 w5 := (CHW _ _ _ _ _ _ _).trans' hch5 (fun i hi e => by omega)
        have HC25 := Lib.hid hc25
        have HK0 := Lib.hid k0
        have HK1 := Lib.hid k1
        have HYZ := Lib.hid yz
        have hx5 : w2.heap.size + 1 + 1 + 1 < w5.heap.size := World.block_lt_of_cell? _ _ y0
        clear hch5 hc25 k0 k1 yz CHW hsz2
        simp only [Exit.then, Exit.inBlock]
        (repeat (first | go_values | go_skip | go_guarded | go_step | go_upon))
        rw [rounds_succ]
        (repeat (first | go_values | go_skip | go_guarded | go_step | go_upon))
        refine (length_calls (HCAP.out.keep HC25.out (fun _ _ _ => id))).mono ?_
        rintro e w' ⟨rfl, rfl⟩
        simp only [List.length_cons, List.length_nil]
        (repeat (first | go_values | go_skip | go_guarded | go_step | go_upon))
        go_roundg 0
        case measure => omega
        case rel =>
          refine .inr ⟨rfl, rfl, ?_, _, _, _, _, _, _, rfl, cell_new (by simp) _ _ _ _ _ rfl, cell_new (by simp) _ _ _ _ _ rfl, cell_new (by simp) _ _ _ _ _ rfl, cell_new (by simp) _ _ _ _ _ rfl, ?_, ?_, ?_⟩
          · refine ((HCH1.out.trans HCH2.out).trans HC25.out).trans ?_
            repeat first | exact Ch.refl _ _ | refine Ch.drew ?_ | refine Ch.alloc ?_ _
          · exact (drew_peel).trans ((cell_peel (by have := World.block_lt_of_cell? _ _ HK0.out; simp at this ⊢; omega)).trans ((cell_peel (World.block_lt_of_cell? _ _ HK0.out)).trans HK0.out))
          · exact (drew_peel).trans ((cell_peel (by have := World.block_lt_of_cell? _ _ HK0.out; simp at this ⊢; omega)).trans ((cell_peel (World.block_lt_of_cell? _ _ HK0.out)).trans HK1.out))
          · exact (drew_peel).trans ((cell_peel (by have := World.block_lt_of_cell? _ _ HYZ.out; simp at this ⊢; omega)).trans ((cell_peel (World.block_lt_of_cell? _ _ HYZ.out)).trans HYZ.out))
    · obtain ⟨hch, G9, c9, C, cc, P, pc, he, h0, h1, h2, h3, h4, h5, h6⟩ := hmm
      injection he with he
      injection he with he
      have he2 := congrArg (fun x : Array Value => x[0]?) he
      simp only [List.getElem?_toArray, List.getElem?_cons_zero, Option.some.injEq] at he2
      subst he2
      have HMM : Hid (M4Post w a b p q (.returned (.tuple #[sliceAt G9 1 c9, .bool true])) _) := Lib.hid ⟨hch, G9, c9, C, cc, P, pc, rfl, h0, h1, h2, h3, h4, h5, h6⟩
      clear hch h0 h1 h2 h3 h4 h5 h6 he
      (repeat (first | go_values | go_skip | go_guarded | go_step | go_upon))
      go_ret2
      exact HMM.out

/-- What first9 gives: a match with one capture. -/
def F4Post (w : World) (a b p q : Nat) (e : Ending) (w' : World) : Prop :=
  Ch (fun _ => False) w w' ∧ ∃ C cc P pc, e = .returned (.tuple #[.agg #[.int .i64 (a : Int), .int .i64 (b : Int), .slice (some ⟨C, 0, none⟩) 1 cc, .slice (some ⟨P, 0, none⟩) 1 pc], .bool true, .bool true]) ∧
    w'.cell? ⟨C, 0, none⟩ = some (.int .i64 (p : Int)) ∧ w'.cell? ⟨C, 1, none⟩ = some (.int .i64 (q : Int)) ∧ w'.cell? ⟨P, 0, none⟩ = some (.bool false)

set_option maxRecDepth 100000 in
set_option maxHeartbeats 4000000 in
theorem first_four {w : World} {s t : ByteArray} {l : List UInt8} {sp0 f a b p q : Nat} {src : List UInt8} {ps : List Pm.Pat} {head : Bool} (hl : s.data.toList = l) (hll : l.length ≤ 1000) (ht : t.data.toList = src)
    (HP : Hid (Parses l head ps)) (HK : Hid (PatsOk ps)) (hsrc : src.length ≤ 100000) (hsp : sp0 ≤ src.length) (hf : f ≤ 1000000) (ha : a ≤ 100000) (hb : b ≤ 100000) (hp : 0 < p ∧ p ≤ 100000) (hq : q ≤ 100000)
    (HF : Hid (Pm.find (Pm.code ps) src head f (src.length + 1 - sp0) sp0 = some (some [2 * a, 2 * b, 2 * p, 2 * q]))) :
    Calls Tryf.prog 11 #[.string s, .string t, .int .i64 sp0] w (F4Post w a b p q) := by
  have HL := Lib.hid hl
  have HT := Lib.hid ht
  clear hl ht
  go_enter Tryf.func11, Tryf.ntmps11
  go_wp2_with (go_at_call 18; refine (matches_four HL.out hll HT.out HP HK hsrc hsp hf ha hb hp.2 hq HF).mono ?_; rintro e w2 ⟨hch2, G, c, C, cc, P, pc, rfl, h0, h1, h2, h3, hc0, hc1, hp0⟩; obtain ⟨z0, z1, z2, z3, z4, z5⟩ := cells4 hch2; have y0 := z4 0; have y1 := z4 1; have y2 := z4 2; have y3 := z4 3; have HCH2 := Lib.hid hch2; have HC0 := Lib.hid hc0; have HC1 := Lib.hid hc1; have HP0 := Lib.hid hp0; clear hch2 z4 hc0 hc1 hp0)
  have hcn : ¬ C = w.heap.size := by
    rintro rfl
    have := HC0.out
    rw [z0] at this
    injection this with this
    injection this with _ this
    omega
  have hpn : ¬ P = w.heap.size := by
    rintro rfl
    have := HP0.out
    rw [z0] at this
    injection this with this
    cases this
  refine bodyPost_ret (v := .tuple #[.agg #[.int .i64 (a : Int), .int .i64 (b : Int), .slice (some ⟨C, 0, none⟩) 1 cc, .slice (some ⟨P, 0, none⟩) 1 pc], .bool true, .bool true]) (by rw [results_c3 rfl]; simp [go_sem, z0, z1, z2, z3, z5]) rfl ?_
  refine ⟨((((((Ch.refl (fun _ => False) w).alloc _).trans HCH2.out).setCell (fun h => absurd h (Nat.lt_irrefl _)) _).setCell (fun h => absurd h (Nat.lt_irrefl _)) _).setCell (fun h => absurd h (Nat.lt_irrefl _)) _).setCell (fun h => absurd h (Nat.lt_irrefl _)) _, C, cc, P, pc, rfl, ?_, ?_, ?_⟩
  · rw [World.cell?_setCell_other _ _ _ _ (fun e => hcn (congrArg Addr.block e).symm), World.cell?_setCell_other _ _ _ _ (fun e => hcn (congrArg Addr.block e).symm), World.cell?_setCell_other _ _ _ _ (fun e => hcn (congrArg Addr.block e).symm), World.cell?_setCell_other _ _ _ _ (fun e => hcn (congrArg Addr.block e).symm)]
    exact HC0.out
  · rw [World.cell?_setCell_other _ _ _ _ (fun e => hcn (congrArg Addr.block e).symm), World.cell?_setCell_other _ _ _ _ (fun e => hcn (congrArg Addr.block e).symm), World.cell?_setCell_other _ _ _ _ (fun e => hcn (congrArg Addr.block e).symm), World.cell?_setCell_other _ _ _ _ (fun e => hcn (congrArg Addr.block e).symm)]
    exact HC1.out
  · rw [World.cell?_setCell_other _ _ _ _ (fun e => hpn (congrArg Addr.block e).symm), World.cell?_setCell_other _ _ _ _ (fun e => hpn (congrArg Addr.block e).symm), World.cell?_setCell_other _ _ _ _ (fun e => hpn (congrArg Addr.block e).symm), World.cell?_setCell_other _ _ _ _ (fun e => hpn (congrArg Addr.block e).symm)]
    exact HP0.out

end Go.Proofs.YtkbdngcbifonkaaFmt
