/-
  laws.escaped9: the pattern of a text; spec.PlainFind.
-/
import Derived.Test.YtkbdngcbifonkaaFmtPlp
import Derived.Laws.IdiomStrings
namespace Go.Proofs.YtkbdngcbifonkaaFmt
set_option linter.all false
open Go.RowKit

theorem Tryf.info5 : (Tryf.prog.info? 5).map (fun i => (i.zero, i.size, i.bytes)) = some (some (.int .u8 0), 1, 1) := by kernel_rfl
abbrev u8s (l : List UInt8) : List Value := l.map fun b => Value.int .u8 (b.toNat : Int)

theorem esc_snoc (b : UInt8) : ∀ l : List UInt8, esc (l ++ [b]) = esc l ++ (if alnum b then [b] else [37, b])
  | [] => by simp [esc]
  | c :: r => by simp only [List.cons_append, esc, esc_snoc b r, List.append_assoc]

theorem find_calls13 {w : World} {s t : ByteArray} {sp0 : Nat} (hs : s.size ≤ 100000) (ht : t.size ≤ 100000) (hsp : sp0 ≤ s.size) :
    Calls Tryf.prog 13 #[.string s, .string t, .int .i64 sp0] w fun e w' => w = w' ∧ e = .returned (.int .i64 (plainRes (firstAt t.data.toList s.data.toList (s.size + 1 - sp0) sp0))) := by
  go_enter Tryf.func13, Tryf.ntmps13
  go_wp2_with (go_at_call 22; refine (ptplain_calls hs ht hsp).mono ?_; rintro e w' ⟨rfl, rfl⟩)
  go_ret
  exact ⟨rfl, rfl⟩

/-- The pattern that grows. -/
structure EscAt (w : World) (l : List UInt8) (v : Value) (wr : World) (g c : Nat) : Prop where
  v : v = sliceAt g l.length c
  own : wr.ownsRow w.heap.size 5 1 (sliceAt g l.length c) l.length (u8s l)
  ch : Ch (fun _ => False) w wr

set_option maxRecDepth 100000 in
set_option maxHeartbeats 4000000 in
theorem escaped_calls {w : World} {s : ByteArray} (hs : s.size ≤ 1000) :
    Calls Tryf.prog 14 #[.string s] w fun e w' => e = .returned (.string ⟨(esc s.data.toList).toArray⟩) ∧ Ch (fun _ => False) w w' := by
  obtain ⟨i0, hi0, hz0, hz1, hz2⟩ := info_parts Tryf.info5
  have I0 := Lib.hid hi0
  have Z0 := Lib.hid hz0
  have Z1 := Lib.hid hz1
  have Z2 := Lib.hid hz2
  clear hi0 hz0 hz1 hz2
  go_enter Tryf.func14, Tryf.ntmps14
  go_wp2_with fail
  go_loopg [3, 4] s.size (fun k s3 s4 wr => ∃ i : Nat, s4 = .int .i64 i ∧ i ≤ s.size ∧ k = s.size - i ∧ ∃ g c, EscAt w (esc (s.data.toList.take i)) s3 wr g c)
  case atStart => exact ⟨0, rfl, by omega, rfl, w.heap.size, 0, rfl, World.ownsRow_made (base := w.heap.size) (e := 5) (size := 1) w #[] 0 (Nat.le_refl _) (Nat.zero_le _) rfl, (Ch.refl _ _).alloc _⟩
  case round =>
    obtain ⟨i, rfl, hi, rfl, g, c, hesc⟩ := hrel
    obtain ⟨rfl, hown, hch⟩ := hesc
    have hle := esc_length (s.data.toList.take i)
    rw [List.length_take, Array.length_toList] at hle
    have hsz := hch.size
    have HOWN := Lib.hid hown
    have HCH := Lib.hid hch
    have HSZ := Lib.hid hsz
    clear hown hch hsz
    generalize hes : esc (s.data.toList.take i) = es at HOWN hle
    have HES := Lib.hid hes
    clear hes
    have hle2 : es.length ≤ 2 * i := Nat.le_trans hle (by have : min i s.data.size ≤ i := Nat.min_le_left _ _; exact Nat.mul_le_mul_left 2 this)
    have hel : es.length ≤ 2000 := by omega
    clear hle hle2
    have hw : IntKind.i64.wrap ((i : Int) + 1) = ((i + 1 : Nat) : Int) := by rw [IntKind.wrap_i64]; omega
    by_cases hlt : i < s.size
    · have hlti : (i : Int) < s.size := by omega
      have hls : i < s.data.toList.length := by rw [Array.length_toList]; exact hlt
      have htk : s.data.toList.take (i + 1) = s.data.toList.take i ++ [s[i]] := by
        rw [List.take_succ_eq_append_getElem hls, Array.getElem_toList]; rfl
      have hsn := esc_snoc s[i] (s.data.toList.take i)
      rw [← htk, HES.out] at hsn
      have HSN := Lib.hid hsn
      clear hsn htk
      generalize hbe : s[i] = b at HSN
      have HBE := Lib.hid hbe
      clear hbe
      by_cases ha : alnum b = true
      · have hb : (97 ≤ b.toNat ∧ b.toNat ≤ 122) ∨ (65 ≤ b.toNat ∧ b.toNat ≤ 90) ∨ (48 ≤ b.toNat ∧ b.toNat ≤ 57) := by simpa [alnum] using ha
        have HBB := Lib.hid hb
        have hb' := HBE.out
        subst hb'
        clear HBE
        go_wp2_with (first
            | (at_builtin; refine wpList_append_lies _ rfl (.tmp 42) (.tmp 44) 32 rfl w.heap.size 5 i0 _ 1 1 Tryf.underlying32 I0.out Z0.out Z1.out Z2.out rfl (by omega) _ _ (u8s es) rfl (HOWN.out.alloc _) ⟨wr.heap.size, 0, none⟩ 1 1 [.int .u8 (s[i].toNat : Int)] rfl rfl (World.news_of_block (heap_alloc_new wr _)) (by intro y hy; simp at hy; subst hy; rfl) (by omega) (by unfold maxLen; omega) (by omega) (by have := HSZ.out; simp at this ⊢; omega) (wr.heap.size + 1) (by simp) ?_; intro g' c' w9 hown9 hgrow9 hat9 hlt9
               have HOWN9 := Lib.hid hown9
               have HG9 := Lib.hid hgrow9
               clear hown9 hgrow9 hat9 hlt9))
        all_goals first
          | (exfalso; omega)
          | (exfalso; simp only [Bool.not_eq_true', Bool.not_eq_false', decide_eq_false_iff_not, decide_eq_true_eq] at *; omega)
          | skip
        all_goals
          go_roundg (s.size - (i + 1))
          case measure => omega
          case rel =>
            refine ⟨i + 1, rfl, hlt, rfl, g', c', ?_⟩
            rw [HSN.out, if_pos ha]
            exact ⟨by simp, by simpa [u8s] using HOWN9.out, (HCH.out.alloc _).grown HG9.out (fun k hk h3 => by cases hk; have := HOWN.out.lt g rfl; have h4 : g < w.heap.size := h3; exact absurd h4 (by omega))⟩
      · have hb : ¬ ((97 ≤ b.toNat ∧ b.toNat ≤ 122) ∨ (65 ≤ b.toNat ∧ b.toNat ≤ 90) ∨ (48 ≤ b.toNat ∧ b.toNat ≤ 57)) := by simpa [alnum] using ha
        have hb' := HBE.out
        subst hb'
        clear HBE
        go_wp2_with (first
            | (at_builtin; refine wpList_append_lies _ rfl (.tmp 39) (.tmp 40) 32 rfl w.heap.size 5 i0 _ 1 1 Tryf.underlying32 I0.out Z0.out Z1.out Z2.out rfl (by omega) _ _ (u8s es) rfl (HOWN.out.alloc _) ⟨wr.heap.size, 0, none⟩ 1 1 [.int .u8 37] rfl rfl (World.news_of_block (heap_alloc_new wr _)) (by intro y hy; simp at hy; subst hy; rfl) (by omega) (by unfold maxLen; omega) (by omega) (by have := HSZ.out; simp at this ⊢; omega) (wr.heap.size + 1) (by simp) ?_; intro g8 c8 w8 hown8 hgrow8 hat8 hlt8
               have hs8 := hgrow8.size
               have HS8 := Lib.hid hs8
               have HOWN8 := Lib.hid hown8
               have HG8 := Lib.hid hgrow8
               have HA8 := Lib.hid hat8
               clear hown8 hgrow8 hat8 hlt8 hs8)
            | (at_builtin; refine wpList_append_lies _ rfl (.tmp 42) (.tmp 44) 32 rfl w.heap.size 5 i0 _ 1 1 Tryf.underlying32 I0.out Z0.out Z1.out Z2.out rfl (by omega) _ _ (u8s es ++ [.int .u8 37]) rfl (HOWN8.out.alloc _) ⟨w8.heap.size, 0, none⟩ 1 1 [.int .u8 (s[i].toNat : Int)] rfl rfl (World.news_of_block (heap_alloc_new w8 _)) (by intro y hy; simp at hy; subst hy; rfl) (by omega) (by unfold maxLen; omega) (by omega) (by have h1 := HSZ.out; have h2 := HS8.out; simp at h2 ⊢; omega) (w8.heap.size + 1) (by simp) ?_; intro g' c' w9 hown9 hgrow9 hat9 hlt9
               have HOWN9 := Lib.hid hown9
               have HG9 := Lib.hid hgrow9
               clear hown9 hgrow9 hat9 hlt9))
        all_goals first
          | (exfalso; omega)
          | (exfalso; simp only [Bool.not_eq_true', Bool.not_eq_false', decide_eq_false_iff_not, decide_eq_true_eq] at *; omega)
          | skip
        all_goals
          go_roundg (s.size - (i + 1))
          case measure => omega
          case rel =>
            refine ⟨i + 1, rfl, hlt, rfl, g', c', ?_⟩
            rw [HSN.out, if_neg ha]
            have hc8 : Ch (fun _ => False) w w8 := (HCH.out.alloc _).grown HG8.out (fun k hk h3 => by cases hk; have := HOWN.out.lt g rfl; have h4 : g < w.heap.size := h3; exact absurd h4 (by omega))
            exact ⟨by simp, by simpa [u8s] using HOWN9.out, (hc8.alloc _).grown HG9.out (fun k hk h3 => by cases hk; have := HOWN8.out.lt g8 rfl; have h4 : g8 < w.heap.size := h3; exact absurd h4 (by omega))⟩
    · have hie : i = s.size := by omega
      subst hie
      have hf : ¬ (s.size : Int) < s.size := by omega
      have hall : esc s.data.toList = es := by rw [← HES.out, List.take_of_length_le (by rw [Array.length_toList]; exact Nat.le_refl _)]
      have HALL := Lib.hid hall
      clear hall
      have hcv := run_convert_bytes_back (P := Tryf.prog) wr 32 9 5 ⟨g, 0, none⟩ c es (by kernel_rfl) (by kernel_rfl) (by kernel_rfl) (fun j hj => by
        have e : (⟨g, 0, none⟩ : Addr).add j = ⟨g, j, none⟩ := by simp [Addr.add]; omega
        rw [e, HOWN.out.cellAt j (by omega), List.getElem?_map, List.getElem?_eq_getElem hj]
        rfl)
      go_wp2_with fail
      go_ret
      exact ⟨by rw [HALL.out]; rfl, HCH.out⟩
end Go.Proofs.YtkbdngcbifonkaaFmt
