/-
  The law on a name: its tokens; the whole walk.
-/
import Derived.Test.YtbgjjbffpckimaaDoorNam
namespace Go.Proofs.YtbgjjbffpckimaaDoor
set_option linter.all false
open Go.RowKit

theorem isNm_all : ∀ (b : Bool) (s : Bs), isNm b s = true → ∀ c ∈ s, isIdc c = true
  | _, [], _, c, hc => by cases hc
  | b, x :: r, h, c, hc => by
    rw [isNm, Bool.and_eq_true] at h
    rcases List.mem_cons.1 hc with rfl | hc
    · unfold isIdc
      rcases Bool.or_eq_true_iff.1 h.1 with h1 | h1
      · rw [h1]; rfl
      · rw [(Bool.and_eq_true_iff.1 h1).2]; simp
    · exact isNm_all false r h.2 c hc
theorem idc_ne {c : UInt8} (h : isIdc c = true) : c ≠ 13 := by rintro rfl; exact absurd h (by decide)
theorem isNm_nocr (b : Bool) (s : Bs) (h : isNm b s = true) : NoCr s := fun c hc => idc_ne (isNm_all b s h c hc)
theorem let_sp {c : UInt8} (h : isLet c = true) : isSp c = false := by
  cases hs : isSp c
  · rfl
  · unfold isSp at hs
    simp only [Bool.or_eq_true, beq_iff_eq] at hs
    rcases hs with (rfl | rfl) | rfl <;> exact absurd h (by decide)
theorem takeW_all {p : UInt8 → Bool} : ∀ {s : Bs}, (∀ c ∈ s, p c = true) → s.takeWhile p = s ∧ s.dropWhile p = []
  | [], _ => ⟨rfl, rfl⟩
  | c :: t, h => by
    have hc := h c (by simp)
    have ih := takeW_all (s := t) fun x hx => h x (by simp [hx])
    rw [List.takeWhile_cons, List.dropWhile_cons, hc]
    simp [ih.1, ih.2]

/-- The tokens of a name. -/
theorem Lx.of_name {s : Bs} (hs : s ≠ []) (hn : isNm true s = true) (hg : s ≠ gotoB) : Lx s [(⟨if s ∈ kws then 2 else 1, s, s⟩, s)] 0 := by
  match s, hs with
  | c :: t, _ =>
    have hl : isLet c = true := by
      rw [isNm, Bool.and_eq_true] at hn
      simpa using hn.1
    have ha := takeW_all (isNm_all true _ hn)
    refine Lx.tok (let_sp hl) (fun h => ?_) ?_ Lx.nil
    · rw [h.1] at hl
      exact absurd hl (by decide)
    · rw [nextP, if_pos hl, nameP, ha.1, ha.2, if_neg hg]

theorem kws_len : kws.length = 21 := rfl
def kwVals : Array Value := #[.string { data := #[97, 110, 100] }, .string { data := #[98, 114, 101, 97, 107] }, .string { data := #[100, 111] }, .string { data := #[101, 108, 115, 101] }, .string { data := #[101, 108, 115, 101, 105, 102] }, .string { data := #[101, 110, 100] }, .string { data := #[102, 97, 108, 115, 101] }, .string { data := #[102, 111, 114] }, .string { data := #[102, 117, 110, 99, 116, 105, 111, 110] }, .string { data := #[105, 102] }, .string { data := #[105, 110] }, .string { data := #[108, 111, 99, 97, 108] }, .string { data := #[110, 105, 108] }, .string { data := #[110, 111, 116] }, .string { data := #[111, 114] }, .string { data := #[114, 101, 112, 101, 97, 116] }, .string { data := #[114, 101, 116, 117, 114, 110] }, .string { data := #[116, 104, 101, 110] }, .string { data := #[116, 114, 117, 101] }, .string { data := #[117, 110, 116, 105, 108] }, .string { data := #[119, 104, 105, 108, 101] }]
theorem kwVals_get : ∀ k : Nat, k < 21 → kwVals[k]? = some (.string ⟨(kws.getD k []).toArray⟩) := by
  intro k hk
  rcases k with _|_|_|_|_|_|_|_|_|_|_|_|_|_|_|_|_|_|_|_|_|k <;> first | rfl | omega

theorem kw_yes {s : Bs} {k : Nat} (hk : k < 21) (h : (kws[k]?.getD [] == s) = true) : s ∈ kws.take (k + 1) := by
  have hl : k < kws.length := hk
  rw [List.take_succ, List.mem_append, List.getElem?_eq_getElem hl]
  rw [List.getElem?_eq_getElem hl] at h
  right
  simpa using (eq_of_beq h).symm
theorem kw_no {s : Bs} {k : Nat} (hk : k < 21) (h : (kws[k]?.getD [] == s) = false) : s ∈ kws.take (k + 1) ↔ s ∈ kws.take k := by
  have hl : k < kws.length := hk
  rw [List.take_succ, List.mem_append, List.getElem?_eq_getElem hl]
  rw [List.getElem?_eq_getElem hl] at h
  refine ⟨fun h1 => h1.resolve_right fun h2 => ?_, .inl⟩
  have e : s = kws[k] := by simpa using h2
  rw [e] at h
  simp at h

def FnRel (s : ByteArray) (X n : Nat) (v3 v19 : Value) (w0 wr : World) : Prop :=
  ∃ k : Nat, v19 = .int .i64 (k : Int) ∧ k ≤ 21 ∧ v3 = .int .i64 (if s.data.toList ∈ kws.take k then 2 else 1) ∧ wr.heap[X]? = some (.cells kwVals 9 (0, 0)) ∧ Ch (fun _ => False) w0 wr ∧ n = 21 - k

set_option maxRecDepth 100000 in
set_option maxHeartbeats 2000000 in
theorem fnName_calls {w : World} {E : Addr} {bm : Nat} {obj : Obj} {s : ByteArray} (H : Hid (Wld w E bm obj)) :
    Calls Tryd.prog 3 #[.string s] w fun e w' => e = .returned (.bool true) ∧ Ch (fun _ => False) w w' := by
  go_enter Tryd.func3, Tryd.ntmps3
  by_cases h0 : s.size ≤ 100
  · go_wp2_with fail
    refine (isName_calls h0).mono ?_
    rintro e w' ⟨rfl, rfl⟩
    simp only []
    cases hb : (isNm true s.data.toList && decide (0 < s.size) && decide (s.data.toList ≠ [103, 111, 116, 111]))
    · go_wp2_with fail
      go_ret
      exact ⟨rfl, Ch.refl _ _⟩
    · have HB := Lib.hid hb
      clear hb
      go_wp2_with fail
      have hX : w'.heap.size < (w'.alloc (.cells kwVals 9)).heap.size := by simp
      go_loopg [3, 19] 21 (fun n v3 v19 wr => FnRel s w'.heap.size n v3 v19 w' wr)
      case atStart => exact ⟨0, rfl, by omega, rfl, heap_alloc_new _ _, (Ch.refl _ _).alloc _, rfl⟩
      case round =>
        obtain ⟨k, rfl, hk, rfl, hh, hc, hn⟩ := hrel
        by_cases hlt : k < 21
        · have c0 : wr.cell? ⟨w'.heap.size, k, none⟩ = some (.string ⟨(kws.getD k []).toArray⟩) := by rw [Lib.cell_of_heap hh]; exact kwVals_get k hlt
          have HC := Lib.hid hc
          have HH := Lib.hid hh
          have HN := Lib.hid hn
          clear hc hh hn hX
          go_wp2_with fail
          all_goals go_roundg (21 - (k + 1))
          all_goals first | (case measure => have := HN.out; omega) | skip
          all_goals refine ⟨k + 1, rfl, hlt, ?_, HH.out, HC.out, rfl⟩
          all_goals have e3 : s.toList = s.data.toList := by first | exact ByteArray.toList_eq _ | simp
          all_goals rename_i hq
          · rw [e3] at hq
            rw [if_pos (kw_yes hlt hq)]
          · rw [e3] at hq
            rw [if_pos ((kw_no hlt hq).2 (by assumption))]
          · rw [e3] at hq
            rw [if_neg (fun h => (by assumption : ¬ _) ((kw_no hlt hq).1 h))]
        · have HC := Lib.hid hc
          have HN := Lib.hid hn
          clear hc hh hn hX
          obtain ⟨⟨hnm, hp⟩, hg⟩ := (show ((isNm true s.data.toList = true ∧ 0 < s.size) ∧ s.data.toList ≠ [103, 111, 116, 111]) by simpa using HB.out)
          have hne : s.data.toList ≠ [] := fun h => by
            have h2 : s.data.toList.length = s.size := Array.length_toList
            rw [h] at h2; simp at h2; omega
          have hk21 : k = 21 := by omega
          have htk : kws.take k = kws := by rw [hk21]; rfl
          have hlx := Lx.of_name hne hnm hg
          have HLX := Lib.hid hlx
          have HNC := Lib.hid (isNm_nocr _ _ hnm)
          have HTK := Lib.hid htk
          have hsl : s.size < 4096 := by omega
          clear hlx hnm hg hne htk
          go_wp2_with fail
          all_goals have hx : s = ⟨s.data.toList.toArray⟩ := by simp
          · have h1 : Lx s.data.toList [(⟨2, s.data.toList, s.data.toList⟩, s.data.toList)] 0 := by
              have h2 := HLX.out
              rwa [if_pos (show s.data.toList ∈ kws from (by assumption))] at h2
            refine (isOne_calls (Lib.hid (H.out.moved HC.out)) h1 HNC.out hsl hx).mono ?_
            rintro e w9 ⟨rfl, hc9⟩
            have HC9 := Lib.hid (HC.out.trans hc9)
            clear hc9
            simp only []
            go_wp2_with fail
            go_ret
            exact ⟨rfl, HC9.out⟩
          · have h1 : Lx s.data.toList [(⟨1, s.data.toList, s.data.toList⟩, s.data.toList)] 0 := by
              have h2 := HLX.out
              rwa [if_neg (show ¬ s.data.toList ∈ kws from (by assumption))] at h2
            refine (isOne_calls (Lib.hid (H.out.moved HC.out)) h1 HNC.out hsl hx).mono ?_
            rintro e w9 ⟨rfl, hc9⟩
            have HC9 := Lib.hid (HC.out.trans hc9)
            clear hc9
            simp only []
            go_wp2_with fail
            go_ret
            exact ⟨rfl, HC9.out⟩
  · go_wp2_with fail
    all_goals go_ret
    all_goals exact ⟨rfl, Ch.refl _ _⟩
end Go.Proofs.YtbgjjbffpckimaaDoor
