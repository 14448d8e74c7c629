/-
  The law on a name: the walks.
-/
import Derived.Test.YtbgjjbffpckimaaDoorLad
namespace Go.Proofs.YtbgjjbffpckimaaDoor
set_option linter.all false
open Go.RowKit

set_option maxRecDepth 100000 in
set_option maxHeartbeats 1000000 in
theorem isOne_calls {w : World} {E : Addr} {bm : Nat} {obj : Obj} {s x : ByteArray} {t : Tok} {a : Bs} (H : Hid (Wld w E bm obj)) (hlx : Lx s.data.toList [(t, a)] 0) (h13 : NoCr s.data.toList) (hsz : s.size < 4096) (hx : x = ⟨t.raw.toArray⟩) :
    Calls Tryd.prog 6 #[.string s, .int .i64 (t.kind : Int), .string x] w fun e w' => e = .returned (.bool true) ∧ Ch (fun _ => False) w w' := by
  go_enter Tryd.func6, Tryd.ntmps6
  go_wp2_with fail
  refine (tokens_calls H hlx (by decide) h13 hsz).mono ?_
  rintro e w' (⟨_, v, rfl, ho, hc⟩ | ⟨h0, _⟩)
  · obtain ⟨_, ⟨_, h0⟩ | ⟨g, cap, cur, rfl, hg, hh, hn, hcap, hcs, htk⟩⟩ := ho
    · cases h0
    have hcur : ∃ v0 v1 v2 l, cur = ⟨v0 :: v1 :: v2 :: l⟩ ∧ v0 = .int .i64 (t.kind : Int) ∧ v1 = .string x := by
      have hn' : 1 ≤ cap := hn
      obtain ⟨l⟩ := cur
      match l, hcs, htk with
      | v0 :: v1 :: v2 :: l, _, htk =>
        simp [tokCells] at htk
        exact ⟨v0, v1, v2, l, rfl, htk.1, by rw [hx]; exact htk.2.1⟩
      | [], hcs, _ => simp at hcs; omega
      | [_], hcs, _ => simp at hcs; omega
      | [_, _], hcs, _ => simp at hcs; omega
    obtain ⟨v0, v1, v2, l, rfl, rfl, rfl⟩ := hcur
    have c0 : w'.cell? ⟨g, 0, none⟩ = some (.int .i64 (t.kind : Int)) := by rw [Lib.cell_of_heap hh]; rfl
    have c1 : w'.cell? ⟨g, 1, none⟩ = some (.string x) := by rw [Lib.cell_of_heap hh]; rfl
    have HC := Lib.hid hc
    clear hh hc htk hcs H hlx
    simp only []
    go_wp2_with fail
    go_ret
    exact ⟨rfl, HC.out⟩
  · exact absurd rfl h0

/-- A name: letters, digits, underscores, not a digit first. -/
def isNm : Bool → Bs → Bool
  | _, [] => true
  | fst, c :: r => (isLet c || (!fst && isDec c)) && isNm false r

def NmRel (s : ByteArray) (n : Nat) (v8 : Value) (w0 wr : World) : Prop :=
  ∃ k : Nat, v8 = .int .i64 (k : Int) ∧ k ≤ s.size ∧ isNm true s.data.toList = isNm (k == 0) (s.data.toList.drop k) ∧ wr = w0 ∧ n = s.size - k
def NmPost (s : ByteArray) (w : World) (e : Ending) (w' : World) : Prop :=
  e = .returned (.bool (isNm true s.data.toList && decide (0 < s.size) && decide (s.data.toList ≠ [103, 111, 116, 111]))) ∧ w' = w
/-- A byte of a name. -/
def NmC (k : Nat) (c : UInt8) : Prop := (97 ≤ (c.toNat : Int) ∧ (c.toNat : Int) ≤ 122) ∨ (65 ≤ (c.toNat : Int) ∧ (c.toNat : Int) ≤ 90) ∨ (c.toNat : Int) = 95 ∨ (k ≠ 0 ∧ 48 ≤ (c.toNat : Int) ∧ (c.toNat : Int) ≤ 57)
theorem nmC_iff (k : Nat) (c : UInt8) : (isLet c || (!(k == 0) && isDec c)) = true ↔ NmC k c := by
  unfold NmC isLet isDec
  simp only [Bool.or_eq_true, Bool.and_eq_true, decide_eq_true_eq, UInt8.le_iff_toNat_le, beq_iff_eq, ← UInt8.toNat_inj, Bool.not_eq_true', beq_eq_false_iff_ne]
  simp
  omega
theorem isNm_step {s : ByteArray} {k : Nat} (h : k < s.size) (b : Bool) : isNm b (s.data.toList.drop k) = ((isLet s[k] || (!b && isDec s[k])) && isNm false (s.data.toList.drop (k + 1))) := by
  rw [List.drop_eq_getElem_cons (by simpa using h)]
  rfl
theorem NmRel.next {s : ByteArray} {k : Nat} {w : World} (h : k < s.size) (hn : isNm true s.data.toList = isNm (k == 0) (s.data.toList.drop k)) (hc : NmC k s[k]) : NmRel s (s.size - (k + 1)) (.int .i64 ((k : Int) + 1)) w w := by
  refine ⟨k + 1, rfl, h, ?_, rfl, rfl⟩
  rw [hn, isNm_step h, (nmC_iff k _).2 hc]
  rfl
theorem NmPost.bad {s : ByteArray} {k : Nat} {w : World} (h : k < s.size) (hn : isNm true s.data.toList = isNm (k == 0) (s.data.toList.drop k)) (hc : ¬ NmC k s[k]) : NmPost s w (.returned (.bool false)) w := by
  refine ⟨?_, rfl⟩
  have : (isLet s[k] || (!(k == 0) && isDec s[k])) = false := by
    cases hb : (isLet s[k] || (!(k == 0) && isDec s[k]))
    · rfl
    · exact absurd ((nmC_iff k _).1 hb) hc
  rw [hn, isNm_step h, this]
  rfl

set_option maxRecDepth 100000 in
set_option maxHeartbeats 2000000 in
theorem isName_calls {w : World} {s : ByteArray} (hsz : s.size ≤ 100) :
    Calls Tryd.prog 5 #[.string s] w (NmPost s w) := by
  go_enter Tryd.func5, Tryd.ntmps5
  go_wp2_with fail
  go_loopg [8] s.size (fun n v8 wr => NmRel s n v8 w wr)
  case atStart => exact ⟨0, rfl, Nat.zero_le _, rfl, rfl, rfl⟩
  case round =>
    obtain ⟨k, rfl, hk, hnm, rfl, hn⟩ := hrel
    have HNM := Lib.hid hnm
    clear hnm
    by_cases hlt : k < s.size
    · by_cases hk0 : k = 0
      · subst hk0
        have HOK : Hid (∀ w, NmC 0 s[0] → NmRel s (s.size - (0 + 1)) (.int .i64 (((0 : Nat) : Int) + 1)) w w) := Lib.hid fun w => NmRel.next hlt HNM.out
        have HBAD : Hid (∀ w, ¬ NmC 0 s[0] → NmPost s w (.returned (.bool false)) w) := Lib.hid fun w => NmPost.bad hlt HNM.out
        go_wp2_with fail
        all_goals first
          | (go_ret; refine HBAD.out _ fun hc => ?_; unfold NmC at hc; simp at *; omega)
          | (go_roundg (s.size - (0 + 1))
             case rel => exact HOK.out _ (by unfold NmC; simp at *; omega)
             case measure => omega)
          | skip
      · have HOK : Hid (∀ w, NmC k s[k] → NmRel s (s.size - (k + 1)) (.int .i64 ((k : Int) + 1)) w w) := Lib.hid fun w => NmRel.next hlt HNM.out
        have HBAD : Hid (∀ w, ¬ NmC k s[k] → NmPost s w (.returned (.bool false)) w) := Lib.hid fun w => NmPost.bad hlt HNM.out
        have gk : ((k : Int) == 0) = false := by simp; omega
        go_wp2_with fail
        all_goals first
          | (go_ret; refine HBAD.out _ fun hc => ?_; unfold NmC at hc; simp at *; omega)
          | (go_roundg (s.size - (k + 1))
             case rel => exact HOK.out _ (by unfold NmC; simp at *; omega)
             case measure => omega)
          | skip
    · have hks : k = s.size := by omega
      have hd : s.data.toList.drop k = [] := List.drop_eq_nil_of_le (by simp; omega)
      have hp : decide (0 < s.size) = true ∨ decide (0 < s.size) = false := by cases decide (0 < s.size) <;> simp
      have hn2 : isNm true s.data.toList = true := by rw [HNM.out, hd]; rfl
      go_wp2_with fail
      all_goals go_ret
      all_goals refine ⟨?_, rfl⟩
      all_goals rw [hn2]
      · refine congrArg (fun b => Ending.returned (.bool b)) ?_
        have e3 : s.toList = s.data.toList := by first | exact Lib.toList_eq s | exact ByteArray.toList_eq _ | simp
        rw [e3]
        by_cases hg : s.data.toList = [103, 111, 116, 111]
        · simp [hg]
        · have hp : decide (0 < s.size) = true := by simp; omega
          have hb : (s.data.toList == [103, 111, 116, 111]) = false := by simpa using hg
          rw [hb, hp]
          simp [hg]
      · refine congrArg (fun b => Ending.returned (.bool b)) ?_
        simp; omega

end Go.Proofs.YtbgjjbffpckimaaDoor
