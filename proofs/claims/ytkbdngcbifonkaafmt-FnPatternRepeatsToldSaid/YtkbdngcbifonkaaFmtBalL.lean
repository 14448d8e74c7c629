/-
  FnPatternBalance: the law gives true, whatever the input.
-/
import Derived.Test.YtkbdngcbifonkaaFmtPln
import Derived.Test.YtkbdngcbifonkaaFmtParA
namespace Go.Proofs.YtkbdngcbifonkaaFmt
set_option linter.all false
open Go.RowKit

theorem parses_bal (o c : UInt8) : Parses [37, 98, o, c] false [.part (.brace (o.toNat : Int) (c.toNat : Int))] := by
  intro w Sc A cap h hA
  exact parse_basic (f := 10) h hA (Nat.zero_le _) (by simp) (by rfl) (by simp [patTo, at_])

theorem pats_bal (o c : Int) : PatsOk [.part (.brace o c)] where
  len := by simp [Pm.code, Pm.patsCode, Pm.Pat.code, Pm.Part.code]
  caps := by simp [kn, Pm.Pat.next]
  n := by simp
  n2 := by simp
  ok := by simp [PatOk, PartOk]
  ins := by
    intro k hk
    simp [Pm.code, Pm.patsCode, Pm.Pat.code, Pm.Part.code] at hk
    match k, hk with
    | 0, _ => exact Nat.zero_le _
    | 1, _ => trivial
    | 2, _ => exact (by decide : 1 ≤ 100)
    | 3, _ => trivial

theorem byte_of (o : Int) (h0 : 0 ≤ o) (h1 : o ≤ 255) : ∃ b : UInt8, (b.toNat : Int) = o := ⟨UInt8.ofNat o.toNat, by simp; omega⟩

/-- A law's answer: true; what was there is as it was. -/
def LawPost (w : World) (e : Ending) (w' : World) : Prop := e = .returned (.bool true) ∧ Ch (fun _ => False) w w'

set_option maxRecDepth 100000 in
set_option maxHeartbeats 4000000 in
theorem law_balance_main {w : World} {o c : UInt8} {s : ByteArray} (h1 : s.size ≤ 200) (hoc : ((o.toNat : Int) == (c.toNat : Int)) = false) (ho1 : decide ((o.toNat : Int) < 33) = false) (ho2 : decide ((126 : Int) < (o.toNat : Int)) = false) (hc1 : decide ((c.toNat : Int) < 33) = false) (hc2 : decide ((126 : Int) < (c.toNat : Int)) = false)
    (HPL : Hid (∀ w1, Calls Tryf.prog 9 #[.string s, .int .i64 200] w1 fun e w' => w1 = w' ∧ e = .returned (.bool true))) :
    Calls Tryf.prog 3 #[.int .i64 (o.toNat : Int), .int .i64 (c.toNat : Int), .string s] w (LawPost w) := by
  have hg : ¬ (2147483647 : Int) < s.size := by omega
  go_enter Tryf.func3, Tryf.ntmps3
  go_wp2_with (go_at_call 9; refine (HPL.out _).mono ?_; rintro e w' ⟨rfl, rfl⟩)
  have hsz : s.data.toList.length = s.size := Array.length_toList
  generalize hT : Pm.firstBal (o.toNat : Int) (c.toNat : Int) s.data.toList (s.size + 1) 0 = T
  have HF := Pm.find_bal (o.toNat : Int) (c.toNat : Int) s.data.toList 10 (s.data.toList.length + 1 - 0) 0
  rw [hsz, Nat.sub_zero, hT] at HF
  have HF := Lib.hid HF
  have HT := Lib.hid hT
  have HSZ := Lib.hid hsz
  have hpb : IntKind.u8.wrap (o.toNat : Int) = (o.toNat : Int) := by rw [IntKind.wrap_u8]; have := o.toNat_lt; omega
  have hpc : IntKind.u8.wrap (c.toNat : Int) = (c.toNat : Int) := by rw [IntKind.wrap_u8]; have := c.toNat_lt; omega
  have hcv : (convert 32 9 (.slice (some ⟨w.heap.size, 0, none⟩) 4 4)).run Tryf.prog (w.alloc (.cells #[.int .u8 37, .int .u8 98, .int .u8 (o.toNat : Int), .int .u8 (c.toNat : Int)] 5)) = .ok (.string ⟨#[37, 98, o, c]⟩) (w.alloc (.cells #[.int .u8 37, .int .u8 98, .int .u8 (o.toNat : Int), .int .u8 (c.toNat : Int)] 5)) :=
    run_convert_bytes_back (P := Tryf.prog) _ 32 9 5 ⟨w.heap.size, 0, none⟩ 4 [37, 98, o, c] (by kernel_rfl) (by kernel_rfl) (by kernel_rfl) (by
      intro j hj
      have e : (⟨w.heap.size, 0, none⟩ : Addr).add j = ⟨w.heap.size, j, none⟩ := by simp [Addr.add]; omega
      rw [e, World.cell?_alloc_at _ _ _ _ rfl]
      match j, hj with
      | 0, _ => rfl
      | 1, _ => rfl
      | 2, _ => rfl
      | 3, _ => rfl)
  clear hsz hT
  go_loopg [7, 8] (s.size + 1) (fun k s7 s8 wr => wr = w ∧ ∃ a : Nat, s7 = .int .i64 a ∧ a ≤ s.size ∧ k = s.size + 1 - a ∧ ((s8 = .int .i64 (-1) ∧ Pm.firstBal (o.toNat : Int) (c.toNat : Int) s.data.toList (s.size + 1 - a) a = T) ∨ (∃ e : Nat, s8 = .int .i64 e ∧ 1 ≤ a ∧ e ≤ s.size ∧ T = some (a - 1, e))))
  case atStart => exact ⟨rfl, 0, rfl, Nat.zero_le _, rfl, .inl ⟨rfl, HT.out⟩⟩
  case round =>
    clear HT
    obtain ⟨rfl, a, rfl, ha, rfl, hcase⟩ := hrel
    have hwa : IntKind.i64.wrap ((a : Int) + 1) = ((a + 1 : Nat) : Int) := by rw [IntKind.wrap_i64]; omega
    rcases hcase with ⟨rfl, hfb⟩ | ⟨e, rfl, ha1, hes, rfl⟩
    · by_cases hlt : a < s.size
      · have hlti : (a : Int) < s.size := by omega
        have hls : a < s.data.toList.length := by have := HSZ.out; omega
        have hgl : s.data.toList[a].toNat = s[a].toNat := by simp; rfl
        rw [show s.size + 1 - a = (s.size - a) + 1 from by omega, Pm.firstBal, Pm.balAt, List.getElem?_eq_getElem hls] at hfb
        simp only [hgl] at hfb
        by_cases hxo : (s[a].toNat : Int) = (o.toNat : Int)
        · have g0 : ((s[a].toNat : Int) == (o.toNat : Int)) = true := by simp only [hxo, beq_self_eq_true]
          rw [if_pos hxo] at hfb
          have hxo' : s[a].toNat = o.toNat := by omega
          have HX := Lib.hid hxo'
          have hne : ¬ (o.toNat : Int) = (c.toNat : Int) := by simpa using hoc
          have HNE := Lib.hid hne
          clear hxo hxo' hne
          cases hb : Pm.bal (o.toNat : Int) (c.toNat : Int) (s.data.toList.drop (a + 1)) 1 with
          | none =>
            rw [hb] at hfb
            have HFB := Lib.hid hfb
            have HB := Lib.hid hb
            clear hfb hb hgl
            go_wp2_with (go_at_call 10; refine (balance_calls (l := s.data.toList) rfl (by omega) hlt HNE.out HX.out).mono ?_; rintro e w' ⟨rfl, rfl⟩; rw [HB.out]; simp only [balRes])
            go_roundg (s.size + 1 - (a + 1))
            case measure => omega
            case rel => exact ⟨rfl, a + 1, rfl, hlt, rfl, .inl ⟨rfl, by
              have := HFB.out
              rw [show s.size + 1 - (a + 1) = s.size - a from by omega]
              exact this⟩⟩
          | some n =>
            rw [hb] at hfb
            have hnl := bal_le _ _ _ _ _ hb
            rw [List.length_drop, HSZ.out] at hnl
            have HFB := Lib.hid hfb
            have HB := Lib.hid hb
            clear hfb hb hgl
            go_wp2_with (go_at_call 10; refine (balance_calls (l := s.data.toList) rfl (by omega) hlt HNE.out HX.out).mono ?_; rintro e w' ⟨rfl, rfl⟩; rw [HB.out]; simp only [balRes])
            go_roundg (s.size + 1 - (a + 1))
            case measure => omega
            case rel => exact ⟨rfl, a + 1, rfl, hlt, rfl, .inr ⟨a + 1 + n, rfl, by omega, by omega, by
              have := HFB.out
              simp only [Option.map] at this
              rw [← this]
              rfl⟩⟩
        · have g0 : ((s[a].toNat : Int) == (o.toNat : Int)) = false := by simpa using hxo
          rw [if_neg hxo] at hfb
          have HFB := Lib.hid hfb
          clear hfb hxo hgl
          go_wp2_with fail
          go_roundg (s.size + 1 - (a + 1))
          case measure => omega
          case rel => exact ⟨rfl, a + 1, rfl, hlt, rfl, .inl ⟨rfl, by
            have := HFB.out
            rw [show s.size + 1 - (a + 1) = s.size - a from by omega]
            exact this⟩⟩
      · have hae : a = s.size := by omega
        subst hae
        have hf : decide ((s.size : Int) < s.size) = false := by simp
        have hTn : T = none := by
          rw [show s.size + 1 - s.size = 1 from by omega, Pm.firstBal, Pm.balAt, List.getElem?_eq_none (by rw [HSZ.out]; exact Nat.le_refl _)] at hfb
          exact hfb.symm
        subst hTn
        clear hfb
        go_wp2_with (go_at_call 11; refine (first_none (s := ⟨#[37, 98, o, c]⟩) (l := [37, 98, o, c]) (src := s.data.toList) (sp0 := 0) (f := 14) rfl (by simp) rfl (Lib.hid (parses_bal o c)) (Lib.hid (pats_bal _ _)) (by have := HSZ.out; omega) (Nat.zero_le _) (by omega) (Lib.hid (by rw [HSZ.out]; exact HF.out))).mono ?_; rintro e w' ⟨hch, rfl⟩; have HC := Lib.hid hch; clear hch)
        go_ret
        exact ⟨rfl, (((Ch.refl _ _).alloc _).trans HC.out).alloc _⟩
    · have hwb : IntKind.i64.wrap ((a : Int) - 1) = ((a - 1 : Nat) : Int) := by rw [IntKind.wrap_i64]; omega
      have he0 : decide ((e : Int) < 0) = false := by simp
      go_wp2_with (go_at_call 11; refine (first_some (s := ⟨#[37, 98, o, c]⟩) (l := [37, 98, o, c]) (src := s.data.toList) (sp0 := 0) (f := 14) (a := a - 1) (b := e) rfl (by simp) rfl (Lib.hid (parses_bal o c)) (Lib.hid (pats_bal _ _)) (by have := HSZ.out; omega) (Nat.zero_le _) (by omega) (by omega) (by omega) (Lib.hid (by rw [HSZ.out]; exact HF.out))).mono ?_; rintro e w' ⟨hch, x, y, rfl⟩; have HC := Lib.hid hch; clear hch)
      all_goals
        go_ret
        exact ⟨rfl, (((Ch.refl _ _).alloc _).trans HC.out).alloc _⟩
set_option maxRecDepth 100000 in
theorem law_balance_e0 {w : World} {o c : Int} {s : ByteArray} (hg : (2147483647 : Int) < s.size) : Calls Tryf.prog 3 #[.int .i64 o, .int .i64 c, .string s] w (LawPost w) := by
  go_enter Tryf.func3, Tryf.ntmps3
  go_wp2_with fail
  go_ret
  exact ⟨rfl, .refl _ _⟩

set_option maxRecDepth 100000 in
theorem law_balance_e1 {w : World} {o c : Int} {s : ByteArray} (hg : ¬ (2147483647 : Int) < s.size) (g1 : (o == c) = true) : Calls Tryf.prog 3 #[.int .i64 o, .int .i64 c, .string s] w (LawPost w) := by
  go_enter Tryf.func3, Tryf.ntmps3
  go_wp2_with fail
  go_ret
  exact ⟨rfl, .refl _ _⟩

set_option maxRecDepth 100000 in
theorem law_balance_e2 {w : World} {o c : Int} {s : ByteArray} (hg : ¬ (2147483647 : Int) < s.size) (g1 : (o == c) = false) (g2 : decide (o < 33) = true) : Calls Tryf.prog 3 #[.int .i64 o, .int .i64 c, .string s] w (LawPost w) := by
  go_enter Tryf.func3, Tryf.ntmps3
  go_wp2_with fail
  go_ret
  exact ⟨rfl, .refl _ _⟩

set_option maxRecDepth 100000 in
theorem law_balance_e3 {w : World} {o c : Int} {s : ByteArray} (hg : ¬ (2147483647 : Int) < s.size) (g1 : (o == c) = false) (g2 : decide (o < 33) = false) (g3 : decide ((126 : Int) < o) = true) : Calls Tryf.prog 3 #[.int .i64 o, .int .i64 c, .string s] w (LawPost w) := by
  go_enter Tryf.func3, Tryf.ntmps3
  go_wp2_with fail
  go_ret
  exact ⟨rfl, .refl _ _⟩

set_option maxRecDepth 100000 in
theorem law_balance_e4 {w : World} {o c : Int} {s : ByteArray} (hg : ¬ (2147483647 : Int) < s.size) (g1 : (o == c) = false) (g2 : decide (o < 33) = false) (g3 : decide ((126 : Int) < o) = false) (g4 : decide (c < 33) = true) : Calls Tryf.prog 3 #[.int .i64 o, .int .i64 c, .string s] w (LawPost w) := by
  go_enter Tryf.func3, Tryf.ntmps3
  go_wp2_with fail
  go_ret
  exact ⟨rfl, .refl _ _⟩

set_option maxRecDepth 100000 in
theorem law_balance_e5 {w : World} {o c : Int} {s : ByteArray} (hg : ¬ (2147483647 : Int) < s.size) (g1 : (o == c) = false) (g2 : decide (o < 33) = false) (g3 : decide ((126 : Int) < o) = false) (g4 : decide (c < 33) = false) (g5 : decide ((126 : Int) < c) = true) : Calls Tryf.prog 3 #[.int .i64 o, .int .i64 c, .string s] w (LawPost w) := by
  go_enter Tryf.func3, Tryf.ntmps3
  go_wp2_with fail
  go_ret
  exact ⟨rfl, .refl _ _⟩

set_option maxRecDepth 100000 in
theorem law_balance_e6 {w : World} {o c : Int} {s : ByteArray} (hg : ¬ (2147483647 : Int) < s.size) (g1 : (o == c) = false) (g2 : decide (o < 33) = false) (g3 : decide ((126 : Int) < o) = false) (g4 : decide (c < 33) = false) (g5 : decide ((126 : Int) < c) = false) (HPL : Hid (∀ w1, Calls Tryf.prog 9 #[.string s, .int .i64 200] w1 fun e w' => w1 = w' ∧ e = .returned (.bool false))) : Calls Tryf.prog 3 #[.int .i64 o, .int .i64 c, .string s] w (LawPost w) := by
  go_enter Tryf.func3, Tryf.ntmps3
  go_wp2_with (go_at_call 9; refine (HPL.out _).mono ?_; rintro e w' ⟨rfl, rfl⟩)
  go_ret
  exact ⟨rfl, .refl _ _⟩

theorem law_balance (w : World) (o c : Int) (s : ByteArray) : Calls Tryf.prog 3 #[.int .i64 o, .int .i64 c, .string s] w (LawPost w) := by
  by_cases hg : (2147483647 : Int) < s.size
  · exact law_balance_e0 hg
  · cases g1 : (o == c) with
    | true => exact law_balance_e1 hg g1
    | false =>
      cases g2 : decide (o < 33) with
      | true => exact law_balance_e2 hg g1 g2
      | false =>
        cases g3 : decide ((126 : Int) < o) with
        | true => exact law_balance_e3 hg g1 g2 g3
        | false =>
          cases g4 : decide (c < 33) with
          | true => exact law_balance_e4 hg g1 g2 g3 g4
          | false =>
            cases g5 : decide ((126 : Int) < c) with
            | true => exact law_balance_e5 hg g1 g2 g3 g4 g5
            | false =>
              cases hp : plainB s 200 with
              | false => exact law_balance_e6 hg g1 g2 g3 g4 g5 (Lib.hid fun w1 => (plain_calls (by omega)).mono fun e w' h => ⟨h.1, by rw [h.2, hp]⟩)
              | true =>
                obtain ⟨ob, rfl⟩ := byte_of o (by simp at g2; omega) (by simp at g3; omega)
                obtain ⟨cb, rfl⟩ := byte_of c (by simp at g4; omega) (by simp at g5; omega)
                exact law_balance_main (by have := (plainB_true hp).2; omega) g1 g2 g3 g4 g5 (Lib.hid fun w1 => (plain_calls (by omega)).mono fun e w' h => ⟨h.1, by rw [h.2, hp]⟩)

end Go.Proofs.YtkbdngcbifonkaaFmt
