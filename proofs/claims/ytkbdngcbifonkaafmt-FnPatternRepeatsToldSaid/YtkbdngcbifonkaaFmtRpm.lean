/-
  FnPatternRepeats: the law gives true, whatever the input. Lines laid by a program of this session (mkrpl.py).
-/
import Derived.Test.YtkbdngcbifonkaaFmtRpl
import Derived.Test.YtkbdngcbifonkaaFmtRngL
import Derived.Deep.RegionHeld3
namespace Go.Proofs.YtkbdngcbifonkaaFmt
set_option linter.all false
open Go.RowKit

set_option maxRecDepth 100000 in
set_option maxHeartbeats 8000000 in
theorem law_rpt_z {w : World} {x : UInt8} {s : ByteArray} (g0 : decide ((2147483647 : Int) < s.size) = false) (g1 : decide ((x.toNat : Int) < 0) = false) (g2 : decide ((127 : Int) < (x.toNat : Int)) = false)
    (HPL : Hid (∀ w1, Calls Tryf.prog 9 #[.string s, .int .i64 200] w1 fun e w' => w1 = w' ∧ e = .returned (.bool true))) (hx : IsLet x.toNat) (hc : IsCls (low x.toNat)) (hs : s.size ≤ 200) (hp : ∀ j (h : j < s.size), s[j].toNat < 128) {n : Nat} (hn : Pm.run (.atom (.single (x.toNat : Int))) s.data.toList = n) (hcase : n = 0) :
    Calls Tryf.prog 7 #[.int .i64 (x.toNat : Int), .string s] w (LawPost w) := by
  have hwx : IntKind.u8.wrap (x.toNat : Int) = (x.toNat : Int) := by rw [IntKind.wrap_u8]; have := x.toNat_lt; omega
  have HIN : Hid (∀ w1, ∃ v, Calls Tryf.prog 12 #[.int .u8 (x.toNat : Int), .int .u8 97] w1 fun e w' => Ch (fun _ => False) w1 w' ∧ e = .returned (.tuple #[.bool v, .bool true])) := Lib.hid fun w1 => ⟨_, inclass_cls (b := 97) hx hc (by decide)⟩
  have HRUN : Hid (∀ w1, Calls Tryf.prog 15 #[.int .u8 (x.toNat : Int), .string s] w1 fun e w' => Ch (fun _ => False) w1 w' ∧ e = .returned (.int .i64 (n : Nat))) := Lib.hid fun w1 => by
    have := run_calls (w := w1) hx hc (c := .atom (.single (x.toNat : Int))) rfl (by omega) hp
    rw [hn] at this
    exact this
  have hlen : s.data.toList.length = s.size := Array.length_toList
  have HFI : Hid (∀ (i : Nat) (_ : i < 5) (p : ByteArray) (_ : p.data.toList = [94, 37, x] ++ rptSign i) w1, Calls Tryf.prog 11 #[.string p, .string s, .int .i64 0] w1 (RptPost w1 (rptIs n i) (rptDue n i))) := Lib.hid fun i hi p hpp w1 =>
    first_rpt hx hc hi hpp rfl (by omega) hn
  have hn2 : n ≤ 1000 := by have := run_le (.atom (.single (x.toNat : Int))) s.data.toList; omega
  clear hx hc hp hn hlen
  obtain rfl : n = 0 := hcase
  go_enter Tryf.func7, Tryf.ntmps7
  go_wp2_with fail
  refine (HPL.out _).mono ?_
  rintro e w1 ⟨rfl, rfl⟩
  simp only []
  go_wp2_with fail
  obtain ⟨v, hv⟩ := HIN.out w
  refine hv.mono ?_
  rintro e w1 ⟨hch1, rfl⟩
  have HC1 := Lib.hid hch1
  clear hch1 hv
  simp only []
  go_wp2_with fail
  refine rpt_reg hwx HRUN ?_
  intro w2 _ _ _ _ _ _ _ _ hch2
  have HC2 := Lib.hid hch2
  clear hch2
  go_wp2_with fail
  go_loopg [48] 5 (fun k s48 wr => ∃ i : Nat, i ≤ 5 ∧ k = 5 - i ∧ s48 = .int .i64 (i : Int) ∧ Ch (fun _ => False) (w2.alloc (.cells #[.string ⟨#[]⟩, .string ⟨#[42]⟩, .string ⟨#[43]⟩, .string ⟨#[63]⟩, .string ⟨#[45]⟩] 9)) wr)
  case atStart => exact ⟨0, by omega, rfl, rfl, .refl _ _⟩
  case round =>
    obtain ⟨i, hi, rfl, rfl, hch⟩ := hrel
    have hcell : ∀ (j : Nat) (v : Value), (#[Value.string ⟨#[]⟩, .string ⟨#[42]⟩, .string ⟨#[43]⟩, .string ⟨#[63]⟩, .string ⟨#[45]⟩])[j]? = some v → wr.cell? ⟨w2.heap.size, j, none⟩ = some v := fun j v h => hch.cell_some ((World.cell?_alloc_at _ _ _ _ rfl).trans h) id
    have HCH := Lib.hid hch
    have HCE := Lib.hid hcell
    clear hch hcell
    match i, hi with
    | 0, _ =>
      have HF : Hid (∀ w1, Calls Tryf.prog 11 #[.string ⟨#[94, 37, x]⟩, .string s, .int .i64 0] w1 (RptPost w1 (rptIs 0 0) (rptDue 0 0))) := Lib.hid fun w1 => HFI.out 0 (by decide) ⟨#[94, 37, x]⟩ rfl w1
      rw [(show rptIs 0 0 = false from rfl), (show rptDue 0 0 = 0 from rfl)] at HF
      refine rpt_round0z (HCE.out 0 _ rfl) (Lib.hid fun w1 => (HF.out w1).mono ?_) ?_
      · rintro e w' ⟨hch, p, q, A, A', c, c', rfl, hpq⟩
        exact ⟨hch, p, q, A, A', c, c', rfl⟩
      · intro w' _ _ _ _ _ _ _ _ _ _ _ _ _ _ _ _ _ _ _ _ _ _ _ _ _ _ _ _ _ _ _ _ _ _ _ _ _ _ _ _ _ _ _ _ _ _ _ _ _ _ _ _ _ _ _ _ _ _ _ _ _ hch
        simp only [Exit.then]
        go_wp2_with fail
        go_roundg (5 - 1)
        case measure => omega
        case rel => exact ⟨1, by omega, rfl, rfl, HCH.out.trans hch⟩
    | 1, _ =>
      have HF : Hid (∀ w1, Calls Tryf.prog 11 #[.string ⟨#[94, 37, x, 42]⟩, .string s, .int .i64 0] w1 (RptPost w1 (rptIs 0 1) (rptDue 0 1))) := Lib.hid fun w1 => HFI.out 1 (by decide) ⟨#[94, 37, x, 42]⟩ rfl w1
      rw [(show rptIs 0 1 = true from rfl), (show rptDue 0 1 = 0 from rfl)] at HF
      refine rpt_round1z (HCE.out 1 _ rfl) (Lib.hid fun w1 => (HF.out w1).mono ?_) ?_
      · rintro e w' ⟨hch, p, q, A, A', c, c', rfl, hpq⟩
        exact ⟨hch, p, q, A, A', c, c', rfl, hpq rfl⟩
      · intro w' _ _ _ _ _ _ _ _ _ _ _ _ _ _ _ _ _ _ _ _ _ _ _ _ _ _ _ _ _ _ _ _ _ _ _ _ _ _ _ _ _ _ _ _ _ _ _ _ _ _ _ _ _ _ _ _ _ _ _ _ _ hch
        simp only [Exit.then]
        go_wp2_with fail
        go_roundg (5 - 2)
        case measure => omega
        case rel => exact ⟨2, by omega, rfl, rfl, HCH.out.trans hch⟩
    | 2, _ =>
      have HF : Hid (∀ w1, Calls Tryf.prog 11 #[.string ⟨#[94, 37, x, 43]⟩, .string s, .int .i64 0] w1 (RptPost w1 (rptIs 0 2) (rptDue 0 2))) := Lib.hid fun w1 => HFI.out 2 (by decide) ⟨#[94, 37, x, 43]⟩ rfl w1
      rw [(show rptIs 0 2 = false from rfl), (show rptDue 0 2 = 0 from rfl)] at HF
      refine rpt_round2z (HCE.out 2 _ rfl) (Lib.hid fun w1 => (HF.out w1).mono ?_) ?_
      · rintro e w' ⟨hch, p, q, A, A', c, c', rfl, hpq⟩
        exact ⟨hch, p, q, A, A', c, c', rfl⟩
      · intro w' _ _ _ _ _ _ _ _ _ _ _ _ _ _ _ _ _ _ _ _ _ _ _ _ _ _ _ _ _ _ _ _ _ _ _ _ _ _ _ _ _ _ _ _ _ _ _ _ _ _ _ _ _ _ _ _ _ _ _ _ _ hch
        simp only [Exit.then]
        go_wp2_with fail
        go_roundg (5 - 3)
        case measure => omega
        case rel => exact ⟨3, by omega, rfl, rfl, HCH.out.trans hch⟩
    | 3, _ =>
      have HF : Hid (∀ w1, Calls Tryf.prog 11 #[.string ⟨#[94, 37, x, 63]⟩, .string s, .int .i64 0] w1 (RptPost w1 (rptIs 0 3) (rptDue 0 3))) := Lib.hid fun w1 => HFI.out 3 (by decide) ⟨#[94, 37, x, 63]⟩ rfl w1
      rw [(show rptIs 0 3 = true from rfl), (show rptDue 0 3 = 0 from rfl)] at HF
      refine rpt_round3z (HCE.out 3 _ rfl) (Lib.hid fun w1 => (HF.out w1).mono ?_) ?_
      · rintro e w' ⟨hch, p, q, A, A', c, c', rfl, hpq⟩
        exact ⟨hch, p, q, A, A', c, c', rfl, hpq rfl⟩
      · intro w' _ _ _ _ _ _ _ _ _ _ _ _ _ _ _ _ _ _ _ _ _ _ _ _ _ _ _ _ _ _ _ _ _ _ _ _ _ _ _ _ _ _ _ _ _ _ _ _ _ _ _ _ _ _ _ _ _ _ _ _ _ hch
        simp only [Exit.then]
        go_wp2_with fail
        go_roundg (5 - 4)
        case measure => omega
        case rel => exact ⟨4, by omega, rfl, rfl, HCH.out.trans hch⟩
    | 4, _ =>
      have HF : Hid (∀ w1, Calls Tryf.prog 11 #[.string ⟨#[94, 37, x, 45]⟩, .string s, .int .i64 0] w1 (RptPost w1 (rptIs 0 4) (rptDue 0 4))) := Lib.hid fun w1 => HFI.out 4 (by decide) ⟨#[94, 37, x, 45]⟩ rfl w1
      rw [(show rptIs 0 4 = true from rfl), (show rptDue 0 4 = 0 from rfl)] at HF
      refine rpt_round4z (HCE.out 4 _ rfl) (Lib.hid fun w1 => (HF.out w1).mono ?_) ?_
      · rintro e w' ⟨hch, p, q, A, A', c, c', rfl, hpq⟩
        exact ⟨hch, p, q, A, A', c, c', rfl, hpq rfl⟩
      · intro w' _ _ _ _ _ _ _ _ _ _ _ _ _ _ _ _ _ _ _ _ _ _ _ _ _ _ _ _ _ _ _ _ _ _ _ _ _ _ _ _ _ _ _ _ _ _ _ _ _ _ _ _ _ _ _ _ _ _ _ _ _ hch
        simp only [Exit.then]
        go_wp2_with fail
        go_roundg (5 - 5)
        case measure => omega
        case rel => exact ⟨5, by omega, rfl, rfl, HCH.out.trans hch⟩
    | 5, _ =>
      go_wp2_with fail
      go_ret
      exact ⟨rfl, ((HC1.out.trans HC2.out).alloc _).trans HCH.out⟩

set_option maxRecDepth 100000 in
set_option maxHeartbeats 8000000 in
theorem law_rpt_o {w : World} {x : UInt8} {s : ByteArray} (g0 : decide ((2147483647 : Int) < s.size) = false) (g1 : decide ((x.toNat : Int) < 0) = false) (g2 : decide ((127 : Int) < (x.toNat : Int)) = false)
    (HPL : Hid (∀ w1, Calls Tryf.prog 9 #[.string s, .int .i64 200] w1 fun e w' => w1 = w' ∧ e = .returned (.bool true))) (hx : IsLet x.toNat) (hc : IsCls (low x.toNat)) (hs : s.size ≤ 200) (hp : ∀ j (h : j < s.size), s[j].toNat < 128) {n : Nat} (hn : Pm.run (.atom (.single (x.toNat : Int))) s.data.toList = n) (hcase : n = 1) :
    Calls Tryf.prog 7 #[.int .i64 (x.toNat : Int), .string s] w (LawPost w) := by
  have hwx : IntKind.u8.wrap (x.toNat : Int) = (x.toNat : Int) := by rw [IntKind.wrap_u8]; have := x.toNat_lt; omega
  have HIN : Hid (∀ w1, ∃ v, Calls Tryf.prog 12 #[.int .u8 (x.toNat : Int), .int .u8 97] w1 fun e w' => Ch (fun _ => False) w1 w' ∧ e = .returned (.tuple #[.bool v, .bool true])) := Lib.hid fun w1 => ⟨_, inclass_cls (b := 97) hx hc (by decide)⟩
  have HRUN : Hid (∀ w1, Calls Tryf.prog 15 #[.int .u8 (x.toNat : Int), .string s] w1 fun e w' => Ch (fun _ => False) w1 w' ∧ e = .returned (.int .i64 (n : Nat))) := Lib.hid fun w1 => by
    have := run_calls (w := w1) hx hc (c := .atom (.single (x.toNat : Int))) rfl (by omega) hp
    rw [hn] at this
    exact this
  have hlen : s.data.toList.length = s.size := Array.length_toList
  have HFI : Hid (∀ (i : Nat) (_ : i < 5) (p : ByteArray) (_ : p.data.toList = [94, 37, x] ++ rptSign i) w1, Calls Tryf.prog 11 #[.string p, .string s, .int .i64 0] w1 (RptPost w1 (rptIs n i) (rptDue n i))) := Lib.hid fun i hi p hpp w1 =>
    first_rpt hx hc hi hpp rfl (by omega) hn
  have hn2 : n ≤ 1000 := by have := run_le (.atom (.single (x.toNat : Int))) s.data.toList; omega
  clear hx hc hp hn hlen
  obtain rfl : n = 1 := hcase
  go_enter Tryf.func7, Tryf.ntmps7
  go_wp2_with fail
  refine (HPL.out _).mono ?_
  rintro e w1 ⟨rfl, rfl⟩
  simp only []
  go_wp2_with fail
  obtain ⟨v, hv⟩ := HIN.out w
  refine hv.mono ?_
  rintro e w1 ⟨hch1, rfl⟩
  have HC1 := Lib.hid hch1
  clear hch1 hv
  simp only []
  go_wp2_with fail
  refine rpt_reg hwx HRUN ?_
  intro w2 _ _ _ _ _ _ _ _ hch2
  have HC2 := Lib.hid hch2
  clear hch2
  go_wp2_with fail
  go_loopg [48] 5 (fun k s48 wr => ∃ i : Nat, i ≤ 5 ∧ k = 5 - i ∧ s48 = .int .i64 (i : Int) ∧ Ch (fun _ => False) (w2.alloc (.cells #[.string ⟨#[]⟩, .string ⟨#[42]⟩, .string ⟨#[43]⟩, .string ⟨#[63]⟩, .string ⟨#[45]⟩] 9)) wr)
  case atStart => exact ⟨0, by omega, rfl, rfl, .refl _ _⟩
  case round =>
    obtain ⟨i, hi, rfl, rfl, hch⟩ := hrel
    have hcell : ∀ (j : Nat) (v : Value), (#[Value.string ⟨#[]⟩, .string ⟨#[42]⟩, .string ⟨#[43]⟩, .string ⟨#[63]⟩, .string ⟨#[45]⟩])[j]? = some v → wr.cell? ⟨w2.heap.size, j, none⟩ = some v := fun j v h => hch.cell_some ((World.cell?_alloc_at _ _ _ _ rfl).trans h) id
    have HCH := Lib.hid hch
    have HCE := Lib.hid hcell
    clear hch hcell
    match i, hi with
    | 0, _ =>
      have HF : Hid (∀ w1, Calls Tryf.prog 11 #[.string ⟨#[94, 37, x]⟩, .string s, .int .i64 0] w1 (RptPost w1 (rptIs 1 0) (rptDue 1 0))) := Lib.hid fun w1 => HFI.out 0 (by decide) ⟨#[94, 37, x]⟩ rfl w1
      rw [(show rptIs 1 0 = true from rfl), (show rptDue 1 0 = 1 from rfl)] at HF
      refine rpt_round0o (HCE.out 0 _ rfl) (Lib.hid fun w1 => (HF.out w1).mono ?_) ?_
      · rintro e w' ⟨hch, p, q, A, A', c, c', rfl, hpq⟩
        exact ⟨hch, p, q, A, A', c, c', rfl, hpq rfl⟩
      · intro w' _ _ _ _ _ _ _ _ _ _ _ _ _ _ _ _ _ _ _ _ _ _ _ _ _ _ _ _ _ _ _ _ _ _ _ _ _ _ _ _ _ _ _ _ _ _ _ _ _ _ _ _ _ _ _ _ _ _ _ _ _ hch
        simp only [Exit.then]
        go_wp2_with fail
        go_roundg (5 - 1)
        case measure => omega
        case rel => exact ⟨1, by omega, rfl, rfl, HCH.out.trans hch⟩
    | 1, _ =>
      have HF : Hid (∀ w1, Calls Tryf.prog 11 #[.string ⟨#[94, 37, x, 42]⟩, .string s, .int .i64 0] w1 (RptPost w1 (rptIs 1 1) (rptDue 1 1))) := Lib.hid fun w1 => HFI.out 1 (by decide) ⟨#[94, 37, x, 42]⟩ rfl w1
      rw [(show rptIs 1 1 = true from rfl), (show rptDue 1 1 = 1 from rfl)] at HF
      refine rpt_round1o (HCE.out 1 _ rfl) (Lib.hid fun w1 => (HF.out w1).mono ?_) ?_
      · rintro e w' ⟨hch, p, q, A, A', c, c', rfl, hpq⟩
        exact ⟨hch, p, q, A, A', c, c', rfl, hpq rfl⟩
      · intro w' _ _ _ _ _ _ _ _ _ _ _ _ _ _ _ _ _ _ _ _ _ _ _ _ _ _ _ _ _ _ _ _ _ _ _ _ _ _ _ _ _ _ _ _ _ _ _ _ _ _ _ _ _ _ _ _ _ _ _ _ _ hch
        simp only [Exit.then]
        go_wp2_with fail
        go_roundg (5 - 2)
        case measure => omega
        case rel => exact ⟨2, by omega, rfl, rfl, HCH.out.trans hch⟩
    | 2, _ =>
      have HF : Hid (∀ w1, Calls Tryf.prog 11 #[.string ⟨#[94, 37, x, 43]⟩, .string s, .int .i64 0] w1 (RptPost w1 (rptIs 1 2) (rptDue 1 2))) := Lib.hid fun w1 => HFI.out 2 (by decide) ⟨#[94, 37, x, 43]⟩ rfl w1
      rw [(show rptIs 1 2 = true from rfl), (show rptDue 1 2 = 1 from rfl)] at HF
      refine rpt_round2o (HCE.out 2 _ rfl) (Lib.hid fun w1 => (HF.out w1).mono ?_) ?_
      · rintro e w' ⟨hch, p, q, A, A', c, c', rfl, hpq⟩
        exact ⟨hch, p, q, A, A', c, c', rfl, hpq rfl⟩
      · intro w' _ _ _ _ _ _ _ _ _ _ _ _ _ _ _ _ _ _ _ _ _ _ _ _ _ _ _ _ _ _ _ _ _ _ _ _ _ _ _ _ _ _ _ _ _ _ _ _ _ _ _ _ _ _ _ _ _ _ _ _ _ hch
        simp only [Exit.then]
        go_wp2_with fail
        go_roundg (5 - 3)
        case measure => omega
        case rel => exact ⟨3, by omega, rfl, rfl, HCH.out.trans hch⟩
    | 3, _ =>
      have HF : Hid (∀ w1, Calls Tryf.prog 11 #[.string ⟨#[94, 37, x, 63]⟩, .string s, .int .i64 0] w1 (RptPost w1 (rptIs 1 3) (rptDue 1 3))) := Lib.hid fun w1 => HFI.out 3 (by decide) ⟨#[94, 37, x, 63]⟩ rfl w1
      rw [(show rptIs 1 3 = true from rfl), (show rptDue 1 3 = 1 from rfl)] at HF
      refine rpt_round3o (HCE.out 3 _ rfl) (Lib.hid fun w1 => (HF.out w1).mono ?_) ?_
      · rintro e w' ⟨hch, p, q, A, A', c, c', rfl, hpq⟩
        exact ⟨hch, p, q, A, A', c, c', rfl, hpq rfl⟩
      · intro w' _ _ _ _ _ _ _ _ _ _ _ _ _ _ _ _ _ _ _ _ _ _ _ _ _ _ _ _ _ _ _ _ _ _ _ _ _ _ _ _ _ _ _ _ _ _ _ _ _ _ _ _ _ _ _ _ _ _ _ _ _ hch
        simp only [Exit.then]
        go_wp2_with fail
        go_roundg (5 - 4)
        case measure => omega
        case rel => exact ⟨4, by omega, rfl, rfl, HCH.out.trans hch⟩
    | 4, _ =>
      have HF : Hid (∀ w1, Calls Tryf.prog 11 #[.string ⟨#[94, 37, x, 45]⟩, .string s, .int .i64 0] w1 (RptPost w1 (rptIs 1 4) (rptDue 1 4))) := Lib.hid fun w1 => HFI.out 4 (by decide) ⟨#[94, 37, x, 45]⟩ rfl w1
      rw [(show rptIs 1 4 = true from rfl), (show rptDue 1 4 = 0 from rfl)] at HF
      refine rpt_round4o (HCE.out 4 _ rfl) (Lib.hid fun w1 => (HF.out w1).mono ?_) ?_
      · rintro e w' ⟨hch, p, q, A, A', c, c', rfl, hpq⟩
        exact ⟨hch, p, q, A, A', c, c', rfl, hpq rfl⟩
      · intro w' _ _ _ _ _ _ _ _ _ _ _ _ _ _ _ _ _ _ _ _ _ _ _ _ _ _ _ _ _ _ _ _ _ _ _ _ _ _ _ _ _ _ _ _ _ _ _ _ _ _ _ _ _ _ _ _ _ _ _ _ _ hch
        simp only [Exit.then]
        go_wp2_with fail
        go_roundg (5 - 5)
        case measure => omega
        case rel => exact ⟨5, by omega, rfl, rfl, HCH.out.trans hch⟩
    | 5, _ =>
      go_wp2_with fail
      go_ret
      exact ⟨rfl, ((HC1.out.trans HC2.out).alloc _).trans HCH.out⟩

set_option maxRecDepth 100000 in
set_option maxHeartbeats 8000000 in
theorem law_rpt_p {w : World} {x : UInt8} {s : ByteArray} (g0 : decide ((2147483647 : Int) < s.size) = false) (g1 : decide ((x.toNat : Int) < 0) = false) (g2 : decide ((127 : Int) < (x.toNat : Int)) = false)
    (HPL : Hid (∀ w1, Calls Tryf.prog 9 #[.string s, .int .i64 200] w1 fun e w' => w1 = w' ∧ e = .returned (.bool true))) (hx : IsLet x.toNat) (hc : IsCls (low x.toNat)) (hs : s.size ≤ 200) (hp : ∀ j (h : j < s.size), s[j].toNat < 128) {n : Nat} (hn : Pm.run (.atom (.single (x.toNat : Int))) s.data.toList = n) (hcase : 2 ≤ n) :
    Calls Tryf.prog 7 #[.int .i64 (x.toNat : Int), .string s] w (LawPost w) := by
  have hwx : IntKind.u8.wrap (x.toNat : Int) = (x.toNat : Int) := by rw [IntKind.wrap_u8]; have := x.toNat_lt; omega
  have HIN : Hid (∀ w1, ∃ v, Calls Tryf.prog 12 #[.int .u8 (x.toNat : Int), .int .u8 97] w1 fun e w' => Ch (fun _ => False) w1 w' ∧ e = .returned (.tuple #[.bool v, .bool true])) := Lib.hid fun w1 => ⟨_, inclass_cls (b := 97) hx hc (by decide)⟩
  have HRUN : Hid (∀ w1, Calls Tryf.prog 15 #[.int .u8 (x.toNat : Int), .string s] w1 fun e w' => Ch (fun _ => False) w1 w' ∧ e = .returned (.int .i64 (n : Nat))) := Lib.hid fun w1 => by
    have := run_calls (w := w1) hx hc (c := .atom (.single (x.toNat : Int))) rfl (by omega) hp
    rw [hn] at this
    exact this
  have hlen : s.data.toList.length = s.size := Array.length_toList
  have HFI : Hid (∀ (i : Nat) (_ : i < 5) (p : ByteArray) (_ : p.data.toList = [94, 37, x] ++ rptSign i) w1, Calls Tryf.prog 11 #[.string p, .string s, .int .i64 0] w1 (RptPost w1 (rptIs n i) (rptDue n i))) := Lib.hid fun i hi p hpp w1 =>
    first_rpt hx hc hi hpp rfl (by omega) hn
  have hn2 : n ≤ 1000 := by have := run_le (.atom (.single (x.toNat : Int))) s.data.toList; omega
  clear hx hc hp hn hlen
  skip
  go_enter Tryf.func7, Tryf.ntmps7
  go_wp2_with fail
  refine (HPL.out _).mono ?_
  rintro e w1 ⟨rfl, rfl⟩
  simp only []
  go_wp2_with fail
  obtain ⟨v, hv⟩ := HIN.out w
  refine hv.mono ?_
  rintro e w1 ⟨hch1, rfl⟩
  have HC1 := Lib.hid hch1
  clear hch1 hv
  simp only []
  go_wp2_with fail
  refine rpt_reg hwx HRUN ?_
  intro w2 _ _ _ _ _ _ _ _ hch2
  have HC2 := Lib.hid hch2
  clear hch2
  go_wp2_with fail
  go_loopg [48] 5 (fun k s48 wr => ∃ i : Nat, i ≤ 5 ∧ k = 5 - i ∧ s48 = .int .i64 (i : Int) ∧ Ch (fun _ => False) (w2.alloc (.cells #[.string ⟨#[]⟩, .string ⟨#[42]⟩, .string ⟨#[43]⟩, .string ⟨#[63]⟩, .string ⟨#[45]⟩] 9)) wr)
  case atStart => exact ⟨0, by omega, rfl, rfl, .refl _ _⟩
  case round =>
    obtain ⟨i, hi, rfl, rfl, hch⟩ := hrel
    have hcell : ∀ (j : Nat) (v : Value), (#[Value.string ⟨#[]⟩, .string ⟨#[42]⟩, .string ⟨#[43]⟩, .string ⟨#[63]⟩, .string ⟨#[45]⟩])[j]? = some v → wr.cell? ⟨w2.heap.size, j, none⟩ = some v := fun j v h => hch.cell_some ((World.cell?_alloc_at _ _ _ _ rfl).trans h) id
    have HCH := Lib.hid hch
    have HCE := Lib.hid hcell
    clear hch hcell
    match i, hi with
    | 0, _ =>
      have HF : Hid (∀ w1, Calls Tryf.prog 11 #[.string ⟨#[94, 37, x]⟩, .string s, .int .i64 0] w1 (RptPost w1 (rptIs n 0) (rptDue n 0))) := Lib.hid fun w1 => HFI.out 0 (by decide) ⟨#[94, 37, x]⟩ rfl w1
      rw [(show rptIs n 0 = true from by simp [rptIs]; try omega), (show rptDue n 0 = 1 from by simp [rptDue]; try omega)] at HF
      refine rpt_round0p hcase hn2 (HCE.out 0 _ rfl) (Lib.hid fun w1 => (HF.out w1).mono ?_) ?_
      · rintro e w' ⟨hch, p, q, A, A', c, c', rfl, hpq⟩
        exact ⟨hch, p, q, A, A', c, c', rfl, hpq rfl⟩
      · intro w' _ _ _ _ _ _ _ _ _ _ _ _ _ _ _ _ _ _ _ _ _ _ _ _ _ _ _ _ _ _ _ _ _ _ _ _ _ _ _ _ _ _ _ _ _ _ _ _ _ _ _ _ _ _ _ _ _ _ _ _ _ hch
        simp only [Exit.then]
        go_wp2_with fail
        go_roundg (5 - 1)
        case measure => omega
        case rel => exact ⟨1, by omega, rfl, rfl, HCH.out.trans hch⟩
    | 1, _ =>
      have HF : Hid (∀ w1, Calls Tryf.prog 11 #[.string ⟨#[94, 37, x, 42]⟩, .string s, .int .i64 0] w1 (RptPost w1 (rptIs n 1) (rptDue n 1))) := Lib.hid fun w1 => HFI.out 1 (by decide) ⟨#[94, 37, x, 42]⟩ rfl w1
      rw [(show rptIs n 1 = true from by simp [rptIs]; try omega), (show rptDue n 1 = n from by simp [rptDue]; try omega)] at HF
      refine rpt_round1p hcase hn2 (HCE.out 1 _ rfl) (Lib.hid fun w1 => (HF.out w1).mono ?_) ?_
      · rintro e w' ⟨hch, p, q, A, A', c, c', rfl, hpq⟩
        exact ⟨hch, p, q, A, A', c, c', rfl, hpq rfl⟩
      · intro w' _ _ _ _ _ _ _ _ _ _ _ _ _ _ _ _ _ _ _ _ _ _ _ _ _ _ _ _ _ _ _ _ _ _ _ _ _ _ _ _ _ _ _ _ _ _ _ _ _ _ _ _ _ _ _ _ _ _ _ _ _ hch
        simp only [Exit.then]
        go_wp2_with fail
        go_roundg (5 - 2)
        case measure => omega
        case rel => exact ⟨2, by omega, rfl, rfl, HCH.out.trans hch⟩
    | 2, _ =>
      have HF : Hid (∀ w1, Calls Tryf.prog 11 #[.string ⟨#[94, 37, x, 43]⟩, .string s, .int .i64 0] w1 (RptPost w1 (rptIs n 2) (rptDue n 2))) := Lib.hid fun w1 => HFI.out 2 (by decide) ⟨#[94, 37, x, 43]⟩ rfl w1
      rw [(show rptIs n 2 = true from by simp [rptIs]; try omega), (show rptDue n 2 = n from by simp [rptDue]; try omega)] at HF
      refine rpt_round2p hcase hn2 (HCE.out 2 _ rfl) (Lib.hid fun w1 => (HF.out w1).mono ?_) ?_
      · rintro e w' ⟨hch, p, q, A, A', c, c', rfl, hpq⟩
        exact ⟨hch, p, q, A, A', c, c', rfl, hpq rfl⟩
      · intro w' _ _ _ _ _ _ _ _ _ _ _ _ _ _ _ _ _ _ _ _ _ _ _ _ _ _ _ _ _ _ _ _ _ _ _ _ _ _ _ _ _ _ _ _ _ _ _ _ _ _ _ _ _ _ _ _ _ _ _ _ _ hch
        simp only [Exit.then]
        go_wp2_with fail
        go_roundg (5 - 3)
        case measure => omega
        case rel => exact ⟨3, by omega, rfl, rfl, HCH.out.trans hch⟩
    | 3, _ =>
      have HF : Hid (∀ w1, Calls Tryf.prog 11 #[.string ⟨#[94, 37, x, 63]⟩, .string s, .int .i64 0] w1 (RptPost w1 (rptIs n 3) (rptDue n 3))) := Lib.hid fun w1 => HFI.out 3 (by decide) ⟨#[94, 37, x, 63]⟩ rfl w1
      rw [(show rptIs n 3 = true from by simp [rptIs]; try omega), (show rptDue n 3 = 1 from by simp [rptDue]; try omega)] at HF
      refine rpt_round3p hcase hn2 (HCE.out 3 _ rfl) (Lib.hid fun w1 => (HF.out w1).mono ?_) ?_
      · rintro e w' ⟨hch, p, q, A, A', c, c', rfl, hpq⟩
        exact ⟨hch, p, q, A, A', c, c', rfl, hpq rfl⟩
      · intro w' _ _ _ _ _ _ _ _ _ _ _ _ _ _ _ _ _ _ _ _ _ _ _ _ _ _ _ _ _ _ _ _ _ _ _ _ _ _ _ _ _ _ _ _ _ _ _ _ _ _ _ _ _ _ _ _ _ _ _ _ _ hch
        simp only [Exit.then]
        go_wp2_with fail
        go_roundg (5 - 4)
        case measure => omega
        case rel => exact ⟨4, by omega, rfl, rfl, HCH.out.trans hch⟩
    | 4, _ =>
      have HF : Hid (∀ w1, Calls Tryf.prog 11 #[.string ⟨#[94, 37, x, 45]⟩, .string s, .int .i64 0] w1 (RptPost w1 (rptIs n 4) (rptDue n 4))) := Lib.hid fun w1 => HFI.out 4 (by decide) ⟨#[94, 37, x, 45]⟩ rfl w1
      rw [(show rptIs n 4 = true from by simp [rptIs]; try omega), (show rptDue n 4 = 0 from by simp [rptDue]; try omega)] at HF
      refine rpt_round4p hcase hn2 (HCE.out 4 _ rfl) (Lib.hid fun w1 => (HF.out w1).mono ?_) ?_
      · rintro e w' ⟨hch, p, q, A, A', c, c', rfl, hpq⟩
        exact ⟨hch, p, q, A, A', c, c', rfl, hpq rfl⟩
      · intro w' _ _ _ _ _ _ _ _ _ _ _ _ _ _ _ _ _ _ _ _ _ _ _ _ _ _ _ _ _ _ _ _ _ _ _ _ _ _ _ _ _ _ _ _ _ _ _ _ _ _ _ _ _ _ _ _ _ _ _ _ _ hch
        simp only [Exit.then]
        go_wp2_with fail
        go_roundg (5 - 5)
        case measure => omega
        case rel => exact ⟨5, by omega, rfl, rfl, HCH.out.trans hch⟩
    | 5, _ =>
      go_wp2_with fail
      go_ret
      exact ⟨rfl, ((HC1.out.trans HC2.out).alloc _).trans HCH.out⟩

set_option maxRecDepth 100000 in
theorem law_rpt_e0 {w : World} {a : Int} {s : ByteArray} (g0 : decide ((2147483647 : Int) < s.size) = true) : Calls Tryf.prog 7 #[.int .i64 a, .string s] w (LawPost w) := by
  go_enter Tryf.func7, Tryf.ntmps7
  go_wp2_with fail
  go_ret
  exact ⟨rfl, .refl _ _⟩

set_option maxRecDepth 100000 in
theorem law_rpt_e1 {w : World} {a : Int} {s : ByteArray} (g0 : decide ((2147483647 : Int) < s.size) = false) (t1 : decide (a < 0) = true) : Calls Tryf.prog 7 #[.int .i64 a, .string s] w (LawPost w) := by
  go_enter Tryf.func7, Tryf.ntmps7
  go_wp2_with fail
  go_ret
  exact ⟨rfl, .refl _ _⟩

set_option maxRecDepth 100000 in
theorem law_rpt_e2 {w : World} {a : Int} {s : ByteArray} (g0 : decide ((2147483647 : Int) < s.size) = false) (t1 : decide (a < 0) = false) (t2 : decide ((127 : Int) < a) = true) : Calls Tryf.prog 7 #[.int .i64 a, .string s] w (LawPost w) := by
  go_enter Tryf.func7, Tryf.ntmps7
  go_wp2_with fail
  go_ret
  exact ⟨rfl, .refl _ _⟩

set_option maxRecDepth 100000 in
theorem law_rpt_e3 {w : World} {a : Int} {s : ByteArray} (g0 : decide ((2147483647 : Int) < s.size) = false) (t1 : decide (a < 0) = false) (t2 : decide ((127 : Int) < a) = false) (HPL : Hid (∀ w1, Calls Tryf.prog 9 #[.string s, .int .i64 200] w1 fun e w' => w1 = w' ∧ e = .returned (.bool false))) : Calls Tryf.prog 7 #[.int .i64 a, .string s] w (LawPost w) := by
  go_enter Tryf.func7, Tryf.ntmps7
  go_wp2_with fail
  refine (HPL.out _).mono ?_
  rintro e w1 ⟨rfl, rfl⟩
  simp only []
  go_wp2_with fail
  go_ret
  exact ⟨rfl, .refl _ _⟩

set_option maxRecDepth 100000 in
theorem law_rpt_e4 {w : World} {x : UInt8} {s : ByteArray} (g0 : decide ((2147483647 : Int) < s.size) = false) (t1 : decide ((x.toNat : Int) < 0) = false) (t2 : decide ((127 : Int) < (x.toNat : Int)) = false) (HPL : Hid (∀ w1, Calls Tryf.prog 9 #[.string s, .int .i64 200] w1 fun e w' => w1 = w' ∧ e = .returned (.bool true)))
    (HIN : Hid (∀ w1, Calls Tryf.prog 12 #[.int .u8 (x.toNat : Int), .int .u8 97] w1 fun e w' => Ch (fun _ => False) w1 w' ∧ e = .returned (.tuple #[.bool false, .bool false]))) : Calls Tryf.prog 7 #[.int .i64 (x.toNat : Int), .string s] w (LawPost w) := by
  have hwx : IntKind.u8.wrap (x.toNat : Int) = (x.toNat : Int) := by rw [IntKind.wrap_u8]; have := x.toNat_lt; omega
  go_enter Tryf.func7, Tryf.ntmps7
  go_wp2_with fail
  refine (HPL.out _).mono ?_
  rintro e w1 ⟨rfl, rfl⟩
  simp only []
  go_wp2_with fail
  refine (HIN.out _).mono ?_
  rintro e w1 ⟨hch1, rfl⟩
  have HC1 := Lib.hid hch1
  clear hch1
  simp only []
  go_wp2_with fail
  go_ret
  exact ⟨rfl, HC1.out⟩

theorem law_rpt (w : World) (a : Int) (s : ByteArray) : Calls Tryf.prog 7 #[.int .i64 a, .string s] w (LawPost w) := by
  cases g0 : decide ((2147483647 : Int) < s.size) with
  | true => exact law_rpt_e0 g0
  | false =>
    have k0 := of_decide_eq_false g0
    cases t1 : decide (a < 0) with
    | true => exact law_rpt_e1 g0 t1
    | false =>
      cases t2 : decide ((127 : Int) < a) with
      | true => exact law_rpt_e2 g0 t1 t2
      | false =>
        have k1 := of_decide_eq_false t1
        have k2 := of_decide_eq_false t2
        obtain ⟨x, rfl⟩ := byte_of a (by omega) (by omega)
        cases hp : plainB s 200 with
        | false =>
          refine law_rpt_e3 g0 t1 t2 (Lib.hid fun w1 => ?_)
          have := plain_calls (w := w1) (s := s) (m := 200) (by omega)
          unfold PlainPost at this
          rw [hp] at this
          exact this
        | true =>
          obtain ⟨h1, h2⟩ := plainB_true hp
          have HPL : Hid (∀ w1, Calls Tryf.prog 9 #[.string s, .int .i64 200] w1 fun e w' => w1 = w' ∧ e = .returned (.bool true)) := Lib.hid fun w1 => by
            have := plain_calls (w := w1) (s := s) (m := 200) (by omega)
            unfold PlainPost at this
            rw [hp] at this
            exact this
          by_cases hx : IsLet x.toNat
          · by_cases hc : IsCls (low x.toNat)
            · have hpj : ∀ j (h : j < s.size), s[j].toNat < 128 := fun j h => by
                have hm : s[j] ∈ s.data.toList := by
                  have e : s[j] = s.data.toList[j]'(by simpa using h) := by rw [Array.getElem_toList]; rfl
                  rw [e]
                  exact List.getElem_mem _
                have := (h1 _ hm).2
                omega
              have hcase : Pm.run (.atom (.single (x.toNat : Int))) s.data.toList = 0 ∨ Pm.run (.atom (.single (x.toNat : Int))) s.data.toList = 1 ∨ 2 ≤ Pm.run (.atom (.single (x.toNat : Int))) s.data.toList := by omega
              rcases hcase with h | h | h
              · exact law_rpt_z g0 t1 t2 HPL hx hc (by omega) hpj rfl h
              · exact law_rpt_o g0 t1 t2 HPL hx hc (by omega) hpj rfl h
              · exact law_rpt_p g0 t1 t2 HPL hx hc (by omega) hpj rfl h
            · exact law_rpt_e4 g0 t1 t2 HPL (Lib.hid fun w1 => inclass_none (b := 97) hx hc (by decide))
          · exact law_rpt_e4 g0 t1 t2 HPL (Lib.hid fun w1 => inclass_not (b := 97) hx)

end Go.Proofs.YtkbdngcbifonkaaFmt
