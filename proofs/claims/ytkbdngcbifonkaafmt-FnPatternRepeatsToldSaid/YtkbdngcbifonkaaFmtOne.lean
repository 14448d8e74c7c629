/-
  ONE CLASS AT A SUBJECT OF ONE BYTE: what first9 gives.
-/
import Derived.Test.YtkbdngcbifonkaaFmtFst
import Derived.Test.YtkbdngcbifonkaaFmtParA
namespace Go.Proofs.YtkbdngcbifonkaaFmt
set_option linter.all false
open Go.RowKit

theorem vm_one (cl : Pm.Cls) (b : UInt8) (f : Nat) : ∃ n c, Pm.vm (Pm.code [.part (.one cl)]) [b] (f + 4) 0 0 [] = some (cl.mat (b.toNat : Int), n, c) ∧ (cl.mat (b.toNat : Int) = true → c = [2 * 0, 2 * 1]) := by
  cases h : cl.mat (b.toNat : Int) with
  | true => exact ⟨1, [0, 2], by simp [Pm.code, Pm.patsCode, Pm.Pat.code, Pm.Part.code, Pm.vm, Pm.pad, h], fun _ => rfl⟩
  | false => exact ⟨0, [0], by simp [Pm.code, Pm.patsCode, Pm.Pat.code, Pm.Part.code, Pm.vm, Pm.pad, h], fun h => by cases h⟩

theorem find_one (cl : Pm.Cls) (b : UInt8) (f : Nat) : Pm.find (Pm.code [.part (.one cl)]) [b] false (f + 4) 2 0 = some (if cl.mat (b.toNat : Int) then some [2 * 0, 2 * 1] else none) := by
  obtain ⟨n, c, hv, hc⟩ := vm_one cl b f
  have h1 : ∃ n1 c1, Pm.vm (Pm.code [.part (.one cl)]) [b] (f + 4) 0 1 [] = some (false, n1, c1) := ⟨1, [0], by simp [Pm.code, Pm.patsCode, Pm.Pat.code, Pm.Part.code, Pm.vm, Pm.pad]⟩
  obtain ⟨n1, c1, h1⟩ := h1
  rw [Pm.find, hv]
  cases h : cl.mat (b.toNat : Int) with
  | true => simp [hc h]
  | false => simp [Pm.find, h1]

theorem pats_one (cl : Pm.Cls) (hs : ∀ neg es, cl = .set neg es → es.length ≤ 100000) : PatsOk [.part (.one cl)] where
  len := by simp [Pm.code, Pm.patsCode, Pm.Pat.code, Pm.Part.code]
  caps := by simp [kn, Pm.Pat.next]
  n := by simp
  n2 := by simp
  ok := by simp [PatOk, PartOk]
  ins := by
    intro k hk
    simp [Pm.code, Pm.patsCode, Pm.Pat.code, Pm.Part.code] at hk
    match k, hk with
    | 0, _ => exact Nat.zero_le _
    | 1, _ => exact hs
    | 2, _ => exact (by decide : 1 ≤ 100)
    | 3, _ => trivial

/-- What first9 gives at one byte. -/
def OnePost (w : World) (r : Bool) (e : Ending) (w' : World) : Prop :=
  Ch (fun _ => False) w w' ∧ ∃ (p q : Int) (A A' : Option Addr) (c c' : Nat), e = .returned (.tuple #[.agg #[.int .i64 p, .int .i64 q, .slice A 0 c, .slice A' 0 c'], .bool true, .bool r])

theorem first_one {w : World} {s : ByteArray} {l : List UInt8} {b : UInt8} {cl : Pm.Cls} (hl : s.data.toList = l) (hll : l.length ≤ 1000) (hs : ∀ neg es, cl = .set neg es → es.length ≤ 100000) (hp : Parses l false [.part (.one cl)]) :
    Calls Tryf.prog 11 #[.string s, .string ⟨#[b]⟩, .int .i64 0] w (OnePost w (cl.mat (b.toNat : Int))) := by
  have hf := find_one cl b 10
  cases h : cl.mat (b.toNat : Int) with
  | true =>
    rw [h] at hf
    refine (first_some (s := s) (t := ⟨#[b]⟩) (l := l) (src := [b]) (sp0 := 0) (f := 14) (a := 0) (b := 1) hl hll rfl (Lib.hid hp) (Lib.hid (pats_one cl hs)) (by simp) (Nat.zero_le _) (by omega) (by omega) (by omega) (Lib.hid hf)).mono ?_
    rintro e w' ⟨hch, x, y, rfl⟩
    exact ⟨hch, _, _, _, _, _, _, rfl⟩
  | false =>
    rw [h] at hf
    refine (first_none (s := s) (t := ⟨#[b]⟩) (l := l) (src := [b]) (sp0 := 0) (f := 14) hl hll rfl (Lib.hid hp) (Lib.hid (pats_one cl hs)) (by simp) (Nat.zero_le _) (by omega) (Lib.hid hf)).mono ?_
    rintro e w' ⟨hch, rfl⟩
    exact ⟨hch, _, _, _, _, _, _, rfl⟩

end Go.Proofs.YtkbdngcbifonkaaFmt
