/-
  THE MACHINE's GROUND: the code and the subject in memory, and what a call of the machine gives.
-/
import Derived.Test.YtkbdngcbifonkaaFmtIns
import Derived.Test.YtkbdngcbifonkaaFmtCap
import Derived.ScopeJumps
namespace Go.Proofs.YtkbdngcbifonkaaFmt
set_option linter.all false
open Go.RowKit

/-- What an instruction's numbers keep to. -/
def insIn : Pm.Ins → Prop
  | .chr c => ∀ neg es, c = .set neg es → es.length ≤ 100000
  | .save s => s ≤ 100
  | .num n => n = 1
  | _ => True

/-- The code at block C and the subject at block S: both lie below Bd. -/
structure VmEnv (w : World) (Bd C S : Nat) (l : List Pm.Ins) (src : List UInt8) : Prop where
  cb : C < Bd
  sb : S < Bd
  bw : Bd ≤ w.heap.size
  code : ∀ k (h : k < l.length), ∃ x, insOk w (· < Bd) x l[k] ∧ ∀ j, j < 4 → w.cell? ⟨C, k * 4 + j, none⟩ = (insCells x l[k])[j]?
  bytes : ∀ i (h : i < src.length), w.cell? ⟨S, i, none⟩ = some (.int .u8 src[i].toNat)
  srclen : src.length ≤ 100000
  codelen : l.length ≤ 1000
  ins : ∀ k (h : k < l.length), insIn l[k]

theorem VmEnv.keep {w w' : World} {Bd C S : Nat} {l : List Pm.Ins} {src : List UInt8} (h : VmEnv w Bd C S l src) (hc : Ch (Bd ≤ ·) w w') : VmEnv w' Bd C S l src := by
  have hb : ∀ b, b < Bd → w'.heap[b]? = w.heap[b]? := fun b hb => hc.block b (Nat.lt_of_lt_of_le hb h.bw) (by simpa using hb)
  have hk : Keeps w w' (· < Bd) (· < Bd) := fun b hbd => ⟨hb b hbd, hbd⟩
  refine ⟨h.cb, h.sb, Nat.le_trans h.bw hc.size, fun k hk' => ?_, fun i hi => ?_, h.srclen, h.codelen, h.ins⟩
  · obtain ⟨x, hx, hj⟩ := h.code k hk'
    exact ⟨x, hx.keep hk, fun j hj4 => (World.cell?_of_block (w := w) (hb C h.cb)).trans (hj j hj4)⟩
  · exact (World.cell?_of_block (w := w) (hb S h.sb)).trans (h.bytes i hi)

/-- The captures are few and small. -/
def CapsOk (caps : List Nat) : Prop := caps.length ≤ 102 ∧ ∀ x ∈ caps, x ≤ 200000

abbrev sliceAt (b n c : Nat) : Value := .slice (some ⟨b, 0, none⟩) n c

/-- What a call of the machine with so much fuel gives. -/
def VmCalls (f : Nat) : Prop :=
  ∀ (w : World) (Bd C S cap scap R mc M g c pc sp rec n : Nat) (l : List Pm.Ins) (src : List UInt8) (caps caps' : List Nat) (r : Bool),
    Hid (VmEnv w Bd C S l src) → Hid (CapsAt w Bd M caps g c) → Hid (CapsOk caps) → src.length ≤ scap → rec + f ≤ 1000000 → sp ≤ src.length → w.cell? ⟨R, 0, none⟩ = some (ptr M) →
    Hid (Pm.vm l src f pc sp caps = some (r, n, caps')) →
    Calls Tryf.prog 39 #[sliceAt S src.length scap, sliceAt C l.length cap, .int .i64 pc, .int .i64 sp, .int .i64 rec, sliceAt R 1 mc] w fun e w' =>
      e = .returned (.tuple #[.bool r, .int .i64 n, ptr M]) ∧ (∃ g' c', CapsAt w' Bd M caps' g' c' ∧ (g' = g ∨ w.heap.size ≤ g')) ∧ Ch (Tc M g) w w'

end Go.Proofs.YtkbdngcbifonkaaFmt
