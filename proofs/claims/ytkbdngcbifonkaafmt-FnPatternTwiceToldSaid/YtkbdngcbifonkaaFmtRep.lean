/-
  HOW CLASSES AND PATTERNS LIE IN MEMORY: 'ok' tells which blocks they may lie in; where these stay as they are, they stay what they are.
-/
import Derived.Test.YtkbdngcbifonkaaFmtMem
import Derived.Test.YtkbdngcbifonkaaFmtPm
namespace Go.Proofs.YtkbdngcbifonkaaFmt
set_option linter.all false
open Go.RowKit

abbrev ptr (b : Nat) : Value := .pointer (some ⟨b, 0, none⟩)

def RepAtom (w : World) (ok : Nat → Prop) (v : Value) : Pm.Atom → Prop
  | .chr n => ∃ b, ok b ∧ v = .iface 144 (ptr b) ∧ w.cell? ⟨b, 0, none⟩ = some (.int .i64 n)
  | .single n => ∃ b, ok b ∧ v = .iface 166 (ptr b) ∧ w.cell? ⟨b, 0, none⟩ = some (.int .i64 n)

def RepElem (w : World) (ok : Nat → Prop) (v : Value) : Pm.Elem → Prop
  | .atom a => RepAtom w ok v a
  | .range a e => ∃ b x y, ok b ∧ v = .iface 176 (ptr b) ∧ w.cell? ⟨b, 0, none⟩ = some x ∧ w.cell? ⟨b, 1, none⟩ = some y ∧ RepAtom w ok x a ∧ RepAtom w ok y e

def RepCls (w : World) (ok : Nat → Prop) (v : Value) : Pm.Cls → Prop
  | .dot => ∃ p, v = .iface 169 (.pointer (some p))
  | .atom a => RepAtom w ok v a
  | .set neg l => ∃ b A cap, ok b ∧ ok A ∧ v = .iface 172 (ptr b) ∧ w.cell? ⟨b, 0, none⟩ = some (.bool neg) ∧ w.cell? ⟨b, 1, none⟩ = some (.slice (some ⟨A, 0, none⟩) l.length cap) ∧
      ∀ i (h : i < l.length), ∃ u, w.cell? ⟨A, i, none⟩ = some u ∧ RepElem w ok u l[i]

def RepPart (w : World) (ok : Nat → Prop) (v : Value) : Pm.Part → Prop
  | .one c => ∃ b x, ok b ∧ v = .iface 127 (ptr b) ∧ w.cell? ⟨b, 0, none⟩ = some x ∧ RepCls w ok x c
  | .rep t c => ∃ b x, ok b ∧ v = .iface 141 (ptr b) ∧ w.cell? ⟨b, 0, none⟩ = some (.int .i64 t) ∧ w.cell? ⟨b, 1, none⟩ = some x ∧ RepCls w ok x c
  | .num n => ∃ b, ok b ∧ v = .iface 121 (ptr b) ∧ w.cell? ⟨b, 0, none⟩ = some (.int .i64 n)
  | .brace s e => ∃ b, ok b ∧ v = .iface 124 (ptr b) ∧ w.cell? ⟨b, 0, none⟩ = some (.int .i64 s) ∧ w.cell? ⟨b, 1, none⟩ = some (.int .i64 e)

/-- A sequence of parts at block b: its two marks, and its parts. -/
def RepParts (w : World) (ok : Nat → Prop) (b : Nat) (head tail : Bool) (l : List Pm.Part) : Prop :=
  ∃ A cap, ok b ∧ (l ≠ [] → ∃ a, A = some (⟨a, 0, none⟩ : Addr) ∧ ok a ∧ ∀ i (h : i < l.length), ∃ u, w.cell? ⟨a, i, none⟩ = some u ∧ RepPart w ok u l[i]) ∧
    w.cell? ⟨b, 0, none⟩ = some (.bool head) ∧ w.cell? ⟨b, 1, none⟩ = some (.bool tail) ∧ w.cell? ⟨b, 2, none⟩ = some (.slice A l.length cap)

def RepPat (w : World) (ok : Nat → Prop) (v : Value) : Pm.Pat → Prop
  | .part p => RepPart w ok v p
  | .cap l => ∃ b s, ok b ∧ v = .iface 136 (ptr b) ∧ w.cell? ⟨b, 0, none⟩ = some (.iface 95 (ptr s)) ∧ RepParts w ok s false false l

def RepPats (w : World) (ok : Nat → Prop) (b : Nat) (head tail : Bool) (l : List Pm.Pat) : Prop :=
  ∃ A cap, ok b ∧ (l ≠ [] → ∃ a, A = some (⟨a, 0, none⟩ : Addr) ∧ ok a ∧ ∀ i (h : i < l.length), ∃ u, w.cell? ⟨a, i, none⟩ = some u ∧ RepPat w ok u l[i]) ∧
    w.cell? ⟨b, 0, none⟩ = some (.bool head) ∧ w.cell? ⟨b, 1, none⟩ = some (.bool tail) ∧ w.cell? ⟨b, 2, none⟩ = some (.slice A l.length cap)

section keep
variable {w w' : World} {ok ok' : Nat → Prop}
/-- The blocks of 'ok' are as they were, and may be called 'ok'' from now on. -/
def Keeps (w w' : World) (ok ok' : Nat → Prop) : Prop := ∀ b, ok b → w'.heap[b]? = w.heap[b]? ∧ ok' b

theorem Keeps.cell (h : Keeps w w' ok ok') {b i : Nat} (hb : ok b) : w'.cell? ⟨b, i, none⟩ = w.cell? ⟨b, i, none⟩ := World.cell?_of_block (w := w) (h b hb).1

theorem RepAtom.keep (h : Keeps w w' ok ok') {v : Value} {a : Pm.Atom} (r : RepAtom w ok v a) : RepAtom w' ok' v a := by
  cases a with
  | chr n => obtain ⟨b, hb, hv, hc⟩ := r; exact ⟨b, (h b hb).2, hv, (h.cell hb).trans hc⟩
  | single n => obtain ⟨b, hb, hv, hc⟩ := r; exact ⟨b, (h b hb).2, hv, (h.cell hb).trans hc⟩

theorem RepElem.keep (h : Keeps w w' ok ok') {v : Value} {a : Pm.Elem} (r : RepElem w ok v a) : RepElem w' ok' v a := by
  cases a with
  | atom a => exact RepAtom.keep h r
  | range a e => obtain ⟨b, x, y, hb, hv, hx, hy, ha, he⟩ := r; exact ⟨b, x, y, (h b hb).2, hv, (h.cell hb).trans hx, (h.cell hb).trans hy, ha.keep h, he.keep h⟩

theorem RepCls.keep (h : Keeps w w' ok ok') {v : Value} {c : Pm.Cls} (r : RepCls w ok v c) : RepCls w' ok' v c := by
  cases c with
  | dot => exact r
  | atom a => exact RepAtom.keep h r
  | set neg l =>
    obtain ⟨b, A, cap, hb, hA, hv, h0, h1, hi⟩ := r
    exact ⟨b, A, cap, (h b hb).2, (h A hA).2, hv, (h.cell hb).trans h0, (h.cell hb).trans h1, fun i hl => by
      obtain ⟨u, hu, he⟩ := hi i hl
      exact ⟨u, (h.cell hA).trans hu, he.keep h⟩⟩

theorem RepPart.keep (h : Keeps w w' ok ok') {v : Value} {p : Pm.Part} (r : RepPart w ok v p) : RepPart w' ok' v p := by
  cases p with
  | one c => obtain ⟨b, x, hb, hv, hx, hr⟩ := r; exact ⟨b, x, (h b hb).2, hv, (h.cell hb).trans hx, hr.keep h⟩
  | rep t c => obtain ⟨b, x, hb, hv, ht, hx, hr⟩ := r; exact ⟨b, x, (h b hb).2, hv, (h.cell hb).trans ht, (h.cell hb).trans hx, hr.keep h⟩
  | num n => obtain ⟨b, hb, hv, hx⟩ := r; exact ⟨b, (h b hb).2, hv, (h.cell hb).trans hx⟩
  | brace s e => obtain ⟨b, hb, hv, hx, hy⟩ := r; exact ⟨b, (h b hb).2, hv, (h.cell hb).trans hx, (h.cell hb).trans hy⟩

theorem RepParts.keep (h : Keeps w w' ok ok') {b : Nat} {x y : Bool} {l : List Pm.Part} (r : RepParts w ok b x y l) : RepParts w' ok' b x y l := by
  obtain ⟨A, cap, hb, hi, h0, h1, h2⟩ := r
  refine ⟨A, cap, (h b hb).2, fun hl => ?_, (h.cell hb).trans h0, (h.cell hb).trans h1, (h.cell hb).trans h2⟩
  obtain ⟨a, rfl, ha, hi⟩ := hi hl
  exact ⟨a, rfl, (h a ha).2, fun i hl => by
    obtain ⟨u, hu, he⟩ := hi i hl
    exact ⟨u, (h.cell ha).trans hu, he.keep h⟩⟩

theorem RepPat.keep (h : Keeps w w' ok ok') {v : Value} {p : Pm.Pat} (r : RepPat w ok v p) : RepPat w' ok' v p := by
  cases p with
  | part p => exact RepPart.keep h r
  | cap l => obtain ⟨b, s, hb, hv, hx, hr⟩ := r; exact ⟨b, s, (h b hb).2, hv, (h.cell hb).trans hx, hr.keep h⟩

theorem RepPats.keep (h : Keeps w w' ok ok') {b : Nat} {x y : Bool} {l : List Pm.Pat} (r : RepPats w ok b x y l) : RepPats w' ok' b x y l := by
  obtain ⟨A, cap, hb, hi, h0, h1, h2⟩ := r
  refine ⟨A, cap, (h b hb).2, fun hl => ?_, (h.cell hb).trans h0, (h.cell hb).trans h1, (h.cell hb).trans h2⟩
  obtain ⟨a, rfl, ha, hi⟩ := hi hl
  exact ⟨a, rfl, (h a ha).2, fun i hl => by
    obtain ⟨u, hu, he⟩ := hi i hl
    exact ⟨u, (h.cell ha).trans hu, he.keep h⟩⟩
end keep

end Go.Proofs.YtkbdngcbifonkaaFmt
