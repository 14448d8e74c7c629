/-
  The tokens of a text: readers and buffers.
-/
import Derived.WalkKit
import Derived.Lib.Hide
import Derived.Deep.Draws
import Derived.Test.YtbgjjbffpckimaaGreatDoorProg
import Derived.KernelRfl
import Derived.Deep.LoopGhost
import Derived.Deep.RegionHeld3
import Derived.BigQuiet
import Derived.OwnWalk
import Derived.Lib.LazyBuf
import Derived.Handy
import Derived.Laws.IdiomCopy
import Derived.LaidEql
namespace Go.Proofs.YtbgjjbffpckimaaGreatDoor
set_option linter.all false

abbrev Bs := List UInt8

/-- A decimal digit; a letter or an underscore; what a name goes on with; a blank. -/
def isDec (c : UInt8) : Bool := decide (48 ≤ c.toNat) && decide (c.toNat ≤ 57)
def isLet (c : UInt8) : Bool := (decide (97 ≤ c.toNat) && decide (c.toNat ≤ 122)) || (decide (65 ≤ c.toNat) && decide (c.toNat ≤ 90)) || decide (c.toNat = 95)
def isIdc (c : UInt8) : Bool := isLet c || isDec c
def isSp (c : UInt8) : Bool := c == 32 || c == 9 || c == 10
def isHex (c : UInt8) : Bool := isDec c || (decide (97 ≤ c.toNat) && decide (c.toNat ≤ 102)) || (decide (65 ≤ c.toNat) && decide (c.toNat ≤ 70))

/-- What a reader gives: a value and the rest, or what is told of the text (1: refused, 2: open). -/
inductive Rz (α : Type) where
  | ok (a : α) (r : Bs)
  | no (k : Nat)
def Rz.map {α β : Type} (f : α → β) : Rz α → Rz β
  | .ok a r => .ok (f a) r
  | .no k => .no k

/-- How many signs = are ahead. -/
def eqs (r : Bs) : Nat := (r.takeWhile (· == 61)).length
/-- The level of a long bracket of a sign. -/
def brk (s : UInt8) : Bs → Option Nat
  | [] => none
  | c :: t => if c = s ∧ (t.dropWhile (· == 61)).head? = some s then some (eqs t) else none
/-- A line break ahead is left out. -/
def cut10 : Bs → Bs
  | [] => []
  | c :: t => if c = 10 then t else c :: t
/-- The inside of a long bracket of level k. -/
def longB (k : Nat) : Bs → Rz Bs
  | [] => .no 1
  | c :: t =>
    if brk 93 (c :: t) = some k then .ok [] (t.drop (k + 1))
    else if k = 0 ∧ c = 91 ∧ t.head? = some 91 then .no 2
    else (longB k t).map (c :: ·)
/-- A comment, behind its two signs. -/
def comP (r : Bs) : Rz Unit :=
  match brk 91 r with
  | some k => (longB k (cut10 (r.drop (k + 2)))).map fun _ => ()
  | none => if r.take 2 = [91, 61] then .no 2 else .ok () (r.dropWhile (· != 10))

/-- Up to k digits. -/
def dig3 : Nat → Nat → Bs → Nat × Bs
  | 0, v, r => (v, r)
  | _ + 1, v, [] => (v, [])
  | k + 1, v, c :: t => if isDec c then dig3 k (10 * v + (c.toNat - 48)) t else (v, c :: t)
theorem dig3_len : ∀ (k v : Nat) (r : Bs), (dig3 k v r).2.length ≤ r.length
  | 0, _, _ => Nat.le_refl _
  | _ + 1, _, [] => Nat.le_refl _
  | k + 1, v, c :: t => by
    unfold dig3
    split
    · exact Nat.le_trans (dig3_len k _ t) (by simp)
    · exact Nat.le_refl _
theorem dig3_lt (v : Nat) (d : UInt8) (u : Bs) (h : isDec d = true) : (dig3 3 v (d :: u)).2.length ≤ u.length := by
  unfold dig3
  rw [if_pos h]
  exact dig3_len _ _ _
/-- An escape by a letter. -/
def esc (c : UInt8) : Option UInt8 :=
  if c = 97 then some 7 else if c = 98 then some 8 else if c = 102 then some 12 else if c = 110 then some 10 else if c = 10 then some 10
  else if c = 114 then some 13 else if c = 116 then some 9 else if c = 118 then some 11 else if c = 92 ∨ c = 34 ∨ c = 39 then some c else none
/-- The inside of a string in quotes. -/
def strB (q : UInt8) : Bs → Rz Bs
  | [] => .no 1
  | c :: t =>
    if c = 10 then .no 1
    else if c = q then .ok [] t
    else if c = 92 then
      match t with
      | [] => .no 1
      | d :: u =>
        if h : isDec d = true then
          if (dig3 3 0 (d :: u)).1 ≤ 255 then (strB q (dig3 3 0 (d :: u)).2).map (UInt8.ofNat (dig3 3 0 (d :: u)).1 :: ·) else .no 2
        else match esc d with
          | some b => (strB q u).map (b :: ·)
          | none => .no 2
    else (strB q t).map (c :: ·)
termination_by r => r.length
decreasing_by
  · have := dig3_lt 0 d u h
    simp only [List.length_cons]
    omega
  · simp only [List.length_cons]
    omega
  · simp only [List.length_cons]
    omega

/-- The number of decimal digits, as far as 15 of them. -/
def runv (m : Nat) (l : Bs) : Nat := l.foldl (fun m c => if m < 1000000000000000 then 10 * m + (c.toNat - 48) else m) m
def hexd (c : UInt8) : Nat := if isDec c then c.toNat - 48 else if 97 ≤ c.toNat then c.toNat - 97 + 10 else c.toNat - 65 + 10
def hexv (l : Bs) : Nat := l.foldl (fun m c => 16 * m + hexd c) 0
/-- A number without noughts at its end, and its exponent. -/
def strip (m : Nat) (e : Int) : Nat × Int := if h : m ≠ 0 ∧ m % 10 = 0 then strip (m / 10) (e + 1) else (m, e)
termination_by m
decreasing_by omega
def digs (n : Nat) : Bs := if h : n < 10 then [UInt8.ofNat (48 + n)] else digs (n / 10) ++ [UInt8.ofNat (48 + n % 10)]
termination_by n
decreasing_by omega
/-- The text of a number. -/
def numeral (m : Nat) (e : Int) : Option Bs :=
  if (strip m e).1 = 0 then some [48]
  else if 0 ≤ (strip m e).2 ∧ ((digs (strip m e).1).length : Int) + (strip m e).2 ≤ 15 then some (digs ((strip m e).1 * 10 ^ (strip m e).2.toNat))
  else if (strip m e).2 < -22 ∨ 22 < (strip m e).2 then none
  else if (strip m e).2 < 0 then some (digs (strip m e).1 ++ [101, 45] ++ digs (-(strip m e).2).toNat)
  else some (digs (strip m e).1 ++ [101] ++ digs (strip m e).2.toNat)

/-- The parts of a decimal numeral: digits; point and digits; mark, sign and digits of the exponent; the rest. -/
def ptA (r : Bs) : Bs := r.takeWhile isDec
def ptR1 (r : Bs) : Bs := r.dropWhile isDec
def hasDot (r : Bs) : Bool := (ptR1 r).head? == some 46
def ptB (r : Bs) : Bs := if hasDot r then ((ptR1 r).drop 1).takeWhile isDec else []
def ptR2 (r : Bs) : Bs := if hasDot r then ((ptR1 r).drop 1).dropWhile isDec else ptR1 r
def hasE (r : Bs) : Bool := (ptR2 r).head? == some 101 || (ptR2 r).head? == some 69
def hasS (r : Bs) : Bool := ((ptR2 r).drop 1).head? == some 45 || ((ptR2 r).drop 1).head? == some 43
def isNeg (r : Bs) : Bool := ((ptR2 r).drop 1).head? == some 45
def ptR4 (r : Bs) : Bs := if hasS r then (ptR2 r).drop 2 else (ptR2 r).drop 1
def ptP (r : Bs) : Bs := if hasE r then (ptR4 r).takeWhile isDec else []
def ptR5 (r : Bs) : Bs := if hasE r then (ptR4 r).dropWhile isDec else ptR2 r
def expo (r : Bs) : Int := (if isNeg r then -((runv 0 (ptP r) % 1000 : Nat) : Int) else ((runv 0 (ptP r) % 1000 : Nat) : Int)) - ((ptB r).length : Int)
/-- A decimal numeral is not open. -/
def decOk (r : Bs) : Prop := ¬ (2 ≤ (ptA r).length ∧ (ptA r).head? = some 48) ∧ (hasDot r = true → ptA r ≠ [] ∧ ptB r ≠ []) ∧ (hasE r = true → 1 ≤ (ptP r).length ∧ (ptP r).length ≤ 3) ∧ (ptA r).length + (ptB r).length ≤ 15
instance (r : Bs) : Decidable (decOk r) := by unfold decOk; infer_instance
def decP (r : Bs) : Rz Bs :=
  if decOk r then match numeral (runv (runv 0 (ptA r)) (ptB r)) (expo r) with
    | some x => .ok x (ptR5 r)
    | none => .no 2
  else .no 2
def hexP (r : Bs) : Rz Bs :=
  if 1 ≤ (r.takeWhile isHex).length ∧ (r.takeWhile isHex).length ≤ 12 then .ok ((numeral (hexv (r.takeWhile isHex)) 0).getD []) (r.dropWhile isHex) else .no 2
/-- What may not stand behind a numeral. -/
def numEnd (r : Bs) : Bool := match r with
  | [] => true
  | c :: _ => !(isDec c || isLet c || c == 46)
def numP (r : Bs) : Rz Bs :=
  match (if r.take 2 = [48, 120] then hexP (r.drop 2) else if r.take 2 = [48, 88] then .no 2 else decP r) with
  | .ok x r' => if numEnd r' then .ok x r' else .no 2
  | .no k => .no k

/-- The signs, longer ones first. -/
def sgns : List Bs := [[46, 46, 46], [46, 46], [61, 61], [126, 61], [60, 61], [62, 61], [43], [45], [42], [47], [37], [94], [35], [60], [62], [61], [40], [41], [123], [125], [91], [93], [59], [58], [44], [46]]
def signP (r : Bs) : Rz Bs :=
  if r.take 2 = [58, 58] ∨ r.take 2 = [91, 61] then .no 2
  else match sgns.find? (fun s => s.isPrefixOf r) with
    | some s => .ok s (r.drop s.length)
    | none => if r.head?.any (fun c => decide (126 < c.toNat)) then .no 2 else .no 1

/-- The keywords. -/
def kws : List Bs := [[97, 110, 100], [98, 114, 101, 97, 107], [100, 111], [101, 108, 115, 101], [101, 108, 115, 101, 105, 102], [101, 110, 100], [102, 97, 108, 115, 101], [102, 111, 114], [102, 117, 110, 99, 116, 105, 111, 110], [105, 102], [105, 110], [108, 111, 99, 97, 108], [110, 105, 108], [110, 111, 116], [111, 114], [114, 101, 112, 101, 97, 116], [114, 101, 116, 117, 114, 110], [116, 104, 101, 110], [116, 114, 117, 101], [117, 110, 116, 105, 108], [119, 104, 105, 108, 101]]
def gotoB : Bs := [103, 111, 116, 111]

/-- A token: its kind (1 name, 2 keyword, 3 sign, 4 number, 5 string), its text, and its text as it stands. -/
structure Tok where
  kind : Nat
  text : Bs
  raw : Bs

def nameP (r : Bs) : Rz Tok :=
  if r.takeWhile isIdc = gotoB then .no 2
  else .ok ⟨if r.takeWhile isIdc ∈ kws then 2 else 1, r.takeWhile isIdc, r.takeWhile isIdc⟩ (r.dropWhile isIdc)
def nextP : Bs → Rz Tok
  | [] => .no 2
  | c :: t =>
    if isLet c then nameP (c :: t)
    else if isDec c || (c == 46 && t.head?.any isDec) then
      match numP (c :: t) with
      | .ok x r' => .ok ⟨4, x, (c :: t).take ((c :: t).length - r'.length)⟩ r'
      | .no k => .no k
    else if c = 34 ∨ c = 39 then (strB c t).map fun x => ⟨5, x, x⟩
    else match brk 91 (c :: t) with
      | some k => (longB k (cut10 ((c :: t).drop (k + 2)))).map fun x => ⟨5, x, x⟩
      | none => (signP (c :: t)).map fun x => ⟨3, x, x⟩

/-- The tokens of a text, each with the text from its beginning on, and what is told of the text. -/
inductive Lx : Bs → List (Tok × Bs) → Nat → Prop
  | nil : Lx [] [] 0
  | ws {c : UInt8} {t : Bs} {ts : List (Tok × Bs)} {k : Nat} (hc : isSp c = true) (h : Lx t ts k) : Lx (c :: t) ts k
  | com {r r' : Bs} {ts : List (Tok × Bs)} {k : Nat} (hc : comP r = .ok () r') (h : Lx r' ts k) : Lx (45 :: 45 :: r) ts k
  | comNo {r : Bs} {k : Nat} (hc : comP r = .no k) : Lx (45 :: 45 :: r) [] k
  | tok {c : UInt8} {r r' : Bs} {t : Tok} {ts : List (Tok × Bs)} {k : Nat} (h0 : isSp c = false) (h1 : ¬ (c = 45 ∧ r.head? = some 45)) (hn : nextP (c :: r) = .ok t r') (h : Lx r' ts k) : Lx (c :: r) ((t, c :: r) :: ts) k
  | no {c : UInt8} {r : Bs} {k : Nat} (h0 : isSp c = false) (h1 : ¬ (c = 45 ∧ r.head? = some 45)) (hn : nextP (c :: r) = .no k) : Lx (c :: r) [] k

end Go.Proofs.YtbgjjbffpckimaaGreatDoor

namespace Go.Proofs.YtbgjjbffpckimaaGreatDoor
set_option linter.all false
open Go.RowKit

structure Ch (T : Nat → Prop) (w w' : World) : Prop where
  os : w'.os = w.os
  tape : w'.tape = w.tape
  output : w'.output = w.output
  size : w.heap.size ≤ w'.heap.size
  block : ∀ k, k < w.heap.size → ¬ T k → w'.heap[k]? = w.heap[k]?

namespace Ch
variable {T T' : Nat → Prop} {a b c w w' : World}

theorem refl (T : Nat → Prop) (w : World) : Ch T w w := ⟨rfl, rfl, rfl, Nat.le_refl _, fun _ _ _ => rfl⟩
theorem trans (h : Ch T a b) (k : Ch T b c) : Ch T a c :=
  ⟨k.os.trans h.os, k.tape.trans h.tape, k.output.trans h.output, Nat.le_trans h.size k.size, fun i hi hn => (k.block i (Nat.lt_of_lt_of_le hi h.size) hn).trans (h.block i hi hn)⟩
/-- What a later step touches may lie in new blocks. -/
theorem trans' (h : Ch T a b) (k : Ch T' b c) (hT : ∀ i, i < a.heap.size → T' i → T i) : Ch T a c :=
  ⟨k.os.trans h.os, k.tape.trans h.tape, k.output.trans h.output, Nat.le_trans h.size k.size, fun i hi hn => (k.block i (Nat.lt_of_lt_of_le hi h.size) (fun h' => hn (hT i hi h'))).trans (h.block i hi hn)⟩
theorem mono (h : Ch T a b) (hT : ∀ i, i < a.heap.size → T i → T' i) : Ch T' a b :=
  ⟨h.os, h.tape, h.output, h.size, fun i hi hn => h.block i hi (fun h' => hn (hT i hi h'))⟩
theorem drew (h : Ch T a b) : Ch T a b.drew := ⟨h.os, h.tape, h.output, h.size, h.block⟩
theorem drewN (h : Ch T a b) (n : Nat) : Ch T a (b.drewN n) := ⟨h.os, h.tape, h.output, h.size, h.block⟩
theorem alloc (h : Ch T a b) (o : Obj) : Ch T a (b.alloc o) :=
  ⟨h.os, h.tape, h.output, Nat.le_trans h.size (by simp), fun i hi hn => (Below.heap_alloc _ _ _ (Nat.lt_of_lt_of_le hi h.size)).trans (h.block i hi hn)⟩
theorem setCell (h : Ch T a b) {p : Addr} (hp : p.block < a.heap.size → T p.block) (u : Value) : Ch T a (b.setCell p u) :=
  ⟨h.os, h.tape, h.output, Nat.le_trans h.size (by simp [World.setCell]), fun i hi hn => (Below.heap_setCell _ _ _ _ (fun e => hn (by subst e; exact hp hi))).trans (h.block i hi hn)⟩
theorem grown {row : Option Nat} (h : Ch T a b) (hg : b.grownBy c row) (hr : ∀ k, row = some k → k < a.heap.size → T k) : Ch T a c :=
  h.trans' (T' := fun k => some k = row) ⟨hg.os, hg.tape, hg.output, hg.size, fun k hk hn => hg.block k hk hn⟩ (fun i hi e => hr i e.symm hi)
theorem cell (h : Ch T a b) {p : Addr} (hp : p.block < a.heap.size) (hn : ¬ T p.block) : b.cell? p = a.cell? p := World.cell?_of_block (w := a) (h.block p.block hp hn)
theorem frozen (h : Ch T a b) {p : Addr} (hp : p.block < a.heap.size) (hn : ¬ T p.block) : b.frozen? p = a.frozen? p := World.frozen?_of_block (w := a) (h.block p.block hp hn)
theorem cell_some (h : Ch T a b) {p : Addr} {v : Value} (hv : a.cell? p = some v) (hn : ¬ T p.block) : b.cell? p = some v := (h.cell (World.block_lt_of_cell? a p hv) hn).trans hv
theorem below (h : Ch T a b) {B : Nat} (hB : B ≤ a.heap.size) (hT : ∀ k, k < B → ¬ T k) : Below B a b :=
  ⟨h.os, h.tape, h.output, h.size, fun k hk => h.block k (Nat.lt_of_lt_of_le hk hB) (hT k hk)⟩
theorem of_below {B : Nat} (h : Below B a b) (hT : ∀ k, B ≤ k → k < a.heap.size → T k) : Ch T a b :=
  ⟨h.os, h.tape, h.output, h.size, fun k hk hn => by
    by_cases hlt : k < B
    · exact h.block k hlt
    · exact absurd (hT k (by omega) hk) hn⟩
/-- An owned row stays owned where its block is not touched. -/
theorem owns {base : Nat} {e : TypeId} {size : Nat} {v : Value} {n : Nat} {xs : List Value} (h : Ch T a b) (ho : a.ownsRow base e size v n xs) (hn : ∀ k, v.ownBlock = some k → ¬ T k) : b.ownsRow base e size v n xs := by
  refine ⟨ho.1, ?_⟩
  rcases ho.2 with h0 | ⟨g, cap, cur, rfl, hb, hgg, rest⟩
  · exact .inl h0
  · refine .inr ⟨g, cap, cur, rfl, hb, ?_, rest⟩
    rw [h.block g (Array.getElem?_eq_some_iff.1 hgg).1 (hn g rfl)]
    exact hgg
end Ch

end Go.Proofs.YtbgjjbffpckimaaGreatDoor

namespace Go.Proofs.YtbgjjbffpckimaaGreatDoor
set_option linter.all false
open Go.RowKit

abbrev ptr (b : Nat) : Value := .pointer (some ⟨b, 0, none⟩)
theorem addr_ne {S i j : Nat} (h : i ≠ j) : (⟨S, i, none⟩ : Addr) ≠ ⟨S, j, none⟩ := fun e => h (by injection e)

/-- The blocks of a reader. -/
def Tb (B F S : Nat) (b : Nat) : Prop := b = B ∨ b = F ∨ b = S

/-- A reader: its block B, its buffer F, the text's reader S; the text s is read up to i; the buffer holds what lies from r to u. -/
structure BioAt (w : World) (B F S : Nat) (s : ByteArray) (i r u : Nat) (lb : Int) : Prop where
  b0 : w.cell? ⟨B, 0, none⟩ = some (.slice (some ⟨F, 0, none⟩) 4096 4096)
  b1 : w.cell? ⟨B, 1, none⟩ = some (.iface 45 (ptr S))
  b2 : w.cell? ⟨B, 2, none⟩ = some (.int .i64 (r : Int))
  b3 : w.cell? ⟨B, 3, none⟩ = some (.int .i64 (u : Int))
  b4 : w.cell? ⟨B, 4, none⟩ = some .nilIface
  b5 : w.cell? ⟨B, 5, none⟩ = some (.int .i64 lb)
  b6 : ∃ v : Int, w.cell? ⟨B, 6, none⟩ = some (.int .i64 v)
  bz : ∀ j, w.frozen? ⟨B, j, none⟩ = false
  f : ∀ k, k < 4096 → (w.cell? ⟨F, k, none⟩).isSome = true
  fv : ∀ k, r ≤ k → k < u → ∀ h : i + (k - r) < s.size, w.cell? ⟨F, k, none⟩ = some (.int .u8 (s[i + (k - r)].toNat : Int))
  fz : ∀ k, w.frozen? ⟨F, k, none⟩ = false
  s0 : w.cell? ⟨S, 0, none⟩ = some (.string s)
  s1 : w.cell? ⟨S, 1, none⟩ = some (.int .i64 ((i + (u - r) : Nat) : Int))
  s2 : ∃ v : Int, w.cell? ⟨S, 2, none⟩ = some (.int .i64 v)
  sz : ∀ j, w.frozen? ⟨S, j, none⟩ = false
  ru : r ≤ u
  u4 : u ≤ 4096
  isz : i + (u - r) ≤ s.size
  nBF : ¬ B = F
  nBS : ¬ B = S
  nFS : ¬ F = S

section bio
variable {w w' : World} {B F S : Nat} {s : ByteArray} {i r u : Nat} {lb : Int}

theorem BioAt.keep {T : Nat → Prop} (h : BioAt w B F S s i r u lb) (hc : Ch T w w') (hB : ¬ T B) (hF : ¬ T F) (hS : ¬ T S) : BioAt w' B F S s i r u lb := by
  have lB : B < w.heap.size := World.block_lt_of_cell? w _ h.b0
  have lF : F < w.heap.size := by
    have := h.f 0 (by omega)
    obtain ⟨v, hv⟩ := Option.isSome_iff_exists.1 this
    exact World.block_lt_of_cell? w _ hv
  have lS : S < w.heap.size := World.block_lt_of_cell? w _ h.s0
  obtain ⟨v6, h6⟩ := h.b6
  obtain ⟨v2, h2⟩ := h.s2
  exact ⟨hc.cell_some h.b0 hB, hc.cell_some h.b1 hB, hc.cell_some h.b2 hB, hc.cell_some h.b3 hB, hc.cell_some h.b4 hB, hc.cell_some h.b5 hB, ⟨v6, hc.cell_some h6 hB⟩, fun j => (hc.frozen (p := ⟨B, j, none⟩) lB hB).trans (h.bz j),
    fun k hk => by rw [hc.cell (p := ⟨F, k, none⟩) lF hF]; exact h.f k hk, fun k h1 h2 h3 => hc.cell_some (h.fv k h1 h2 h3) hF, fun k => (hc.frozen (p := ⟨F, k, none⟩) lF hF).trans (h.fz k),
    hc.cell_some h.s0 hS, hc.cell_some h.s1 hS, ⟨v2, hc.cell_some h2 hS⟩, fun j => (hc.frozen (p := ⟨S, j, none⟩) lS hS).trans (h.sz j), h.ru, h.u4, h.isz, h.nBF, h.nBS, h.nFS⟩

theorem BioAt.moved (h : BioAt w B F S s i r u lb) (hc : Ch (fun _ => False) w w') : BioAt w' B F S s i r u lb := h.keep hc id id id
end bio

section bio2
variable {w w' : World} {B F S : Nat} {s : ByteArray} {i r u : Nat} {lb : Int}

theorem co {w : World} {a b : Addr} {x y : Value} (h : w.cell? b = some y) (n : ¬ a = b) : (w.setCell a x).cell? b = some y := (World.cell?_setCell_other _ _ _ _ n).trans h
theorem cs {w : World} {a : Addr} {x y : Value} (h : w.cell? a = some y) : (w.setCell a x).cell? a = some x := World.cell?_setCell_same _ _ _ h

theorem isome_co {w : World} {a b : Addr} {x : Value} (h : (w.cell? b).isSome = true) : ((w.setCell a x).cell? b).isSome = true := by
  obtain ⟨y, hy⟩ := Option.isSome_iff_exists.1 h
  by_cases e : a = b
  · subst e; rw [cs hy]; rfl
  · rw [co hy e]; rfl

theorem BioAt.setB5 (h : BioAt w B F S s i r u lb) (x : Int) : BioAt (w.setCell ⟨B, 5, none⟩ (.int .i64 x)) B F S s i r u x := by
  have nF : ∀ {j k}, ¬ (⟨B, j, none⟩ : Addr) = ⟨F, k, none⟩ := fun e => h.nBF (congrArg Addr.block e)
  have nS : ∀ {j k}, ¬ (⟨B, j, none⟩ : Addr) = ⟨S, k, none⟩ := fun e => h.nBS (congrArg Addr.block e)
  obtain ⟨v6, h6⟩ := h.b6
  obtain ⟨v2, h2⟩ := h.s2
  have zf : ∀ a, (w.setCell ⟨B, 5, none⟩ (.int .i64 x)).frozen? a = w.frozen? a := fun a => by rw [World.frozen?_setCell]
  exact ⟨co h.b0 (addr_ne (by decide)), co h.b1 (addr_ne (by decide)), co h.b2 (addr_ne (by decide)), co h.b3 (addr_ne (by decide)), co h.b4 (addr_ne (by decide)), cs h.b5, ⟨v6, co h6 (addr_ne (by decide))⟩, fun j => (zf _).trans (h.bz j),
    fun k hk => isome_co (h.f k hk), fun k h1 h2 h3 => co (h.fv k h1 h2 h3) nF, fun k => (zf _).trans (h.fz k), co h.s0 nS, co h.s1 nS, ⟨v2, co h2 nS⟩, fun j => (zf _).trans (h.sz j), h.ru, h.u4, h.isz, h.nBF, h.nBS, h.nFS⟩

theorem BioAt.setB6 (h : BioAt w B F S s i r u lb) (x : Int) : BioAt (w.setCell ⟨B, 6, none⟩ (.int .i64 x)) B F S s i r u lb := by
  have nF : ∀ {j k}, ¬ (⟨B, j, none⟩ : Addr) = ⟨F, k, none⟩ := fun e => h.nBF (congrArg Addr.block e)
  have nS : ∀ {j k}, ¬ (⟨B, j, none⟩ : Addr) = ⟨S, k, none⟩ := fun e => h.nBS (congrArg Addr.block e)
  obtain ⟨v6, h6⟩ := h.b6
  obtain ⟨v2, h2⟩ := h.s2
  have zf : ∀ a, (w.setCell ⟨B, 6, none⟩ (.int .i64 x)).frozen? a = w.frozen? a := fun a => by rw [World.frozen?_setCell]
  exact ⟨co h.b0 (addr_ne (by decide)), co h.b1 (addr_ne (by decide)), co h.b2 (addr_ne (by decide)), co h.b3 (addr_ne (by decide)), co h.b4 (addr_ne (by decide)), co h.b5 (addr_ne (by decide)), ⟨x, cs h6⟩, fun j => (zf _).trans (h.bz j),
    fun k hk => isome_co (h.f k hk), fun k h1 h2 h3 => co (h.fv k h1 h2 h3) nF, fun k => (zf _).trans (h.fz k), co h.s0 nS, co h.s1 nS, ⟨v2, co h2 nS⟩, fun j => (zf _).trans (h.sz j), h.ru, h.u4, h.isz, h.nBF, h.nBS, h.nFS⟩

/-- One byte on. -/
theorem BioAt.fwd (h : BioAt w B F S s i r u lb) (hr : r < u) : BioAt (w.setCell ⟨B, 2, none⟩ (.int .i64 ((r + 1 : Nat) : Int))) B F S s (i + 1) (r + 1) u lb := by
  have nF : ∀ {j k}, ¬ (⟨B, j, none⟩ : Addr) = ⟨F, k, none⟩ := fun e => h.nBF (congrArg Addr.block e)
  have nS : ∀ {j k}, ¬ (⟨B, j, none⟩ : Addr) = ⟨S, k, none⟩ := fun e => h.nBS (congrArg Addr.block e)
  obtain ⟨v6, h6⟩ := h.b6
  obtain ⟨v2, h2⟩ := h.s2
  have hz := h.isz
  have zf : ∀ a, (w.setCell ⟨B, 2, none⟩ (.int .i64 ((r + 1 : Nat) : Int))).frozen? a = w.frozen? a := fun a => by rw [World.frozen?_setCell]
  have e1 : i + (u - r) = i + 1 + (u - (r + 1)) := by omega
  refine ⟨co h.b0 (addr_ne (by decide)), co h.b1 (addr_ne (by decide)), cs h.b2, co h.b3 (addr_ne (by decide)), co h.b4 (addr_ne (by decide)), co h.b5 (addr_ne (by decide)), ⟨v6, co h6 (addr_ne (by decide))⟩, fun j => (zf _).trans (h.bz j),
    fun k hk => isome_co (h.f k hk), fun k h1 h2 h3 => ?_, fun k => (zf _).trans (h.fz k), co h.s0 nS, ?_, ⟨v2, co h2 nS⟩, fun j => (zf _).trans (h.sz j), by omega, h.u4, by omega, h.nBF, h.nBS, h.nFS⟩
  · have e2 : i + 1 + (k - (r + 1)) = i + (k - r) := by omega
    have := co (x := .int .i64 ((r + 1 : Nat) : Int)) (h.fv k (by omega) h2 (by omega)) (a := ⟨B, 2, none⟩) nF
    simp only [e2]; exact this
  · rw [← e1]; exact co h.s1 nS

/-- One byte back. -/
theorem BioAt.back {b : UInt8} (h : BioAt w B F S s (i + 1) r u lb) (hr : 0 < r) (hb : ∀ h : i < s.size, s[i] = b) : BioAt ((w.setCell ⟨B, 2, none⟩ (.int .i64 ((r - 1 : Nat) : Int))).setCell ⟨F, r - 1, none⟩ (.int .u8 (b.toNat : Int))) B F S s i (r - 1) u lb := by
  have nF : ∀ {j k}, ¬ (⟨B, j, none⟩ : Addr) = ⟨F, k, none⟩ := fun e => h.nBF (congrArg Addr.block e)
  have nF' : ∀ {j k}, ¬ (⟨F, j, none⟩ : Addr) = ⟨B, k, none⟩ := fun e => h.nBF (congrArg Addr.block e).symm
  have nS : ∀ {j k}, ¬ (⟨B, j, none⟩ : Addr) = ⟨S, k, none⟩ := fun e => h.nBS (congrArg Addr.block e)
  have nS' : ∀ {j k}, ¬ (⟨F, j, none⟩ : Addr) = ⟨S, k, none⟩ := fun e => h.nFS (congrArg Addr.block e)
  obtain ⟨v6, h6⟩ := h.b6
  obtain ⟨v2, h2⟩ := h.s2
  have hz := h.isz
  have hru := h.ru
  have hu4 := h.u4
  have zf : ∀ a, ((w.setCell ⟨B, 2, none⟩ (.int .i64 ((r - 1 : Nat) : Int))).setCell ⟨F, r - 1, none⟩ (.int .u8 (b.toNat : Int))).frozen? a = w.frozen? a := fun a => by rw [World.frozen?_setCell, World.frozen?_setCell]
  have e1 : i + 1 + (u - r) = i + (u - (r - 1)) := by omega
  refine ⟨co (co h.b0 (addr_ne (by decide))) nF', co (co h.b1 (addr_ne (by decide))) nF', co (cs h.b2) nF', co (co h.b3 (addr_ne (by decide))) nF', co (co h.b4 (addr_ne (by decide))) nF', co (co h.b5 (addr_ne (by decide))) nF', ⟨v6, co (co h6 (addr_ne (by decide))) nF'⟩, fun j => (zf _).trans (h.bz j),
    fun k hk => isome_co (isome_co (h.f k hk)), fun k h1 h2 h3 => ?_, fun k => (zf _).trans (h.fz k), co (co h.s0 nS) nS', ?_, ⟨v2, co (co h2 nS) nS'⟩, fun j => (zf _).trans (h.sz j), by omega, h.u4, by omega, h.nBF, h.nBS, h.nFS⟩
  · by_cases e : k = r - 1
    · subst e
      obtain ⟨y, hy⟩ := Option.isSome_iff_exists.1 (h.f (r - 1) (by omega))
      have e3 : i + (r - 1 - (r - 1)) = i := by omega
      rw [cs (co hy nF)]
      simp only [e3, hb]
    · have e2 : i + (k - (r - 1)) = i + 1 + (k - r) := by omega
      simp only [e2]
      exact co (co (h.fv k (by omega) h2 (by omega)) nF) (addr_ne (Ne.symm e))
  · rw [← e1]; exact co (co h.s1 nS) nS'

theorem BioAt.drew (h : BioAt w B F S s i r u lb) : BioAt w.drew B F S s i r u lb := h.moved ((Ch.refl _ _).drew)
end bio2

set_option maxRecDepth 100000 in
set_option maxHeartbeats 4000000 in
theorem readErr_calls {w : World} {B : Nat} {v : Value} (b4 : w.cell? ⟨B, 4, none⟩ = some v) (bz : w.frozen? ⟨B, 4, none⟩ = false) (hv : v.oneCell' = true) :
    Calls Tryz.prog 87 #[ptr B] w fun e w' => e = .returned v ∧ w' = w.setCell ⟨B, 4, none⟩ .nilIface := by
  go_enter Tryz.func87, Tryz.ntmps87
  go_wp2_with fail
  go_ret
  exact ⟨rfl, rfl⟩

/-- The region of a number in a code. -/
noncomputable def rgd (id : Nat) : Code → Option Code
  | .region i ops d => if i = id then some (.region i ops d) else none
  | .seq a b => (rgd id a).orElse fun _ => rgd id b
  | .cond _ a b => (rgd id a).orElse fun _ => rgd id b
  | .block _ b => rgd id b
  | .loop b => rgd id b
  | .scope b => rgd id b
  | _ => none
noncomputable def reg35 (id : Nat) : Code := (rgd id (Tryz.f60.body.getD .skip)).getD .skip

set_option maxRecDepth 100000 in
set_option maxHeartbeats 4000000 in
theorem un_reg {w : World} {B F k : Nat} {b : UInt8} {Q : Exit → Act → World → Prop} {u1 u2 u3 u4 u5 u6 u7 u8 u9 u10 u11 u12 u13 u14 u15 u16 u17 u18 u19 u20 u21 u22 u23 u24 u25 u26 u27 u28 u29 u30 u31 u32 u33 u34 u35 u36 u37 u38 u39 u40 u41 u42 u43 u44 u45 u46 u47 u48 u49 u50 u51 u52 u53 u54 u55 u56 u57 : Value} (b0 : w.cell? ⟨B, 0, none⟩ = some (.slice (some ⟨F, 0, none⟩) 4096 4096)) (b2 : w.cell? ⟨B, 2, none⟩ = some (.int .i64 (k : Int))) (b5 : w.cell? ⟨B, 5, none⟩ = some (.int .i64 (b.toNat : Int))) {v : Value} (ff : w.cell? ⟨F, k, none⟩ = some v) (fz : w.frozen? ⟨F, k, none⟩ = false) (hk : k < 4096)
    (hQ : ∀ (w' : World) (y38 y39 y40 y41 y42 y43 y44 y45 y46 y47 y48 y49 y50 y51 : Value), (w' = w.setCell ⟨F, k, none⟩ (.int .u8 (b.toNat : Int)) ∨ w' = (w.setCell ⟨F, k, none⟩ (.int .u8 (b.toNat : Int))).drew) → Q .normal { tmps := #[ptr B, u1, u2, u3, u4, u5, u6, u7, u8, u9, u10, u11, u12, u13, u14, u15, u16, u17, u18, u19, u20, u21, u22, u23, u24, u25, u26, u27, u28, u29, u30, u31, u32, u33, u34, u35, u36, u37, y38, y39, y40, y41, y42, y43, y44, y45, y46, y47, y48, y49, y50, y51, u52, u53, u54, u55, u56, u57], defers := [] } w') :
    (reg35 6).wp Tryz.prog Q { tmps := #[ptr B, u1, u2, u3, u4, u5, u6, u7, u8, u9, u10, u11, u12, u13, u14, u15, u16, u17, u18, u19, u20, u21, u22, u23, u24, u25, u26, u27, u28, u29, u30, u31, u32, u33, u34, u35, u36, u37, u38, u39, u40, u41, u42, u43, u44, u45, u46, u47, u48, u49, u50, u51, u52, u53, u54, u55, u56, u57], defers := [] } w := by
  have hw2 : IntKind.u8.wrap (b.toNat : Int) = (b.toNat : Int) := by rw [IntKind.wrap_u8]; have := b.toNat_lt; omega
  have g5 : (k : Int) < 4096 := by omega
  have g6 : (0 : Int) ≤ (k : Int) := by omega
  have HQ := Lib.hid hQ
  clear hQ
  conv => arg 2; whnf
  refine wp_region_noPanic ?_
  go_region_law (fail)
  all_goals
    refine NoPanic.normal ?_
    first
    | exact HQ.out _ _ _ _ _ _ _ _ _ _ _ _ _ _ _ (.inl rfl)
    | exact HQ.out _ _ _ _ _ _ _ _ _ _ _ _ _ _ _ (.inr rfl)

set_option maxRecDepth 100000 in
set_option maxHeartbeats 4000000 in
theorem unread_calls {w : World} {B F S : Nat} {s : ByteArray} {i r u : Nat} {b : UInt8} (H : Hid (BioAt w B F S s (i + 1) r u (b.toNat : Int))) (hb : ∀ h : i < s.size, s[i] = b) (hr : 0 < r) :
    Calls Tryz.prog 60 #[ptr B] w fun e w' => e = .returned .nilIface ∧ BioAt w' B F S s i (r - 1) u (-1) ∧ Ch (Tb B F S) w w' := by
  have b0 := H.out.b0
  have b2 := H.out.b2
  have b3 := H.out.b3
  have b5 := H.out.b5
  obtain ⟨v6, b6⟩ := H.out.b6
  have z2 := H.out.bz 2
  have z5 := H.out.bz 5
  have z6 := H.out.bz 6
  have hru := H.out.ru
  have hu4 := H.out.u4
  obtain ⟨fv, ff⟩ := Option.isSome_iff_exists.1 (H.out.f (r - 1) (by omega))
  have fz := H.out.fz (r - 1)
  have nBF := H.out.nBF
  have g1 : ¬ (b.toNat : Int) < 0 := by omega
  have g2 : ((r : Int) == 0) = false := by simp; omega
  have g3 : (0 : Int) < (r : Int) := by omega
  have g4 : decide ((b.toNat : Int) < 0) = false := decide_eq_false g1
  have hw1 : IntKind.i64.wrap ((r : Int) - 1) = ((r - 1 : Nat) : Int) := by rw [IntKind.wrap_i64]; omega
  have hw2 : IntKind.u8.wrap (b.toNat : Int) = (b.toNat : Int) := by rw [IntKind.wrap_u8]; have := b.toNat_lt; omega
  have g5 : ((r - 1 : Nat) : Int) < 4096 := by omega
  have g6 : (0 : Int) ≤ ((r - 1 : Nat) : Int) := by omega
  go_enter Tryz.func60, Tryz.ntmps60
  go_wp2_with fail
  refine un_reg (F := F) (k := r - 1) (b := b) ((World.cell?_setCell_other _ _ _ _ (addr_ne (by decide))).trans b0) (World.cell?_setCell_same _ _ _ b2) ((World.cell?_setCell_other _ _ _ _ (addr_ne (by decide))).trans b5) ((World.cell?_setCell_other _ _ _ _ (fun e => nBF (congrArg Addr.block e))).trans ff) (by rw [World.frozen?_setCell]; exact fz) (by omega) ?_
  intro w2 _ _ _ _ _ _ _ _ _ _ _ _ _ _ hw2'
  have hc2 : Ch (Tb B F S) w w2 := by
    rcases hw2' with rfl | rfl
    · exact (((Ch.refl _ _).setCell (p := ⟨B, 2, none⟩) (fun _ => .inl rfl) _).setCell (p := ⟨F, r - 1, none⟩) (fun _ => .inr (.inl rfl)) _)
    · exact (((Ch.refl _ _).setCell (p := ⟨B, 2, none⟩) (fun _ => .inl rfl) _).setCell (p := ⟨F, r - 1, none⟩) (fun _ => .inr (.inl rfl)) _).drew
  have h2 : Hid (BioAt w2 B F S s i (r - 1) u (b.toNat : Int)) := by
    rcases hw2' with rfl | rfl
    · exact Lib.hid (H.out.back hr hb)
    · exact Lib.hid (H.out.back hr hb).drew
  clear hw2'
  have c5 := h2.out.b5
  obtain ⟨v6', c6⟩ := h2.out.b6
  have y5 := h2.out.bz 5
  have y6 := h2.out.bz 6
  simp only [Exit.then]
  go_wp2_with fail
  go_ret
  exact ⟨rfl, (h2.out.setB5 (-1)).setB6 (-1), (hc2.setCell (p := ⟨B, 5, none⟩) (fun _ => .inl rfl) _).setCell (p := ⟨B, 6, none⟩) (fun _ => .inl rfl) _⟩
end Go.Proofs.YtbgjjbffpckimaaGreatDoor

namespace Go.Proofs.YtbgjjbffpckimaaGreatDoor
set_option linter.all false
open Go.RowKit

set_option maxRecDepth 100000 in
set_option maxHeartbeats 4000000 in
theorem read_eof {w : World} {S : Nat} {s : ByteArray} {v e : Value} (s0 : w.cell? ⟨S, 0, none⟩ = some (.string s)) (s1 : w.cell? ⟨S, 1, none⟩ = some (.int .i64 (s.size : Int))) (hv : v.oneCell' = true) (he : w.cell? ⟨2, 0, none⟩ = some v) :
    Calls Tryz.prog 144 #[ptr S, e] w fun e w' => e = .returned (.tuple #[.int .i64 0, v]) ∧ Ch (fun _ => False) w w' := by
  have g1 : (s.size : Int) ≥ (s.size : Int) := Int.le_refl _
  have g2 : decide ((s.size : Int) ≤ (s.size : Int)) = true := by simp
  go_enter Tryz.func144, Tryz.ntmps144
  go_wp2_with fail
  go_quiet (fail)
  go_wp2_with fail
  go_quiet (fail)
  go_wp2_with fail
  refine bodyPost_ret (results_tmp2 rfl _ _ _) rfl ?_
  exact ⟨rfl, ((Ch.refl _ _).drewN _).drewN _⟩

theorem sz5 : (Tryz.prog.info? 5).map (·.size) = some 1 := by kernel_rfl
theorem und31 : Tryz.prog.underlying 36 = some (.slice 5) := by kernel_rfl
theorem z5 (w : World) : (Go.sizeOf 5).run Tryz.prog w = .ok 1 w := by
  have h := sz5
  cases hq : Tryz.prog.info? 5 with
  | none => simp [hq] at h
  | some i =>
    simp [hq] at h
    simp [Go.sizeOf, typeInfo, hq, h]
/-- The cells of a text from a place on. -/
def tailOf (s : ByteArray) (i : Nat) : List Value := ((s.data.toList.map fun x => Value.int .u8 (x.toNat : Int)).drop i).take (s.size - i)
theorem tailOf_length (s : ByteArray) (i : Nat) : (tailOf s i).length = s.size - i := by simp [tailOf]
theorem tailOf_at (s : ByteArray) (i k : Nat) (h : i + k < s.size) (h' : k < (tailOf s i).length) : (tailOf s i)[k] = .int .u8 (s[i + k].toNat : Int) := by
  simp [tailOf]
  rfl
theorem Ch.setCells {T : Nat → Prop} {F : Nat} (hT : T F) : ∀ (vs : List Value) (o : Nat) {a b : World}, Ch T a b → Ch T a (b.setCells F o vs)
  | [], _, _, _, h => h
  | v :: r, o, _, _, h => Ch.setCells hT r (o + 1) (h.setCell (p := ⟨F, o, none⟩) (fun _ => hT) v)
theorem isome_setCells {F : Nat} : ∀ (vs : List Value) (o : Nat) {w : World} {x : Addr}, (w.cell? x).isSome = true → ((w.setCells F o vs).cell? x).isSome = true
  | [], _, _, _, h => h
  | v :: r, o, _, _, h => isome_setCells r (o + 1) (isome_co h)
theorem cell_drew (w : World) (a : Addr) : w.drew.cell? a = w.cell? a := rfl
theorem filled {w : World} {S F i : Nat} {s : ByteArray} (s0 : w.cell? ⟨S, 0, none⟩ = some (.string s)) (s1 : w.cell? ⟨S, 1, none⟩ = some (.int .i64 (i : Int))) {v2 : Value} (s2 : w.cell? ⟨S, 2, none⟩ = some v2) (hi : i < s.size) (hn : s.size - i ≤ 4096) (hf : ∀ k, k < 4096 → (w.cell? ⟨F, k, none⟩).isSome = true) (nFS : ¬ F = S) {a : World} (hc : Ch (fun b => b = F ∨ b = S) a w) :
    (w.setCells F 0 (tailOf s i)).cell? ⟨S, 0, none⟩ = some (.string s) ∧ (w.setCells F 0 (tailOf s i)).cell? ⟨S, 1, none⟩ = some (.int .i64 (i : Int)) ∧ (w.setCells F 0 (tailOf s i)).cell? ⟨S, 2, none⟩ = some v2 ∧ (∀ a, (w.setCells F 0 (tailOf s i)).frozen? a = w.frozen? a) ∧ (∀ k, k < 4096 → ((w.setCells F 0 (tailOf s i)).cell? ⟨F, k, none⟩).isSome = true) ∧ (∀ k, (h : i + k < s.size) → (w.setCells F 0 (tailOf s i)).cell? ⟨F, k, none⟩ = some (.int .u8 (s[i + k].toNat : Int))) ∧ Ch (fun b => b = F ∨ b = S) a (w.setCells F 0 (tailOf s i)) := by
  have ho : ∀ j, (w.setCells F 0 (tailOf s i)).cell? ⟨S, j, none⟩ = w.cell? ⟨S, j, none⟩ := fun j => World.cell?_setCells_out F _ 0 w _ (fun e => absurd e.symm nFS)
  refine ⟨(ho 0).trans s0, (ho 1).trans s1, (ho 2).trans s2, World.frozen?_setCells F _ 0 w, fun k hk => isome_setCells _ 0 (hf k hk), fun k h => ?_, Ch.setCells (.inl rfl) _ 0 hc⟩
  have hl := tailOf_length s i
  have := World.cell?_setCells_in F (tailOf s i) 0 w (fun j hj => by rw [Nat.zero_add]; exact hf j (by omega)) k (by omega)
  rw [Nat.zero_add] at this
  rw [this, tailOf_at s i k h]
noncomputable def reg106 (id : Nat) : Code := (rgd id (Tryz.f144.body.getD .skip)).getD .skip

set_option maxRecDepth 100000 in
set_option maxHeartbeats 4000000 in
theorem read_reg {w : World} {S F i : Nat} {s : ByteArray} {Q : Exit → Act → World → Prop} {u2 u3 u4 u5 u6 u7 u8 u9 u10 u11 u12 u13 u14 u15 u16 u17 u18 u19 u20 u21 u22 u23 u24 u25 u26 u27 u28 u29 u30 u31 u32 u33 u34 u35 u36 u37 u38 : Value} (s0 : w.cell? ⟨S, 0, none⟩ = some (.string s)) (s1 : w.cell? ⟨S, 1, none⟩ = some (.int .i64 (i : Int))) (hi : i < s.size) (hn : s.size - i ≤ 4096) (hf : ∀ k, k < 4096 → (w.cell? ⟨F, k, none⟩).isSome = true) (fz : ∀ k, w.frozen? ⟨F, k, none⟩ = false)
    (hQ : ∀ (w' : World) (y20 y21 y22 y23 y24 y25 y26 y27 y28 y29 y30 : Value), (w' = w.setCells F 0 (tailOf s i) ∨ w' = w.drew.setCells F 0 (tailOf s i)) → Q .normal { tmps := #[ptr S, .slice (some ⟨F, 0, none⟩) 4096 4096, u2, u3, .int .i64 ((s.size - i : Nat) : Int), u5, u6, u7, u8, u9, u10, u11, u12, u13, u14, u15, u16, u17, u18, u19, y20, y21, y22, y23, y24, y25, y26, y27, y28, y29, y30, u31, u32, u33, u34, u35, u36, u37, u38], defers := [] } w') :
    (reg106 4).wp Tryz.prog Q { tmps := #[ptr S, .slice (some ⟨F, 0, none⟩) 4096 4096, u2, u3, u4, u5, u6, u7, u8, u9, u10, u11, u12, u13, u14, u15, u16, u17, u18, u19, u20, u21, u22, u23, u24, u25, u26, u27, u28, u29, u30, u31, u32, u33, u34, u35, u36, u37, u38], defers := [] } w := by
  have g1 : ¬ (s.size : Int) < (i : Int) := by omega
  have g3 : (i : Int) ≤ (s.size : Int) := by omega
  have g4 : (0 : Int) ≤ (i : Int) := by omega
  have Hf := Lib.hid hf
  have Fz := Lib.hid fz
  clear hf fz
  have HQ := Lib.hid hQ
  clear hQ
  conv => arg 2; whnf
  refine wp_region_noPanic ?_
  go_region_law (refine step_copy_string rfl (.tmp 20) (.tmp 29) 36 9 rfl 5 und31 z5 F 0 4096 4096 (by simp [Act.eval, Act.put]) (s.extract i s.size) (by simp [Act.eval, Act.put]) (by simp; omega) (fun j hj => by rw [Nat.zero_add]; exact Hf.out j (by simp at hj; omega)) (fun j _ => Fz.out _) ?_)
  all_goals
    refine NoPanic.normal ?_
    first
    | exact HQ.out _ _ _ _ _ _ _ _ _ _ _ _ (.inl rfl)
    | exact HQ.out _ _ _ _ _ _ _ _ _ _ _ _ (.inr rfl)

set_option maxRecDepth 100000 in
set_option maxHeartbeats 4000000 in
theorem read_some {w : World} {S F i : Nat} {s : ByteArray} (s0 : w.cell? ⟨S, 0, none⟩ = some (.string s)) (s1 : w.cell? ⟨S, 1, none⟩ = some (.int .i64 (i : Int))) {v2 : Int} (s2 : w.cell? ⟨S, 2, none⟩ = some (.int .i64 v2))
    (hz : ∀ j, w.frozen? ⟨S, j, none⟩ = false) (hi : i < s.size) (hn : s.size - i ≤ 4096) (hf : ∀ k, k < 4096 → (w.cell? ⟨F, k, none⟩).isSome = true) (fz : ∀ k, w.frozen? ⟨F, k, none⟩ = false) (nFS : ¬ F = S) (hsz : s.size < 9223372036854775807) :
    Calls Tryz.prog 144 #[ptr S, .slice (some ⟨F, 0, none⟩) 4096 4096] w fun e w' => e = .returned (.tuple #[.int .i64 ((s.size - i : Nat) : Int), .nilIface]) ∧ Ch (fun b => b = F ∨ b = S) w w' ∧
      w'.cell? ⟨S, 0, none⟩ = some (.string s) ∧ w'.cell? ⟨S, 1, none⟩ = some (.int .i64 (s.size : Int)) ∧ w'.cell? ⟨S, 2, none⟩ = some (.int .i64 (-1)) ∧ (∀ j, w'.frozen? ⟨S, j, none⟩ = false) ∧ (∀ k, w'.frozen? ⟨F, k, none⟩ = false) ∧
      (∀ k, k < 4096 → (w'.cell? ⟨F, k, none⟩).isSome = true) ∧ (∀ k, (h : i + k < s.size) → w'.cell? ⟨F, k, none⟩ = some (.int .u8 (s[i + k].toNat : Int))) := by
  have z2 := hz 2
  have z1 := hz 1
  have Hf := Lib.hid hf
  have Fz := Lib.hid fz
  have Hz := Lib.hid hz
  clear hf fz hz
  have g1 : ¬ (s.size : Int) ≤ (i : Int) := by omega
  have g2 : decide ((s.size : Int) ≤ (i : Int)) = false := decide_eq_false g1
  have g3 : (i : Int) ≤ (s.size : Int) := by omega
  have hw : IntKind.i64.wrap ((i : Int) + ((s.size - i : Nat) : Int)) = (s.size : Int) := by rw [IntKind.wrap_i64]; omega
  have nS : ∀ {j k}, ¬ (⟨S, j, none⟩ : Addr) = ⟨F, k, none⟩ := fun e => nFS (congrArg Addr.block e).symm
  go_enter Tryz.func144, Tryz.ntmps144
  go_wp2_with fail
  go_quiet (fail)
  go_wp2_with fail
  refine read_reg (S := S) (F := F) (i := i) (s := s) (co (by simpa using s0) (addr_ne (by decide))) (co (by simpa using s1) (addr_ne (by decide))) hi hn (fun k hk => isome_co (by simpa using Hf.out k hk)) (fun k => by rw [World.frozen?_setCell]; simpa using Fz.out k) ?_
  intro w2 _ _ _ _ _ _ _ _ _ _ _ hw2
  have hw2' : w2.cell? ⟨S, 0, none⟩ = some (.string s) ∧ w2.cell? ⟨S, 1, none⟩ = some (.int .i64 (i : Int)) ∧ w2.cell? ⟨S, 2, none⟩ = some (.int .i64 (-1)) ∧ (∀ a, w2.frozen? a = w.frozen? a) ∧ (∀ k, k < 4096 → (w2.cell? ⟨F, k, none⟩).isSome = true) ∧ (∀ k, (h : i + k < s.size) → w2.cell? ⟨F, k, none⟩ = some (.int .u8 (s[i + k].toNat : Int))) ∧ Ch (fun b => b = F ∨ b = S) w w2 := by
    rcases hw2 with rfl | rfl
    · obtain ⟨p0, p1, p2, p3, p4, p5, p6⟩ := filled (a := w) (co (by simpa using s0) (addr_ne (by decide))) (co (by simpa using s1) (addr_ne (by decide))) (cs (by simpa using s2)) hi hn (fun k hk => isome_co (by simpa using Hf.out k hk)) nFS (((Ch.refl _ _).drewN _).setCell (p := ⟨S, 2, none⟩) (fun _ => .inr rfl) _)
      exact ⟨p0, p1, p2, fun a => (p3 a).trans (by rw [World.frozen?_setCell]; rfl), p4, p5, p6⟩
    · obtain ⟨p0, p1, p2, p3, p4, p5, p6⟩ := filled (a := w) (w := ((w.drewN _).setCell ⟨S, 2, none⟩ (.int .i64 (-1))).drew) ((cell_drew _ _).trans (co (by simpa using s0) (addr_ne (by decide)))) ((cell_drew _ _).trans (co (by simpa using s1) (addr_ne (by decide)))) ((cell_drew _ _).trans (cs (by simpa using s2))) hi hn (fun k hk => by rw [cell_drew]; exact isome_co (by simpa using Hf.out k hk)) nFS (((Ch.refl _ _).drewN _).setCell (p := ⟨S, 2, none⟩) (fun _ => .inr rfl) _).drew
      exact ⟨p0, p1, p2, fun a => (p3 a).trans (by show World.frozen? (World.setCell _ _ _) a = _; rw [World.frozen?_setCell]; rfl), p4, p5, p6⟩
  clear hw2
  obtain ⟨t0, t1, t2, tz, tf, tv, tc⟩ := hw2'
  have tz1 : w2.frozen? ⟨S, 1, none⟩ = false := (tz _).trans z1
  have Tz := Lib.hid tz
  have Tf := Lib.hid tf
  have Tv := Lib.hid tv
  clear tz tf tv
  simp only [Exit.then]
  go_wp2_with fail
  refine bodyPost_ret (results_tmp2 rfl _ _ _) rfl ?_
  refine ⟨rfl, tc.setCell (p := ⟨S, 1, none⟩) (fun _ => .inr rfl) _, co t0 (addr_ne (by decide)), cs t1, co t2 (addr_ne (by decide)), fun j => by rw [World.frozen?_setCell, Tz.out]; exact Hz.out j, fun k => by rw [World.frozen?_setCell, Tz.out]; exact Fz.out k, fun k hk => isome_co (Tf.out k hk), fun k h => co (Tv.out k h) nS⟩
end Go.Proofs.YtbgjjbffpckimaaGreatDoor

namespace Go.Proofs.YtbgjjbffpckimaaGreatDoor
set_option linter.all false
open Go.RowKit

/-- 'copy' of nothing, as a step of a region. -/
theorem step_copy_none {P : Program} {ops : Array Oper} {o : Oper} {a : Act} {w : World} {K : Act → World → Prop} {Q : Exit → Act → World → Prop} {E : Prop}
    (hg : o.guard = none) (d x : Operand) (dT sT : TypeId) (hop : o.op = Op.call { callee := Callee.builtin Builtin.copy, args := #[d, x], argTypes := #[dT, sT] })
    (elem : TypeId) (hu : P.underlying dT = some (.slice elem)) (hs : (P.info? elem).map (·.size) = some 1)
    (da xa : Option Addr) (dLen dCap sCap : Nat) (hd : a.eval d = .slice da dLen dCap) (hx : a.eval x = .slice xa 0 sCap)
    (hK : K (a.put o.dst (goInt 0)) w) :
    if Region.wanted o (yielded ops a.tmps) = true then Oper.wp P o a w K Q else E := by
  have hw : Region.wanted o (yielded ops a.tmps) = true := by simp [Region.wanted, hg]
  rw [if_pos hw]
  have hrun := run_copy_none (P := P) w dT sT o.type elem da xa dLen dCap 0 sCap hu hs (by simp)
  unfold Oper.wp
  simp [execOp, hop, resolve, invoke, builtin, hd, hx, hrun, Result.andThen]
  exact hK

/-- A call of a Go function, as a step of a region. -/
theorem step_enter {P : Program} {ops : Array Oper} {o : Oper} {a : Act} {w : World} {K : Act → World → Prop} {Q : Exit → Act → World → Prop} {E : Prop}
    (hg : o.guard = none) {f : FuncId} {args : Array Value} (hrun : (execOp a.eval o).run P w = .ok (.enter f args) w) {r : Value} {R : World → Prop}
    (hc : Calls P f args w fun e w' => e = .returned r ∧ R w') (hK : ∀ w', R w' → K (a.put o.dst r) w') :
    if Region.wanted o (yielded ops a.tmps) = true then Oper.wp P o a w K Q else E := by
  have hw : Region.wanted o (yielded ops a.tmps) = true := by simp [Region.wanted, hg]
  rw [if_pos hw]
  unfold Oper.wp
  rw [hrun]
  refine hc.mono ?_
  rintro e w' ⟨rfl, hR⟩
  exact hK w' hR
theorem inv_read (x : Value) (w : World) : (method 293 45 x "Read").run Tryz.prog w = .ok (144, x) w := by kernel_rfl
noncomputable def reg53 (id : Nat) : Code := (rgd id (Tryz.f88.body.getD .skip)).getD .skip

set_option maxRecDepth 100000 in
set_option maxHeartbeats 4000000 in
theorem fill_r1 {w : World} {B F r : Nat} {Q : Exit → Act → World → Prop} {u1 u2 u3 u4 u5 u6 u7 u8 u9 u10 u11 u12 u13 u14 u15 u16 u17 u18 u19 u20 u21 u22 u23 u24 u25 u26 u27 u28 u29 u30 u31 u32 u33 u34 u35 u36 u37 u38 u39 u40 u41 u42 u43 u44 u45 u46 u47 u48 u49 u50 u51 u52 u53 u54 u55 u56 u57 u58 u59 u60 u61 u62 u63 u64 u65 u66 u67 u68 u69 u70 u71 u72 u73 u74 u75 u76 u77 u78 u79 u80 u81 u82 u83 u84 u85 u86 u87 u88 u89 u90 u91 u92 u93 u94 u95 u96 u97 u98 : Value} (b0 : w.cell? ⟨B, 0, none⟩ = some (.slice (some ⟨F, 0, none⟩) 4096 4096)) (b2 : w.cell? ⟨B, 2, none⟩ = some (.int .i64 (r : Int))) (b3 : w.cell? ⟨B, 3, none⟩ = some (.int .i64 (r : Int))) (hr : r < 4096)
    (hQ : ∀ (w' : World) (y10 y11 y12 y13 y14 y15 y16 y17 y18 y19 y20 y21 y22 y23 y24 y25 y26 y27 : Value), (w' = w ∨ w' = w.drew) → Q .normal { tmps := #[ptr B, u1, u2, u3, u4, u5, u6, u7, u8, u9, y10, y11, y12, y13, y14, y15, y16, y17, y18, y19, y20, y21, y22, y23, y24, y25, y26, y27, u28, u29, u30, u31, u32, u33, u34, u35, u36, u37, u38, u39, u40, u41, u42, u43, u44, u45, u46, u47, u48, u49, u50, u51, u52, u53, u54, u55, u56, u57, u58, u59, u60, u61, u62, u63, u64, u65, u66, u67, u68, u69, u70, u71, u72, u73, u74, u75, u76, u77, u78, u79, u80, u81, u82, u83, u84, u85, u86, u87, u88, u89, u90, u91, u92, u93, u94, u95, u96, u97, u98], defers := [] } w') :
    (reg53 1).wp Tryz.prog Q { tmps := #[ptr B, u1, u2, u3, u4, u5, u6, u7, u8, u9, u10, u11, u12, u13, u14, u15, u16, u17, u18, u19, u20, u21, u22, u23, u24, u25, u26, u27, u28, u29, u30, u31, u32, u33, u34, u35, u36, u37, u38, u39, u40, u41, u42, u43, u44, u45, u46, u47, u48, u49, u50, u51, u52, u53, u54, u55, u56, u57, u58, u59, u60, u61, u62, u63, u64, u65, u66, u67, u68, u69, u70, u71, u72, u73, u74, u75, u76, u77, u78, u79, u80, u81, u82, u83, u84, u85, u86, u87, u88, u89, u90, u91, u92, u93, u94, u95, u96, u97, u98], defers := [] } w := by
  have g1 : (r : Int) < 4096 := by omega
  have g2 : ¬ (4096 : Int) < (r : Int) := by omega
  have g3 : (0 : Int) ≤ (r : Int) := by omega
  have g4 : ¬ 4096 = r := by omega
  have g5 : (r : Int) ≤ 4096 := by omega
  have HQ := Lib.hid hQ
  clear hQ
  conv => arg 2; whnf
  refine wp_region_noPanic ?_
  go_region_law (go_loud (refine step_copy_none rfl (.tmp 13) (.tmp 26) 36 36 rfl 5 und31 sz5 (some ⟨F, 0, none⟩) (some ⟨F, r, none⟩) 4096 4096 (4096 - r) (by simp [Act.eval, Act.put]) (by simp [Act.eval, Act.put, *]) ?_))
  all_goals
    refine NoPanic.normal ?_
    first
    | exact HQ.out _ _ _ _ _ _ _ _ _ _ _ _ _ _ _ _ _ _ _ (.inl rfl)
    | exact HQ.out _ _ _ _ _ _ _ _ _ _ _ _ _ _ _ _ _ _ _ (.inr (rfl))

set_option maxRecDepth 100000 in
set_option maxHeartbeats 4000000 in
theorem fill_r2 {w : World} {B r : Nat} {Q : Exit → Act → World → Prop} {u1 u2 u3 u4 u5 u6 u7 u8 u9 u10 u11 u12 u13 u14 u15 u16 u17 u18 u19 u20 u21 u22 u23 u24 u25 u26 u27 u28 u29 u30 u31 u32 u33 u34 u35 u36 u37 u38 u39 u40 u41 u42 u43 u44 u45 u46 u47 u48 u49 u50 u51 u52 u53 u54 u55 u56 u57 u58 u59 u60 u61 u62 u63 u64 u65 u66 u67 u68 u69 u70 u71 u72 u73 u74 u75 u76 u77 u78 u79 u80 u81 u82 u83 u84 u85 u86 u87 u88 u89 u90 u91 u92 u93 u94 u95 u96 u97 u98 : Value} (b2 : w.cell? ⟨B, 2, none⟩ = some (.int .i64 (r : Int))) (b3 : w.cell? ⟨B, 3, none⟩ = some (.int .i64 (r : Int))) (z3 : w.frozen? ⟨B, 3, none⟩ = false)
    (hQ : ∀ (w' : World) (y28 y29 y30 y31 y32 y33 y34 y35 y36 y37 y38 : Value), (w' = w.setCell ⟨B, 3, none⟩ (.int .i64 0) ∨ w' = (w.setCell ⟨B, 3, none⟩ (.int .i64 0)).drew ∨ w' = w.drew.setCell ⟨B, 3, none⟩ (.int .i64 0)) → Q .normal { tmps := #[ptr B, u1, u2, u3, u4, u5, u6, u7, u8, u9, u10, u11, u12, u13, u14, u15, u16, u17, u18, u19, u20, u21, u22, u23, u24, u25, u26, u27, y28, y29, y30, y31, y32, y33, y34, y35, y36, y37, y38, u39, u40, u41, u42, u43, u44, u45, u46, u47, u48, u49, u50, u51, u52, u53, u54, u55, u56, u57, u58, u59, u60, u61, u62, u63, u64, u65, u66, u67, u68, u69, u70, u71, u72, u73, u74, u75, u76, u77, u78, u79, u80, u81, u82, u83, u84, u85, u86, u87, u88, u89, u90, u91, u92, u93, u94, u95, u96, u97, u98], defers := [] } w') :
    (reg53 2).wp Tryz.prog Q { tmps := #[ptr B, u1, u2, u3, u4, u5, u6, u7, u8, u9, u10, u11, u12, u13, u14, u15, u16, u17, u18, u19, u20, u21, u22, u23, u24, u25, u26, u27, u28, u29, u30, u31, u32, u33, u34, u35, u36, u37, u38, u39, u40, u41, u42, u43, u44, u45, u46, u47, u48, u49, u50, u51, u52, u53, u54, u55, u56, u57, u58, u59, u60, u61, u62, u63, u64, u65, u66, u67, u68, u69, u70, u71, u72, u73, u74, u75, u76, u77, u78, u79, u80, u81, u82, u83, u84, u85, u86, u87, u88, u89, u90, u91, u92, u93, u94, u95, u96, u97, u98], defers := [] } w := by
  have hw0 : IntKind.i64.wrap ((r : Int) - (r : Int)) = 0 := by rw [IntKind.wrap_i64]; omega
  have HQ := Lib.hid hQ
  clear hQ
  conv => arg 2; whnf
  refine wp_region_noPanic ?_
  go_region_law (fail)
  all_goals
    refine NoPanic.normal ?_
    first
    | exact HQ.out _ _ _ _ _ _ _ _ _ _ _ _ (.inl rfl)
    | exact HQ.out _ _ _ _ _ _ _ _ _ _ _ _ (.inr (.inl rfl))
    | exact HQ.out _ _ _ _ _ _ _ _ _ _ _ _ (.inr (.inr (rfl)))

set_option maxRecDepth 100000 in
set_option maxHeartbeats 4000000 in
theorem fill_r9 {w : World} {B F S : Nat} {n : Int} {ev : Value} {R : World → Prop} {Q : Exit → Act → World → Prop} {u1 u2 u3 u4 u5 u6 u7 u8 u9 u10 u11 u12 u13 u14 u15 u16 u17 u18 u19 u20 u21 u22 u23 u24 u25 u26 u27 u28 u29 u30 u31 u32 u33 u34 u35 u36 u37 u38 u39 u40 u41 u42 u43 u44 u45 u46 u47 u48 u49 u50 u51 u52 u53 u54 u55 u56 u57 u58 u59 u60 u61 u62 u63 u64 u65 u66 u67 u68 u69 u70 u71 u72 u73 u74 u75 u76 u77 u78 u79 u80 u81 u82 u83 u84 u85 u86 u87 u88 u89 u90 u91 u92 u93 u94 u95 u96 u97 u98 : Value} (b0 : w.cell? ⟨B, 0, none⟩ = some (.slice (some ⟨F, 0, none⟩) 4096 4096)) (b1 : w.cell? ⟨B, 1, none⟩ = some (.iface 45 (ptr S))) (b3 : w.cell? ⟨B, 3, none⟩ = some (.int .i64 0)) (hcall : ∀ w1, (w1 = w ∨ w1 = w.drew) → Calls Tryz.prog 144 #[ptr S, .slice (some ⟨F, 0, none⟩) 4096 4096] w1 (fun e w' => e = .returned (.tuple #[.int .i64 n, ev]) ∧ R w'))
    (hQ : ∀ (w' : World) (y57 y58 y59 y60 y61 y62 y63 y64 y65 y66 y67 y68 y69 y70 y71 y72 y73 y74 y75 : Value), (R w') → Q .normal { tmps := #[ptr B, u1, u2, .int .i64 n, ev, u5, u6, u7, u8, u9, u10, u11, u12, u13, u14, u15, u16, u17, u18, u19, u20, u21, u22, u23, u24, u25, u26, u27, u28, u29, u30, u31, u32, u33, u34, u35, u36, u37, u38, u39, u40, u41, u42, u43, u44, u45, u46, u47, u48, u49, u50, u51, u52, u53, u54, u55, u56, y57, y58, y59, y60, y61, y62, y63, y64, y65, y66, y67, y68, y69, y70, y71, y72, y73, y74, y75, u76, u77, u78, u79, u80, u81, u82, u83, u84, u85, u86, u87, u88, u89, u90, u91, u92, u93, u94, u95, u96, u97, u98], defers := [] } w') :
    (reg53 9).wp Tryz.prog Q { tmps := #[ptr B, u1, u2, u3, u4, u5, u6, u7, u8, u9, u10, u11, u12, u13, u14, u15, u16, u17, u18, u19, u20, u21, u22, u23, u24, u25, u26, u27, u28, u29, u30, u31, u32, u33, u34, u35, u36, u37, u38, u39, u40, u41, u42, u43, u44, u45, u46, u47, u48, u49, u50, u51, u52, u53, u54, u55, u56, u57, u58, u59, u60, u61, u62, u63, u64, u65, u66, u67, u68, u69, u70, u71, u72, u73, u74, u75, u76, u77, u78, u79, u80, u81, u82, u83, u84, u85, u86, u87, u88, u89, u90, u91, u92, u93, u94, u95, u96, u97, u98], defers := [] } w := by
  have HC := Lib.hid hcall
  have inv := fun w1 => inv_read (ptr S) w1
  clear hcall
  have HQ := Lib.hid hQ
  clear hQ
  conv => arg 2; whnf
  refine wp_region_noPanic ?_
  go_region_law ((go_loud (refine step_enter rfl (f := 144) (args := #[ptr S, .slice (some ⟨F, 0, none⟩) 4096 4096]) (by go_simp) (HC.out _ (by first | exact .inl rfl | exact .inr rfl)) ?_); intro w' hR))
  all_goals
    refine NoPanic.normal ?_
    exact HQ.out _ _ _ _ _ _ _ _ _ _ _ _ _ _ _ _ _ _ _ _ hR

end Go.Proofs.YtbgjjbffpckimaaGreatDoor

namespace Go.Proofs.YtbgjjbffpckimaaGreatDoor
set_option linter.all false
open Go.RowKit

section
variable {w w' : World} {B F S : Nat} {s : ByteArray} {i r u : Nat} {lb : Int}

/-- An empty buffer is laid at its start. -/
theorem BioAt.reset (h : BioAt w B F S s i r r lb) : BioAt ((w.setCell ⟨B, 3, none⟩ (.int .i64 0)).setCell ⟨B, 2, none⟩ (.int .i64 0)) B F S s i 0 0 lb := by
  have nF : ∀ {j k}, ¬ (⟨B, j, none⟩ : Addr) = ⟨F, k, none⟩ := fun e => h.nBF (congrArg Addr.block e)
  have nS : ∀ {j k}, ¬ (⟨B, j, none⟩ : Addr) = ⟨S, k, none⟩ := fun e => h.nBS (congrArg Addr.block e)
  obtain ⟨v6, h6⟩ := h.b6
  obtain ⟨v2, h2⟩ := h.s2
  have zf : ∀ a, ((w.setCell ⟨B, 3, none⟩ (.int .i64 0)).setCell ⟨B, 2, none⟩ (.int .i64 0)).frozen? a = w.frozen? a := fun a => by rw [World.frozen?_setCell, World.frozen?_setCell]
  have hs := h.s1
  have hz := h.isz
  rw [Nat.sub_self, Nat.add_zero] at hs hz
  have d : ∀ {j k : Nat}, ¬ j = k → ¬ (⟨B, j, none⟩ : Addr) = ⟨B, k, none⟩ := fun e => addr_ne e
  exact ⟨co (co h.b0 (d (by decide))) (d (by decide)), co (co h.b1 (d (by decide))) (d (by decide)), cs (co h.b2 (d (by decide))), co (cs h.b3) (d (by decide)), co (co h.b4 (d (by decide))) (d (by decide)), co (co h.b5 (d (by decide))) (d (by decide)), ⟨v6, co (co h6 (d (by decide))) (d (by decide))⟩, fun j => (zf _).trans (h.bz j),
    fun k hk => isome_co (isome_co (h.f k hk)), fun k h1 h2 h3 => by omega, fun k => (zf _).trans (h.fz k), co (co h.s0 nS) nS, co (co (by simpa using hs) nS) nS, ⟨v2, co (co h2 nS) nS⟩, fun j => (zf _).trans (h.sz j), by omega, by omega, by omega, h.nBF, h.nBS, h.nFS⟩

/-- The buffer is filled. -/
theorem BioAt.fill (h : BioAt w B F S s i 0 0 lb) (hi : i ≤ s.size) (hn : s.size - i ≤ 4096) (hc : Ch (fun b => b = F ∨ b = S) w w')
    (t0 : w'.cell? ⟨S, 0, none⟩ = some (.string s)) (t1 : w'.cell? ⟨S, 1, none⟩ = some (.int .i64 (s.size : Int))) (t2 : w'.cell? ⟨S, 2, none⟩ = some (.int .i64 (-1))) (tz : ∀ j, w'.frozen? ⟨S, j, none⟩ = false) (fz : ∀ k, w'.frozen? ⟨F, k, none⟩ = false)
    (tf : ∀ k, k < 4096 → (w'.cell? ⟨F, k, none⟩).isSome = true) (tv : ∀ k, (h : i + k < s.size) → w'.cell? ⟨F, k, none⟩ = some (.int .u8 (s[i + k].toNat : Int))) : BioAt (w'.setCell ⟨B, 3, none⟩ (.int .i64 ((s.size - i : Nat) : Int))) B F S s i 0 (s.size - i) lb := by
  have nF : ∀ {j k}, ¬ (⟨B, j, none⟩ : Addr) = ⟨F, k, none⟩ := fun e => h.nBF (congrArg Addr.block e)
  have nS : ∀ {j k}, ¬ (⟨B, j, none⟩ : Addr) = ⟨S, k, none⟩ := fun e => h.nBS (congrArg Addr.block e)
  have nB : ¬ (B = F ∨ B = S) := fun e => e.elim h.nBF h.nBS
  have lB : B < w.heap.size := World.block_lt_of_cell? w _ h.b0
  obtain ⟨v6, h6⟩ := h.b6
  have zf : ∀ a, (w'.setCell ⟨B, 3, none⟩ (.int .i64 ((s.size - i : Nat) : Int))).frozen? a = w'.frozen? a := fun a => by rw [World.frozen?_setCell]
  have d : ∀ {j k : Nat}, ¬ j = k → ¬ (⟨B, j, none⟩ : Addr) = ⟨B, k, none⟩ := fun e => addr_ne e
  have e1 : i + (s.size - i - 0) = s.size := by omega
  refine ⟨co (hc.cell_some h.b0 nB) (d (by decide)), co (hc.cell_some h.b1 nB) (d (by decide)), co (hc.cell_some h.b2 nB) (d (by decide)), cs (hc.cell_some h.b3 nB), co (hc.cell_some h.b4 nB) (d (by decide)), co (hc.cell_some h.b5 nB) (d (by decide)), ⟨v6, co (hc.cell_some h6 nB) (d (by decide))⟩, fun j => (zf _).trans ((hc.frozen (p := ⟨B, j, none⟩) lB nB).trans (h.bz j)),
    fun k hk => isome_co (tf k hk), fun k h1 h2 h3 => ?_, fun k => (zf _).trans (fz k), co t0 nS, ?_, ⟨-1, co t2 nS⟩, fun j => (zf _).trans (tz j), by omega, by omega, by omega, h.nBF, h.nBS, h.nFS⟩
  · exact co (tv k (by simpa using h3)) nF
  · rw [e1]; exact co t1 nS

theorem BioAt.setB3 (h : BioAt w B F S s i r u lb) : BioAt (w.setCell ⟨B, 3, none⟩ (.int .i64 (u : Int))) B F S s i r u lb := by
  have nF : ∀ {j k}, ¬ (⟨B, j, none⟩ : Addr) = ⟨F, k, none⟩ := fun e => h.nBF (congrArg Addr.block e)
  have nS : ∀ {j k}, ¬ (⟨B, j, none⟩ : Addr) = ⟨S, k, none⟩ := fun e => h.nBS (congrArg Addr.block e)
  obtain ⟨v6, h6⟩ := h.b6
  obtain ⟨v2, h2⟩ := h.s2
  have zf : ∀ a, (w.setCell ⟨B, 3, none⟩ (.int .i64 (u : Int))).frozen? a = w.frozen? a := fun a => by rw [World.frozen?_setCell]
  exact ⟨co h.b0 (addr_ne (by decide)), co h.b1 (addr_ne (by decide)), co h.b2 (addr_ne (by decide)), cs h.b3, co h.b4 (addr_ne (by decide)), co h.b5 (addr_ne (by decide)), ⟨v6, co h6 (addr_ne (by decide))⟩, fun j => (zf _).trans (h.bz j),
    fun k hk => isome_co (h.f k hk), fun k h1 h2 h3 => co (h.fv k h1 h2 h3) nF, fun k => (zf _).trans (h.fz k), co h.s0 nS, co h.s1 nS, ⟨v2, co h2 nS⟩, fun j => (zf _).trans (h.sz j), h.ru, h.u4, h.isz, h.nBF, h.nBS, h.nFS⟩

/-- An error that is set and taken away. -/
theorem BioAt.err (h : BioAt w B F S s i r u lb) (v : Value) : BioAt ((w.setCell ⟨B, 4, none⟩ v).setCell ⟨B, 4, none⟩ .nilIface) B F S s i r u lb := by
  have nF : ∀ {j k}, ¬ (⟨B, j, none⟩ : Addr) = ⟨F, k, none⟩ := fun e => h.nBF (congrArg Addr.block e)
  have nS : ∀ {j k}, ¬ (⟨B, j, none⟩ : Addr) = ⟨S, k, none⟩ := fun e => h.nBS (congrArg Addr.block e)
  obtain ⟨v6, h6⟩ := h.b6
  obtain ⟨v2, h2⟩ := h.s2
  have d : ∀ {j k : Nat}, ¬ j = k → ¬ (⟨B, j, none⟩ : Addr) = ⟨B, k, none⟩ := fun e => addr_ne e
  have zf : ∀ a, ((w.setCell ⟨B, 4, none⟩ v).setCell ⟨B, 4, none⟩ .nilIface).frozen? a = w.frozen? a := fun a => by rw [World.frozen?_setCell, World.frozen?_setCell]
  exact ⟨co (co h.b0 (d (by decide))) (d (by decide)), co (co h.b1 (d (by decide))) (d (by decide)), co (co h.b2 (d (by decide))) (d (by decide)), co (co h.b3 (d (by decide))) (d (by decide)), cs (cs h.b4), co (co h.b5 (d (by decide))) (d (by decide)), ⟨v6, co (co h6 (d (by decide))) (d (by decide))⟩, fun j => (zf _).trans (h.bz j),
    fun k hk => isome_co (isome_co (h.f k hk)), fun k h1 h2 h3 => co (co (h.fv k h1 h2 h3) nF) nF, fun k => (zf _).trans (h.fz k), co (co h.s0 nS) nS, co (co h.s1 nS) nS, ⟨v2, co (co h2 nS) nS⟩, fun j => (zf _).trans (h.sz j), h.ru, h.u4, h.isz, h.nBF, h.nBS, h.nFS⟩
end

/-- io.EOF. -/
abbrev eofv (X : Addr) : Value := .iface 155 (.pointer (some X))

/-- The first loop in a code. -/
noncomputable def lpd : Code → Option Code
  | .seq a b => (lpd a).orElse fun _ => lpd b
  | .cond _ a b => (lpd a).orElse fun _ => lpd b
  | .block _ b => lpd b
  | .loop b => some (.loop b)
  | .scope b => lpd b
  | _ => none
noncomputable def lp53 : Code := (lpd (Tryz.f88.body.getD .skip)).getD .skip

set_option maxRecDepth 100000 in
set_option maxHeartbeats 4000000 in
theorem loop_some {w : World} {B F S : Nat} {s : ByteArray} {i  : Nat} {lb : Int} {v : Value} {Q : Exit → Act → World → Prop} {u1 u3 u4 u5 u6 u7 u8 u9 u10 u11 u12 u13 u14 u15 u16 u17 u18 u19 u20 u21 u22 u23 u24 u25 u26 u27 u28 u29 u30 u31 u32 u33 u34 u35 u36 u37 u38 u39 u40 u41 u42 u43 u44 u45 u46 u47 u48 u49 u50 u51 u52 u53 u54 u55 u56 u57 u58 u59 u60 u61 u62 u63 u64 u65 u66 u67 u68 u69 u70 u71 u72 u73 u74 u75 u76 u77 u78 u79 u80 u81 u82 u83 u84 u85 u86 u87 u88 u89 u90 u91 u92 u93 u94 u95 u96 u97 u98 : Value} (H : Hid (BioAt w B F S s i 0 0 lb)) (hs4 : s.size < 4096) (hi : i < s.size)
    (hQ : ∀ (a' : Act) (w' : World), a'.defers = [] → (BioAt w' B F S s i 0 (s.size - i) lb ∧ Ch (Tb B F S) w w') → Q .ret a' w') :
    lp53.wp Tryz.prog Q { tmps := #[ptr B, u1, .int .i64 100, u3, u4, u5, u6, u7, u8, u9, u10, u11, u12, u13, u14, u15, u16, u17, u18, u19, u20, u21, u22, u23, u24, u25, u26, u27, u28, u29, u30, u31, u32, u33, u34, u35, u36, u37, u38, u39, u40, u41, u42, u43, u44, u45, u46, u47, u48, u49, u50, u51, u52, u53, u54, u55, u56, u57, u58, u59, u60, u61, u62, u63, u64, u65, u66, u67, u68, u69, u70, u71, u72, u73, u74, u75, u76, u77, u78, u79, u80, u81, u82, u83, u84, u85, u86, u87, u88, u89, u90, u91, u92, u93, u94, u95, u96, u97, u98], defers := [] } w := by
  have HQ := Lib.hid hQ
  clear hQ
  conv => arg 2; whnf
  dsimp only
  go_loopg [2] 1 (fun k s2 wr => wr = w ∧ s2 = .int .i64 100)
  case atStart => exact ⟨rfl, rfl⟩
  case round =>
    obtain ⟨rfl, rfl⟩ := hrel
    have c0 := H.out.b0
    have c1 := H.out.b1
    have c3 := H.out.b3
    go_wp2_with fail
    refine fill_r9 (F := F) (S := S) (n := ((s.size - i : Nat) : Int)) (ev := .nilIface) (R := (fun w' => BioAt (w'.setCell ⟨B, 3, none⟩ (.int .i64 ((s.size - i : Nat) : Int))) B F S s i 0 (s.size - i) lb ∧ Ch (Tb B F S) wr w' ∧ w'.cell? ⟨B, 3, none⟩ = some (.int .i64 0) ∧ w'.frozen? ⟨B, 3, none⟩ = false)) c0 c1 c3 ?_ ?_
    · intro w1 hw1
      have H1 : BioAt w1 B F S s i 0 0 lb := by
        rcases hw1 with rfl | rfl
        · exact H.out
        · exact H.out.drew
      have hc1 : Ch (Tb B F S) wr w1 := by
        rcases hw1 with rfl | rfl
        · exact Ch.refl _ _
        · exact (Ch.refl _ _).drew
      obtain ⟨v2, h2⟩ := H1.s2
      have nB : ¬ (B = F ∨ B = S) := fun e => e.elim H1.nBF H1.nBS
      have lB : B < w1.heap.size := World.block_lt_of_cell? w1 _ H1.b0
      refine (read_some H1.s0 (by simpa using H1.s1) h2 H1.sz hi (by omega) H1.f H1.fz H1.nFS (by omega)).mono ?_
      rintro e w' ⟨rfl, hc, t0, t1, t2, tz, fz, tf, tv⟩
      exact ⟨rfl, H1.fill (by omega) (by omega) hc t0 t1 t2 tz fz tf tv, hc1.trans (hc.mono fun _ _ h => .inr h), hc.cell_some H1.b3 nB, (hc.frozen (p := ⟨B, 3, none⟩) lB nB).trans (H1.bz 3)⟩
    · intro w3 _ _ _ _ _ _ _ _ _ _ _ _ _ _ _ _ _ _ _ h3
      obtain ⟨h3a, h3b, d3, y3⟩ := h3
      have H3 := Lib.hid h3a
      have C3 := Lib.hid h3b
      clear h3a h3b
      have g1 : ¬ ((s.size - i : Nat) : Int) < 0 := by omega
      have g2 : (0 : Int) < ((s.size - i : Nat) : Int) := by omega
      have hw0 : IntKind.i64.wrap (0 + ((s.size - i : Nat) : Int)) = ((s.size - i : Nat) : Int) := by rw [IntKind.wrap_i64]; omega
      simp only [Exit.then]
      go_wp2_with fail
      exact HQ.out _ _ rfl ⟨H3.out, C3.out.setCell (p := ⟨B, 3, none⟩) (fun _ => .inl rfl) _⟩

set_option maxRecDepth 100000 in
set_option maxHeartbeats 4000000 in
theorem loop_eof {w : World} {B F S : Nat} {s : ByteArray} {lb : Int} {X : Addr} {Q : Exit → Act → World → Prop} {u1 u3 u4 u5 u6 u7 u8 u9 u10 u11 u12 u13 u14 u15 u16 u17 u18 u19 u20 u21 u22 u23 u24 u25 u26 u27 u28 u29 u30 u31 u32 u33 u34 u35 u36 u37 u38 u39 u40 u41 u42 u43 u44 u45 u46 u47 u48 u49 u50 u51 u52 u53 u54 u55 u56 u57 u58 u59 u60 u61 u62 u63 u64 u65 u66 u67 u68 u69 u70 u71 u72 u73 u74 u75 u76 u77 u78 u79 u80 u81 u82 u83 u84 u85 u86 u87 u88 u89 u90 u91 u92 u93 u94 u95 u96 u97 u98 : Value} (H : Hid (BioAt w B F S s s.size 0 0 lb)) (hs4 : s.size < 4096) (he : w.cell? ⟨2, 0, none⟩ = some (eofv X))
    (hQ : ∀ (a' : Act) (w' : World), a'.defers = [] → (∃ w2, BioAt w2 B F S s s.size 0 0 lb ∧ Ch (Tb B F S) w w2 ∧ w' = w2.setCell ⟨B, 4, none⟩ (eofv X)) → Q .ret a' w') :
    lp53.wp Tryz.prog Q { tmps := #[ptr B, u1, .int .i64 100, u3, u4, u5, u6, u7, u8, u9, u10, u11, u12, u13, u14, u15, u16, u17, u18, u19, u20, u21, u22, u23, u24, u25, u26, u27, u28, u29, u30, u31, u32, u33, u34, u35, u36, u37, u38, u39, u40, u41, u42, u43, u44, u45, u46, u47, u48, u49, u50, u51, u52, u53, u54, u55, u56, u57, u58, u59, u60, u61, u62, u63, u64, u65, u66, u67, u68, u69, u70, u71, u72, u73, u74, u75, u76, u77, u78, u79, u80, u81, u82, u83, u84, u85, u86, u87, u88, u89, u90, u91, u92, u93, u94, u95, u96, u97, u98], defers := [] } w := by
  have HQ := Lib.hid hQ
  clear hQ
  conv => arg 2; whnf
  dsimp only
  go_loopg [2] 1 (fun k s2 wr => wr = w ∧ s2 = .int .i64 100)
  case atStart => exact ⟨rfl, rfl⟩
  case round =>
    obtain ⟨rfl, rfl⟩ := hrel
    have c0 := H.out.b0
    have c1 := H.out.b1
    have c3 := H.out.b3
    go_wp2_with fail
    refine fill_r9 (F := F) (S := S) (n := 0) (ev := (eofv X)) (R := (fun w' => BioAt w' B F S s s.size 0 0 lb ∧ Ch (Tb B F S) wr w')) c0 c1 c3 ?_ ?_
    · intro w1 hw1
      have H1 : BioAt w1 B F S s s.size 0 0 lb := by
        rcases hw1 with rfl | rfl
        · exact H.out
        · exact H.out.drew
      have hc1 : Ch (Tb B F S) wr w1 := by
        rcases hw1 with rfl | rfl
        · exact Ch.refl _ _
        · exact (Ch.refl _ _).drew
      have he1 : w1.cell? ⟨2, 0, none⟩ = some (eofv X) := by
        rcases hw1 with rfl | rfl
        · exact he
        · exact he
      refine (read_eof H1.s0 (by simpa using H1.s1) rfl he1).mono ?_
      rintro e w' ⟨rfl, hc⟩
      exact ⟨rfl, H1.moved hc, hc1.trans (hc.mono fun _ _ h => h.elim)⟩
    · intro w3 _ _ _ _ _ _ _ _ _ _ _ _ _ _ _ _ _ _ _ h3
      obtain ⟨h3a, h3b⟩ := h3
      have H3 := Lib.hid h3a
      have C3 := Lib.hid h3b
      clear h3a h3b
      have d3 := H3.out.b3
      have d4 := H3.out.b4
      have y3 := H3.out.bz 3
      have y4 := H3.out.bz 4
      simp only [Exit.then]
      go_wp2_with fail
      exact HQ.out _ _ rfl ⟨_, H3.out.setB3, C3.out.setCell (p := ⟨B, 3, none⟩) (fun _ => .inl rfl) _, rfl⟩

set_option maxRecDepth 100000 in
set_option maxHeartbeats 4000000 in
theorem fill_some {w : World} {B F S : Nat} {s : ByteArray} {i r : Nat} {lb : Int} {v : Value} (H : Hid (BioAt w B F S s i r r lb)) (hr : r ≤ i) (hs4 : s.size < 4096) (hi : i < s.size) :
    Calls Tryz.prog 88 #[ptr B] w fun e w' => e = .returned (.tuple #[]) ∧ BioAt w' B F S s i 0 (s.size - i) lb ∧ Ch (Tb B F S) w w' := by
  have b0 := H.out.b0
  have b2 := H.out.b2
  have b3 := H.out.b3
  have z2 := H.out.bz 2
  have z3 := H.out.bz 3
  by_cases h0 : r = 0
  · subst h0
    have g0 : ¬ ((0 : Nat) : Int) > 0 := by simp
    go_enter Tryz.func88, Tryz.ntmps88
    go_wp2_with fail
    go_quiet (fail)
    go_wp2_with fail
    refine loop_some (v := v) (Lib.hid (H.out.moved ((Ch.refl _ _).drewN _))) hs4 hi ?_
    rintro a' w' hd ⟨h1, h2⟩
    simp (config := { zetaDelta := true }) only [Exit.jump, Exit.inBlock, Exit.then]
    refine bodyPost_ret (results_none rfl _ _ _) hd ?_
    exact ⟨rfl, h1, ((Ch.refl _ _).drewN _).trans h2⟩
  · have g0 : (0 : Int) < (r : Int) := by omega
    have hi4 : r < 4096 := by omega
    go_enter Tryz.func88, Tryz.ntmps88
    go_wp2_with fail
    refine fill_r1 (F := F) b0 b2 b3 hi4 ?_
    intro w1 _ _ _ _ _ _ _ _ _ _ _ _ _ _ _ _ _ _ hw1
    have H1 : Hid (BioAt w1 B F S s i r r lb) := by
      rcases hw1 with rfl | rfl
      · exact H
      · exact Lib.hid H.out.drew
    have C1 : Hid (Ch (Tb B F S) w w1) := by
      rcases hw1 with rfl | rfl
      · exact Lib.hid (Ch.refl _ _)
      · exact Lib.hid (Ch.refl _ _).drew
    clear hw1
    simp only [Exit.then]
    go_wp2_with fail
    refine fill_r2 (B := B) (r := r) H1.out.b2 H1.out.b3 (H1.out.bz 3) ?_
    intro w2 _ _ _ _ _ _ _ _ _ _ _ hw2
    have H2 : Hid (BioAt (w2.setCell ⟨B, 2, none⟩ (.int .i64 0)) B F S s i 0 0 lb) := by
      rcases hw2 with rfl | rfl | rfl
      · exact Lib.hid H1.out.reset
      · exact Lib.hid (H1.out.reset.drew)
      · exact Lib.hid (H1.out.drew.reset)
    have C2 : Hid (Ch (Tb B F S) w w2) := by
      rcases hw2 with rfl | rfl | rfl
      · exact Lib.hid (C1.out.setCell (p := ⟨B, 3, none⟩) (fun _ => .inl rfl) _)
      · exact Lib.hid (C1.out.setCell (p := ⟨B, 3, none⟩) (fun _ => .inl rfl) _).drew
      · exact Lib.hid (C1.out.drew.setCell (p := ⟨B, 3, none⟩) (fun _ => .inl rfl) _)
    have e2 : w2.cell? ⟨B, 2, none⟩ = some (.int .i64 r) := by
      rcases hw2 with rfl | rfl | rfl
      · exact co H1.out.b2 (addr_ne (by decide))
      · exact co H1.out.b2 (addr_ne (by decide))
      · exact co H1.out.b2 (addr_ne (by decide))
    have x2 : w2.frozen? ⟨B, 2, none⟩ = false := by
      rcases hw2 with rfl | rfl | rfl
      · rw [World.frozen?_setCell]; exact H1.out.bz 2
      · show (World.setCell _ _ _).frozen? _ = _; rw [World.frozen?_setCell]; exact H1.out.bz 2
      · rw [World.frozen?_setCell]; exact H1.out.bz 2
    clear hw2
    have e0 := H2.out.b0
    have e3 := H2.out.b3
    simp only [Exit.then]
    go_wp2_with fail
    go_quiet (fail)
    go_wp2_with fail
    refine loop_some (v := v) (Lib.hid (H2.out.moved ((Ch.refl _ _).drewN _))) hs4 hi ?_
    rintro a' w' hd ⟨h1, h2⟩
    simp (config := { zetaDelta := true }) only [Exit.jump, Exit.inBlock, Exit.then]
    refine bodyPost_ret (results_none rfl _ _ _) hd ?_
    have C3 := ((C2.out.setCell (p := ⟨B, 2, none⟩) (fun _ => .inl rfl) (.int .i64 0)).drewN _).trans h2
    exact ⟨rfl, h1, C3⟩

set_option maxRecDepth 100000 in
set_option maxHeartbeats 4000000 in
theorem fill_eof {w : World} {B F S : Nat} {s : ByteArray} {r : Nat} {lb : Int} {X : Addr} (H : Hid (BioAt w B F S s s.size r r lb)) (hr : r ≤ s.size) (hs4 : s.size < 4096) (he : w.cell? ⟨2, 0, none⟩ = some (eofv X)) (n2 : ¬ 2 = B) :
    Calls Tryz.prog 88 #[ptr B] w fun e w' => e = .returned (.tuple #[]) ∧ ∃ w2, BioAt w2 B F S s s.size 0 0 lb ∧ Ch (Tb B F S) w w2 ∧ w' = w2.setCell ⟨B, 4, none⟩ (eofv X) := by
  have b0 := H.out.b0
  have b2 := H.out.b2
  have b3 := H.out.b3
  have z2 := H.out.bz 2
  have z3 := H.out.bz 3
  by_cases h0 : r = 0
  · subst h0
    have g0 : ¬ ((0 : Nat) : Int) > 0 := by simp
    go_enter Tryz.func88, Tryz.ntmps88
    go_wp2_with fail
    go_quiet (fail)
    go_wp2_with fail
    refine loop_eof (X := X) (Lib.hid (H.out.moved ((Ch.refl _ _).drewN _))) hs4 he ?_
    rintro a' w' hd ⟨w2, h1, h2, h3⟩
    simp (config := { zetaDelta := true }) only [Exit.jump, Exit.inBlock, Exit.then]
    refine bodyPost_ret (results_none rfl _ _ _) hd ?_
    exact ⟨rfl, w2, h1, ((Ch.refl _ _).drewN _).trans h2, h3⟩
  · have g0 : (0 : Int) < (r : Int) := by omega
    have hi4 : r < 4096 := by omega
    go_enter Tryz.func88, Tryz.ntmps88
    go_wp2_with fail
    refine fill_r1 (F := F) b0 b2 b3 hi4 ?_
    intro w1 _ _ _ _ _ _ _ _ _ _ _ _ _ _ _ _ _ _ hw1
    have H1 : Hid (BioAt w1 B F S s s.size r r lb) := by
      rcases hw1 with rfl | rfl
      · exact H
      · exact Lib.hid H.out.drew
    have C1 : Hid (Ch (Tb B F S) w w1) := by
      rcases hw1 with rfl | rfl
      · exact Lib.hid (Ch.refl _ _)
      · exact Lib.hid (Ch.refl _ _).drew
    have HE1 : w1.cell? ⟨2, 0, none⟩ = some (eofv X) := by rcases hw1 with rfl | rfl <;> exact he
    clear hw1
    simp only [Exit.then]
    go_wp2_with fail
    refine fill_r2 (B := B) (r := r) H1.out.b2 H1.out.b3 (H1.out.bz 3) ?_
    intro w2 _ _ _ _ _ _ _ _ _ _ _ hw2
    have H2 : Hid (BioAt (w2.setCell ⟨B, 2, none⟩ (.int .i64 0)) B F S s s.size 0 0 lb) := by
      rcases hw2 with rfl | rfl | rfl
      · exact Lib.hid H1.out.reset
      · exact Lib.hid (H1.out.reset.drew)
      · exact Lib.hid (H1.out.drew.reset)
    have C2 : Hid (Ch (Tb B F S) w w2) := by
      rcases hw2 with rfl | rfl | rfl
      · exact Lib.hid (C1.out.setCell (p := ⟨B, 3, none⟩) (fun _ => .inl rfl) _)
      · exact Lib.hid (C1.out.setCell (p := ⟨B, 3, none⟩) (fun _ => .inl rfl) _).drew
      · exact Lib.hid (C1.out.drew.setCell (p := ⟨B, 3, none⟩) (fun _ => .inl rfl) _)
    have e2 : w2.cell? ⟨B, 2, none⟩ = some (.int .i64 r) := by
      rcases hw2 with rfl | rfl | rfl
      · exact co H1.out.b2 (addr_ne (by decide))
      · exact co H1.out.b2 (addr_ne (by decide))
      · exact co H1.out.b2 (addr_ne (by decide))
    have x2 : w2.frozen? ⟨B, 2, none⟩ = false := by
      rcases hw2 with rfl | rfl | rfl
      · rw [World.frozen?_setCell]; exact H1.out.bz 2
      · show (World.setCell _ _ _).frozen? _ = _; rw [World.frozen?_setCell]; exact H1.out.bz 2
      · rw [World.frozen?_setCell]; exact H1.out.bz 2
    have n2' : ∀ j, ¬ (⟨B, j, none⟩ : Addr) = ⟨2, 0, none⟩ := fun j e => n2 (congrArg Addr.block e).symm
    have HE2 : (w2.setCell ⟨B, 2, none⟩ (.int .i64 0)).cell? ⟨2, 0, none⟩ = some (eofv X) := by
      refine co ?_ (n2' 2)
      rcases hw2 with rfl | rfl | rfl <;> exact co HE1 (n2' 3)
    clear hw2
    have e0 := H2.out.b0
    have e3 := H2.out.b3
    simp only [Exit.then]
    go_wp2_with fail
    go_quiet (fail)
    go_wp2_with fail
    refine loop_eof (X := X) (Lib.hid (H2.out.moved ((Ch.refl _ _).drewN _))) hs4 HE2 ?_
    rintro a' w' hd ⟨w5, h1, h2, h3⟩
    simp (config := { zetaDelta := true }) only [Exit.jump, Exit.inBlock, Exit.then]
    refine bodyPost_ret (results_none rfl _ _ _) hd ?_
    have C3 := ((C2.out.setCell (p := ⟨B, 2, none⟩) (fun _ => .inl rfl) (.int .i64 0)).drewN _).trans h2
    exact ⟨rfl, w5, h1, C3, h3⟩

end Go.Proofs.YtbgjjbffpckimaaGreatDoor

namespace Go.Proofs.YtbgjjbffpckimaaGreatDoor
set_option linter.all false
open Go.RowKit

set_option maxRecDepth 100000 in
set_option maxHeartbeats 4000000 in
theorem readByte_some {w : World} {B F S : Nat} {s : ByteArray} {i r u : Nat} {lb : Int} (H : Hid (BioAt w B F S s i r u lb)) (hr : r ≤ i) (hs4 : s.size < 4096) (hi : i < s.size) :
    Calls Tryz.prog 72 #[ptr B] w fun e w' => e = .returned (.tuple #[.int .u8 (s[i].toNat : Int), .nilIface]) ∧ Ch (Tb B F S) w w' ∧ ∃ r' u', BioAt w' B F S s (i + 1) r' u' (s[i].toNat : Int) ∧ 0 < r' ∧ r' ≤ i + 1 := by
  obtain ⟨v6, b6⟩ := H.out.b6
  have z6 := H.out.bz 6
  go_enter Tryz.func72, Tryz.ntmps72
  go_wp2_with fail
  go_loopg [] 1 (fun k wr => ∃ r u, BioAt wr B F S s i r u lb ∧ r ≤ i ∧ Ch (Tb B F S) w wr ∧ (k = 0 → r < u))
  case atStart => exact ⟨r, u, H.out.setB6 (-1), hr, (Ch.refl _ _).setCell (p := ⟨B, 6, none⟩) (fun _ => .inl rfl) _, by simp⟩
  case round =>
    obtain ⟨r2, u2, h2, hr2, hc2, hk⟩ := hrel
    have H2 := Lib.hid h2
    have C2 := Lib.hid hc2
    clear h2 hc2 H hr b6 z6
    have c0 := H2.out.b0
    have c2 := H2.out.b2
    have c3 := H2.out.b3
    have c4 := H2.out.b4
    have c5 := H2.out.b5
    have y2 := H2.out.bz 2
    have y5 := H2.out.bz 5
    have hru := H2.out.ru
    have hu4 := H2.out.u4
    by_cases hlt : r2 < u2
    · have g1 : ¬ (r2 : Int) = (u2 : Int) := by omega
      have g1b : ((r2 : Int) == (u2 : Int)) = false := by simp; omega
      have g2 : (r2 : Int) < 4096 := by omega
      have g3 : (0 : Int) ≤ (r2 : Int) := by omega
      have cf := H2.out.fv r2 (Nat.le_refl _) hlt (by omega)
      simp only [Nat.sub_self, Nat.add_zero] at cf
      have hw : IntKind.i64.wrap ((r2 : Int) + 1) = ((r2 + 1 : Nat) : Int) := by rw [IntKind.wrap_i64]; omega
      have hw2 : IntKind.i64.wrap ((s[i].toNat : Nat) : Int) = ((s[i].toNat : Nat) : Int) := by rw [IntKind.wrap_i64]; have := (s[i]).toNat_lt; omega
      go_wp2_with fail
      go_quiet (fail)
      go_wp2_with fail
      go_quiet (fail)
      go_wp2_with fail
      refine bodyPost_ret (results_tmp2 rfl _ _ _) rfl ?_
      refine ⟨rfl, ((C2.out.drewN _).setCell (p := ⟨B, 2, none⟩) (fun _ => .inl rfl) _).setCell (p := ⟨B, 5, none⟩) (fun _ => .inl rfl) _, r2 + 1, u2, ((H2.out.moved ((Ch.refl _ _).drewN _)).fwd hlt).setB5 _, by omega, by omega⟩
    · have e : u2 = r2 := by omega
      subst e
      have g1b : ((u2 : Int) == (u2 : Int)) = true := by simp
      have hk0 : 0 < gk := by omega
      go_wp2_with fail
      go_quiet (fail)
      go_wp2_with fail
      refine (fill_some (i := i) (r := u2) (v := .nilIface) (Lib.hid (H2.out.moved ((Ch.refl _ _).drewN _))) hr2 hs4 hi).mono ?_
      rintro e w' ⟨rfl, h3, hc3⟩
      simp only []
      go_wp2_with fail
      go_roundg 0
      case rel => exact ⟨0, _, h3, Nat.zero_le _, (C2.out.drewN _).trans hc3, fun _ => by omega⟩
      case measure => omega

set_option maxRecDepth 100000 in
set_option maxHeartbeats 4000000 in
theorem readByte_eof {w : World} {B F S : Nat} {X : Addr} {s : ByteArray} {r u : Nat} {lb : Int} (H : Hid (BioAt w B F S s s.size r u lb)) (hr : r ≤ s.size) (hs4 : s.size < 4096) (he : w.cell? ⟨2, 0, none⟩ = some (eofv X)) (n2 : ¬ Tb B F S 2) :
    Calls Tryz.prog 72 #[ptr B] w fun e w' => e = .returned (.tuple #[.int .u8 0, eofv X]) ∧ Ch (Tb B F S) w w' ∧ BioAt w' B F S s s.size 0 0 lb := by
  obtain ⟨v6, b6⟩ := H.out.b6
  have z6 := H.out.bz 6
  have hu : u = r := by have := H.out.isz; have := H.out.ru; omega
  subst hu
  go_enter Tryz.func72, Tryz.ntmps72
  go_wp2_with fail
  go_loopg [] 1 (fun k wr => (k = 1 ∧ BioAt wr B F S s s.size u u lb ∧ Ch (Tb B F S) w wr) ∨ (k = 0 ∧ ∃ w2, BioAt w2 B F S s s.size 0 0 lb ∧ Ch (Tb B F S) w w2 ∧ wr = w2.setCell ⟨B, 4, none⟩ (eofv X)))
  case atStart => exact .inl ⟨rfl, H.out.setB6 (-1), (Ch.refl _ _).setCell (p := ⟨B, 6, none⟩) (fun _ => .inl rfl) _⟩
  case round =>
    rcases hrel with ⟨rfl, h2, hc2⟩ | ⟨rfl, w2, h2, hc2, rfl⟩
    · have H2 := Lib.hid h2
      have C2 := Lib.hid hc2
      have he2 := hc2.cell_some he n2
      clear h2 hc2 H b6 z6 he
      have c2 := H2.out.b2
      have c3 := H2.out.b3
      have c4 := H2.out.b4
      have g1b : ((u : Int) == (u : Int)) = true := by simp
      go_wp2_with fail
      go_quiet (fail)
      go_wp2_with fail
      refine (fill_eof (r := u) (X := X) (Lib.hid (H2.out.moved ((Ch.refl _ _).drewN _))) hr hs4 he2 (fun e => n2 (.inl e))).mono ?_
      rintro e w' ⟨rfl, w3, h3, hc3, rfl⟩
      simp only []
      go_wp2_with fail
      go_roundg 0
      case rel => exact .inr ⟨rfl, w3, h3, (C2.out.drewN _).trans hc3, rfl⟩
      case measure => omega
    · have H2 := Lib.hid h2
      have C2 := Lib.hid hc2
      clear h2 hc2 H b6 z6 he
      have c2 := co (x := eofv X) H2.out.b2 (a := ⟨B, 4, none⟩) (addr_ne (by decide))
      have c3 := co (x := eofv X) H2.out.b3 (a := ⟨B, 4, none⟩) (addr_ne (by decide))
      have c4 := cs (x := eofv X) H2.out.b4
      have g1b : (((0 : Nat) : Int) == ((0 : Nat) : Int)) = true := rfl
      go_wp2_with fail
      go_quiet (fail)
      go_wp2_with fail
      refine (readErr_calls (B := B) (v := eofv X) (by simpa using c4) (by simp [World.frozen?_setCell]; exact H2.out.bz 4) rfl).mono ?_
      rintro e w' ⟨rfl, rfl⟩
      simp only []
      go_wp2_with fail
      refine bodyPost_ret (results_tmp2 rfl _ _ _) rfl ?_
      exact ⟨rfl, ((C2.out.setCell (p := ⟨B, 4, none⟩) (fun _ => .inl rfl) _).drewN _).setCell (p := ⟨B, 4, none⟩) (fun _ => .inl rfl) _, (H2.out.moved ((Ch.refl _ _).drewN _)).err _⟩

end Go.Proofs.YtbgjjbffpckimaaGreatDoor

namespace Go.Proofs.YtbgjjbffpckimaaGreatDoor
set_option linter.all false
open Go.RowKit

theorem eq_nil_eof (X : Addr) (w : World) : (binOp .eql 56 .nilIface (eofv X)).run Tryz.prog w = .ok (.bool false) w :=
  run_eql_iface_nil_left w 155 (.pointer (some X)) Tryz.underlying56
theorem cmp128 : (Tryz.prog.info? 155).map (·.comparable) = some true := by kernel_rfl
theorem inf130 : (Tryz.prog.info? 157).isSome = true := by kernel_rfl
theorem eq_eof_eof (X : Addr) (w : World) : (binOp .eql 56 (eofv X) (eofv X)).run Tryz.prog w = .ok (.bool true) w := by
  obtain ⟨i, hi, hc⟩ := Option.map_eq_some_iff.1 cmp128
  obtain ⟨j, hj⟩ := Option.isSome_iff_exists.1 inf130
  exact run_eql_iface_ptr_same w X Tryz.underlying56 Tryz.underlying155 hi hc hj

def Tz (Z B F S : Nat) (b : Nat) : Prop := b = Z ∨ Tb B F S b

/-- A scanner: its block Z, its reader, the text s read up to i. -/
structure Sc (w : World) (Z B F S : Nat) (X : Addr) (s : ByteArray) (i : Nat) : Prop where
  z0 : ∃ v : ByteArray, w.cell? ⟨Z, 0, none⟩ = some (.string v)
  z1 : ∃ v : Int, w.cell? ⟨Z, 1, none⟩ = some (.int .i64 v)
  z2 : ∃ v : Int, w.cell? ⟨Z, 2, none⟩ = some (.int .i64 v)
  z3 : w.cell? ⟨Z, 3, none⟩ = some (ptr B)
  zz : ∀ j, w.frozen? ⟨Z, j, none⟩ = false
  nZ : ¬ Tb B F S Z
  eof : w.cell? ⟨2, 0, none⟩ = some (eofv X)
  n2 : ¬ Tz Z B F S 2
  s4 : s.size < 4096
  bio : ∃ r u lb, BioAt w B F S s i r u lb ∧ r ≤ i

section
variable {w w' : World} {Z B F S : Nat} {X : Addr} {s : ByteArray} {i j : Nat}
theorem Sc.keep {T : Nat → Prop} (h : Sc w Z B F S X s i) (hc : Ch T w w') (hT : ∀ b, Tz Z B F S b → ¬ T b) (h2 : ¬ T 2) : Sc w' Z B F S X s i := by
  obtain ⟨v0, h0⟩ := h.z0
  obtain ⟨v1, h1⟩ := h.z1
  obtain ⟨v2, h2'⟩ := h.z2
  obtain ⟨r, u, lb, hb, hr⟩ := h.bio
  have lZ : Z < w.heap.size := World.block_lt_of_cell? w _ h.z3
  have tZ := hT Z (.inl rfl)
  exact ⟨⟨v0, hc.cell_some h0 tZ⟩, ⟨v1, hc.cell_some h1 tZ⟩, ⟨v2, hc.cell_some h2' tZ⟩, hc.cell_some h.z3 tZ, fun j => (hc.frozen (p := ⟨Z, j, none⟩) lZ tZ).trans (h.zz j), h.nZ, hc.cell_some h.eof h2, h.n2, h.s4,
    ⟨r, u, lb, hb.keep hc (hT B (.inr (.inl rfl))) (hT F (.inr (.inr (.inl rfl)))) (hT S (.inr (.inr (.inr rfl)))), hr⟩⟩
theorem Sc.moved (h : Sc w Z B F S X s i) (hc : Ch (fun _ => False) w w') : Sc w' Z B F S X s i := h.keep hc (fun _ _ => id) id
/-- The reader has gone on. -/
theorem Sc.on (h : Sc w Z B F S X s i) (hc : Ch (Tb B F S) w w') (hb : ∃ r u lb, BioAt w' B F S s j r u lb ∧ r ≤ j) : Sc w' Z B F S X s j := by
  obtain ⟨v0, h0⟩ := h.z0
  obtain ⟨v1, h1⟩ := h.z1
  obtain ⟨v2, h2'⟩ := h.z2
  have lZ : Z < w.heap.size := World.block_lt_of_cell? w _ h.z3
  exact ⟨⟨v0, hc.cell_some h0 h.nZ⟩, ⟨v1, hc.cell_some h1 h.nZ⟩, ⟨v2, hc.cell_some h2' h.nZ⟩, hc.cell_some h.z3 h.nZ, fun j => (hc.frozen (p := ⟨Z, j, none⟩) lZ h.nZ).trans (h.zz j), h.nZ, hc.cell_some h.eof (fun e => h.n2 (.inr e)), h.n2, h.s4, hb⟩
/-- Line or column written. -/
theorem Sc.pos (h : Sc w Z B F S X s i) (k : Nat) (hk : k = 1 ∨ k = 2) (v : Int) : Sc (w.setCell ⟨Z, k, none⟩ (.int .i64 v)) Z B F S X s i := by
  obtain ⟨v0, h0⟩ := h.z0
  obtain ⟨v1, h1⟩ := h.z1
  obtain ⟨v2, h2'⟩ := h.z2
  obtain ⟨r, u, lb, hb, hr⟩ := h.bio
  have nZ := h.nZ
  have hc : Ch (fun b => b = Z) w (w.setCell ⟨Z, k, none⟩ (.int .i64 v)) := Ch.setCell (T := fun b => b = Z) (Ch.refl _ _) (p := ⟨Z, k, none⟩) (fun _ => rfl) _
  have d : ∀ {j k : Nat}, ¬ j = k → ¬ (⟨Z, j, none⟩ : Addr) = ⟨Z, k, none⟩ := fun e => addr_ne e
  refine ⟨⟨v0, co h0 (d (by omega))⟩, ?_, ?_, co h.z3 (d (by omega)), fun j => by rw [World.frozen?_setCell]; exact h.zz j, h.nZ, hc.cell_some h.eof (fun e => h.n2 (.inl e)), h.n2, h.s4,
    ⟨r, u, lb, hb.keep hc (fun e => nZ (.inl e.symm)) (fun e => nZ (.inr (.inl e.symm))) (fun e => nZ (.inr (.inr e.symm))), hr⟩⟩
  · rcases hk with rfl | rfl
    · exact ⟨v, cs h1⟩
    · exact ⟨v1, co h1 (d (by decide))⟩
  · rcases hk with rfl | rfl
    · exact ⟨v2, co h2' (d (by decide))⟩
    · exact ⟨v, cs h2'⟩
end

set_option maxRecDepth 100000 in
set_option maxHeartbeats 4000000 in
theorem readNext_some {w : World} {Z B F S : Nat} {X : Addr} {s : ByteArray} {i : Nat} (H : Hid (Sc w Z B F S X s i)) (hi : i < s.size) :
    Calls Tryz.prog 59 #[ptr Z] w fun e w' => e = .returned (.int .i64 (s[i].toNat : Int)) ∧ Ch (Tb B F S) w w' ∧ ∃ r' u', BioAt w' B F S s (i + 1) r' u' (s[i].toNat : Int) ∧ 0 < r' ∧ r' ≤ i + 1 := by
  obtain ⟨r, u, lb, hb, hr⟩ := H.out.bio
  have HB := Lib.hid hb
  clear hb
  have z3 := H.out.z3
  have he := H.out.eof
  have n2 := H.out.n2
  have hw : IntKind.i64.wrap ((s[i].toNat : Nat) : Int) = ((s[i].toNat : Nat) : Int) := by rw [IntKind.wrap_i64]; have := (s[i]).toNat_lt; omega
  go_enter Tryz.func59, Tryz.ntmps59
  go_wp2_with fail
  refine (readByte_some HB hr H.out.s4 hi).mono ?_
  rintro e w' ⟨rfl, hc, hbb⟩
  have he2 := hc.cell_some he (fun e => n2 (.inr e))
  have qe := eq_nil_eof X w'
  have HC := Lib.hid hc
  have HBB := Lib.hid hbb
  clear hc hbb
  simp only []
  go_wp2_with fail
  go_ret
  exact ⟨rfl, HC.out, HBB.out⟩

set_option maxRecDepth 100000 in
set_option maxHeartbeats 4000000 in
theorem readNext_eof {w : World} {Z B F S : Nat} {X : Addr} {s : ByteArray} (H : Hid (Sc w Z B F S X s s.size)) :
    Calls Tryz.prog 59 #[ptr Z] w fun e w' => e = .returned (.int .i64 (-1)) ∧ Ch (Tb B F S) w w' ∧ Sc w' Z B F S X s s.size := by
  obtain ⟨r, u, lb, hb, hr⟩ := H.out.bio
  have HB := Lib.hid hb
  clear hb
  have z3 := H.out.z3
  have he := H.out.eof
  have n2 := H.out.n2
  go_enter Tryz.func59, Tryz.ntmps59
  go_wp2_with fail
  refine (readByte_eof HB hr H.out.s4 he (fun e => n2 (.inr e))).mono ?_
  rintro e w' ⟨rfl, hc, hbb⟩
  have he2 := hc.cell_some he (fun e => n2 (.inr e))
  have qe := eq_eof_eof X w'
  have HC := Lib.hid hc
  have HBB := Lib.hid hbb
  clear hc hbb
  simp only []
  go_wp2_with fail
  go_ret
  exact ⟨rfl, HC.out, H.out.on HC.out ⟨_, _, _, HBB.out, Nat.zero_le _⟩⟩

set_option maxRecDepth 100000 in
set_option maxHeartbeats 4000000 in
theorem peek_some {w : World} {Z B F S : Nat} {X : Addr} {s : ByteArray} {i : Nat} (H : Hid (Sc w Z B F S X s i)) (hi : i < s.size) :
    Calls Tryz.prog 34 #[ptr Z] w fun e w' => e = .returned (.int .i64 (s[i].toNat : Int)) ∧ Ch (Tb B F S) w w' ∧ Sc w' Z B F S X s i := by
  have z3 := H.out.z3
  have nZ := H.out.nZ
  have g1 : ((s[i].toNat : Int) != -1) = true := by simp <;> omega
  go_enter Tryz.func34, Tryz.ntmps34
  go_wp2_with fail
  refine (readNext_some H hi).mono ?_
  rintro e w' ⟨rfl, hc, r', u', hb, h0, h1⟩
  have e3 := hc.cell_some z3 nZ
  have HC := Lib.hid hc
  have HB := Lib.hid hb
  clear hc hb
  simp only []
  go_wp2_with fail
  refine (unread_calls HB (fun _ => rfl) h0).mono ?_
  rintro e w2 ⟨rfl, hb2, hc2⟩
  have HC2 := Lib.hid hc2
  have HB2 := Lib.hid hb2
  clear hc2 hb2
  simp only []
  go_wp2_with fail
  go_ret
  exact ⟨rfl, HC.out.trans HC2.out, H.out.on (HC.out.trans HC2.out) ⟨_, _, _, HB2.out, by omega⟩⟩

set_option maxRecDepth 100000 in
set_option maxHeartbeats 4000000 in
theorem peek_eof {w : World} {Z B F S : Nat} {X : Addr} {s : ByteArray} (H : Hid (Sc w Z B F S X s s.size)) :
    Calls Tryz.prog 34 #[ptr Z] w fun e w' => e = .returned (.int .i64 (-1)) ∧ Ch (Tb B F S) w w' ∧ Sc w' Z B F S X s s.size := by
  go_enter Tryz.func34, Tryz.ntmps34
  go_wp2_with fail
  refine (readNext_eof H).mono ?_
  rintro e w' ⟨rfl, hc, hs⟩
  have HC := Lib.hid hc
  have HS := Lib.hid hs
  clear hc hs
  simp only []
  go_wp2_with fail
  go_ret
  exact ⟨rfl, HC.out, HS.out⟩

set_option maxRecDepth 100000 in
set_option maxHeartbeats 4000000 in
theorem next_some {w : World} {Z B F S : Nat} {X : Addr} {s : ByteArray} {i : Nat} (H : Hid (Sc w Z B F S X s i)) (hi : i < s.size) (h10 : s[i].toNat ≠ 10) (h13 : s[i].toNat ≠ 13) :
    Calls Tryz.prog 36 #[ptr Z] w fun e w' => e = .returned (.int .i64 (s[i].toNat : Int)) ∧ Ch (Tz Z B F S) w w' ∧ Sc w' Z B F S X s (i + 1) := by
  have g1 : ((s[i].toNat : Int) == -1) = false := by simp <;> omega
  have g2 : ((s[i].toNat : Int) == 10) = false := by simp <;> omega
  have g3 : ((s[i].toNat : Int) == 13) = false := by simp <;> omega
  go_enter Tryz.func36, Tryz.ntmps36
  go_wp2_with fail
  refine (readNext_some H hi).mono ?_
  rintro e w' ⟨rfl, hc, r', u', hb, h0, h1⟩
  have hs := H.out.on hc ⟨r', u', _, hb, h1⟩
  obtain ⟨v2, e2⟩ := hs.z2
  have x2 := hs.zz 2
  have HC := Lib.hid hc
  have HS := Lib.hid hs
  clear hc hb hs
  simp only []
  go_wp2_with fail
  go_ret
  exact ⟨rfl, (HC.out.mono fun _ _ h => .inr h).setCell (p := ⟨Z, 2, none⟩) (fun _ => .inl rfl) _, HS.out.pos 2 (.inr rfl) _⟩

set_option maxRecDepth 100000 in
set_option maxHeartbeats 4000000 in
theorem next_eof {w : World} {Z B F S : Nat} {X : Addr} {s : ByteArray} (H : Hid (Sc w Z B F S X s s.size)) :
    Calls Tryz.prog 36 #[ptr Z] w fun e w' => e = .returned (.int .i64 (-1)) ∧ Ch (Tz Z B F S) w w' ∧ Sc w' Z B F S X s s.size := by
  go_enter Tryz.func36, Tryz.ntmps36
  go_wp2_with fail
  refine (readNext_eof H).mono ?_
  rintro e w' ⟨rfl, hc, hs⟩
  obtain ⟨v1, e1⟩ := hs.z1
  obtain ⟨v2, e2⟩ := hs.z2
  have x1 := hs.zz 1
  have x2 := hs.zz 2
  have HC := Lib.hid hc
  have HS := Lib.hid hs
  clear hc hs
  simp only []
  go_wp2_with fail
  go_ret
  exact ⟨rfl, ((HC.out.mono fun _ _ h => .inr h).setCell (p := ⟨Z, 1, none⟩) (fun _ => .inl rfl) _).setCell (p := ⟨Z, 2, none⟩) (fun _ => .inl rfl) _, (HS.out.pos 1 (.inl rfl) _).pos 2 (.inr rfl) _⟩

end Go.Proofs.YtbgjjbffpckimaaGreatDoor
