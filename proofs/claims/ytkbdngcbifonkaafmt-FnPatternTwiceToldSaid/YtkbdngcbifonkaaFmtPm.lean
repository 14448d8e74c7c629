/-
  WHAT THE PATTERN MATCHER COMPUTES, IN PLAIN LEAN: classes, patterns, their code, and the machine that runs it. No Go, no memory.
-/
namespace Go.Proofs.YtkbdngcbifonkaaFmt.Pm
set_option linter.all false

/-- A class without parts: one byte, or what stands behind a %. -/
inductive Atom where
  | chr (n : Int)
  | single (n : Int)
  deriving DecidableEq, Repr

/-- A part of a set. -/
inductive Elem where
  | atom (a : Atom)
  | range (a b : Atom)
  deriving DecidableEq, Repr

/-- A class. -/
inductive Cls where
  | dot
  | atom (a : Atom)
  | set (neg : Bool) (l : List Elem)
  deriving DecidableEq, Repr

/-- What a letter behind a % takes in, the capital letters left aside. -/
def base (n ch : Int) : Option Bool :=
  if n = 97 ∨ n = 65 then some (decide (65 ≤ ch ∧ ch ≤ 90) || decide (97 ≤ ch ∧ ch ≤ 122))
  else if n = 99 ∨ n = 67 then some (decide (0 ≤ ch ∧ ch ≤ 31) || decide (ch = 127))
  else if n = 100 ∨ n = 68 then some (decide (48 ≤ ch ∧ ch ≤ 57))
  else if n = 108 ∨ n = 76 then some (decide (97 ≤ ch ∧ ch ≤ 122))
  else if n = 112 ∨ n = 80 then some (decide (33 ≤ ch ∧ ch ≤ 47) || decide (58 ≤ ch ∧ ch ≤ 64) || decide (91 ≤ ch ∧ ch ≤ 96) || decide (123 ≤ ch ∧ ch ≤ 126))
  else if n = 115 ∨ n = 83 then some (decide (ch = 32 ∨ ch = 12 ∨ ch = 10 ∨ ch = 13 ∨ ch = 9 ∨ ch = 11))
  else if n = 117 ∨ n = 85 then some (decide (65 ≤ ch ∧ ch ≤ 90))
  else if n = 119 ∨ n = 87 then some (decide (48 ≤ ch ∧ ch ≤ 57) || decide (65 ≤ ch ∧ ch ≤ 90) || decide (97 ≤ ch ∧ ch ≤ 122))
  else if n = 120 ∨ n = 88 then some (decide (48 ≤ ch ∧ ch ≤ 57) || decide (97 ≤ ch ∧ ch ≤ 102) || decide (65 ≤ ch ∧ ch ≤ 70))
  else if n = 122 ∨ n = 90 then some (decide (ch = 0))
  else none

def single (n ch : Int) : Bool :=
  match base n ch with
  | some r => if 65 ≤ n ∧ n ≤ 90 then !r else r
  | none => decide (ch = n)

def Atom.mat : Atom → Int → Bool
  | .chr n, ch => decide (n = ch)
  | .single n, ch => Pm.single n ch

def Elem.mat : Elem → Int → Bool
  | .atom a, ch => a.mat ch
  | .range (.chr b) (.chr e), ch => decide (b ≤ ch ∧ ch ≤ e)
  | .range _ _, _ => false

def Cls.mat : Cls → Int → Bool
  | .dot, _ => true
  | .atom a, ch => a.mat ch
  | .set neg l, ch => if l.any (·.mat ch) then !neg else neg

/-- A part of a pattern without captures in it. -/
inductive Part where
  | one (c : Cls)
  | rep (t : Int) (c : Cls)
  | num (n : Int)
  | brace (b e : Int)
  deriving DecidableEq, Repr

/-- A part of a pattern. -/
inductive Pat where
  | part (p : Part)
  | cap (l : List Part)
  deriving DecidableEq, Repr

inductive Ins where
  | chr (c : Cls)
  | done
  | jmp (a : Nat)
  | split (a b : Nat)
  | save (s : Nat)
  | brace (b e : Int)
  | num (n : Int)
  deriving DecidableEq, Repr

/-- The code of a part, which begins at a place. -/
def Part.code : Part → Nat → List Ins
  | .one c, _ => [.chr c]
  | .rep t c, i =>
    if t = 42 then [.split (i + 1) (i + 3), .chr c, .jmp i]
    else if t = 43 then [.chr c, .split i (i + 2)]
    else if t = 45 then [.split (i + 3) (i + 1), .chr c, .jmp i]
    else if t = 63 then [.split (i + 1) (i + 2), .chr c]
    else []
  | .num n, _ => [.num n]
  | .brace b e, _ => [.brace b e]

def partsCode : List Part → Nat → List Ins
  | [], _ => []
  | p :: l, i => p.code i ++ partsCode l (i + (p.code i).length)

/-- The code of a pattern's part at a place, with the number of the next capture. -/
def Pat.code : Pat → Nat → Nat → List Ins
  | .part p, i, _ => p.code i
  | .cap l, i, k => .save k :: (partsCode l (i + 1) ++ [.save (k + 1)])

def Pat.next : Pat → Nat → Nat
  | .part _, k => k
  | .cap _, k => k + 2

def patsCode : List Pat → Nat → Nat → List Ins
  | [], _, _ => []
  | p :: l, i, k => p.code i k ++ patsCode l (i + (p.code i k).length) (p.next k)

def code (l : List Pat) : List Ins := .save 0 :: (patsCode l 1 2 ++ [.save 1, .done])

/-- The captures, with one of them set: what stood there, and the new ones. -/
def pad (caps : List Nat) (s : Nat) : List Nat := caps ++ List.replicate (s + 1 - caps.length) 0

/-- What is balanced from behind an opening byte on: how many bytes, the closing one counted. -/
def bal (b e : Int) : List UInt8 → Nat → Option Nat
  | [], _ => none
  | c :: r, n =>
    let m := if (c.toNat : Int) = e then n - 1 else n
    if m = 0 then some 1
    else (bal b e r (if (c.toNat : Int) = b then m + 1 else m)).map (· + 1)

def vm (code : List Ins) (src : List UInt8) : Nat → Nat → Nat → List Nat → Option (Bool × Nat × List Nat)
  | 0, _, _, _ => none
  | f + 1, pc, sp, caps =>
    match code[pc]? with
    | none => none
    | some (.chr c) =>
      match src[sp]? with
      | none => some (false, sp, caps)
      | some b => if c.mat b.toNat then vm code src f (pc + 1) (sp + 1) caps else some (false, sp, caps)
    | some .done => some (true, sp, caps)
    | some (.jmp a) => vm code src f a sp caps
    | some (.split a b) =>
      match vm code src f a sp caps with
      | none => none
      | some (true, n, c) => some (true, n, c)
      | some (false, _, c) => vm code src f b sp c
    | some (.save s) =>
      match vm code src f (pc + 1) sp ((pad caps s).set s (2 * sp)) with
      | none => none
      | some (true, n, c) => some (true, n, c)
      | some (false, _, c) => some (false, sp, c.set s ((pad caps s).getD s 0))
    | some (.brace b e) =>
      match src[sp]? with
      | none => some (false, sp, caps)
      | some c =>
        if (c.toNat : Int) = b then
          match bal b e (src.drop (sp + 1)) 1 with
          | none => some (false, src.length, caps)
          | some n => vm code src f (pc + 1) (sp + 1 + n) caps
        else some (false, sp, caps)
    | some (.num n) =>
      let i := 2 * n.toNat
      if caps.length ≤ i + 1 then none
      else
        let a := caps.getD i 0 / 2
        let z := caps.getD (i + 1) 0 / 2
        if a ≤ z ∧ z ≤ src.length then
          if (src.drop sp).take (z - a) = (src.drop a).take (z - a) then vm code src f (pc + 1) (sp + (z - a)) caps
          else some (false, sp, caps)
        else none

/-- The first match from a place on: the captures. -/
def find (code : List Ins) (src : List UInt8) (head : Bool) (fuel : Nat) : Nat → Nat → Option (Option (List Nat))
  | 0, _ => some none
  | d + 1, sp =>
    match vm code src fuel 0 sp [] with
    | none => none
    | some (true, _, c) => some (some c)
    | some (false, _, _) => if head then some none else find code src head fuel d (sp + 1)

end Go.Proofs.YtkbdngcbifonkaaFmt.Pm
