/-
  PLAIN: the tokens of a text, as the manual tells them.
-/
namespace Go.Proofs.YtbgjjbffpckimaaDoor
set_option linter.all false

abbrev Bs := List UInt8

/-- A decimal digit; a letter or an underscore; what a name goes on with; a blank. -/
def isDec (c : UInt8) : Bool := decide (48 ≤ c.toNat) && decide (c.toNat ≤ 57)
def isLet (c : UInt8) : Bool := (decide (97 ≤ c.toNat) && decide (c.toNat ≤ 122)) || (decide (65 ≤ c.toNat) && decide (c.toNat ≤ 90)) || decide (c.toNat = 95)
def isIdc (c : UInt8) : Bool := isLet c || isDec c
def isSp (c : UInt8) : Bool := c == 32 || c == 9 || c == 10
def isHex (c : UInt8) : Bool := isDec c || (decide (97 ≤ c.toNat) && decide (c.toNat ≤ 102)) || (decide (65 ≤ c.toNat) && decide (c.toNat ≤ 70))

/-- What a reader gives: a value and the rest, or what is told of the text (1: refused, 2: open). -/
inductive Rz (α : Type) where
  | ok (a : α) (r : Bs)
  | no (k : Nat)
def Rz.map {α β : Type} (f : α → β) : Rz α → Rz β
  | .ok a r => .ok (f a) r
  | .no k => .no k

/-- How many signs = are ahead. -/
def eqs (r : Bs) : Nat := (r.takeWhile (· == 61)).length
/-- The level of a long bracket of a sign. -/
def brk (s : UInt8) : Bs → Option Nat
  | [] => none
  | c :: t => if c = s ∧ (t.dropWhile (· == 61)).head? = some s then some (eqs t) else none
/-- A line break ahead is left out. -/
def cut10 : Bs → Bs
  | [] => []
  | c :: t => if c = 10 then t else c :: t
/-- The inside of a long bracket of level k. -/
def longB (k : Nat) : Bs → Rz Bs
  | [] => .no 1
  | c :: t =>
    if brk 93 (c :: t) = some k then .ok [] (t.drop (k + 1))
    else if k = 0 ∧ c = 91 ∧ t.head? = some 91 then .no 2
    else (longB k t).map (c :: ·)
/-- A comment, behind its two signs. -/
def comP (r : Bs) : Rz Unit :=
  match brk 91 r with
  | some k => (longB k (cut10 (r.drop (k + 2)))).map fun _ => ()
  | none => if r.take 2 = [91, 61] then .no 2 else .ok () (r.dropWhile (· != 10))

/-- Up to k digits. -/
def dig3 : Nat → Nat → Bs → Nat × Bs
  | 0, v, r => (v, r)
  | _ + 1, v, [] => (v, [])
  | k + 1, v, c :: t => if isDec c then dig3 k (10 * v + (c.toNat - 48)) t else (v, c :: t)
theorem dig3_len : ∀ (k v : Nat) (r : Bs), (dig3 k v r).2.length ≤ r.length
  | 0, _, _ => Nat.le_refl _
  | _ + 1, _, [] => Nat.le_refl _
  | k + 1, v, c :: t => by
    unfold dig3
    split
    · exact Nat.le_trans (dig3_len k _ t) (by simp)
    · exact Nat.le_refl _
theorem dig3_lt (v : Nat) (d : UInt8) (u : Bs) (h : isDec d = true) : (dig3 3 v (d :: u)).2.length ≤ u.length := by
  unfold dig3
  rw [if_pos h]
  exact dig3_len _ _ _
/-- An escape by a letter. -/
def esc (c : UInt8) : Option UInt8 :=
  if c = 97 then some 7 else if c = 98 then some 8 else if c = 102 then some 12 else if c = 110 then some 10 else if c = 10 then some 10
  else if c = 114 then some 13 else if c = 116 then some 9 else if c = 118 then some 11 else if c = 92 ∨ c = 34 ∨ c = 39 then some c else none
/-- The inside of a string in quotes. -/
def strB (q : UInt8) : Bs → Rz Bs
  | [] => .no 1
  | c :: t =>
    if c = 10 then .no 1
    else if c = q then .ok [] t
    else if c = 92 then
      match t with
      | [] => .no 1
      | d :: u =>
        if h : isDec d = true then
          if (dig3 3 0 (d :: u)).1 ≤ 255 then (strB q (dig3 3 0 (d :: u)).2).map (UInt8.ofNat (dig3 3 0 (d :: u)).1 :: ·) else .no 2
        else match esc d with
          | some b => (strB q u).map (b :: ·)
          | none => .no 2
    else (strB q t).map (c :: ·)
termination_by r => r.length
decreasing_by
  · have := dig3_lt 0 d u h
    simp only [List.length_cons]
    omega
  · simp only [List.length_cons]
    omega
  · simp only [List.length_cons]
    omega

/-- The number of decimal digits, as far as 15 of them. -/
def runv (m : Nat) (l : Bs) : Nat := l.foldl (fun m c => if m < 1000000000000000 then 10 * m + (c.toNat - 48) else m) m
def hexd (c : UInt8) : Nat := if isDec c then c.toNat - 48 else if 97 ≤ c.toNat then c.toNat - 97 + 10 else c.toNat - 65 + 10
def hexv (l : Bs) : Nat := l.foldl (fun m c => 16 * m + hexd c) 0
/-- A number without noughts at its end, and its exponent. -/
def strip (m : Nat) (e : Int) : Nat × Int := if h : m ≠ 0 ∧ m % 10 = 0 then strip (m / 10) (e + 1) else (m, e)
termination_by m
decreasing_by omega
def digs (n : Nat) : Bs := if h : n < 10 then [UInt8.ofNat (48 + n)] else digs (n / 10) ++ [UInt8.ofNat (48 + n % 10)]
termination_by n
decreasing_by omega
/-- The text of a number. -/
def numeral (m : Nat) (e : Int) : Option Bs :=
  if (strip m e).1 = 0 then some [48]
  else if 0 ≤ (strip m e).2 ∧ ((digs (strip m e).1).length : Int) + (strip m e).2 ≤ 15 then some (digs ((strip m e).1 * 10 ^ (strip m e).2.toNat))
  else if (strip m e).2 < -22 ∨ 22 < (strip m e).2 then none
  else if (strip m e).2 < 0 then some (digs (strip m e).1 ++ [101, 45] ++ digs (-(strip m e).2).toNat)
  else some (digs (strip m e).1 ++ [101] ++ digs (strip m e).2.toNat)

/-- The parts of a decimal numeral: digits; point and digits; mark, sign and digits of the exponent; the rest. -/
def ptA (r : Bs) : Bs := r.takeWhile isDec
def ptR1 (r : Bs) : Bs := r.dropWhile isDec
def hasDot (r : Bs) : Bool := (ptR1 r).head? == some 46
def ptB (r : Bs) : Bs := if hasDot r then ((ptR1 r).drop 1).takeWhile isDec else []
def ptR2 (r : Bs) : Bs := if hasDot r then ((ptR1 r).drop 1).dropWhile isDec else ptR1 r
def hasE (r : Bs) : Bool := (ptR2 r).head? == some 101 || (ptR2 r).head? == some 69
def hasS (r : Bs) : Bool := ((ptR2 r).drop 1).head? == some 45 || ((ptR2 r).drop 1).head? == some 43
def isNeg (r : Bs) : Bool := ((ptR2 r).drop 1).head? == some 45
def ptR4 (r : Bs) : Bs := if hasS r then (ptR2 r).drop 2 else (ptR2 r).drop 1
def ptP (r : Bs) : Bs := if hasE r then (ptR4 r).takeWhile isDec else []
def ptR5 (r : Bs) : Bs := if hasE r then (ptR4 r).dropWhile isDec else ptR2 r
def expo (r : Bs) : Int := (if isNeg r then -((runv 0 (ptP r) % 1000 : Nat) : Int) else ((runv 0 (ptP r) % 1000 : Nat) : Int)) - ((ptB r).length : Int)
/-- A decimal numeral is not open. -/
def decOk (r : Bs) : Prop := ¬ (2 ≤ (ptA r).length ∧ (ptA r).head? = some 48) ∧ (hasDot r = true → ptA r ≠ [] ∧ ptB r ≠ []) ∧ (hasE r = true → 1 ≤ (ptP r).length ∧ (ptP r).length ≤ 3) ∧ (ptA r).length + (ptB r).length ≤ 15
instance (r : Bs) : Decidable (decOk r) := by unfold decOk; infer_instance
def decP (r : Bs) : Rz Bs :=
  if decOk r then match numeral (runv (runv 0 (ptA r)) (ptB r)) (expo r) with
    | some x => .ok x (ptR5 r)
    | none => .no 2
  else .no 2
def hexP (r : Bs) : Rz Bs :=
  if 1 ≤ (r.takeWhile isHex).length ∧ (r.takeWhile isHex).length ≤ 12 then .ok ((numeral (hexv (r.takeWhile isHex)) 0).getD []) (r.dropWhile isHex) else .no 2
/-- What may not stand behind a numeral. -/
def numEnd (r : Bs) : Bool := match r with
  | [] => true
  | c :: _ => !(isDec c || isLet c || c == 46)
def numP (r : Bs) : Rz Bs :=
  match (if r.take 2 = [48, 120] then hexP (r.drop 2) else if r.take 2 = [48, 88] then .no 2 else decP r) with
  | .ok x r' => if numEnd r' then .ok x r' else .no 2
  | .no k => .no k

/-- The signs, longer ones first. -/
def sgns : List Bs := [[46, 46, 46], [46, 46], [61, 61], [126, 61], [60, 61], [62, 61], [43], [45], [42], [47], [37], [94], [35], [60], [62], [61], [40], [41], [123], [125], [91], [93], [59], [58], [44], [46]]
def signP (r : Bs) : Rz Bs :=
  if r.take 2 = [58, 58] ∨ r.take 2 = [91, 61] then .no 2
  else match sgns.find? (fun s => s.isPrefixOf r) with
    | some s => .ok s (r.drop s.length)
    | none => if r.head?.any (fun c => decide (126 < c.toNat)) then .no 2 else .no 1

/-- The keywords. -/
def kws : List Bs := [[97, 110, 100], [98, 114, 101, 97, 107], [100, 111], [101, 108, 115, 101], [101, 108, 115, 101, 105, 102], [101, 110, 100], [102, 97, 108, 115, 101], [102, 111, 114], [102, 117, 110, 99, 116, 105, 111, 110], [105, 102], [105, 110], [108, 111, 99, 97, 108], [110, 105, 108], [110, 111, 116], [111, 114], [114, 101, 112, 101, 97, 116], [114, 101, 116, 117, 114, 110], [116, 104, 101, 110], [116, 114, 117, 101], [117, 110, 116, 105, 108], [119, 104, 105, 108, 101]]
def gotoB : Bs := [103, 111, 116, 111]

/-- A token: its kind (1 name, 2 keyword, 3 sign, 4 number, 5 string), its text, and its text as it stands. -/
structure Tok where
  kind : Nat
  text : Bs
  raw : Bs

def nameP (r : Bs) : Rz Tok :=
  if r.takeWhile isIdc = gotoB then .no 2
  else .ok ⟨if r.takeWhile isIdc ∈ kws then 2 else 1, r.takeWhile isIdc, r.takeWhile isIdc⟩ (r.dropWhile isIdc)
def nextP : Bs → Rz Tok
  | [] => .no 2
  | c :: t =>
    if isLet c then nameP (c :: t)
    else if isDec c || (c == 46 && t.head?.any isDec) then
      match numP (c :: t) with
      | .ok x r' => .ok ⟨4, x, (c :: t).take ((c :: t).length - r'.length)⟩ r'
      | .no k => .no k
    else if c = 34 ∨ c = 39 then (strB c t).map fun x => ⟨5, x, x⟩
    else match brk 91 (c :: t) with
      | some k => (longB k (cut10 ((c :: t).drop (k + 2)))).map fun x => ⟨5, x, x⟩
      | none => (signP (c :: t)).map fun x => ⟨3, x, x⟩

/-- The tokens of a text, each with the text from its beginning on, and what is told of the text. -/
inductive Lx : Bs → List (Tok × Bs) → Nat → Prop
  | nil : Lx [] [] 0
  | ws {c : UInt8} {t : Bs} {ts : List (Tok × Bs)} {k : Nat} (hc : isSp c = true) (h : Lx t ts k) : Lx (c :: t) ts k
  | com {r r' : Bs} {ts : List (Tok × Bs)} {k : Nat} (hc : comP r = .ok () r') (h : Lx r' ts k) : Lx (45 :: 45 :: r) ts k
  | comNo {r : Bs} {k : Nat} (hc : comP r = .no k) : Lx (45 :: 45 :: r) [] k
  | tok {c : UInt8} {r r' : Bs} {t : Tok} {ts : List (Tok × Bs)} {k : Nat} (h0 : isSp c = false) (h1 : ¬ (c = 45 ∧ r.head? = some 45)) (hn : nextP (c :: r) = .ok t r') (h : Lx r' ts k) : Lx (c :: r) ((t, c :: r) :: ts) k
  | no {c : UInt8} {r : Bs} {k : Nat} (h0 : isSp c = false) (h1 : ¬ (c = 45 ∧ r.head? = some 45)) (hn : nextP (c :: r) = .no k) : Lx (c :: r) [] k

end Go.Proofs.YtbgjjbffpckimaaDoor
