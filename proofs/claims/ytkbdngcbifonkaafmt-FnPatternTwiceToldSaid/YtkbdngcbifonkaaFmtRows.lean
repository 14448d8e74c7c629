/-
  No cell of these rows narrows 'for every input' (looked for: loops, veiled, ifaces, maps, wideKeys, modest, calm, conditions, laid).
  DERIVED. THE GIVEN ROWS OF THIS SEAT. 6 by the template 'for every input the law returns true; each argument reads behind the call as it read before'; 0 by the template 'total and deterministic' (their statements: YtkbdngcbifonkaaFmtTotals.lean).
  GIVEN WITH THE SEED: the statements are not yours to turn. If you find one false, say at which input.
  Laid BY PROGRAM, IN A SANDBOX (cutbox-rows.mjs): the forced cells as the released guide's own fill.sh prints them over the translation 376e8e7b917aceb0… (all of the seat's roots in one cut). By AI agents, Wed Nov 11 2026. No macro, syntax, notation, axiom, sorry.
-/
import Derived.Test.YtkbdngcbifonkaaFmtChecked
import GoSem.Claim
import GoSem.ClaimJoined
import GoSem.ClaimMapViews
import Derived.JoinedTies
import Derived.KernelRfl
namespace Go.Proofs.YtkbdngcbifonkaaFmt
/- THE CELL 'sum', in the pinned program and in every row, IS THE sha256 OF THE DUMP (.gsa) THAT YtkbdngcbifonkaaFmtProg.lean LOADS. Nothing in Lean hashes anything: it is a label: what it is worth is what the hold of that sum in a sandbox is worth. -/
noncomputable def Tryf.pinned : Pinned := { name := "ytkbdngcbifonkaafmt", sum := "376e8e7b917aceb043d92752b5dd31d6e6ecf5963758c225ae6f753bf291e98f", checked := Tryf.checked }
namespace Rows
def none {H : Type} : Left H := { results := [], args := [] }

/-- 'laws.FnPatternBalance': WHATEVER THE INPUT: true; the input reads as it did. -/
def fnPatternBalanceSpec : ChangeSpec := { name := "fnPatternBalance", fn := fun _ => fun
  | [d1, d2, d3] => { results := [.lit (.bool true)], args := [d1, d2, d3] }
  | _ => none }
def fnPatternBalanceRow : OpenClaim := { program := "ytkbdngcbifonkaafmt", sum := "376e8e7b917aceb043d92752b5dd31d6e6ecf5963758c225ae6f753bf291e98f", func := "loop.example/pub-g01442/laws.FnPatternBalance", spec := "fnPatternBalance", stops := ["fmt.Sprintf, its operands' methods called"], inPlace := ["fmt.Sprintf"], unfollowed := true, recurses := true, apart := false }
/-- NO THEOREM (fmt's text is open here; it may be false): for the released tool's asking of the row's closed facts alone. THE STATEMENT IS 'FnPatternBalanceToldSaid' (YtkbdngcbifonkaaFmtCards.lean). -/
def FnPatternBalanceFormAsk : Prop := fnPatternBalanceRow.holds Tryf.pinned (OpenSpec.ofChange fnPatternBalanceSpec)

/-- ITS FALSE NEIGHBOUR: 'it returns false'. Refute it at one input. -/
def fnPatternBalanceWrong : ChangeSpec := { name := "fnPatternBalance", fn := fun _ => fun
  | [d1, d2, d3] => { results := [.lit (.bool false)], args := [d1, d2, d3] }
  | _ => none }
def FnPatternBalanceWrongFormAsk : Prop := fnPatternBalanceRow.holds Tryf.pinned (OpenSpec.ofChange fnPatternBalanceWrong)

/-- 'laws.FnPatternClass': WHATEVER THE INPUT: true; the input reads as it did. -/
def fnPatternClassSpec : ChangeSpec := { name := "fnPatternClass", fn := fun _ => fun
  | [d1, d2] => { results := [.lit (.bool true)], args := [d1, d2] }
  | _ => none }
def fnPatternClassRow : OpenClaim := { program := "ytkbdngcbifonkaafmt", sum := "376e8e7b917aceb043d92752b5dd31d6e6ecf5963758c225ae6f753bf291e98f", func := "loop.example/pub-g01442/laws.FnPatternClass", spec := "fnPatternClass", stops := ["fmt.Sprintf, its operands' methods called"], inPlace := ["fmt.Sprintf"], unfollowed := true, recurses := true, apart := false }
/-- NO THEOREM (fmt's text is open here; it may be false): for the released tool's asking of the row's closed facts alone. THE STATEMENT IS 'FnPatternClassToldSaid' (YtkbdngcbifonkaaFmtCards.lean). -/
def FnPatternClassFormAsk : Prop := fnPatternClassRow.holds Tryf.pinned (OpenSpec.ofChange fnPatternClassSpec)

/-- ITS FALSE NEIGHBOUR: 'it returns false'. Refute it at one input. -/
def fnPatternClassWrong : ChangeSpec := { name := "fnPatternClass", fn := fun _ => fun
  | [d1, d2] => { results := [.lit (.bool false)], args := [d1, d2] }
  | _ => none }
def FnPatternClassWrongFormAsk : Prop := fnPatternClassRow.holds Tryf.pinned (OpenSpec.ofChange fnPatternClassWrong)

/-- 'laws.FnPatternPlain': WHATEVER THE INPUT: true; the input reads as it did. -/
def fnPatternPlainSpec : ChangeSpec := { name := "fnPatternPlain", fn := fun _ => fun
  | [d1, d2, d3] => { results := [.lit (.bool true)], args := [d1, d2, d3] }
  | _ => none }
def fnPatternPlainRow : OpenClaim := { program := "ytkbdngcbifonkaafmt", sum := "376e8e7b917aceb043d92752b5dd31d6e6ecf5963758c225ae6f753bf291e98f", func := "loop.example/pub-g01442/laws.FnPatternPlain", spec := "fnPatternPlain", stops := ["fmt.Sprintf, its operands' methods called"], inPlace := ["fmt.Sprintf"], unfollowed := true, recurses := true, apart := false }
/-- NO THEOREM (fmt's text is open here; it may be false): for the released tool's asking of the row's closed facts alone. THE STATEMENT IS 'FnPatternPlainToldSaid' (YtkbdngcbifonkaaFmtCards.lean). -/
def FnPatternPlainFormAsk : Prop := fnPatternPlainRow.holds Tryf.pinned (OpenSpec.ofChange fnPatternPlainSpec)

/-- ITS FALSE NEIGHBOUR: 'it returns false'. Refute it at one input. -/
def fnPatternPlainWrong : ChangeSpec := { name := "fnPatternPlain", fn := fun _ => fun
  | [d1, d2, d3] => { results := [.lit (.bool false)], args := [d1, d2, d3] }
  | _ => none }
def FnPatternPlainWrongFormAsk : Prop := fnPatternPlainRow.holds Tryf.pinned (OpenSpec.ofChange fnPatternPlainWrong)

/-- 'laws.FnPatternRange': WHATEVER THE INPUT: true; the input reads as it did. -/
def fnPatternRangeSpec : ChangeSpec := { name := "fnPatternRange", fn := fun _ => fun
  | [d1, d2, d3] => { results := [.lit (.bool true)], args := [d1, d2, d3] }
  | _ => none }
def fnPatternRangeRow : OpenClaim := { program := "ytkbdngcbifonkaafmt", sum := "376e8e7b917aceb043d92752b5dd31d6e6ecf5963758c225ae6f753bf291e98f", func := "loop.example/pub-g01442/laws.FnPatternRange", spec := "fnPatternRange", stops := ["fmt.Sprintf, its operands' methods called"], inPlace := ["fmt.Sprintf"], unfollowed := true, recurses := true, apart := false }
/-- NO THEOREM (fmt's text is open here; it may be false): for the released tool's asking of the row's closed facts alone. THE STATEMENT IS 'FnPatternRangeToldSaid' (YtkbdngcbifonkaaFmtCards.lean). -/
def FnPatternRangeFormAsk : Prop := fnPatternRangeRow.holds Tryf.pinned (OpenSpec.ofChange fnPatternRangeSpec)

/-- ITS FALSE NEIGHBOUR: 'it returns false'. Refute it at one input. -/
def fnPatternRangeWrong : ChangeSpec := { name := "fnPatternRange", fn := fun _ => fun
  | [d1, d2, d3] => { results := [.lit (.bool false)], args := [d1, d2, d3] }
  | _ => none }
def FnPatternRangeWrongFormAsk : Prop := fnPatternRangeRow.holds Tryf.pinned (OpenSpec.ofChange fnPatternRangeWrong)

/-- 'laws.FnPatternRepeats': WHATEVER THE INPUT: true; the input reads as it did. -/
def fnPatternRepeatsSpec : ChangeSpec := { name := "fnPatternRepeats", fn := fun _ => fun
  | [d1, d2] => { results := [.lit (.bool true)], args := [d1, d2] }
  | _ => none }
def fnPatternRepeatsRow : OpenClaim := { program := "ytkbdngcbifonkaafmt", sum := "376e8e7b917aceb043d92752b5dd31d6e6ecf5963758c225ae6f753bf291e98f", func := "loop.example/pub-g01442/laws.FnPatternRepeats", spec := "fnPatternRepeats", stops := ["fmt.Sprintf, its operands' methods called"], inPlace := ["fmt.Sprintf"], unfollowed := true, recurses := true, apart := false }
/-- NO THEOREM (fmt's text is open here; it may be false): for the released tool's asking of the row's closed facts alone. THE STATEMENT IS 'FnPatternRepeatsToldSaid' (YtkbdngcbifonkaaFmtCards.lean). -/
def FnPatternRepeatsFormAsk : Prop := fnPatternRepeatsRow.holds Tryf.pinned (OpenSpec.ofChange fnPatternRepeatsSpec)

/-- ITS FALSE NEIGHBOUR: 'it returns false'. Refute it at one input. -/
def fnPatternRepeatsWrong : ChangeSpec := { name := "fnPatternRepeats", fn := fun _ => fun
  | [d1, d2] => { results := [.lit (.bool false)], args := [d1, d2] }
  | _ => none }
def FnPatternRepeatsWrongFormAsk : Prop := fnPatternRepeatsRow.holds Tryf.pinned (OpenSpec.ofChange fnPatternRepeatsWrong)

/-- 'laws.FnPatternTwice': WHATEVER THE INPUT: true; the input reads as it did. -/
def fnPatternTwiceSpec : ChangeSpec := { name := "fnPatternTwice", fn := fun _ => fun
  | [d1, d2, d3] => { results := [.lit (.bool true)], args := [d1, d2, d3] }
  | _ => none }
def fnPatternTwiceRow : OpenClaim := { program := "ytkbdngcbifonkaafmt", sum := "376e8e7b917aceb043d92752b5dd31d6e6ecf5963758c225ae6f753bf291e98f", func := "loop.example/pub-g01442/laws.FnPatternTwice", spec := "fnPatternTwice", stops := ["fmt.Sprintf, its operands' methods called"], inPlace := ["fmt.Sprintf"], unfollowed := true, recurses := true, apart := false }
/-- NO THEOREM (fmt's text is open here; it may be false): for the released tool's asking of the row's closed facts alone. THE STATEMENT IS 'FnPatternTwiceToldSaid' (YtkbdngcbifonkaaFmtCards.lean). -/
def FnPatternTwiceFormAsk : Prop := fnPatternTwiceRow.holds Tryf.pinned (OpenSpec.ofChange fnPatternTwiceSpec)

/-- ITS FALSE NEIGHBOUR: 'it returns false'. Refute it at one input. -/
def fnPatternTwiceWrong : ChangeSpec := { name := "fnPatternTwice", fn := fun _ => fun
  | [d1, d2, d3] => { results := [.lit (.bool false)], args := [d1, d2, d3] }
  | _ => none }
def FnPatternTwiceWrongFormAsk : Prop := fnPatternTwiceRow.holds Tryf.pinned (OpenSpec.ofChange fnPatternTwiceWrong)

end Rows
end Go.Proofs.YtkbdngcbifonkaaFmt
