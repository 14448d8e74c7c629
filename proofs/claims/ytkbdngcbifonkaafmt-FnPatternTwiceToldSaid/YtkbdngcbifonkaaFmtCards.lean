/-
  DERIVED. GIVEN WITH THE SEED: THE CARDS: each row of YtkbdngcbifonkaaFmtRows.lean that lists a variable, with what it lists TIED to the program's text (the seventh form; the later family's looks); each row that meets fmt, with fmt's text TOLD by the authors' own Lean function (tested against real Go, not proved from fmt's source: count such statements apart). THE CARD IS WHAT COUNTS. Prove the row's statement (the work); the ties are given (YtkbdngcbifonkaaFmtTie.lean); close each card by the builder's one call (the guide's Derived/Test/ToyasCard.lean, 'card_holds'). Laid BY PROGRAM, IN A SANDBOX (cutbox-door.mjs). By AI agents, Wed Nov 11 2026. No macro, syntax, notation, axiom, sorry.
-/
import Derived.Test.YtkbdngcbifonkaaFmtRows
import GoSem.ClaimSeven
namespace Go.Proofs.YtkbdngcbifonkaaFmt
namespace Rows

/-- THE TOLD CARD OF 'laws.FnPatternBalance'. -/
def fnPatternBalanceCard : Claim7 := { stood := { row := fnPatternBalanceRow, standIns := [], harness := (true, "783d195d62cfc4263b2982b12a491dd2bb5577f7687f4e5033fefd51586de244"), looks := true }, told := true, goes := false }
def FnPatternBalanceToldSaid : Prop := Claim7.holds Tryf.pinned (.plain (OpenSpec.ofChange fnPatternBalanceSpec)) fnPatternBalanceCard
/-- ITS FALSE NEIGHBOUR. Refute it at one input. -/
def FnPatternBalanceToldWrongFalsely : Prop := Claim7.holds Tryf.pinned (.plain (OpenSpec.ofChange fnPatternBalanceWrong)) fnPatternBalanceCard

/-- THE TOLD CARD OF 'laws.FnPatternClass'. -/
def fnPatternClassCard : Claim7 := { stood := { row := fnPatternClassRow, standIns := [], harness := (true, "783d195d62cfc4263b2982b12a491dd2bb5577f7687f4e5033fefd51586de244"), looks := true }, told := true, goes := false }
def FnPatternClassToldSaid : Prop := Claim7.holds Tryf.pinned (.plain (OpenSpec.ofChange fnPatternClassSpec)) fnPatternClassCard
/-- ITS FALSE NEIGHBOUR. Refute it at one input. -/
def FnPatternClassToldWrongFalsely : Prop := Claim7.holds Tryf.pinned (.plain (OpenSpec.ofChange fnPatternClassWrong)) fnPatternClassCard

/-- THE TOLD CARD OF 'laws.FnPatternPlain'. -/
def fnPatternPlainCard : Claim7 := { stood := { row := fnPatternPlainRow, standIns := [], harness := (true, "783d195d62cfc4263b2982b12a491dd2bb5577f7687f4e5033fefd51586de244"), looks := true }, told := true, goes := false }
def FnPatternPlainToldSaid : Prop := Claim7.holds Tryf.pinned (.plain (OpenSpec.ofChange fnPatternPlainSpec)) fnPatternPlainCard
/-- ITS FALSE NEIGHBOUR. Refute it at one input. -/
def FnPatternPlainToldWrongFalsely : Prop := Claim7.holds Tryf.pinned (.plain (OpenSpec.ofChange fnPatternPlainWrong)) fnPatternPlainCard

/-- THE TOLD CARD OF 'laws.FnPatternRange'. -/
def fnPatternRangeCard : Claim7 := { stood := { row := fnPatternRangeRow, standIns := [], harness := (true, "783d195d62cfc4263b2982b12a491dd2bb5577f7687f4e5033fefd51586de244"), looks := true }, told := true, goes := false }
def FnPatternRangeToldSaid : Prop := Claim7.holds Tryf.pinned (.plain (OpenSpec.ofChange fnPatternRangeSpec)) fnPatternRangeCard
/-- ITS FALSE NEIGHBOUR. Refute it at one input. -/
def FnPatternRangeToldWrongFalsely : Prop := Claim7.holds Tryf.pinned (.plain (OpenSpec.ofChange fnPatternRangeWrong)) fnPatternRangeCard

/-- THE TOLD CARD OF 'laws.FnPatternRepeats'. -/
def fnPatternRepeatsCard : Claim7 := { stood := { row := fnPatternRepeatsRow, standIns := [], harness := (true, "783d195d62cfc4263b2982b12a491dd2bb5577f7687f4e5033fefd51586de244"), looks := true }, told := true, goes := false }
def FnPatternRepeatsToldSaid : Prop := Claim7.holds Tryf.pinned (.plain (OpenSpec.ofChange fnPatternRepeatsSpec)) fnPatternRepeatsCard
/-- ITS FALSE NEIGHBOUR. Refute it at one input. -/
def FnPatternRepeatsToldWrongFalsely : Prop := Claim7.holds Tryf.pinned (.plain (OpenSpec.ofChange fnPatternRepeatsWrong)) fnPatternRepeatsCard

/-- THE TOLD CARD OF 'laws.FnPatternTwice'. -/
def fnPatternTwiceCard : Claim7 := { stood := { row := fnPatternTwiceRow, standIns := [], harness := (true, "783d195d62cfc4263b2982b12a491dd2bb5577f7687f4e5033fefd51586de244"), looks := true }, told := true, goes := false }
def FnPatternTwiceToldSaid : Prop := Claim7.holds Tryf.pinned (.plain (OpenSpec.ofChange fnPatternTwiceSpec)) fnPatternTwiceCard
/-- ITS FALSE NEIGHBOUR. Refute it at one input. -/
def FnPatternTwiceToldWrongFalsely : Prop := Claim7.holds Tryf.pinned (.plain (OpenSpec.ofChange fnPatternTwiceWrong)) fnPatternTwiceCard
end Rows
end Go.Proofs.YtkbdngcbifonkaaFmt
