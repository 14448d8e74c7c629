/-
  DERIVED. GIVEN WITH THE SEED: THE CARDS: each row of YtbgjjbffpckimaaDoorRows.lean that lists a variable, with what it lists TIED to the program's text (the seventh form; the later family's looks); each row that meets fmt, with fmt's text TOLD by the authors' own Lean function (tested against real Go, not proved from fmt's source: count such statements apart). THE CARD IS WHAT COUNTS. Prove the row's statement (the work); the ties are given (YtbgjjbffpckimaaDoorTie.lean); close each card by the builder's one call (the guide's Derived/Test/ToyasCard.lean, 'card_holds'). Laid BY PROGRAM, IN A SANDBOX (cutbox-door.mjs). By AI agents, Wed Nov 11 2026. No macro, syntax, notation, axiom, sorry.
-/
import Derived.Test.YtbgjjbffpckimaaDoorRows
import GoSem.ClaimSeven
namespace Go.Proofs.YtbgjjbffpckimaaDoor
namespace Rows

/-- THE TIED CARD OF 'laws.FnTokenName'. -/
def fnTokenNameCard : Claim7 := { stood := { row := fnTokenNameRow, standIns := [], harness := (true, "e1681348b8b2bfb2d7a300b7e89fc2bcbf7b0f348a797c8b7b37d1286e38b61a"), looks := true }, kinds := [], alts := [], laidByText := true, laidKinds := [.data, .data, .data, .sentinel, .sentinel, .sentinel, .sentinel, .sentinel, .sentinel, .sentinel, .mapped, .data], laidTests := true, laidLooks := .later }
def FnTokenNameCardSaid : Prop := Claim7.holds Tryd.pinned (.plain (OpenSpec.ofChange fnTokenNameSpec)) fnTokenNameCard

/-- THE TIED CARD OF 'laws.FnTokenString'. -/
def fnTokenStringCard : Claim7 := { stood := { row := fnTokenStringRow, standIns := [], harness := (true, "e1681348b8b2bfb2d7a300b7e89fc2bcbf7b0f348a797c8b7b37d1286e38b61a"), looks := true }, kinds := [], alts := [], laidByText := true, laidKinds := [.data, .data, .data, .sentinel, .sentinel, .sentinel, .sentinel, .sentinel, .sentinel, .sentinel, .mapped, .data], laidTests := true, laidLooks := .later }
def FnTokenStringCardSaid : Prop := Claim7.holds Tryd.pinned (.plain (OpenSpec.ofChange fnTokenStringSpec)) fnTokenStringCard

/-- THE SECOND FORM's CARD OF 'laws.FnTokenName'. -/
def fnTokenNameUptoCard : Claim7 := { stood := { row := fnTokenNameUptoRow, standIns := [], harness := (true, "e1681348b8b2bfb2d7a300b7e89fc2bcbf7b0f348a797c8b7b37d1286e38b61a"), looks := true }, kinds := [], alts := [], laidByText := true, laidKinds := [.data, .data, .data, .sentinel, .sentinel, .sentinel, .sentinel, .sentinel, .sentinel, .sentinel, .mapped, .data], laidTests := true, laidLooks := .later }
def FnTokenNameUptoCardSaid : Prop := Claim7.holds Tryd.pinned (.plain (OpenSpec.upto fnTokenNameSpec)) fnTokenNameUptoCard

/-- THE SECOND FORM's CARD OF 'laws.FnTokenString'. -/
def fnTokenStringUptoCard : Claim7 := { stood := { row := fnTokenStringUptoRow, standIns := [], harness := (true, "e1681348b8b2bfb2d7a300b7e89fc2bcbf7b0f348a797c8b7b37d1286e38b61a"), looks := true }, kinds := [], alts := [], laidByText := true, laidKinds := [.data, .data, .data, .sentinel, .sentinel, .sentinel, .sentinel, .sentinel, .sentinel, .sentinel, .mapped, .data], laidTests := true, laidLooks := .later }
def FnTokenStringUptoCardSaid : Prop := Claim7.holds Tryd.pinned (.plain (OpenSpec.upto fnTokenStringSpec)) fnTokenStringUptoCard
end Rows
end Go.Proofs.YtbgjjbffpckimaaDoor
