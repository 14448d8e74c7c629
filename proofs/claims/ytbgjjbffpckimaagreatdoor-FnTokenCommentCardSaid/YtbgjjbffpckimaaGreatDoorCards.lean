/-
  DERIVED. GIVEN WITH THE SEED: THE CARDS: each row of YtbgjjbffpckimaaGreatDoorRows.lean that lists a variable, with what it lists TIED to the program's text (the seventh form; the later family's looks); each row that meets fmt, with fmt's text TOLD by the authors' own Lean function (tested against real Go, not proved from fmt's source: count such statements apart). THE CARD IS WHAT COUNTS. Prove the row's statement (the work); the ties are given (YtbgjjbffpckimaaGreatDoorTie.lean); close each card by the builder's one call (the guide's Derived/Test/ToyasCard.lean, 'card_holds'). Laid BY PROGRAM, IN A SANDBOX (cutbox-door.mjs). By AI agents, Wed Nov 11 2026. No macro, syntax, notation, axiom, sorry.
-/
import Derived.Test.YtbgjjbffpckimaaGreatDoorRows
import GoSem.ClaimSeven
namespace Go.Proofs.YtbgjjbffpckimaaGreatDoor
namespace Rows

/-- THE TIED CARD OF 'laws.FnTokenComment'. -/
def fnTokenCommentCard : Claim7 := { stood := { row := fnTokenCommentRow, standIns := [], harness := (true, "1e318d33efc8e66f2f98dd01a229c6b403932e2980d8c2baf22c38025c2cffd9"), looks := true }, kinds := [], alts := [], laidByText := true, laidKinds := [.data, .data, .data, .sentinel, .sentinel, .sentinel, .sentinel, .sentinel, .sentinel, .sentinel, .mapped, .data], laidTests := true, laidLooks := .later }
def FnTokenCommentCardSaid : Prop := Claim7.holds Tryz.pinned (.plain (OpenSpec.ofChange fnTokenCommentSpec)) fnTokenCommentCard

/-- THE TIED CARD OF 'laws.FnTokenLines'. -/
def fnTokenLinesCard : Claim7 := { stood := { row := fnTokenLinesRow, standIns := [], harness := (true, "1e318d33efc8e66f2f98dd01a229c6b403932e2980d8c2baf22c38025c2cffd9"), looks := true }, kinds := [], alts := [], laidByText := true, laidKinds := [.data, .data, .data, .sentinel, .sentinel, .sentinel, .sentinel, .sentinel, .sentinel, .sentinel, .mapped, .data], laidTests := true, laidLooks := .later }
def FnTokenLinesCardSaid : Prop := Claim7.holds Tryz.pinned (.plain (OpenSpec.ofChange fnTokenLinesSpec)) fnTokenLinesCard

/-- THE TIED CARD OF 'laws.FnTokens'. -/
def fnTokensCard : Claim7 := { stood := { row := fnTokensRow, standIns := [], harness := (true, "1e318d33efc8e66f2f98dd01a229c6b403932e2980d8c2baf22c38025c2cffd9"), looks := true }, kinds := [], alts := [], laidByText := true, laidKinds := [.data, .data, .data, .sentinel, .sentinel, .sentinel, .sentinel, .sentinel, .sentinel, .sentinel, .mapped, .data], laidTests := true, laidLooks := .later }
def FnTokensCardSaid : Prop := Claim7.holds Tryz.pinned (.plain (OpenSpec.ofChange fnTokensSpec)) fnTokensCard

/-- THE TIED CARD OF 'laws.FnTokensJoined'. -/
def fnTokensJoinedCard : Claim7 := { stood := { row := fnTokensJoinedRow, standIns := [], harness := (true, "1e318d33efc8e66f2f98dd01a229c6b403932e2980d8c2baf22c38025c2cffd9"), looks := true }, kinds := [], alts := [], laidByText := true, laidKinds := [.data, .data, .data, .sentinel, .sentinel, .sentinel, .sentinel, .sentinel, .sentinel, .sentinel, .mapped, .data], laidTests := true, laidLooks := .later }
def FnTokensJoinedCardSaid : Prop := Claim7.holds Tryz.pinned (.plain (OpenSpec.ofChange fnTokensJoinedSpec)) fnTokensJoinedCard

/-- THE SECOND FORM's CARD OF 'laws.FnTokenComment'. -/
def fnTokenCommentUptoCard : Claim7 := { stood := { row := fnTokenCommentUptoRow, standIns := [], harness := (true, "1e318d33efc8e66f2f98dd01a229c6b403932e2980d8c2baf22c38025c2cffd9"), looks := true }, kinds := [], alts := [], laidByText := true, laidKinds := [.data, .data, .data, .sentinel, .sentinel, .sentinel, .sentinel, .sentinel, .sentinel, .sentinel, .mapped, .data], laidTests := true, laidLooks := .later }
def FnTokenCommentUptoCardSaid : Prop := Claim7.holds Tryz.pinned (.plain (OpenSpec.upto fnTokenCommentSpec)) fnTokenCommentUptoCard

/-- THE SECOND FORM's CARD OF 'laws.FnTokenLines'. -/
def fnTokenLinesUptoCard : Claim7 := { stood := { row := fnTokenLinesUptoRow, standIns := [], harness := (true, "1e318d33efc8e66f2f98dd01a229c6b403932e2980d8c2baf22c38025c2cffd9"), looks := true }, kinds := [], alts := [], laidByText := true, laidKinds := [.data, .data, .data, .sentinel, .sentinel, .sentinel, .sentinel, .sentinel, .sentinel, .sentinel, .mapped, .data], laidTests := true, laidLooks := .later }
def FnTokenLinesUptoCardSaid : Prop := Claim7.holds Tryz.pinned (.plain (OpenSpec.upto fnTokenLinesSpec)) fnTokenLinesUptoCard

/-- THE SECOND FORM's CARD OF 'laws.FnTokens'. -/
def fnTokensUptoCard : Claim7 := { stood := { row := fnTokensUptoRow, standIns := [], harness := (true, "1e318d33efc8e66f2f98dd01a229c6b403932e2980d8c2baf22c38025c2cffd9"), looks := true }, kinds := [], alts := [], laidByText := true, laidKinds := [.data, .data, .data, .sentinel, .sentinel, .sentinel, .sentinel, .sentinel, .sentinel, .sentinel, .mapped, .data], laidTests := true, laidLooks := .later }
def FnTokensUptoCardSaid : Prop := Claim7.holds Tryz.pinned (.plain (OpenSpec.upto fnTokensSpec)) fnTokensUptoCard

/-- THE SECOND FORM's CARD OF 'laws.FnTokensJoined'. -/
def fnTokensJoinedUptoCard : Claim7 := { stood := { row := fnTokensJoinedUptoRow, standIns := [], harness := (true, "1e318d33efc8e66f2f98dd01a229c6b403932e2980d8c2baf22c38025c2cffd9"), looks := true }, kinds := [], alts := [], laidByText := true, laidKinds := [.data, .data, .data, .sentinel, .sentinel, .sentinel, .sentinel, .sentinel, .sentinel, .sentinel, .mapped, .data], laidTests := true, laidLooks := .later }
def FnTokensJoinedUptoCardSaid : Prop := Claim7.holds Tryz.pinned (.plain (OpenSpec.upto fnTokensJoinedSpec)) fnTokensJoinedUptoCard
end Rows
end Go.Proofs.YtbgjjbffpckimaaGreatDoor
