/-
  DERIVED. GIVEN WITH THE SEED: THE CARDS: each row of Qxb6608537aDoorRows.lean that lists a variable, with what it lists TIED to the program's text (the seventh form; the later family's looks); each row that meets fmt, with fmt's text TOLD by the authors' own Lean function (tested against real Go, not proved from fmt's source: count such statements apart). THE CARD IS WHAT COUNTS. Prove the row's statement (the work); the ties are given (Qxb6608537aDoorTie.lean); close each card by the builder's one call (the guide's Derived/Test/ToyasCard.lean, 'card_holds'). Laid BY PROGRAM, IN A SANDBOX (cutbox-door.mjs). By AI agents, Wed Nov 11 2026. No macro, syntax, notation, axiom, sorry.
-/
import Derived.Test.Qxb6608537aDoorRows
import GoSem.ClaimSeven
namespace Go.Proofs.Qxb6608537aDoor
namespace Rows

/-- THE TIED CARD OF 'zzlaws_internal_http1_b1.FnParseLengthIsTheDecimalValue'. -/
def fnParseLengthIsTheDecimalValueCard : Claim7 := { stood := { row := fnParseLengthIsTheDecimalValueRow, standIns := [], harness := (true, "ae57cfb7e74adf1a98e51c52210e9a54a25e5542c9e0fbcce9c0160b41cfc809"), looks := true }, kinds := [], alts := [], laidByText := true, laidKinds := [.data, .data, .data, .sentinel, .sentinel], laidTests := true, laidLooks := .later }
def FnParseLengthIsTheDecimalValueCardSaid : Prop := Claim7.holds Tryd.pinned (.plain (OpenSpec.ofChange fnParseLengthIsTheDecimalValueSpec)) fnParseLengthIsTheDecimalValueCard

/-- THE TIED CARD OF 'zzlaws_internal_http1_b1.FnParseLengthSplitsAtAnyCut'. -/
def fnParseLengthSplitsAtAnyCutCard : Claim7 := { stood := { row := fnParseLengthSplitsAtAnyCutRow, standIns := [], harness := (true, "ae57cfb7e74adf1a98e51c52210e9a54a25e5542c9e0fbcce9c0160b41cfc809"), looks := true }, kinds := [], alts := [], laidByText := true, laidKinds := [.data, .data, .data, .sentinel, .sentinel], laidTests := true, laidLooks := .later }
def FnParseLengthSplitsAtAnyCutCardSaid : Prop := Claim7.holds Tryd.pinned (.plain (OpenSpec.ofChange fnParseLengthSplitsAtAnyCutSpec)) fnParseLengthSplitsAtAnyCutCard

/-- THE TIED CARD OF 'zzlaws_internal_http1_b1.FnChunkedWriteIsFreeOfBufferAndHistory'. -/
def fnChunkedWriteIsFreeOfBufferAndHistoryCard : Claim7 := { stood := { row := fnChunkedWriteIsFreeOfBufferAndHistoryRow, standIns := [], harness := (true, "ae57cfb7e74adf1a98e51c52210e9a54a25e5542c9e0fbcce9c0160b41cfc809"), looks := true }, kinds := [], alts := [], laidByText := true, laidKinds := [.data, .data, .data, .sentinel], laidTests := true, laidLooks := .later }
def FnChunkedWriteIsFreeOfBufferAndHistoryCardSaid : Prop := Claim7.holds Tryd.pinned (.plain (OpenSpec.ofChange fnChunkedWriteIsFreeOfBufferAndHistorySpec)) fnChunkedWriteIsFreeOfBufferAndHistoryCard
end Rows
end Go.Proofs.Qxb6608537aDoor
