/-
  DERIVED. GIVEN WITH THE SEED: THE CARDS: each row of Qxb6601029aDoorRows.lean that lists a variable, with what it lists TIED to the program's text (the seventh form; the later family's looks); each row that meets fmt, with fmt's text TOLD by the authors' own Lean function (tested against real Go, not proved from fmt's source: count such statements apart). THE CARD IS WHAT COUNTS. Prove the row's statement (the work); the ties are given (Qxb6601029aDoorTie.lean); close each card by the builder's one call (the guide's Derived/Test/ToyasCard.lean, 'card_holds'). Laid BY PROGRAM, IN A SANDBOX (cutbox-door.mjs). By AI agents, Wed Nov 11 2026. No macro, syntax, notation, axiom, sorry.
-/
import Derived.Test.Qxb6601029aDoorRows
import GoSem.ClaimSeven
namespace Go.Proofs.Qxb6601029aDoor
namespace Rows

/-- THE TIED CARD OF 'zzlaws_internal_wire_b1.FnAppendSenderReadsBack'. -/
def fnAppendSenderReadsBackCard : Claim7 := { stood := { row := fnAppendSenderReadsBackRow, standIns := [], harness := (true, "a958db5858a1a92d9b233afc6f5c2b2819026c2d73fa249f504ceb094b86cae7"), looks := false }, kinds := [], alts := [], laidByText := true, laidKinds := [.data, .data, .data], laidTests := true, laidLooks := .later }
def FnAppendSenderReadsBackCardSaid : Prop := Claim7.holds Tryd.pinned (.plain (OpenSpec.ofChange fnAppendSenderReadsBackSpec)) fnAppendSenderReadsBackCard

/-- THE TIED CARD OF 'zzlaws_internal_wire_b1.FnAppendSenderInjectiveInSender'. -/
def fnAppendSenderInjectiveInSenderCard : Claim7 := { stood := { row := fnAppendSenderInjectiveInSenderRow, standIns := [], harness := (true, "a958db5858a1a92d9b233afc6f5c2b2819026c2d73fa249f504ceb094b86cae7"), looks := false }, kinds := [], alts := [], laidByText := true, laidKinds := [.data, .data, .data], laidTests := true, laidLooks := .later }
def FnAppendSenderInjectiveInSenderCardSaid : Prop := Claim7.holds Tryd.pinned (.plain (OpenSpec.ofChange fnAppendSenderInjectiveInSenderSpec)) fnAppendSenderInjectiveInSenderCard
end Rows
end Go.Proofs.Qxb6601029aDoor
