/-
  DERIVED. GIVEN WITH THE SEED: THE CARDS: each row of Qxb6602876aDoorRows.lean that lists a variable, with what it lists TIED to the program's text (the seventh form; the later family's looks); each row that meets fmt, with fmt's text TOLD by the authors' own Lean function (tested against real Go, not proved from fmt's source: count such statements apart). THE CARD IS WHAT COUNTS. Prove the row's statement (the work); the ties are given (Qxb6602876aDoorTie.lean); close each card by the builder's one call (the guide's Derived/Test/ToyasCard.lean, 'card_holds'). Laid BY PROGRAM, IN A SANDBOX (cutbox-door.mjs). By AI agents, Wed Nov 11 2026. No macro, syntax, notation, axiom, sorry.
-/
import Derived.Test.Qxb6602876aDoorRows
import GoSem.ClaimSeven
namespace Go.Proofs.Qxb6602876aDoor
namespace Rows

/-- THE TIED CARD OF 'zzlaws_root_b1.FnRoleStringRoundTrip'. -/
def fnRoleStringRoundTripCard : Claim7 := { stood := { row := fnRoleStringRoundTripRow, standIns := [], harness := (true, "d36539ceaccbf3f9e2c4fb569b4e804ecf3f3a26d5bbbf46ec858fa599087ff8"), looks := false }, kinds := [], alts := [], laidByText := true, laidKinds := [.data, .data, .data], laidTests := true, laidLooks := .later }
def FnRoleStringRoundTripCardSaid : Prop := Claim7.holds Tryd.pinned (.plain (OpenSpec.ofChange fnRoleStringRoundTripSpec)) fnRoleStringRoundTripCard

/-- THE TIED CARD OF 'zzlaws_root_b1.FnEntryKindStringRoundTrip'. -/
def fnEntryKindStringRoundTripCard : Claim7 := { stood := { row := fnEntryKindStringRoundTripRow, standIns := [], harness := (true, "d36539ceaccbf3f9e2c4fb569b4e804ecf3f3a26d5bbbf46ec858fa599087ff8"), looks := false }, kinds := [], alts := [], laidByText := true, laidKinds := [.data, .data, .data], laidTests := true, laidLooks := .later }
def FnEntryKindStringRoundTripCardSaid : Prop := Claim7.holds Tryd.pinned (.plain (OpenSpec.ofChange fnEntryKindStringRoundTripSpec)) fnEntryKindStringRoundTripCard

/-- THE TIED CARD OF 'zzlaws_root_b1.FnMessageKindStringRoundTrip'. -/
def fnMessageKindStringRoundTripCard : Claim7 := { stood := { row := fnMessageKindStringRoundTripRow, standIns := [], harness := (true, "d36539ceaccbf3f9e2c4fb569b4e804ecf3f3a26d5bbbf46ec858fa599087ff8"), looks := false }, kinds := [], alts := [], laidByText := true, laidKinds := [.data, .data, .data], laidTests := true, laidLooks := .later }
def FnMessageKindStringRoundTripCardSaid : Prop := Claim7.holds Tryd.pinned (.plain (OpenSpec.ofChange fnMessageKindStringRoundTripSpec)) fnMessageKindStringRoundTripCard

/-- THE TIED CARD OF 'zzlaws_root_b1.FnMessageKindRequestResponsePaired'. -/
def fnMessageKindRequestResponsePairedCard : Claim7 := { stood := { row := fnMessageKindRequestResponsePairedRow, standIns := [], harness := (true, "d36539ceaccbf3f9e2c4fb569b4e804ecf3f3a26d5bbbf46ec858fa599087ff8"), looks := false }, kinds := [], alts := [], laidByText := true, laidKinds := [.data, .data, .data], laidTests := true, laidLooks := .later }
def FnMessageKindRequestResponsePairedCardSaid : Prop := Claim7.holds Tryd.pinned (.plain (OpenSpec.ofChange fnMessageKindRequestResponsePairedSpec)) fnMessageKindRequestResponsePairedCard
end Rows
end Go.Proofs.Qxb6602876aDoor
