/-
  DERIVED. GIVEN WITH THE SEED: THE CARDS: each row of YtlghdacdpkaoeaaGreatDoorRows.lean that lists a variable, with what it lists TIED to the program's text (the seventh form; the later family's looks); each row that meets fmt, with fmt's text TOLD by the authors' own Lean function (tested against real Go, not proved from fmt's source: count such statements apart). THE CARD IS WHAT COUNTS. Prove the row's statement (the work); the ties are given (YtlghdacdpkaoeaaGreatDoorTie.lean); close each card by the builder's one call (the guide's Derived/Test/ToyasCard.lean, 'card_holds'). Laid BY PROGRAM, IN A SANDBOX (cutbox-door.mjs). By AI agents, Wed Nov 11 2026. No macro, syntax, notation, axiom, sorry.
-/
import Derived.Test.YtlghdacdpkaoeaaGreatDoorRows
import GoSem.ClaimSeven
namespace Go.Proofs.YtlghdacdpkaoeaaGreatDoor
namespace Rows

/-- THE TIED CARD OF 'laws.FnMasterLoose'. -/
def fnMasterLooseCard : Claim7 := { stood := { row := fnMasterLooseRow, standIns := [], harness := (true, "0bbbd781aae41ab7fc3483bd95fc1ecbbdcb9e635facdba8ec0a526c439910e0"), looks := true }, kinds := [], alts := [], laidByText := true, laidKinds := [.data, .data, .widerDeep, .data, .data, .sentinel, .data, .data], laidTests := true, laidLooks := .later }
def FnMasterLooseCardSaid : Prop := Claim7.holds Tryz.pinned (.plain (OpenSpec.ofChange fnMasterLooseSpec)) fnMasterLooseCard

/-- THE SECOND FORM's CARD OF 'laws.FnMasterLoose'. -/
def fnMasterLooseUptoCard : Claim7 := { stood := { row := fnMasterLooseUptoRow, standIns := [], harness := (true, "0bbbd781aae41ab7fc3483bd95fc1ecbbdcb9e635facdba8ec0a526c439910e0"), looks := true }, kinds := [], alts := [], laidByText := true, laidKinds := [.data, .data, .widerDeep, .data, .data, .sentinel, .data, .data], laidTests := true, laidLooks := .later }
def FnMasterLooseUptoCardSaid : Prop := Claim7.holds Tryz.pinned (.plain (OpenSpec.upto fnMasterLooseSpec)) fnMasterLooseUptoCard
end Rows
end Go.Proofs.YtlghdacdpkaoeaaGreatDoor
