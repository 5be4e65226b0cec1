/-
  DERIVED. GIVEN WITH THE SEED: THE CARDS: each row of Qxb6603542aDoorRows.lean that lists a variable, with what it lists TIED to the program's text (the seventh form; the later family's looks); each row that meets fmt, with fmt's text TOLD by the authors' own Lean function (tested against real Go, not proved from fmt's source: count such statements apart). THE CARD IS WHAT COUNTS. Prove the row's statement (the work); the ties are given (Qxb6603542aDoorTie.lean); close each card by the builder's one call (the guide's Derived/Test/ToyasCard.lean, 'card_holds'). Laid BY PROGRAM, IN A SANDBOX (cutbox-door.mjs). By AI agents, Wed Nov 11 2026. No macro, syntax, notation, axiom, sorry.
-/
import Derived.Test.Qxb6603542aDoorRows
import GoSem.ClaimSeven
namespace Go.Proofs.Qxb6603542aDoor
namespace Rows

/-- THE TIED CARD OF 'zzlaws_schedule_b1.FnWrittenEqualExactlyForSameTxnAndItem'. -/
def fnWrittenEqualExactlyForSameTxnAndItemCard : Claim7 := { stood := { row := fnWrittenEqualExactlyForSameTxnAndItemRow, standIns := [], harness := (true, "71754c63196485720d5072fb8e0b6d1ab4632f727652097ce46139225f083983"), looks := false }, kinds := [], alts := [], laidByText := true, laidKinds := [.data, .data, .data], laidTests := true, laidLooks := .later }
def FnWrittenEqualExactlyForSameTxnAndItemCardSaid : Prop := Claim7.holds Tryd.pinned (.plain (OpenSpec.ofChange fnWrittenEqualExactlyForSameTxnAndItemSpec)) fnWrittenEqualExactlyForSameTxnAndItemCard
end Rows
end Go.Proofs.Qxb6603542aDoor
