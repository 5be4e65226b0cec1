/-
  DERIVED. GIVEN WITH THE SEED: THE CARDS: each row of Qxb6603632aFmtRows.lean that lists a variable, with what it lists TIED to the program's text (the seventh form; the later family's looks); each row that meets fmt, with fmt's text TOLD by the authors' own Lean function (tested against real Go, not proved from fmt's source: count such statements apart). THE CARD IS WHAT COUNTS. Prove the row's statement (the work); the ties are given (Qxb6603632aFmtTie.lean); close each card by the builder's one call (the guide's Derived/Test/ToyasCard.lean, 'card_holds'). Laid BY PROGRAM, IN A SANDBOX (cutbox-door.mjs). By AI agents, Wed Nov 11 2026. No macro, syntax, notation, axiom, sorry.
-/
import Derived.Test.Qxb6603632aFmtRows
import GoSem.ClaimSeven
namespace Go.Proofs.Qxb6603632aFmt
namespace Rows

/-- THE TOLD AND TIED CARD OF 'zzlaws_root_b1.FnNamedTwiceWrapsErrGroup'. -/
def fnNamedTwiceWrapsErrGroupCard : Claim7 := { stood := { row := fnNamedTwiceWrapsErrGroupRow, standIns := [], harness := (true, "9d30d2f053884ee7d77c65c055c986c8aac461be7c888ef4b39919041cf5625a"), looks := true }, told := true, laidByText := true, laidKinds := [.sentinel, .sentinel], laidTests := true, laidLooks := .later, goes := false }
def FnNamedTwiceWrapsErrGroupToldSaid : Prop := Claim7.holds Tryf.pinned (.plain (OpenSpec.ofChange fnNamedTwiceWrapsErrGroupSpec)) fnNamedTwiceWrapsErrGroupCard
/-- ITS FALSE NEIGHBOUR. Refute it at one input. -/
def FnNamedTwiceWrapsErrGroupToldWrongFalsely : Prop := Claim7.holds Tryf.pinned (.plain (OpenSpec.ofChange fnNamedTwiceWrapsErrGroupWrong)) fnNamedTwiceWrapsErrGroupCard

/-- THE TOLD AND TIED CARD OF 'zzlaws_root_b1.FnCheckSortedRepeatIsNamedTwice'. -/
def fnCheckSortedRepeatIsNamedTwiceCard : Claim7 := { stood := { row := fnCheckSortedRepeatIsNamedTwiceRow, standIns := [], harness := (true, "9d30d2f053884ee7d77c65c055c986c8aac461be7c888ef4b39919041cf5625a"), looks := true }, told := true, laidByText := true, laidKinds := [.sentinel, .sentinel], laidTests := true, laidLooks := .later, goes := false }
def FnCheckSortedRepeatIsNamedTwiceToldSaid : Prop := Claim7.holds Tryf.pinned (.plain (OpenSpec.ofChange fnCheckSortedRepeatIsNamedTwiceSpec)) fnCheckSortedRepeatIsNamedTwiceCard
/-- ITS FALSE NEIGHBOUR. Refute it at one input. -/
def FnCheckSortedRepeatIsNamedTwiceToldWrongFalsely : Prop := Claim7.holds Tryf.pinned (.plain (OpenSpec.ofChange fnCheckSortedRepeatIsNamedTwiceWrong)) fnCheckSortedRepeatIsNamedTwiceCard

/-- THE TOLD AND TIED CARD OF 'zzlaws_root_b1.FnEscapeRoundTripsRune'. -/
def fnEscapeRoundTripsRuneCard : Claim7 := { stood := { row := fnEscapeRoundTripsRuneRow, standIns := [], harness := (true, "9d30d2f053884ee7d77c65c055c986c8aac461be7c888ef4b39919041cf5625a"), looks := true }, told := true, laidByText := true, laidKinds := [.data, .data, .data, .sentinel, .sentinel], laidTests := true, laidLooks := .later, goes := false }
def FnEscapeRoundTripsRuneToldSaid : Prop := Claim7.holds Tryf.pinned (.plain (OpenSpec.ofChange fnEscapeRoundTripsRuneSpec)) fnEscapeRoundTripsRuneCard
/-- ITS FALSE NEIGHBOUR. Refute it at one input. -/
def FnEscapeRoundTripsRuneToldWrongFalsely : Prop := Claim7.holds Tryf.pinned (.plain (OpenSpec.ofChange fnEscapeRoundTripsRuneWrong)) fnEscapeRoundTripsRuneCard
end Rows
end Go.Proofs.Qxb6603632aFmt
