/-
  THE TOLD AND TIED CARD of FnNamedTwiceWrapsErrGroup: the row out of its walk and the given tie, closed by the builder's one call.
-/
import Derived.Test.Qxb6603632aFmtLifted
import Derived.Test.Qxb6603632aFmtTie
import Derived.Test.Qxb6603632aFmtCards
import Derived.SevenTiedAt
namespace Go.Proofs.Qxb6603632aFmt
open Go Go.Extern.Stop Go.Stop Go.Extern

theorem laidOut : laidOutB Tryf.pinned.checked.prog = true := by kernel_rfl
theorem stopsAre : Rows.fnNamedTwiceWrapsErrGroupRow.stops = Tryf.pinned.checked.prog.stops := by kernel_rfl
theorem stopKnobs : Tryf.pinned.checked.prog.stopKnobs = [] := by kernel_rfl
theorem quietHere (os : Os) : Stop.quiet Tryf.pinned.checked.prog os := by
  intro k hk
  rw [stopKnobs] at hk
  cases hk

theorem card_holds : Rows.FnNamedTwiceWrapsErrGroupToldSaid :=
  Claim7.holds_of_told_tied_any_at .later 3 Tryf.f3 (Rows.fnNamedTwiceWrapsErrGroupRow.stops.headD default) [] [] Rows.fnNamedTwiceWrapsErrGroupCard.stood.harness true false [.sentinel, .sentinel] true
    (by kernel_rfl) rfl rfl rfl laidOut (by kernel_rfl) rfl ⟨rfl, rfl, rfl, rfl, rfl, rfl, rfl⟩ rfl rfl (by kernel_rfl) (by kernel_rfl) Tryf.func3 (by kernel_rfl)
    (of_decide_eq_true (by kernel_rfl)) (of_decide_eq_true (by kernel_rfl)) stopsAre rfl stopKnobs.symm (by kernel_rfl)
    (by kernel_rfl) (by kernel_rfl) (by kernel_rfl) (by kernel_rfl) (by kernel_rfl) (by kernel_rfl) (by kernel_rfl) (by kernel_rfl) (by kernel_rfl) rfl (by kernel_rfl) rfl rfl
    rfl rfl
    rfl (by kernel_rfl) (by kernel_rfl) (by kernel_rfl) (by decide) (by kernel_rfl) fnNamedTwiceWrapsErrGroup_row_tie
    (OpenClaim.moreEntering_of (by kernel_rfl) (by kernel_rfl) (by kernel_rfl) (by kernel_rfl) (by kernel_rfl) (by kernel_rfl) (by kernel_rfl) (by kernel_rfl) (by kernel_rfl) (by kernel_rfl))
    ⟨_, WideRow.started_initial, quietHere _⟩
    (fun os started _ H enc _ => lifted os started H enc)
end Go.Proofs.Qxb6603632aFmt
