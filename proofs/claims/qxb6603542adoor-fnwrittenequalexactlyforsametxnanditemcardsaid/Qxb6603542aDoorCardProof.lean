/-
  THE TIED CARD of FnWrittenEqualExactlyForSameTxnAndItem: the proved row and the given tie, closed by the builder's one call.
-/
import Derived.Test.Qxb6603542aDoorLifted
import Derived.Test.Qxb6603542aDoorTie
import Derived.Test.Qxb6603542aDoorCards
import Derived.SevenTiedAt
namespace Go.Proofs.Qxb6603542aDoor
open Go

theorem fname : Tryd.prog.funcNamed Rows.fnWrittenEqualExactlyForSameTxnAndItemRow.func = some 3 := by kernel_rfl
theorem noStand : ([9, 3, 3, 9, 3, 3, 9].all fun u => !Tryd.prog.wantsStandIn u) = true := by kernel_rfl

theorem card_holds : Rows.FnWrittenEqualExactlyForSameTxnAndItemCardSaid :=
  Claim7.holds_tied_plain_at .later [] [.data, .data, .data] true Rows.fnWrittenEqualExactlyForSameTxnAndItemCard.stood.harness false
    row_holds (fun _ h => by cases h) (by kernel_rfl) (fun _ h => by cases h) fnWrittenEqualExactlyForSameTxnAndItem_row_tie rfl ⟨rfl, rfl⟩ (by kernel_rfl) rfl
    (fun f fn hf hfn => by
      obtain rfl : f = 3 := Option.some.inj (fname.symm.trans hf) |>.symm
      obtain rfl : fn = Tryd.f3 := (Option.some.inj (Tryd.func3.symm.trans hfn)).symm
      exact ⟨by kernel_rfl, fun j t ht => by
        rw [Tryd.params3] at ht
        have hm : t ∈ [9, 3, 3, 9, 3, 3, 9] := by simpa using Array.mem_of_getElem? ht
        exact (show Tryd.prog.wantsStandIn t = false by simpa using List.all_eq_true.1 noStand t hm)⟩)
    (by kernel_rfl)
end Go.Proofs.Qxb6603542aDoor
