/- laws.FnMasterLoose, tied card: for every list, number and choice the law answers true, and the list reads afterwards as it read before; the eight listed package variables start as the program's text lays them. -/
import Derived.Test.YtlghdacdpkaoeaaGreatDoorK49
import Derived.Test.YtlghdacdpkaoeaaGreatDoorCards
import Derived.Test.YtlghdacdpkaoeaaGreatDoorTie
import Derived.SevenTiedAt
namespace Go.Proofs.YtlghdacdpkaoeaaGreatDoor
open Go
theorem card_holds : Rows.FnMasterLooseCardSaid :=
  Claim7.holds_tied_plain_at .later [] [.data, .data, .widerDeep, .data, .data, .sentinel, .data, .data] true (true, "0bbbd781aae41ab7fc3483bd95fc1ecbbdcb9e635facdba8ec0a526c439910e0") true
    fnMasterLoose_holds (fun _ h => by cases h) (by kernel_rfl) (fun _ h => by cases h) fnMasterLoose_row_tie rfl ⟨rfl, rfl⟩ (by kernel_rfl) rfl
    (fun f fn hf hfn => by
      obtain rfl : f = 3 := Option.some.inj ((show Tryz.prog.funcNamed "loop.example/pub-g03455/laws.FnMasterLoose" = some 3 by kernel_rfl).symm.trans hf) |>.symm
      obtain rfl : fn = Tryz.f3 := (Option.some.inj (Tryz.func3.symm.trans hfn)).symm
      exact ⟨by kernel_rfl, fun j t ht => by
        rw [Tryz.params3] at ht
        have hm : t ∈ [22, 23, 4] := by simpa using Array.mem_of_getElem? ht
        have hall : ([22, 23, 4].all fun u => !Tryz.prog.wantsStandIn u) = true := by kernel_rfl
        exact (show Tryz.prog.wantsStandIn t = false by simpa using List.all_eq_true.1 hall t hm)⟩)
    (by kernel_rfl)
end Go.Proofs.YtlghdacdpkaoeaaGreatDoor
