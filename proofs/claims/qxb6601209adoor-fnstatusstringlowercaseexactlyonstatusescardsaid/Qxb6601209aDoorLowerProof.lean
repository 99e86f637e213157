/-
  THE TIED CARD 'Rows.FnStatusStringLowerCaseExactlyOnStatusesCardSaid' PROVED: the row's statement (Qxb6601209aDoorProved), the given tie (Qxb6601209aDoorTie), the builder's one call (after the guide's ToyasCard, MapyCard).
-/
import Derived.Test.Qxb6601209aDoorProved
import Derived.Test.Qxb6601209aDoorTie
import Derived.Test.Qxb6601209aDoorCards
import Derived.SevenTiedAt
namespace Go.Proofs.Qxb6601209aDoor
open Go

theorem lower_card : Rows.FnStatusStringLowerCaseExactlyOnStatusesCardSaid :=
  Claim7.holds_tied_plain_at .later [] [.data, .data, .data] true (true, "ac8aae351603dbf5317e0c61b57d85b6fafa2e6f75595427014e6edca852ddaf") false
    fnStatusStringLowerCaseExactlyOnStatuses_holds (fun _ h => by cases h) (by kernel_rfl) (fun _ h => by cases h) fnStatusStringLowerCaseExactlyOnStatuses_row_tie rfl ⟨rfl, rfl⟩ (by kernel_rfl) rfl
    (fun f fn hf hfn => by
      obtain rfl : f = 4 := Option.some.inj ((show Tryd.prog.funcNamed Rows.fnStatusStringLowerCaseExactlyOnStatusesRow.func = some 4 by kernel_rfl).symm.trans hf) |>.symm
      obtain rfl : fn = Tryd.f4 := (Option.some.inj (Tryd.func4.symm.trans hfn)).symm
      exact ⟨by kernel_rfl, fun j t ht => by
        rw [Tryd.params4] at ht
        have hm : t ∈ [5] := by simpa using Array.mem_of_getElem? ht
        have hall : ([5].all fun u => !Tryd.prog.wantsStandIn u) = true := by kernel_rfl
        exact (show Tryd.prog.wantsStandIn t = false by simpa using List.all_eq_true.1 hall t hm)⟩)
    (by kernel_rfl)

end Go.Proofs.Qxb6601209aDoor
