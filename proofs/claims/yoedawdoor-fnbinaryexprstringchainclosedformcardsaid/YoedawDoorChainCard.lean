import Derived.Test.YoedawDoorChainRow
import Derived.Test.YoedawDoorCards
import Derived.SevenTiedAt
namespace Go.Proofs.YoedawDoor
open Go

/-- THE STATEMENT: the tied card. -/
theorem chain_card : Rows.FnBinaryExprStringChainClosedFormCardSaid :=
  Claim7.holds_tied_plain_at .later [] [.data, .data, .data, .data] true (true, "825cb059c29ae276dcfcabaf371d1116ca0ca6c6fd9a87a1520629e41b442c40") false
    chain_holds (fun _ h => by cases h) (by kernel_rfl) (fun _ h => by cases h) fnBinaryExprStringChainClosedForm_row_tie rfl ⟨rfl, rfl⟩ (by kernel_rfl) rfl
    (fun f fn hf hfn => by
      obtain rfl : f = 3 := Option.some.inj ((show Edag.prog.funcNamed Rows.fnBinaryExprStringChainClosedFormRow.func = some 3 by kernel_rfl).symm.trans hf) |>.symm
      obtain rfl : fn = Edag.f3 := (Option.some.inj (Edag.func3.symm.trans hfn)).symm
      exact ⟨by kernel_rfl, fun j t ht => by
        rw [Edag.params3] at ht
        have hm : t ∈ [22, 23, 4] := by simpa using Array.mem_of_getElem? ht
        have hall : ([22, 23, 4].all fun u => !Edag.prog.wantsStandIn u) = true := by kernel_rfl
        exact (show Edag.prog.wantsStandIn t = false by simpa using List.all_eq_true.1 hall t hm)⟩)
    (by kernel_rfl)
end Go.Proofs.YoedawDoor
