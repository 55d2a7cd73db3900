import Derived.Test.YoedawDoorBalRow
import Derived.Test.YoedawDoorCards
import Derived.SevenTiedAt
namespace Go.Proofs.YoedawDoor
open Go

/-- THE STATEMENT: the tied card. -/
theorem bal_card : Rows.FnBinaryExprStringBalancedAndShapeVisibleCardSaid :=
  Claim7.holds_tied_plain_at .later [] [.data, .data, .data, .data] true (true, "825cb059c29ae276dcfcabaf371d1116ca0ca6c6fd9a87a1520629e41b442c40") false
    bal_holds (fun _ h => by cases h) (by kernel_rfl) (fun _ h => by cases h) fnBinaryExprStringBalancedAndShapeVisible_row_tie rfl ⟨rfl, rfl⟩ (by kernel_rfl) rfl
    (fun f fn hf hfn => by
      obtain rfl : f = 4 := Option.some.inj ((show Edag.prog.funcNamed Rows.fnBinaryExprStringBalancedAndShapeVisibleRow.func = some 4 by kernel_rfl).symm.trans hf) |>.symm
      obtain rfl : fn = Edag.f4 := (Option.some.inj (Edag.func4.symm.trans hfn)).symm
      exact ⟨by kernel_rfl, fun j t ht => by
        rw [Edag.params4] at ht
        have hm : t ∈ [22, 23] := by simpa using Array.mem_of_getElem? ht
        have hall : ([22, 23].all fun u => !Edag.prog.wantsStandIn u) = true := by kernel_rfl
        exact (show Edag.prog.wantsStandIn t = false by simpa using List.all_eq_true.1 hall t hm)⟩)
    (by kernel_rfl)
end Go.Proofs.YoedawDoor
