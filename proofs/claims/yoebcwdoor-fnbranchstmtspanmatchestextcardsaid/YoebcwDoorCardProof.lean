/-
  THE TIED CARD of FnBranchStmtSpanMatchesText, out of its row and the given tie.
-/
import Derived.Test.YoebcwDoorRowProof
import Derived.Test.YoebcwDoorTie
import Derived.Test.YoebcwDoorCards
import Derived.SevenTiedAt
namespace Go.Proofs.YoebcwDoor
open Go

theorem card_proved : Rows.FnBranchStmtSpanMatchesTextCardSaid :=
  Claim7.holds_tied_plain_at .later [] [.data, .data, .data, .data] true Rows.fnBranchStmtSpanMatchesTextCard.stood.harness false
    row_holds (fun _ h => by cases h) (by kernel_rfl) (fun _ h => by cases h) fnBranchStmtSpanMatchesText_row_tie rfl ⟨rfl, rfl⟩ (by kernel_rfl) rfl
    (fun f fn hf hfn => by
      obtain rfl : f = 3 := Option.some.inj ((show Ebcg.prog.funcNamed Rows.fnBranchStmtSpanMatchesTextRow.func = some 3 by kernel_rfl).symm.trans hf) |>.symm
      obtain rfl : fn = Ebcg.f3 := (Option.some.inj (Ebcg.func3.symm.trans hfn)).symm
      exact ⟨by kernel_rfl, fun j t ht => by
        rw [Ebcg.params3] at ht
        have hm : t ∈ [4, 4, 9, 3] := by simpa using Array.mem_of_getElem? ht
        have hall : ([4, 4, 9, 3].all fun u => !Ebcg.prog.wantsStandIn u) = true := by kernel_rfl
        exact (show Ebcg.prog.wantsStandIn t = false by simpa using List.all_eq_true.1 hall t hm)⟩)
    (by kernel_rfl)
end Go.Proofs.YoebcwDoor
