/- THE TIED CARD of 'laws.FnStepCue': the row holds and what it lists of package-level variables is tied to the program's text. No further condition. -/
import Derived.Test.YtbehijhpichniaaDoorCards
import Derived.Test.YtbehijhpichniaaDoorTie
import Derived.Test.YtbehijhpichniaaDoorStepCue
import Derived.SevenTiedAt
namespace Go.Proofs.YtbehijhpichniaaDoor
open Go

theorem fnStepCue_card : Rows.FnStepCueCardSaid :=
  Claim7.holds_tied_plain_at .later [] [.sentinel, .sentinel] true (true, "70ed548412652bb836024a397a3fc4448f51a5cc568202cc36c2ff59c6dc4c6f") false
    fnStepCue_holds (fun _ h => by cases h) (by kernel_rfl) (fun _ h => by cases h) fnStepCue_row_tie rfl ⟨rfl, rfl⟩ (by kernel_rfl) rfl
    (fun f fn hf hfn => by
      obtain rfl : f = 3 := Option.some.inj ((show Tryd.prog.funcNamed "loop.example/pub-g03455/laws.FnStepCue" = some 3 by kernel_rfl).symm.trans hf) |>.symm
      obtain rfl : fn = Tryd.f3 := (Option.some.inj (Tryd.func3.symm.trans hfn)).symm
      exact ⟨by kernel_rfl, fun j t ht => by
        rw [Tryd.params3] at ht
        have hm : t ∈ [5, 22] := by simpa using Array.mem_of_getElem? ht
        have hall : ([5, 22].all fun u => !Tryd.prog.wantsStandIn u) = true := by kernel_rfl
        exact (show Tryd.prog.wantsStandIn t = false by simpa using List.all_eq_true.1 hall t hm)⟩)
    (by kernel_rfl)
#print axioms fnStepCue_card
end Go.Proofs.YtbehijhpichniaaDoor
