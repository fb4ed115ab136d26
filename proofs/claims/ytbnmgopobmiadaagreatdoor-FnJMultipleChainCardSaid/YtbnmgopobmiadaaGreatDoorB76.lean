/- FnJMultipleChain's tied card: a multiple of a multiple of a number is a multiple of it, each number is a multiple of itself, the multiples of 1 are the whole numbers: for every three texts; the listed package-level variables are tied to the program's text. -/
import Derived.Test.YtbnmgopobmiadaaGreatDoorB75
import Derived.Test.YtbnmgopobmiadaaGreatDoorTie
import Derived.Test.YtbnmgopobmiadaaGreatDoorCards
import Derived.SevenTiedAt

set_option linter.unusedSimpArgs false
set_option linter.unusedVariables false

namespace Go.Proofs.YtbnmgopobmiadaaGreatDoor
open Go

theorem fnJMultipleChain_card_holds : Rows.FnJMultipleChainCardSaid :=
  Claim7.holds_tied_plain_at .later [] [.data, .data, .data, .sentinel, .sentinel, .sentinel, .sentinel, .sentinel, .data, .data, .data, .data] true (true, "4605849c799ff321af35a5062b4a5dbed6d699ca8dbfc7ec51589d2640d03768") true
    fnJMultipleChain_holds (fun _ h => by cases h) (by kernel_rfl) (fun _ h => by cases h) fnJMultipleChain_row_tie rfl ⟨rfl, rfl⟩ (by kernel_rfl) rfl
    (fun f fn hf hfn => by
      obtain rfl : f = 3 := Option.some.inj ((show Tryz.prog.funcNamed "given.example/pub-querent/laws.FnJMultipleChain" = some 3 by kernel_rfl).symm.trans hf) |>.symm
      obtain rfl : fn = Tryz.f3 := (Option.some.inj (Tryz.func3.symm.trans hfn)).symm
      exact ⟨by kernel_rfl, fun j t ht => by
        rw [Tryz.params3] at ht
        have hm : t ∈ [9, 9, 9] := by simpa using Array.mem_of_getElem? ht
        have hall : ([9, 9, 9].all fun u => !Tryz.prog.wantsStandIn u) = true := by kernel_rfl
        exact (show Tryz.prog.wantsStandIn t = false by simpa using List.all_eq_true.1 hall t hm)⟩)
    (by kernel_rfl)
#print axioms fnJMultipleChain_card_holds
end Go.Proofs.YtbnmgopobmiadaaGreatDoor
