/- laws.FnBack is proved: called on any number, any slice of bytes and any bool, the law returns true, and the arguments and the named variables read behind the call as they did before. Conditions: those of the given row and card alone (the listed package-level variables hold what the row lists when the call begins). Part 54 of 54. -/
import Derived.Test.YtnbbppjgamdfeaaGreatDoorY53
import Derived.Test.YtnbbppjgamdfeaaGreatDoorTie
import Derived.Test.YtnbbppjgamdfeaaGreatDoorCards
import Derived.SevenTiedAt

/- laws.FnBack: the tied card over the row. No conditions beyond the card's own. -/
section
set_option linter.unusedVariables false
namespace Go.Proofs.YtnbbppjgamdfeaaGreatDoor
open Go

theorem fnBack_card : Rows.FnBackCardSaid :=
  Claim7.holds_tied_plain_at .later [] [.handle, .sentinel, .sentinel, .sentinel, .sentinel, .data, .sentinel, .sentinel, .data, .data] true (true, "617644c880a57c84265a8d53685ba8ba4d78126bfda51847d39b14333215142c") true
    fnBack_holds (fun _ h => by cases h) (by kernel_rfl) (fun _ h => by cases h) fnBack_row_tie rfl ⟨rfl, rfl⟩ (by kernel_rfl) rfl
    (fun f fn hf hfn => by
      obtain rfl : f = 3 := Option.some.inj ((show Tryz.prog.funcNamed "loop.example/pub-g03471/laws.FnBack" = some 3 by kernel_rfl).symm.trans hf) |>.symm
      obtain rfl : fn = Tryz.f3 := (Option.some.inj (Tryz.func3.symm.trans hfn)).symm
      exact ⟨by kernel_rfl, fun j t ht => by
        rw [Tryz.params3] at ht
        have h3 : t = 22 ∨ t = 23 ∨ t = 4 := by
          rcases j with _ | _ | _ | j
          · exact .inl (by simpa using ht.symm)
          · exact .inr (.inl (by simpa using ht.symm))
          · exact .inr (.inr (by simpa using ht.symm))
          · simp at ht
        rcases h3 with rfl | rfl | rfl
        · exact (show Tryz.prog.wantsStandIn 22 = false by kernel_rfl)
        · exact (show Tryz.prog.wantsStandIn 23 = false by kernel_rfl)
        · exact (show Tryz.prog.wantsStandIn 4 = false by kernel_rfl)⟩)
    (by kernel_rfl)
end Go.Proofs.YtnbbppjgamdfeaaGreatDoor
end
