/- THE TIED CARD of IdentMakeISIN: the row, with what it lists tied to the program's text. -/
import Derived.Test.YtiibgimanfkhdaaDoorProof
import Derived.Test.YtiibgimanfkhdaaDoorTie
import Derived.Test.YtiibgimanfkhdaaDoorCards
import Derived.SevenTiedAt
namespace Go.Proofs.YtiibgimanfkhdaaDoor
open Go

theorem identMakeISIN_card_holds : Rows.IdentMakeISINCardSaid :=
  Claim7.holds_tied_plain_at .later [] [.data, .data, .data, .funcsDeep] true (true, "1ed56c1397328037338d5eb26c9193f87f45048966f473b1b4baeac273353ad8") false
    identMakeISIN_holds (fun _ h => by cases h) (by kernel_rfl) (fun _ h => by cases h) identMakeISIN_row_tie rfl ⟨rfl, rfl⟩ (by kernel_rfl) rfl
    (fun f fn hf hfn => by
      obtain rfl : f = 3 := Option.some.inj ((show Tryd.prog.funcNamed "giro/girolaw05.IdentMakeISIN" = some 3 by kernel_rfl).symm.trans hf) |>.symm
      obtain rfl : fn = Tryd.f3 := (Option.some.inj (Tryd.func3.symm.trans hfn)).symm
      exact ⟨by kernel_rfl, fun j t ht => by
        rw [Tryd.params3] at ht
        have hm : t ∈ [9, 9] := by simpa using Array.mem_of_getElem? ht
        have hall : ([9, 9].all fun u => !Tryd.prog.wantsStandIn u) = true := by kernel_rfl
        exact (show Tryd.prog.wantsStandIn t = false by simpa using List.all_eq_true.1 hall t hm)⟩)
    (by kernel_rfl)
#print axioms identMakeISIN_card_holds
end Go.Proofs.YtiibgimanfkhdaaDoor
