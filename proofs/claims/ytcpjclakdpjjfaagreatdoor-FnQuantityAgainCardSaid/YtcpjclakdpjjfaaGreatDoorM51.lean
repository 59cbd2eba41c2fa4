/-
  FnQuantityAgain: for every string the law gives true, and the string reads behind the call as before (the listed package variables hold what the program lays; the card ties them to its text).
-/
import Derived.Test.YtcpjclakdpjjfaaGreatDoorM50
import Derived.Test.YtcpjclakdpjjfaaGreatDoorM49
import Derived.Test.YtcpjclakdpjjfaaGreatDoorTie
import Derived.Test.YtcpjclakdpjjfaaGreatDoorCards
import Derived.SevenTiedAt
import Derived.Stop.Joined
namespace Go.Proofs.YtcpjclakdpjjfaaGreatDoor
open Go

theorem closed : joinedFacts Tryz.prog 3 Tryz.f3 Rows.fnQuantityAgainSpec Rows.fnQuantityAgainRow = true := by
  unfold joinedFacts
  rw [jf0, jf1, jf2, jf3, jf4, jf5, jf6, jf7, jf8, jf9, jf10, jf11, jf12, jf13, jf14, jf15, jf16, jf17, jf18, jf19, jf20, jf21, jf22, jf23, jf24, jf25, jf26, jf27, jf29, jf30, jf31]
  kernel_rfl
end Go.Proofs.YtcpjclakdpjjfaaGreatDoor

namespace Go.Proofs.YtcpjclakdpjjfaaGreatDoor
open Go.ChangeShapes Go.WideShapes Go.ChangeAt Go.RowKit

theorem fnNamed : Tryz.pinned.checked.prog.funcNamed Rows.fnQuantityAgainRow.func = some 3 := by kernel_rfl

theorem row_holds : Rows.FnQuantityAgainSaid :=
  OpenClaim.holds_of_wide 3 Tryz.f3 rfl rfl rfl rfl rfl rfl rfl ⟨rfl, rfl, rfl, rfl, rfl⟩ rfl rfl rfl rfl rfl fnNamed Tryz.func3 closed
    (of_decide_eq_true (by kernel_rfl)) (by unfold Func.isWrapper; first | (rw [if_pos (by decide +kernel)]; kernel_rfl) | (rw [if_neg (by decide +kernel)]; exact ⟨rfl, rfl⟩))
    (fun os started H enc _ => lifted os started H enc)

theorem card_holds : Rows.FnQuantityAgainCardSaid :=
  Claim7.holds_tied_plain_at .later [] [.data, .data, .data, .data, .sentinel, .sentinel, .sentinel, .sentinel, .sentinel, .data, .data, .data, .data, .data, .sentinel, .sentinel, .sentinel, .pinned] true (true, "058fa4399f897c46979934594a86f8196fe891035819527c3716f48e96932f52") true row_holds (fun _ h => by cases h) (by kernel_rfl) (fun _ h => by cases h) fnQuantityAgain_row_tie rfl ⟨rfl, rfl⟩ (by kernel_rfl) rfl
    (fun f fn hf hfn => by
      obtain rfl : f = 3 := Option.some.inj ((show Tryz.prog.funcNamed "pub-stockroom/laws.FnQuantityAgain" = some 3 by kernel_rfl).symm.trans hf) |>.symm
      obtain rfl : fn = Tryz.f3 := (Option.some.inj (Tryz.func3.symm.trans hfn)).symm
      exact ⟨by kernel_rfl, fun j t ht => by
        rw [Tryz.params3] at ht
        have hm : t ∈ [9] := by simpa using Array.mem_of_getElem? ht
        have hall : ([9].all fun u => !Tryz.prog.wantsStandIn u) = true := by kernel_rfl
        exact (show Tryz.prog.wantsStandIn t = false by simpa using List.all_eq_true.1 hall t hm)⟩)
    (by kernel_rfl)
#print axioms card_holds
end Go.Proofs.YtcpjclakdpjjfaaGreatDoor

