/- The tied card over the row that is proved. -/
import Derived.Test.YtaphagdbekmngaaGreatDoorProof
import Derived.Test.YtaphagdbekmngaaGreatDoorTie
import Derived.Test.YtaphagdbekmngaaGreatDoorCards
import Derived.SevenTiedAt
namespace Go.Proofs.YtaphagdbekmngaaGreatDoor
open Go

theorem f_card : Rows.FnNamesWholeCardSaid :=
  Claim7.holds_tied_plain_at .later [] [.data, .data, .data] true (true, "337fdd3ebee1b75c657a60d14c75f695889790c8a7d61ca1c9438eeadafd8128") true
    f_holds (fun _ h => by cases h) (by kernel_rfl) (fun _ h => by cases h) fnNamesWhole_row_tie rfl ⟨rfl, rfl⟩ (by kernel_rfl) rfl
    (fun f fn hf hfn => by
      obtain rfl : f = 3 := Option.some.inj ((show Tryz.prog.funcNamed "loop.example/pub-metricscripts/laws.FnNamesWhole" = some 3 by kernel_rfl).symm.trans hf) |>.symm
      obtain rfl : fn = Tryz.f3 := (Option.some.inj (Tryz.func3.symm.trans hfn)).symm
      exact ⟨by kernel_rfl, fun j t ht => by
        rw [Tryz.params3] at ht
        have h22 : t = 22 := by
          rcases j with _ | j
          · simpa using ht.symm
          · simp at ht
        subst h22
        exact (show Tryz.prog.wantsStandIn 22 = false by kernel_rfl)⟩)
    (by kernel_rfl)
#print axioms f_card
end Go.Proofs.YtaphagdbekmngaaGreatDoor
