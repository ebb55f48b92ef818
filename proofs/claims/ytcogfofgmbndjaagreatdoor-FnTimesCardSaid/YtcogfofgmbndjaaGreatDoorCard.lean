/- The tied card of FnTimes is proved here: for every three byte slices (package variables as the text lays them) the law answers true. -/
import Derived.Test.YtcogfofgmbndjaaGreatDoorTie
import Derived.Test.YtcogfofgmbndjaaGreatDoorCards
import Derived.SevenTiedAt
import Derived.Test.YtcogfofgmbndjaaGreatDoorTBl
set_option maxRecDepth 100000
set_option maxHeartbeats 40000000
namespace Go.Proofs.YtcogfofgmbndjaaGreatDoor
open Go
theorem fnTimes_card:Rows.FnTimesCardSaid :=
 Claim7.holds_tied_plain_at .later [] [.widerDeep] true (true, "95e3ab516536e6697df2bd024e90148c605985587e18a1bc33ef0b1c359c31e1") false
  fnTimes_holds (fun _ h=>by cases h) (by kernel_rfl) (fun _ h=>by cases h) fnTimes_row_tie rfl ⟨rfl,rfl⟩ (by kernel_rfl) rfl
  (fun f fn hf hfn=>by
   obtain rfl : f = 3 := Option.some.inj ((show Tryz.prog.funcNamed "curveandscalars/laws.FnTimes" = some 3 by kernel_rfl).symm.trans hf) |>.symm
   obtain rfl:fn = Tryz.f3:=(Option.some.inj (Tryz.func3.symm.trans hfn)).symm
   exact ⟨by kernel_rfl,fun j t ht=>by
    rw [Tryz.params3] at ht
    have hm:t ∈ [22,22,22]:=by simpa using Array.mem_of_getElem? ht
    have hall:([22,22,22].all fun u=>!Tryz.prog.wantsStandIn u) = true:=by kernel_rfl
    exact (show Tryz.prog.wantsStandIn t = false by simpa using List.all_eq_true.1 hall t hm)⟩)
  (by kernel_rfl)
#print axioms fnTimes_card
end Go.Proofs.YtcogfofgmbndjaaGreatDoor
