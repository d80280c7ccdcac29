/-
  THE TIED CARD OF FnVtSigsEntry: at every key and every value the law returns true and both read as before, the listed variables tied to the program's text.
  Conditions: none beyond the given statement.
-/
import Derived.Test.YtbnbadcnfchdhaaGreatDoorP45
import Derived.Test.YtbnbadcnfchdhaaGreatDoorCards
import Derived.Test.YtbnbadcnfchdhaaGreatDoorTie
import Derived.SevenTiedAt
set_option maxRecDepth 100000
set_option maxHeartbeats 16000000
set_option linter.all false
namespace Go.Proofs.YtbnbadcnfchdhaaGreatDoor
section
open Go
theorem card_holds:Rows.FnVtSigsEntryCardSaid:=
 Claim7.holds_tied_plain_at .later [] [.data,.data,.widerDeep,.widerDeep,.data,.data,.data,.data,.data,.data,.sentinel,.sentinel,.sentinel,.sentinel,.pinned,.pinned,.pinned] true (true, "bf46af161ea00f8f851d369d7df13c46e462a61da0bec224f38407a790d851e3") true
  holds (fun _ h=>by cases h) (by kernel_rfl) (fun _ h=>by cases h) fnVtSigsEntry_row_tie rfl ⟨rfl,rfl⟩ (by kernel_rfl) rfl
  (fun f fn hf hfn=>by
   obtain rfl:f=3:=Option.some.inj ((show Tryz.prog.funcNamed "pub-barouche/laws.FnVtSigsEntry" = some 3 by kernel_rfl).symm.trans hf) |>.symm
   obtain rfl:fn=Tryz.f3:=(Option.some.inj (Tryz.func3.symm.trans hfn)).symm
   exact⟨by kernel_rfl,fun j t ht=>by
    rw[Tryz.params3] at ht
    have hm:t∈[9,9]:=by simpa using Array.mem_of_getElem? ht
    have hall:([9,9].all fun u=>!Tryz.prog.wantsStandIn u)=true:=by kernel_rfl
    exact(show Tryz.prog.wantsStandIn t=false by simpa using List.all_eq_true.1 hall t hm)⟩)
  (by kernel_rfl)
#print axioms card_holds
end
end Go.Proofs.YtbnbadcnfchdhaaGreatDoor
