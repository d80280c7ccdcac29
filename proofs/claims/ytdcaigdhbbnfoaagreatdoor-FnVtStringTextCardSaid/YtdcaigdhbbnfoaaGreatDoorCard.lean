/-
  THE TIED CARD OF FnVtStringText: at every text and every byte the law returns true and both read as before, the sixteen listed variables tied to the program's text.
  Conditions: none beyond the given statement.
-/
import Derived.Test.YtdcaigdhbbnfoaaGreatDoorRowB
import Derived.Test.YtdcaigdhbbnfoaaGreatDoorTie
import Derived.Test.YtdcaigdhbbnfoaaGreatDoorCards
import Derived.SevenTiedAt
namespace Go.Proofs.YtdcaigdhbbnfoaaGreatDoor
open Go

theorem card_holds : Rows.FnVtStringTextCardSaid :=
  Claim7.holds_tied_plain_at .later [] [.data, .data, .data, .data, .data, .sentinel, .sentinel, .sentinel, .pinned, .pinned, .pinned, .pinned, .pinned, .pinned, .pinned, .pinned] true (true, "a5c63689cff359e101e3d444f76e8899f7074accd39ed70f20aa3a649ec4e807") true
    holds (fun _ h => by cases h) (by kernel_rfl) (fun _ h => by cases h) fnVtStringText_row_tie rfl ⟨rfl, rfl⟩ (by kernel_rfl) rfl
    (fun f fn hf hfn => by
      obtain rfl : f = 3 := Option.some.inj ((show Tryz.prog.funcNamed "pub-barouche/laws.FnVtStringText" = some 3 by kernel_rfl).symm.trans hf) |>.symm
      obtain rfl : fn = Tryz.f3 := (Option.some.inj (Tryz.func3.symm.trans hfn)).symm
      exact ⟨by kernel_rfl, fun j t ht => by
        rw [Tryz.params3] at ht
        have hm : t ∈ [9, 5] := by simpa using Array.mem_of_getElem? ht
        have hall : ([9, 5].all fun u => !Tryz.prog.wantsStandIn u) = true := by kernel_rfl
        exact (show Tryz.prog.wantsStandIn t = false by simpa using List.all_eq_true.1 hall t hm)⟩)
    (by kernel_rfl)

#print axioms card_holds
end Go.Proofs.YtdcaigdhbbnfoaaGreatDoor
