/-
  THE ROW OF FnVtStringText: at every text and every byte the law returns true and both read as they read before; the sixteen listed tables read as the row lists them.
-/
import Derived.Test.YtdcaigdhbbnfoaaGreatDoorAny
import Derived.Test.YtdcaigdhbbnfoaaGreatDoorRows
import Derived.ProofKit
import Derived.PinnedBridge
import Derived.Lay
import Derived.LaidOnce
import Derived.Lib.LaidU8
import Derived.Lib.LaidPrint
namespace Go.Proofs.YtdcaigdhbbnfoaaGreatDoor
open Go.ChangeShapes Go.WideShapes Go.ChangeAt Go.RowKit Go.Lib

theorem own : ownKnob Tryz.prog.godebug = none := by kernel_rfl
noncomputable def laidT : List (String × DataW Unit) := Rows.fnVtStringTextRow.laid

set_option maxRecDepth 100000 in
theorem fits_row (os : Os) : (World.holding Tryz.prog os ⟨#[], #[], []⟩).layFits Tryz.prog laidT [] = true := by kernel_rfl
set_option maxRecDepth 100000 in
theorem ifaces_row (os : Os) : (World.holding Tryz.prog os ⟨#[], #[], []⟩).layIfaces Tryz.prog laidT (World.laidAll Tryz.prog os laidT) = true := by kernel_rfl
set_option maxRecDepth 100000 in
theorem plain_row (w : World) : laidMetH Tryz.prog laidT w = laidMet Tryz.prog laidT w := MakeChecks.laidMetH_plain _ _ _ (by kernel_rfl)

theorem xU : U8Extra Tryz.prog Tryz.lays177_ren := ⟨by kernel_rfl, by kernel_rfl, by kernel_rfl, by kernel_rfl, by kernel_rfl, by kernel_rfl, by kernel_rfl⟩
theorem xP : PrintExtra Tryz.prog Tryz.lays177_ren := ⟨by kernel_rfl, by kernel_rfl, by kernel_rfl, by kernel_rfl, by kernel_rfl, by kernel_rfl, by kernel_rfl, by kernel_rfl, by kernel_rfl, by kernel_rfl⟩

/-- The tables that the walk asks for, off what the row lists. -/
theorem tables {W : World} (hL : laidMet Tryz.prog laidT W) : Lib.Utf8Tabs 2 3 W ∧ Lib.PrintTabsAt 6 7 8 9 Lib.goPrintTabs W := by
  have hR : ∀ (n : String) (d : DataW Unit), (n, d) ∈ laidT → VarReads Tryz.prog W n d := fun n d h => Lib.laidMet.reads hL h
  have h1 : VarReads Tryz.prog W "unicode/utf8.first" Lib.firstData := Pinned.utf8First_eq ▸ hR _ _ (by simp [laidT, Rows.fnVtStringTextRow, Rows.laid_unicode_utf8_first])
  have h2 : VarReads Tryz.prog W "unicode/utf8.acceptRanges" Lib.acceptData := hR _ Rows.laid_unicode_utf8_acceptRanges (by simp [laidT, Rows.fnVtStringTextRow])
  have h3 : VarReads Tryz.prog W "strconv.isPrint16" (sliceData .u16 goPrintTabs.p16) := Pinned.isPrint16_eq ▸ hR _ _ (by simp [laidT, Rows.fnVtStringTextRow, Rows.laid_strconv_isPrint16])
  have h4 : VarReads Tryz.prog W "strconv.isNotPrint16" (sliceData .u16 goPrintTabs.n16) := Pinned.isNotPrint16_eq ▸ hR _ _ (by simp [laidT, Rows.fnVtStringTextRow, Rows.laid_strconv_isNotPrint16])
  have h5 : VarReads Tryz.prog W "strconv.isPrint32" (sliceData .u32 goPrintTabs.p32) := Pinned.isPrint32_eq ▸ hR _ _ (by simp [laidT, Rows.fnVtStringTextRow, Rows.laid_strconv_isPrint32])
  have h6 : VarReads Tryz.prog W "strconv.isNotPrint32" (sliceData .u16 goPrintTabs.n32) := Pinned.isNotPrint32_eq ▸ hR _ _ (by simp [laidT, Rows.fnVtStringTextRow, Rows.laid_strconv_isNotPrint32])
  exact ⟨utf8Tabs_of_reads (ρ := Tryz.lays177_ren) { Tryz.lays177 with } xU h1 h2, printTabs_of_reads (ρ := Tryz.lays177_ren) { Tryz.lays177 with } xP h3 h4 h5 h6⟩


end Go.Proofs.YtdcaigdhbbnfoaaGreatDoor
