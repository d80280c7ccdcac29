/-
  THE ROW OF FnVtStringText, joined.
-/
import Derived.Test.YtdcaigdhbbnfoaaGreatDoorRow
namespace Go.Proofs.YtdcaigdhbbnfoaaGreatDoor
open Go.ChangeShapes Go.WideShapes Go.ChangeAt Go.RowKit Go.Lib
open Go.ChangeMaps (open_string shut_string)

theorem heap_row (w w' : World) (_ : Array Value) (hh : w.heap = w'.heap) (h : laidMetH Tryz.prog laidT w) : laidMetH Tryz.prog laidT w' := h.of_heap hh
set_option maxRecDepth 100000 in
theorem shaped_row' (os : Os) (args : Array Value) : ((World.laidAll Tryz.prog os laidT).forCall (fun _ _ => 0) ⟨#[], args, []⟩).Shaped Tryz.checked.prog :=
  World.shaped_of_ZipB (by kernel_rfl) (by kernel_rfl)
theorem met_row (os : Os) (args : Array Value) : laidMetH Tryz.prog laidT ((World.laidAll Tryz.prog os laidT).forCall (fun _ _ => 0) ⟨#[], args, []⟩).memory := by
  rw [plain_row]; exact laidMet_laidAll _ (fits_row os) (ifaces_row os)

set_option maxRecDepth 100000 in
theorem lifted (os : Os) (started : os.Started) (H : Type) (enc : TypeId × Value → H) :
    ReturnsInHanded {} Tryz.checked os 3 .any (fun w args => (Rows.fnVtStringTextSpec.pre enc Tryz.prog Tryz.f3 [] false w args ∧ laidMetH Tryz.prog laidT w) ∧ sizedMet enc Tryz.prog Tryz.f3 (OpenSpec.ofChange Rows.fnVtStringTextSpec) false w args)
      (Rows.fnVtStringTextSpec.post enc Tryz.prog Tryz.f3 false true false false) := by
  refine returnsInHanded_of_change_and (C := Tryz.checked) (X := fun w _ => laidMetH Tryz.prog laidT w) (heap_row) own started (by kernel_rfl) Tryz.func3
    (ChangeSpec.witness_shaped (enc := enc) (C := Tryz.checked) (os := os) (X := fun w _ => laidMetH Tryz.prog laidT w) false (World.laidAll Tryz.prog os laidT) #[.string ⟨#[]⟩, .int .u8 0] 8 (World.laidAll_os _ _ _)
      (shaped_row' os _) (by kernel_rfl) (by kernel_rfl) (by kernel_rfl) (met_row os _)) ?_
  intro W base args ds gs before hval0 hW _ _ hL _
  have hval : ∀ (j : Nat) t v, Tryz.f3.params[j]? = some t → args[j]? = some v → Value.okWide Tryz.prog W .any base t v := hval0
  have hW' := hW
  obtain ⟨p, q, hA0, hV, rfl, _, _⟩ := hW
  have hA : DataW.TrodAll enc Tryz.prog W 0 (fun _ => true) true Tryz.f3.params.toList args.toList ds p := hA0
  rw [Tryz.params3] at hA hval
  obtain ⟨v0, v1, d0, d1, p0, p1, rfl, rfl, rfl, h0, h1⟩ := trodAll_two hA
  obtain ⟨rfl, rfl⟩ := trodVars_none hV
  obtain ⟨s, rfl, rfl, rfl, ws⟩ := open_string Tryz.underlying9 (hval 0 9 v0 rfl rfl) h0
  obtain ⟨x, rfl, rfl, rfl, wx⟩ := open_int Tryz.underlying5 (hval 1 5 v1 rfl rfl) h1
  simp only [List.append_nil] at hW'
  have hx : 0 ≤ x ∧ x ≤ 255 := by simpa [Lit.wf, IntKind.min, IntKind.max, IntKind.signed, IntKind.bits] using wx
  rw [plain_row] at hL
  obtain ⟨hU, hT⟩ := tables hL
  refine (law_any Lib.goPrintTabs s x W hx.1 hT hU).mono fun e W' ⟨he, hb⟩ => ?_
  subst he
  exact ⟨_, rfl, _, _, _, [], [], [], hW', trodAll_mk1 (shut_bool Tryz.underlying4 _), trodAll_mk2 (shut_string Tryz.underlying9 ws) (shut_int Tryz.underlying5 wx), rfl, hb.frame _, fun h => by cases h⟩

theorem holds : Rows.FnVtStringTextSaid :=
  OpenClaim.holds_of_wide 3 Tryz.f3 rfl rfl rfl rfl rfl rfl rfl ⟨rfl, rfl, rfl, rfl, rfl⟩ rfl rfl rfl rfl rfl (by kernel_rfl) Tryz.func3 (by kernel_rfl)
    (of_decide_eq_true (by kernel_rfl)) (by unfold Func.isWrapper; first | (rw [if_pos (by decide +kernel)]; kernel_rfl) | (rw [if_neg (by decide +kernel)]; exact ⟨rfl, rfl⟩))
    (fun os started H enc _ => lifted os started H enc)

end Go.Proofs.YtdcaigdhbbnfoaaGreatDoor
