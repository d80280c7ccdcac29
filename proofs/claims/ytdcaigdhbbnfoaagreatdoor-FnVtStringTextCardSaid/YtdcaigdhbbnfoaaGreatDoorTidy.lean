/-
  WALKS: the reference's spec.ValidString, tidy and Tidy end at a string, an object path and a signature (whatever they answer).
-/
import Derived.Test.YtdcaigdhbbnfoaaGreatDoorShelf
import Derived.Test.YtdcaigdhbbnfoaaGreatDoorSpecEnds
import Derived.WalkKit
import Derived.WalkSpells
import Derived.WalkLawsBesides
import Derived.Deep.DeepFit
import Derived.Lib.Hide
namespace Go.Proofs.YtdcaigdhbbnfoaaGreatDoor
open Go.RowKit PFnVtStringText YtdcaigdhbbnfoaaGreatDoorW.PrintWords

/-- Some bool is returned; of what was there nothing has turned. -/
def SomeBool (w : World) (e : Ending) (w' : World) : Prop := ∃ b : Bool, e = .returned (.bool b) ∧ Below w.heap.size w w'

set_option maxHeartbeats 400000 in
theorem validString_any (s : ByteArray) (w : World) (hs : s.size ≤ 1000000) (hT : Lib.Utf8Tabs 2 3 w) :
    Calls Tryz.prog 17 #[.string s] w (SomeBool w) := by
  have cV := Tryz.utf8_ValidString s w (by omega) hT
  have HT : Hid (Lib.Utf8Tabs 2 3 w) := hT
  clear hT
  go_enter Tryz.func17, Tryz.ntmps17
  go_wp2_with fail
  go_loop [3] (fun i => ∃ k : Nat, k ≤ s.size ∧ i = .int .i64 k) (fun i => s.size - (intOf i).toNat)
  case atStart => exact ⟨0, Nat.zero_le _, rfl⟩
  case round =>
    obtain ⟨k, hk, rfl⟩ := hrel
    by_cases hlt : k < s.size
    · by_cases hz : (((s[k]'hlt).toNat : Int) == 0) = true
      · go_wp2_with fail
        go_ret
        exact ⟨_, rfl, Below.refl _ _⟩
      · have hz' : (((s[k]'hlt).toNat : Int) == 0) = false := by simpa using hz
        clear hz
        go_wp2_with fail
        go_round
        case rel => exact ⟨k + 1, by omega, by go_num⟩
        case measure => simp [intOf]; omega
    · go_wp2_with (go_at_call 27; go_fit cV; rintro e w' ⟨rfl, hb⟩)
      go_ret
      exact ⟨_, rfl, hb⟩


/-- A value of D-Bus with a text and no parts, as Go has it. -/
abbrev valOf (k : Int) (s : ByteArray) : Value := .agg #[.int .u8 k, .int .u64 0, .string s, .slice none 0 0]

theorem inRange_text (k : Int) (hk : k = 115 ∨ k = 111 ∨ k = 103) (w : World) : Calls Tryz.prog 16 #[.int .u8 k, .int .u64 0] w fun e w' => e = .returned (.bool true) ∧ Drawn0 w w' :=
  spec_inRange.calls k 0 true w (by rcases hk with rfl | rfl | rfl <;> rfl)

theorem bcell {W w1 : World} (hb : Below W.heap.size W w1) : (∀ b o, b < W.heap.size → w1.cell? ⟨b, o, none⟩ = W.cell? ⟨b, o, none⟩) ∧ (∀ b o, b < W.heap.size → w1.frozen? ⟨b, o, none⟩ = W.frozen? ⟨b, o, none⟩) :=
  ⟨fun b o h => hb.cell (p := ⟨b, o, none⟩) h, fun b o h => hb.frozen (p := ⟨b, o, none⟩) h⟩

set_option maxHeartbeats 400000 in
set_option maxRecDepth 100000 in
theorem tidy_s (s : ByteArray) (w : World) (cV : ∀ W, Below w.heap.size w W → Calls Tryz.prog 17 #[.string s] W (SomeBool W)) :
    Calls Tryz.prog 10 #[valOf 115 s] w (SomeBool w) := by
  have cR := fun w1 => inRange_text 115 (Or.inl rfl) w1
  have CR := Lib.hid cR
  have CV := Lib.hid cV
  clear cR cV
  go_enter Tryz.func10, Tryz.ntmps10
  go_wp2_with (go_at_call 16; go_fit (CR.out _); rintro e w' ⟨rfl, ⟨nd, rfl⟩⟩)
  refine (CV.out _ (pw_below_drewN (below_alloc (Below.refl _ _) _) _)).mono ?_
  rintro e w1 ⟨b, rfl, hb⟩
  obtain ⟨hc, hf⟩ := bcell hb
  have hb' := Lib.hid hb
  clear hb
  cases b
  all_goals
    go_wp2_with fail
    go_ret
    exact ⟨_, rfl, below_step (pw_below_drewN (below_alloc (Below.refl _ _) _) _) hb'.out⟩

set_option maxHeartbeats 400000 in
set_option maxRecDepth 100000 in
theorem tidy_o (s : ByteArray) (w : World) (cV : ∀ W, Below w.heap.size w W → Calls Tryz.prog 18 #[.string s] W (SomeBool W)) :
    Calls Tryz.prog 10 #[valOf 111 s] w (SomeBool w) := by
  have cR := fun w1 => inRange_text 111 (Or.inr (Or.inl rfl)) w1
  have CR := Lib.hid cR
  have CV := Lib.hid cV
  clear cR cV
  go_enter Tryz.func10, Tryz.ntmps10
  go_wp2_with (go_at_call 16; go_fit (CR.out _); rintro e w' ⟨rfl, ⟨nd, rfl⟩⟩)
  refine (CV.out _ (pw_below_drewN (below_alloc (Below.refl _ _) _) _)).mono ?_
  rintro e w1 ⟨b, rfl, hb⟩
  obtain ⟨hc, hf⟩ := bcell hb
  have hb' := Lib.hid hb
  clear hb
  cases b
  all_goals
    go_wp2_with fail
    go_ret
    exact ⟨_, rfl, below_step (pw_below_drewN (below_alloc (Below.refl _ _) _) _) hb'.out⟩

set_option maxHeartbeats 400000 in
set_option maxRecDepth 100000 in
theorem tidy_g (s : ByteArray) (w : World) (cV : ∀ W, Below w.heap.size w W → Calls Tryz.prog 8 #[.string s] W (SomeBool W)) :
    Calls Tryz.prog 10 #[valOf 103 s] w (SomeBool w) := by
  have cR := fun w1 => inRange_text 103 (Or.inr (Or.inr rfl)) w1
  have CR := Lib.hid cR
  have CV := Lib.hid cV
  clear cR cV
  go_enter Tryz.func10, Tryz.ntmps10
  go_wp2_with (go_at_call 16; go_fit (CR.out _); rintro e w' ⟨rfl, ⟨nd, rfl⟩⟩)
  refine (CV.out _ (pw_below_drewN (below_alloc (Below.refl _ _) _) _)).mono ?_
  rintro e w1 ⟨b, rfl, hb⟩
  obtain ⟨hc, hf⟩ := bcell hb
  have hb' := Lib.hid hb
  clear hb
  cases b
  all_goals
    go_wp2_with fail
    go_ret
    exact ⟨_, rfl, below_step (pw_below_drewN (below_alloc (Below.refl _ _) _) _) hb'.out⟩

/-- spec.tidy at a string, a path, a signature. -/
theorem tidy_any (k : Int) (hk : k = 115 ∨ k = 111 ∨ k = 103) (s : ByteArray) (w : World) (hs : s.size ≤ 1000000) (hT : Lib.Utf8Tabs 2 3 w) : Calls Tryz.prog 10 #[valOf k s] w (SomeBool w) := by
  rcases hk with rfl | rfl | rfl
  · exact tidy_s s w fun W hW => validString_any s W hs (Utf8Tabs_below hT hW)
  · refine tidy_o s w fun W _ => ?_
    obtain ⟨n, r, hr⟩ := path_ends s hs
    exact (spec_ValidPath.calls n s r W hr).mono fun e w' ⟨he, hd⟩ => ⟨r, he, hd.below⟩
  · refine tidy_g s w fun W _ => ?_
    obtain ⟨r, hr⟩ := valid_ends s
    exact (spec_Valid.calls 3000 s r W hr).mono fun e w' ⟨he, hb⟩ => ⟨r, he, hb⟩

/-- spec.SigOf of such a value. -/
theorem sigOf_any (k : Int) (hk : k = 115 ∨ k = 111 ∨ k = 103) (s : ByteArray) (w : World) :
    Calls Tryz.prog 9 #[valOf k s] w fun e w' => e = .returned (.string (strOfNums [k])) ∧ Below w.heap.size w w' := by
  have h : spec_SigOf.f 3 k 0 s [] = some (strOfNums [k]) := by
    rcases hk with rfl | rfl | rfl <;> rfl
  exact spec_SigOf.calls 3 k 0 s none 0 [] (strOfNums [k]) w (Kd.C_nil _ _) (Nat.le_refl _) h

set_option maxHeartbeats 400000 in
set_option maxRecDepth 100000 in
theorem tidy_top (k : Int) (hk : k = 115 ∨ k = 111 ∨ k = 103) (s : ByteArray) (w : World) (hs : s.size ≤ 1000000) (hT : Lib.Utf8Tabs 2 3 w) : Calls Tryz.prog 4 #[valOf k s] w (SomeBool w) := by
  have CS : Hid (∀ W, Calls Tryz.prog 9 #[valOf k s] W fun e w' => e = .returned (.string (strOfNums [k])) ∧ Below W.heap.size W w') := fun W => sigOf_any k hk s W
  have CT : Hid (∀ W, Below w.heap.size w W → Calls Tryz.prog 10 #[valOf k s] W (SomeBool W)) := fun W hW => tidy_any k hk s W hs (Utf8Tabs_below hT hW)
  obtain ⟨r, hr⟩ := valid_ends (strOfNums [k])
  have CV : Hid (∀ W, Calls Tryz.prog 8 #[.string (strOfNums [k])] W fun e w' => e = .returned (.bool r) ∧ Below W.heap.size W w') := fun W => spec_Valid.calls 3000 _ r W hr
  have hk1 : (k != 123) = true := by rcases hk with rfl | rfl | rfl <;> rfl
  clear hT hr hk
  go_enter Tryz.func4, Tryz.ntmps4
  go_wp2_with fail
  refine (CS.out _).mono ?_
  rintro e w1 ⟨rfl, hb⟩
  obtain ⟨hc, hf⟩ := bcell hb
  have HB := Lib.hid (below_step (below_alloc (Below.refl _ _) _) hb)
  have hz : w.heap.size < w1.heap.size := by have := hb.size; simp at this; omega
  clear hb
  go_wp2_with fail
  refine (CV.out _).mono ?_
  rintro e w2 ⟨rfl, hb⟩
  obtain ⟨hc2, hf2⟩ := bcell hb
  have HB2 := Lib.hid (below_step HB.out hb)
  clear hb
  cases r
  · go_wp2_with fail
    go_ret
    exact ⟨_, rfl, HB2.out⟩
  · go_wp2_with fail
    refine (CT.out _ HB2.out).mono ?_
    rintro e w3 ⟨b, rfl, hb⟩
    have HB3 := Lib.hid (below_step HB2.out hb)
    clear hb
    cases b
    all_goals
      go_wp2_with fail
      go_ret
      exact ⟨_, rfl, HB3.out⟩

end Go.Proofs.YtdcaigdhbbnfoaaGreatDoor
