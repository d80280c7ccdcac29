/-
  WALKS: the statement's own function.
-/
import Derived.Test.YtdcaigdhbbnfoaaGreatDoorUnqFast
namespace Go.Proofs.YtdcaigdhbbnfoaaGreatDoor
open Go.RowKit PFnVtStringText YtdcaigdhbbnfoaaGreatDoorW.PrintWords

/-- All that the statement's function meets at a text s of a kind: what VtString gives (g), what Quote gives (q). -/
structure Meets (k : Int) (g s q : ByteArray) (w : World) : Prop where
  tidy : ∀ W, Below w.heap.size w W → Calls Tryz.prog 4 #[valOf k s] W (SomeBool W)
  text : ∀ W, Below w.heap.size w W → Calls Tryz.prog 5 #[valOf k s] W fun e w' => e = .returned (.tuple #[.string g, .bool true]) ∧ Below W.heap.size W w'
  back : ∀ W, Below w.heap.size w W → Calls Tryz.prog 6 #[.string q] W fun e w' => e = .returned (.tuple #[.string s, .nilIface]) ∧ Below W.heap.size W w'
  quote : Quotes s q w

/-- string([]byte{c}) of a slice that has just been laid. -/
theorem byteText (c : Int) (W : World) : (convert 29 9 (.slice (some ⟨W.heap.size, 0, none⟩) 1 1)).run Tryz.prog (W.alloc (.cells #[.int .u8 c] 5)) = .ok (.string (strOfNums [c])) (W.alloc (.cells #[.int .u8 c] 5)) := by
  refine run_convert_bytes_arg _ 29 5 Tryz.underlying29 Tryz.underlying5 W.heap.size 0 1 1 [c] rfl ?_ 9 Tryz.underlying9
  intro i hi
  obtain rfl : i = 0 := by omega
  simp

set_option maxHeartbeats 400000 in
theorem law_long (s : ByteArray) (wh : Int) (w : World) (hs : 2147483647 < s.size) :
    Calls Tryz.prog 3 #[.string s, .int .u8 wh] w fun e w' => e = .returned (.bool true) ∧ Below w.heap.size w w' := by
  have h1 : (2147483647 : Int) < (s.size : Int) := by omega
  clear hs
  go_enter Tryz.func3, Tryz.ntmps3
  go_wp2_with fail
  go_ret
  exact ⟨rfl, Below.refl _ _⟩

set_option maxHeartbeats 400000 in
set_option maxRecDepth 100000 in
theorem law_mid0 (s : ByteArray) (wh : Int) (w : World) (h0 : 0 ≤ wh) (hs : s.size ≤ 2147483647) (hs2 : 4096 < s.size) (h3 : wh % 3 = 0) :
    Calls Tryz.prog 3 #[.string s, .int .u8 wh] w fun e w' => e = .returned (.bool true) ∧ Below w.heap.size w w' := by
  have h1 : ¬ (2147483647 : Int) < (s.size : Int) := by omega
  have h2 : (4096 : Int) < (s.size : Int) := by omega
  clear hs hs2
  go_enter Tryz.func3, Tryz.ntmps3
  go_wp2_with fail
  go_ret
  refine ⟨rfl, ?_⟩
  repeat (first | exact Below.refl _ _ | apply below_alloc | (refine below_set ?_ (by simp)))

set_option maxHeartbeats 400000 in
set_option maxRecDepth 100000 in
theorem law_mid1 (s : ByteArray) (wh : Int) (w : World) (h0 : 0 ≤ wh) (hs : s.size ≤ 2147483647) (hs2 : 4096 < s.size) (h3 : wh % 3 = 1) :
    Calls Tryz.prog 3 #[.string s, .int .u8 wh] w fun e w' => e = .returned (.bool true) ∧ Below w.heap.size w w' := by
  have h1 : ¬ (2147483647 : Int) < (s.size : Int) := by omega
  have h2 : (4096 : Int) < (s.size : Int) := by omega
  clear hs hs2
  go_enter Tryz.func3, Tryz.ntmps3
  go_wp2_with fail
  go_ret
  refine ⟨rfl, ?_⟩
  repeat (first | exact Below.refl _ _ | apply below_alloc | (refine below_set ?_ (by simp)))

set_option maxHeartbeats 400000 in
set_option maxRecDepth 100000 in
theorem law_mid2 (s : ByteArray) (wh : Int) (w : World) (h0 : 0 ≤ wh) (hs : s.size ≤ 2147483647) (hs2 : 4096 < s.size) (h3 : wh % 3 = 2) :
    Calls Tryz.prog 3 #[.string s, .int .u8 wh] w fun e w' => e = .returned (.bool true) ∧ Below w.heap.size w w' := by
  have h1 : ¬ (2147483647 : Int) < (s.size : Int) := by omega
  have h2 : (4096 : Int) < (s.size : Int) := by omega
  clear hs hs2
  go_enter Tryz.func3, Tryz.ntmps3
  go_wp2_with fail
  go_ret
  refine ⟨rfl, ?_⟩
  repeat (first | exact Below.refl _ _ | apply below_alloc | (refine below_set ?_ (by simp)))

set_option maxHeartbeats 1000000 in
set_option maxRecDepth 100000 in
theorem law_k115 (s q : ByteArray) (wh : Int) (w : World) (h0 : 0 ≤ wh) (hs : s.size ≤ 4096) (h3 : wh % 3 = 0) (hM : Meets 115 q s q w) :
    Calls Tryz.prog 3 #[.string s, .int .u8 wh] w fun e w' => e = .returned (.bool true) ∧ Below w.heap.size w w' := by
  have h1 : ¬ (2147483647 : Int) < (s.size : Int) := by omega
  have h2 : decide ((4096 : Int) < (s.size : Int)) = false := by simp; omega
  have hix : (({ data := #[115, 111, 103] } : ByteArray)[0]'(by decide)) = 115 := rfl
  have hcv : ∀ W : World, (convert 29 9 (.slice (some ⟨W.heap.size, 0, none⟩) 1 1)).run Tryz.prog (W.alloc (.cells #[.int .u8 115] 5)) = .ok (.string ⟨#[115]⟩) (W.alloc (.cells #[.int .u8 115] 5)) := fun W => byteText 115 W
  have hap : ((⟨#[64]⟩ : ByteArray) ++ ⟨#[115]⟩ ++ ⟨#[32]⟩) = ⟨#[64, 115, 32]⟩ := rfl
  clear hs
  go_enter Tryz.func3, Tryz.ntmps3
  go_wp2_with fail
  refine (hM.tidy _ (by repeat (first | exact Below.refl _ _ | apply below_alloc | (refine below_set ?_ (by simp))))).mono ?_
  rintro e w1 ⟨b, rfl, hb⟩
  have HB : Hid (Below w.heap.size w w1) := below_step (w := w) (below_alloc (Below.refl _ _) _) hb
  obtain ⟨hc, hf⟩ := bcell hb
  have hz : w.heap.size < w1.heap.size := by have := hb.size; simp at this; omega
  clear hb
  cases b
  · go_wp2_with fail
    go_ret
    exact ⟨rfl, HB.out⟩
  · go_wp2_with fail
    refine (hM.text _ HB.out).mono ?_
    rintro e w2 ⟨rfl, hb⟩
    have HB2 : Hid (Below w.heap.size w w2) := below_step HB.out hb
    obtain ⟨hc2, hf2⟩ := bcell hb
    have hz2 : w.heap.size < w2.heap.size := by have := hb.size; omega
    clear hb
    go_wp2_with fail
    refine (hM.back _ (below_alloc HB2.out _)).mono ?_
    rintro e w3 ⟨rfl, hb⟩
    have HB3 : Hid (Below w.heap.size w w3) := below_step (below_alloc HB2.out _) hb
    clear hb
    go_wp2_with fail
    refine (hM.quote _ HB3.out).mono ?_
    rintro e w4 ⟨rfl, hb⟩
    have HB4 : Hid (Below w.heap.size w w4) := below_step HB3.out hb
    clear hb
    go_wp2_with fail
    go_ret
    exact ⟨rfl, HB4.out⟩

set_option maxHeartbeats 1000000 in
set_option maxRecDepth 100000 in
theorem law_k111 (s q : ByteArray) (wh : Int) (w : World) (h0 : 0 ≤ wh) (hs : s.size ≤ 4096) (h3 : wh % 3 = 1) (g : ByteArray) (hg3 : 3 ≤ g.size) (hga : g.extract 0 3 = ⟨#[64, 111, 32]⟩) (hgb : g.extract 3 g.size = q) (hM : Meets 111 g s q w) :
    Calls Tryz.prog 3 #[.string s, .int .u8 wh] w fun e w' => e = .returned (.bool true) ∧ Below w.heap.size w w' := by
  have h1 : ¬ (2147483647 : Int) < (s.size : Int) := by omega
  have h2 : decide ((4096 : Int) < (s.size : Int)) = false := by simp; omega
  have hix : (({ data := #[115, 111, 103] } : ByteArray)[1]'(by decide)) = 111 := rfl
  have hcv : ∀ W : World, (convert 29 9 (.slice (some ⟨W.heap.size, 0, none⟩) 1 1)).run Tryz.prog (W.alloc (.cells #[.int .u8 111] 5)) = .ok (.string ⟨#[111]⟩) (W.alloc (.cells #[.int .u8 111] 5)) := fun W => byteText 111 W
  have hg4 : decide ((g.size : Int) < 3) = false := by simp; omega
  have hg5 : (3 : Int) ≤ (g.size : Int) := by omega
  have hap : ((⟨#[64]⟩ : ByteArray) ++ ⟨#[111]⟩ ++ ⟨#[32]⟩) = ⟨#[64, 111, 32]⟩ := rfl
  clear hs
  go_enter Tryz.func3, Tryz.ntmps3
  go_wp2_with fail
  refine (hM.tidy _ (by repeat (first | exact Below.refl _ _ | apply below_alloc | (refine below_set ?_ (by simp))))).mono ?_
  rintro e w1 ⟨b, rfl, hb⟩
  have HB : Hid (Below w.heap.size w w1) := below_step (w := w) (below_alloc (Below.refl _ _) _) hb
  obtain ⟨hc, hf⟩ := bcell hb
  have hz : w.heap.size < w1.heap.size := by have := hb.size; simp at this; omega
  clear hb
  cases b
  · go_wp2_with fail
    go_ret
    exact ⟨rfl, HB.out⟩
  · go_wp2_with fail
    refine (hM.text _ HB.out).mono ?_
    rintro e w2 ⟨rfl, hb⟩
    have HB2 : Hid (Below w.heap.size w w2) := below_step HB.out hb
    obtain ⟨hc2, hf2⟩ := bcell hb
    have hz2 : w.heap.size < w2.heap.size := by have := hb.size; omega
    clear hb
    go_wp2_with fail
    refine (hM.back _ (below_alloc HB2.out _)).mono ?_
    rintro e w3 ⟨rfl, hb⟩
    have HB3 : Hid (Below w.heap.size w w3) := below_step (below_alloc HB2.out _) hb
    clear hb
    go_wp2_with fail
    refine (hM.quote _ HB3.out).mono ?_
    rintro e w4 ⟨rfl, hb⟩
    have HB4 : Hid (Below w.heap.size w w4) := below_step HB3.out hb
    clear hb
    go_wp2_with fail
    go_ret
    exact ⟨rfl, HB4.out⟩

set_option maxHeartbeats 1000000 in
set_option maxRecDepth 100000 in
theorem law_k103 (s q : ByteArray) (wh : Int) (w : World) (h0 : 0 ≤ wh) (hs : s.size ≤ 4096) (h3 : wh % 3 = 2) (g : ByteArray) (hg3 : 3 ≤ g.size) (hga : g.extract 0 3 = ⟨#[64, 103, 32]⟩) (hgb : g.extract 3 g.size = q) (hM : Meets 103 g s q w) :
    Calls Tryz.prog 3 #[.string s, .int .u8 wh] w fun e w' => e = .returned (.bool true) ∧ Below w.heap.size w w' := by
  have h1 : ¬ (2147483647 : Int) < (s.size : Int) := by omega
  have h2 : decide ((4096 : Int) < (s.size : Int)) = false := by simp; omega
  have hix : (({ data := #[115, 111, 103] } : ByteArray)[2]'(by decide)) = 103 := rfl
  have hcv : ∀ W : World, (convert 29 9 (.slice (some ⟨W.heap.size, 0, none⟩) 1 1)).run Tryz.prog (W.alloc (.cells #[.int .u8 103] 5)) = .ok (.string ⟨#[103]⟩) (W.alloc (.cells #[.int .u8 103] 5)) := fun W => byteText 103 W
  have hg4 : decide ((g.size : Int) < 3) = false := by simp; omega
  have hg5 : (3 : Int) ≤ (g.size : Int) := by omega
  have hap : ((⟨#[64]⟩ : ByteArray) ++ ⟨#[103]⟩ ++ ⟨#[32]⟩) = ⟨#[64, 103, 32]⟩ := rfl
  clear hs
  go_enter Tryz.func3, Tryz.ntmps3
  go_wp2_with fail
  refine (hM.tidy _ (by repeat (first | exact Below.refl _ _ | apply below_alloc | (refine below_set ?_ (by simp))))).mono ?_
  rintro e w1 ⟨b, rfl, hb⟩
  have HB : Hid (Below w.heap.size w w1) := below_step (w := w) (below_alloc (Below.refl _ _) _) hb
  obtain ⟨hc, hf⟩ := bcell hb
  have hz : w.heap.size < w1.heap.size := by have := hb.size; simp at this; omega
  clear hb
  cases b
  · go_wp2_with fail
    go_ret
    exact ⟨rfl, HB.out⟩
  · go_wp2_with fail
    refine (hM.text _ HB.out).mono ?_
    rintro e w2 ⟨rfl, hb⟩
    have HB2 : Hid (Below w.heap.size w w2) := below_step HB.out hb
    obtain ⟨hc2, hf2⟩ := bcell hb
    have hz2 : w.heap.size < w2.heap.size := by have := hb.size; omega
    clear hb
    go_wp2_with fail
    refine (hM.back _ (below_alloc HB2.out _)).mono ?_
    rintro e w3 ⟨rfl, hb⟩
    have HB3 : Hid (Below w.heap.size w w3) := below_step (below_alloc HB2.out _) hb
    clear hb
    go_wp2_with fail
    refine (hM.quote _ HB3.out).mono ?_
    rintro e w4 ⟨rfl, hb⟩
    have HB4 : Hid (Below w.heap.size w w4) := below_step HB3.out hb
    clear hb
    go_wp2_with fail
    go_ret
    exact ⟨rfl, HB4.out⟩

end Go.Proofs.YtdcaigdhbbnfoaaGreatDoor
