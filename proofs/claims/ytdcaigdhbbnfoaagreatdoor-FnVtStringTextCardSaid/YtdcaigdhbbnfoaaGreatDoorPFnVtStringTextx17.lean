-- PRINTED BY print.sh 35421559b90ae4d0a3588c463048766b98c2df88dd9212a6774a882060cdf62d: not written by this session
import Derived.Test.YtdcaigdhbbnfoaaGreatDoorPFnVtStringTextx0
namespace Go.Proofs.YtdcaigdhbbnfoaaGreatDoor.PFnVtStringText
open Go.RowKit Go.Proofs.YtdcaigdhbbnfoaaGreatDoorW.PrintWords Go.Proofs.YtdcaigdhbbnfoaaGreatDoorW.PrintLast Go.Proofs.YtdcaigdhbbnfoaaGreatDoorW.PrintMore
attribute [local go_sem] max2_int min2_int max_two min_two max_three min_three max_four min_four   -- for this text's walks alone
set_option linter.unusedVariables false
set_option linter.unusedSimpArgs false

-- NOT PRINTED: function 132 (slices_partitionOrdered_string)

-- NOT PRINTED: function 112 (slices_pdqsortOrdered_string)

-- NOT PRINTED: function 97 (slices_Sort_string_string)

-- NOT PRINTED: function 72 (sort_Strings)

-- NOT PRINTED: function 73 (dbus_zzValue_NumField)

-- NOT PRINTED: function 74 (dbus_zzValue_Field)

-- NOT PRINTED: function 42 (dbus_Variant_format)

-- NOT PRINTED: function 24 (dbus_Variant_String)

-- NOT PRINTED: function 11 (dbus_DoorString)

/-! ### impl_valIn: function 12 -/
mutual
def impl_valIn.l0 : Nat → List (S25) → Int → Int → Int → Int → ByteArray → List (S41) → Option (Int × Int × ByteArray × (List (S41)))
  | 0, _, _, _, _, _, _, _ => none
  | k + 1, x14, x15, x16, x520000, x520001, x520002, x520003 => if x16 < x15 then (if 0 ≤ x16 then (if x16 < (x14.length : Int) then ((impl_valIn.f k ((rd_T25 x14 x16).f0) ((rd_T25 x14 x16).f1) ((rd_T25 x14 x16).f2) ((rd_T25 x14 x16).f3)).bind fun bt522 => (if x520003.length < 2513169434916 then (impl_valIn.l0 k x14 x15 (wrap64 (x16 + 1)) x520000 x520001 x520002 (x520003 ++ [(⟨bt522.1, bt522.2.1, bt522.2.2.1, bt522.2.2.2⟩ : S41)])) else (none))) else (none)) else (none)) else (some (x520000, x520001, x520002, x520003))
def impl_valIn.f : Nat → Int → Int → ByteArray → List (S25) → Option (Int × Int × ByteArray × (List (S41)))
  | 0, _, _, _, _ => none
  | k + 1, a0_0, a0_1, a0_2, l0_3 => impl_valIn.l0 k l0_3 (l0_3.length : Int) 0 a0_0 a0_1 a0_2 ([] : List (S41))
end
theorem impl_valIn.mono_l : ∀ k, (∀ y0 y1 y2 y3, LeO (impl_valIn.f k y0 y1 y2 y3) (impl_valIn.f (k + 1) y0 y1 y2 y3)) ∧ (∀ y0 y1 y2 y3 y4 y5 y6, LeO (impl_valIn.l0 k y0 y1 y2 y3 y4 y5 y6) (impl_valIn.l0 (k + 1) y0 y1 y2 y3 y4 y5 y6))
  | 0 => ⟨fun _ _ _ _ r h => by simp [impl_valIn.f] at h, fun _ _ _ _ _ _ _ r h => by simp [impl_valIn.l0] at h⟩
  | k + 1 => by
    obtain ⟨ih0, ih1⟩ := impl_valIn.mono_l k
    refine ⟨?_, ?_⟩
    · intro y0 y1 y2 y3
      unfold impl_valIn.f
      repeat' first
      | (with_reducible exact ih0 _ _ _ _)
      | (with_reducible exact ih1 _ _ _ _ _ _ _)
      | (with_reducible exact LeO.refl _)
      | (with_reducible exact LeO.none _)
      | (with_reducible refine LeO.ite ?_ ?_)
      | (with_reducible refine LeO.bind ?_ (fun _ => ?_))
      | exact ih0 _ _ _ _
      | exact ih1 _ _ _ _ _ _ _
      | exact LeO.none _
      | refine LeO.ite ?_ ?_
      | refine LeO.bind ?_ (fun _ => ?_)
    · intro y0 y1 y2 y3 y4 y5 y6
      unfold impl_valIn.l0
      repeat' first
      | (with_reducible exact ih0 _ _ _ _)
      | (with_reducible exact ih1 _ _ _ _ _ _ _)
      | (with_reducible exact LeO.refl _)
      | (with_reducible exact LeO.none _)
      | (with_reducible refine LeO.ite ?_ ?_)
      | (with_reducible refine LeO.bind ?_ (fun _ => ?_))
      | exact ih0 _ _ _ _
      | exact ih1 _ _ _ _ _ _ _
      | exact LeO.none _
      | refine LeO.ite ?_ ?_
      | refine LeO.bind ?_ (fun _ => ?_)
theorem impl_valIn.mono : ∀ a0 a1 a2 a3 k, LeO (impl_valIn.f k a0 a1 a2 a3) (impl_valIn.f (k + 1) a0 a1 a2 a3) := by
  intro a0 a1 a2 a3 k
  obtain ⟨ih0, ih1⟩ := impl_valIn.mono_l k
  exact ih0 a0 a1 a2 a3
def impl_valIn.T5 : Bool × List (List Nat × List Nat) := (true, [([], []), ([0], [0]), ([], []), ([2], [2]), ([3], [3]), ([1, 4, 3], [1, 4]), ([0, 1, 2, 3, 4, 5], []), ([6, 5, 5, 0, 1, 2, 3, 4, 5], [5, 6])])
def impl_valIn.B5 : List Nat := [0, 1, 0, 4, 12, 31, 63, 127]
theorem impl_valIn.tab5 : rtab .any (opsOf Tryz.f12 5) = impl_valIn.T5 := by kernel_rfl
theorem impl_valIn.bits5 : waitsOk impl_valIn.T5.2 impl_valIn.B5 = true := by kernel_rfl
set_option maxHeartbeats 8000000 in
set_option maxRecDepth 100000 in
theorem impl_valIn.calls (k : Nat) : ∀ (a0_0 : Int) (a0_1 : Int) (a0_2 : ByteArray) (A0_3 : Option Addr) (c0_3 : Nat) (l0_3 : List (S25)) (r1 : Int) (r2 : Int) (r3 : ByteArray) (r4 : List (S41)) (w : World) (hr0_3 : Kd.C k25 w A0_3 l0_3.length l0_3) (hc0_3 : l0_3.length ≤ c0_3) (h : impl_valIn.f k a0_0 a0_1 a0_2 l0_3 = some (r1, r2, r3, r4)),
    Calls Tryz.prog 12 #[.agg #[.int .u8 a0_0, .int .u64 a0_1, .string a0_2, .slice A0_3 l0_3.length c0_3]] w fun e w' => ∃ v3_ : Value, e = .returned (.agg #[.int .u8 r1, .int .u64 r2, .string r3, v3_]) ∧ Kd.R k41 41 w' w.heap.size (fun _ => True) v3_ r4 ∧ Below w.heap.size w w' := by
  induction k using Nat.strongRecOn with
  | _ k ih =>
  intro a0_0 a0_1 a0_2 A0_3 c0_3 l0_3 r1 r2 r3 r4 w hr0_3 hc0_3 h
  cases k with
  | zero => exact absurd h (by simp [impl_valIn.f])
  | succ k =>
  simp only [impl_valIn.f] at h
  have hu25 := Tryz.underlying25
  have hu41 := Tryz.underlying41
  have HR0_3 := Aside0.mk hr0_3
  have HC0_3 := Aside0.mk hc0_3
  clear hr0_3 hc0_3
  have HB := Aside0.mk (Below.refl w.heap.size w)
  have H : (impl_valIn.l0 k l0_3 (l0_3.length : Int) 0 a0_0 a0_1 a0_2 ([] : List (S41))) = some (r1, r2, r3, r4) := h
  clear h
  have H' := Aside0.mk H
  clear H
  go_enter Tryz.func12, Tryz.ntmps12
  go_wp2_with (first | ((with_reducible refine gate_dst (N := 1) rfl ?_); refine box_event ?hg (N := 1) ?hd (cs := #[.int .u8 a0_0, .int .u64 a0_1, .string a0_2, .slice A0_3 l0_3.length c0_3]) (t := 25) ?hr ?_; (case hd => rfl); (case hg => rfl); (case hr => first | (go_simp; done) | (go_simp; rfl)); intro gb517 hg w2 hbox hb; have n0_ := Aside0.mk (below_step (by repeat (first | (with_reducible first | exact HB.out | apply below_alloc | apply pw_below_drewN | apply below_drew1) | exact HB.out)) hb); have n1_ := Aside0.mk (hbox); have n2_ := Aside0.mk ((by rw [hg]; exact (below_size (by repeat (first | (with_reducible first | exact HB.out | apply below_alloc | apply pw_below_drewN | apply below_drew1) | exact HB.out))) : w.heap.size ≤ gb517)); have n3_ := Aside0.mk ((by rw [hg]; exact (below_size (by repeat (first | (with_reducible first | exact HB.out | apply below_alloc | apply pw_below_drewN | apply below_drew1) | exact HB.out))) : w.heap.size ≤ gb517)); clear HB; have HB := n0_; have BK517 := n1_; have GW517 := n2_; have GE517 := n3_; clear n0_ n1_ n2_ n3_; clear hb hbox hg) | ((with_reducible refine gate_dst (N := 2) rfl ?_); refine box_event ?hg (N := 2) ?hd (cs := #[.int .u8 0, .int .u64 0, .string (⟨#[]⟩ : ByteArray), .slice none 0 0]) (t := 41) ?hr ?_; (case hd => rfl); (case hg => rfl); (case hr => first | (go_simp; done) | (go_simp; rfl)); intro gb518 hg w3 hbox hb; have n0_ := Aside0.mk (blk_below (g := gb517) (o := .cells #[.int .u8 a0_0, .int .u64 a0_1, .string a0_2, .slice A0_3 l0_3.length c0_3] 25 (0, 0)) (by (with_reducible repeat (first | refine blk_drewN ?_ _ | refine blk_drew ?_ | refine blk_alloc ?_ _)); exact BK517.out) hb); have n1_ := Aside0.mk (below_step (by repeat (first | (with_reducible first | exact HB.out | apply below_alloc | apply pw_below_drewN | apply below_drew1 | refine below_set ?_ GE517.out) | exact HB.out)) hb); have n2_ := Aside0.mk (hbox); have n3_ := Aside0.mk ((by rw [hg]; exact (below_size (by repeat (first | (with_reducible first | exact HB.out | apply below_alloc | apply pw_below_drewN | apply below_drew1 | refine below_set ?_ GE517.out) | exact HB.out))) : w.heap.size ≤ gb518)); have n4_ := Aside0.mk ((by rw [hg]; exact (below_size (by repeat (first | (with_reducible first | exact HB.out | apply below_alloc | apply pw_below_drewN | apply below_drew1 | refine below_set ?_ GE517.out) | exact HB.out))) : w.heap.size ≤ gb518)); have n5_ := Aside0.mk ((by rw [hg]; exact Nat.ne_of_lt (blk_lt (g := gb517) (o := .cells #[.int .u8 a0_0, .int .u64 a0_1, .string a0_2, .slice A0_3 l0_3.length c0_3] 25 (0, 0)) (by (with_reducible repeat (first | refine blk_drewN ?_ _ | refine blk_drew ?_ | refine blk_alloc ?_ _)); exact BK517.out)) : gb517 ≠ gb518)); have n6_ := Aside0.mk ((by rw [hg]; exact Nat.ne_of_gt (blk_lt (g := gb517) (o := .cells #[.int .u8 a0_0, .int .u64 a0_1, .string a0_2, .slice A0_3 l0_3.length c0_3] 25 (0, 0)) (by (with_reducible repeat (first | refine blk_drewN ?_ _ | refine blk_drew ?_ | refine blk_alloc ?_ _)); exact BK517.out)) : gb518 ≠ gb517)); clear BK517; clear HB; have BK517 := n0_; have HB := n1_; have BK518 := n2_; have GW518 := n3_; have GE518 := n4_; have NB517_518 := n5_; have NB518_517 := n6_; clear n0_ n1_ n2_ n3_ n4_ n5_ n6_; clear hb hbox hg; have hnb4 := NB517_518.out; have hnc4 := NB518_517.out; have hcz5_0 : w3.cell? ⟨gb517, 0, none⟩ = some (.int .u8 a0_0) := (blk_cell BK517.out 0).trans rfl; have hcz5_1 : w3.cell? ⟨gb517, 1, none⟩ = some (.int .u64 a0_1) := (blk_cell BK517.out 1).trans rfl; have hcz5_2 : w3.cell? ⟨gb517, 2, none⟩ = some (.string a0_2) := (blk_cell BK517.out 2).trans rfl; have hcz5_3 : w3.cell? ⟨gb517, 3, none⟩ = some (.slice A0_3 l0_3.length c0_3) := (blk_cell BK517.out 3).trans rfl; have hfz5_0 := blk_frozen BK517.out 0; have hfz5_1 := blk_frozen BK517.out 1; have hfz5_2 := blk_frozen BK517.out 2; have hfz5_3 := blk_frozen BK517.out 3) | ((with_reducible refine gate_dst (N := 3) rfl ?_); refine box_event ?hg (N := 3) ?hd (cs := #[.int .u8 0, .int .u64 0, .string (⟨#[]⟩ : ByteArray), .slice none 0 0]) (t := 41) ?hr ?_; (case hd => rfl); (case hg => rfl); (case hr => first | (go_simp; done) | (go_simp; rfl)); intro gb519 hg w6 hbox hb; have n0_ := Aside0.mk (blk_below (g := gb517) (o := .cells #[.int .u8 a0_0, .int .u64 a0_1, .string a0_2, .slice A0_3 l0_3.length c0_3] 25 (0, 0)) (by (with_reducible repeat (first | refine blk_drewN ?_ _ | refine blk_drew ?_ | refine blk_alloc ?_ _)); exact BK517.out) hb); have n1_ := Aside0.mk (blk_below (g := gb518) (o := .cells #[.int .u8 0, .int .u64 0, .string (⟨#[]⟩ : ByteArray), .slice none 0 0] 41 (0, 0)) (by (with_reducible repeat (first | refine blk_drewN ?_ _ | refine blk_drew ?_ | refine blk_alloc ?_ _)); exact BK518.out) hb); have n2_ := Aside0.mk (below_step (by repeat (first | (with_reducible first | exact HB.out | apply below_alloc | apply pw_below_drewN | apply below_drew1 | refine below_set ?_ GE517.out | refine below_set ?_ GE518.out) | exact HB.out)) hb); have n3_ := Aside0.mk (hbox); have n4_ := Aside0.mk ((by rw [hg]; exact (below_size (by repeat (first | (with_reducible first | exact HB.out | apply below_alloc | apply pw_below_drewN | apply below_drew1 | refine below_set ?_ GE517.out | refine below_set ?_ GE518.out) | exact HB.out))) : w.heap.size ≤ gb519)); have n5_ := Aside0.mk ((by rw [hg]; exact (below_size (by repeat (first | (with_reducible first | exact HB.out | apply below_alloc | apply pw_below_drewN | apply below_drew1 | refine below_set ?_ GE517.out | refine below_set ?_ GE518.out) | exact HB.out))) : w.heap.size ≤ gb519)); have n6_ := Aside0.mk ((by rw [hg]; exact Nat.ne_of_lt (blk_lt (g := gb517) (o := .cells #[.int .u8 a0_0, .int .u64 a0_1, .string a0_2, .slice A0_3 l0_3.length c0_3] 25 (0, 0)) (by (with_reducible repeat (first | refine blk_drewN ?_ _ | refine blk_drew ?_ | refine blk_alloc ?_ _)); exact BK517.out)) : gb517 ≠ gb519)); have n7_ := Aside0.mk ((by rw [hg]; exact Nat.ne_of_gt (blk_lt (g := gb517) (o := .cells #[.int .u8 a0_0, .int .u64 a0_1, .string a0_2, .slice A0_3 l0_3.length c0_3] 25 (0, 0)) (by (with_reducible repeat (first | refine blk_drewN ?_ _ | refine blk_drew ?_ | refine blk_alloc ?_ _)); exact BK517.out)) : gb519 ≠ gb517)); have n8_ := Aside0.mk ((by rw [hg]; exact Nat.ne_of_lt (blk_lt (g := gb518) (o := .cells #[.int .u8 0, .int .u64 0, .string (⟨#[]⟩ : ByteArray), .slice none 0 0] 41 (0, 0)) (by (with_reducible repeat (first | refine blk_drewN ?_ _ | refine blk_drew ?_ | refine blk_alloc ?_ _)); exact BK518.out)) : gb518 ≠ gb519)); have n9_ := Aside0.mk ((by rw [hg]; exact Nat.ne_of_gt (blk_lt (g := gb518) (o := .cells #[.int .u8 0, .int .u64 0, .string (⟨#[]⟩ : ByteArray), .slice none 0 0] 41 (0, 0)) (by (with_reducible repeat (first | refine blk_drewN ?_ _ | refine blk_drew ?_ | refine blk_alloc ?_ _)); exact BK518.out)) : gb519 ≠ gb518)); clear BK517; clear BK518; clear HB; have BK517 := n0_; have BK518 := n1_; have HB := n2_; have BK519 := n3_; have GW519 := n4_; have GE519 := n5_; have NB517_519 := n6_; have NB519_517 := n7_; have NB518_519 := n8_; have NB519_518 := n9_; clear n0_ n1_ n2_ n3_ n4_ n5_ n6_ n7_ n8_ n9_; clear hb hbox hg; have hnb7 := NB519_517.out; have hnc7 := NB517_519.out; have hnb8 := NB519_518.out; have hnc8 := NB518_519.out; have hcz9_0 : w6.cell? ⟨gb519, 0, none⟩ = some (.int .u8 0) := (blk_cell BK519.out 0).trans rfl; have hcz9_1 : w6.cell? ⟨gb519, 1, none⟩ = some (.int .u64 0) := (blk_cell BK519.out 1).trans rfl; have hcz9_2 : w6.cell? ⟨gb519, 2, none⟩ = some (.string (⟨#[]⟩ : ByteArray)) := (blk_cell BK519.out 2).trans rfl; have hcz9_3 : w6.cell? ⟨gb519, 3, none⟩ = some (.slice none 0 0) := (blk_cell BK519.out 3).trans rfl; have hfz9_0 := blk_frozen BK519.out 0; have hfz9_1 := blk_frozen BK519.out 1; have hfz9_2 := blk_frozen BK519.out 2; have hfz9_3 := blk_frozen BK519.out 3; have hcz10_0 : w6.cell? ⟨gb517, 0, none⟩ = some (.int .u8 a0_0) := (blk_cell BK517.out 0).trans rfl; have hcz10_1 : w6.cell? ⟨gb517, 1, none⟩ = some (.int .u64 a0_1) := (blk_cell BK517.out 1).trans rfl; have hcz10_2 : w6.cell? ⟨gb517, 2, none⟩ = some (.string a0_2) := (blk_cell BK517.out 2).trans rfl; have hcz10_3 : w6.cell? ⟨gb517, 3, none⟩ = some (.slice A0_3 l0_3.length c0_3) := (blk_cell BK517.out 3).trans rfl; have hfz10_0 := blk_frozen BK517.out 0; have hfz10_1 := blk_frozen BK517.out 1; have hfz10_2 := blk_frozen BK517.out 2; have hfz10_3 := blk_frozen BK517.out 3))
  go_loopg [16] k (fun kq v16 w' => ∃ (x16_1 : Int) (x520003_1 : List (S41)) (u520003 : Value), v16 = .int .i64 x16_1 ∧ Aside0 (impl_valIn.l0 kq l0_3 (l0_3.length : Int) x16_1 a0_0 a0_1 a0_2 x520003_1 = some (r1, r2, r3, r4)) ∧ Aside0 (kq ≤ k) ∧ Aside0 (Kd.R k41 41 w' w.heap.size (fun k_ => k_ ≠ gb518 ∧ k_ ≠ gb519) u520003 x520003_1) ∧ Aside0 (w'.heap[gb517]? = some (.cells #[.int .u8 a0_0, .int .u64 a0_1, .string a0_2, (.slice A0_3 l0_3.length c0_3)] 25 (0, 0))) ∧ Aside0 (w'.heap[gb518]? = some (.cells #[.int .u8 0, .int .u64 0, .string (⟨#[]⟩ : ByteArray), (.slice none 0 0)] 41 (0, 0))) ∧ Aside0 (w'.heap[gb519]? = some (.cells #[.int .u8 a0_0, .int .u64 a0_1, .string a0_2, u520003] 41 (0, 0))) ∧ Aside0 (Below w.heap.size w w'))
  case atStart => exact ⟨(0), (([] : List (S41))), (.slice none 0 0), (by first | rfl | (simp; done) | (simp [*]; done)), H', ⟨Nat.le_refl _⟩, ⟨by first | exact Kd.R_nil _ _ _ _ _ | exact Kd.N_nil _ _ _ _ _ | exact Kd.V_nil _ _ _ _ _ | exact Kd.Q_nil _ _ _ _ _ | exact Kd.S_nil _ _ _ _ _⟩, ⟨by (with_reducible repeat (first | refine blk_drewN ?_ _ | refine blk_drew ?_ | refine blk_alloc ?_ _)); refine blk_far ?_ NB517_519.out _; (with_reducible repeat (first | refine blk_drewN ?_ _ | refine blk_drew ?_ | refine blk_alloc ?_ _)); refine blk_far ?_ NB517_519.out _; (with_reducible repeat (first | refine blk_drewN ?_ _ | refine blk_drew ?_ | refine blk_alloc ?_ _)); refine blk_far ?_ NB517_519.out _; (with_reducible repeat (first | refine blk_drewN ?_ _ | refine blk_drew ?_ | refine blk_alloc ?_ _)); refine blk_far ?_ NB517_519.out _; (with_reducible repeat (first | refine blk_drewN ?_ _ | refine blk_drew ?_ | refine blk_alloc ?_ _)); exact BK517.out⟩, ⟨by (with_reducible repeat (first | refine blk_drewN ?_ _ | refine blk_drew ?_ | refine blk_alloc ?_ _)); refine blk_far ?_ NB518_519.out _; (with_reducible repeat (first | refine blk_drewN ?_ _ | refine blk_drew ?_ | refine blk_alloc ?_ _)); refine blk_far ?_ NB518_519.out _; (with_reducible repeat (first | refine blk_drewN ?_ _ | refine blk_drew ?_ | refine blk_alloc ?_ _)); refine blk_far ?_ NB518_519.out _; (with_reducible repeat (first | refine blk_drewN ?_ _ | refine blk_drew ?_ | refine blk_alloc ?_ _)); refine blk_far ?_ NB518_519.out _; (with_reducible repeat (first | refine blk_drewN ?_ _ | refine blk_drew ?_ | refine blk_alloc ?_ _)); exact BK518.out⟩, ⟨by (with_reducible repeat (first | refine blk_drewN ?_ _ | refine blk_drew ?_ | refine blk_alloc ?_ _)); refine blk_put (cs := #[.int .u8 a0_0, .int .u64 a0_1, .string a0_2, .slice none 0 0]) ?_ 3 _ rfl; (with_reducible repeat (first | refine blk_drewN ?_ _ | refine blk_drew ?_ | refine blk_alloc ?_ _)); refine blk_put (cs := #[.int .u8 a0_0, .int .u64 a0_1, .string (⟨#[]⟩ : ByteArray), .slice none 0 0]) ?_ 2 _ rfl; (with_reducible repeat (first | refine blk_drewN ?_ _ | refine blk_drew ?_ | refine blk_alloc ?_ _)); refine blk_put (cs := #[.int .u8 a0_0, .int .u64 0, .string (⟨#[]⟩ : ByteArray), .slice none 0 0]) ?_ 1 _ rfl; (with_reducible repeat (first | refine blk_drewN ?_ _ | refine blk_drew ?_ | refine blk_alloc ?_ _)); refine blk_put (cs := #[.int .u8 0, .int .u64 0, .string (⟨#[]⟩ : ByteArray), .slice none 0 0]) ?_ 0 _ rfl; (with_reducible repeat (first | refine blk_drewN ?_ _ | refine blk_drew ?_ | refine blk_alloc ?_ _)); exact BK519.out⟩, ⟨by repeat (first | (with_reducible first | exact HB.out | apply below_alloc | apply pw_below_drewN | apply below_drew1 | refine below_set ?_ GE517.out | refine below_set ?_ GE518.out | refine below_set ?_ GE519.out) | exact HB.out)⟩⟩
  case round =>
    clear H'
    try clear c1
    try clear p2
    try clear c4
    try clear c7
    try clear c8
    try clear hcz10_0
    try clear hcz10_1
    try clear hcz10_2
    try clear hcz10_3
    try clear hcz5_0
    try clear hcz5_1
    try clear hcz5_2
    try clear hcz5_3
    try clear hcz9_0
    try clear hcz9_1
    try clear hcz9_2
    try clear hcz9_3
    try clear hfz10_0
    try clear hfz10_1
    try clear hfz10_2
    try clear hfz10_3
    try clear hfz5_0
    try clear hfz5_1
    try clear hfz5_2
    try clear hfz5_3
    try clear hfz9_0
    try clear hfz9_1
    try clear hfz9_2
    try clear hfz9_3
    obtain ⟨x16_1, x520003_1, u520003, rfl, HA, HK1, HO_520003, BK517, BK518, BK519, HB⟩ := hrel
    cases gk with
    | zero => exact absurd HA.out (by simp [impl_valIn.l0])
    | succ k1 =>
      have H := HA.out
      clear HA
      simp only [impl_valIn.l0] at H
      by_cases c11 : x16_1 < (l0_3.length : Int)
      · rw [if_pos c11] at H
        have c11b0 : decide (x16_1 < (l0_3.length : Int)) = true := decide_eq_true c11
        clear c11
        by_cases c12 : 0 ≤ x16_1
        · rw [if_pos c12] at H
          have c12b0 : decide (0 ≤ x16_1) = true := decide_eq_true c12
          clear c12
          by_cases c13 : x16_1 < (l0_3.length : Int)
          · rw [if_pos c13] at H
            have c13b0 : decide (x16_1 < (l0_3.length : Int)) = true := decide_eq_true c13
            clear c13
            replace H := Option.bind_eq_some_iff.mp H
            obtain ⟨⟨t522, t523, t524, t525⟩, A140, H⟩ := H
            replace H : (if x520003_1.length < 2513169434916 then (impl_valIn.l0 k1 l0_3 (l0_3.length : Int) (wrap64 (x16_1 + 1)) a0_0 a0_1 a0_2 (x520003_1 ++ [(⟨t522, t523, t524, t525⟩ : S41)])) else (none)) = some (r1, r2, r3, r4) := H
            have A14 := Aside0.mk A140
            clear A140
            by_cases c15 : x520003_1.length < 2513169434916
            · rw [if_pos c15] at H
              have LMc15 := Aside0.mk c15
              clear c15
              obtain ⟨y528, hy528⟩ : ∃ y_ : List (S41), y_ = (x520003_1 ++ [(⟨t522, t523, t524, t525⟩ : S41)]) := ⟨_, rfl⟩
              replace H : (impl_valIn.l0 k1 l0_3 (l0_3.length : Int) (wrap64 (x16_1 + 1)) a0_0 a0_1 a0_2 y528) = some (r1, r2, r3, r4) := by first | (rw [hy528]; with_reducible exact H) | (have H2_ := (Option.bind_some _ _).symm.trans H; rw [hy528]; with_reducible exact H2_) | (have H2_ := (Option.bind_some _ _).symm.trans H; with_reducible exact H2_) | with_reducible exact H | (rw [hy528]; exact H) | exact H
              have Ny528 := Aside0.mk hy528
              clear hy528
              have H' := Aside0.mk H
              clear H
              have p520 : 0 ≤ (x16_1 : Int) := of_decide_eq_true (by first | (with_reducible assumption) | assumption)
              have q520 : x16_1 < (l0_3.length : Int) := of_decide_eq_true (by first | (with_reducible assumption) | assumption)
              obtain ⟨ad520, A520_3, c520_3, e520, hx520_0, hx520_1, hx520_2, hx520_3, hl520_3, hi520_3⟩ := at_T25 HR0_3.out x16_1 p520 q520
              cases e520
              replace hx520_0 := (HB.out.cell (World.block_lt_of_cell? w _ hx520_0)).trans hx520_0
              replace hx520_1 := (HB.out.cell (World.block_lt_of_cell? w _ hx520_1)).trans hx520_1
              replace hx520_2 := (HB.out.cell (World.block_lt_of_cell? w _ hx520_2)).trans hx520_2
              replace hx520_3 := (HB.out.cell (World.block_lt_of_cell? w _ hx520_3)).trans hx520_3
              have HR520_3 := Aside0.mk hi520_3
              have HC520_3 := Aside0.mk hl520_3
              clear hi520_3 hl520_3
              replace p520 := eq_true p520
              replace q520 := eq_true q520
              try go_wp2_with (first | ((with_reducible refine gate_dst (N := 5) rfl ?_); refine box_event ?hg (N := 5) ?hd (cs := #[.int .u8 0, .int .u64 0, .string (⟨#[]⟩ : ByteArray), .slice none 0 0]) (t := 25) ?hr ?_; (case hd => rfl); (case hg => rfl); (case hr => first | (go_simp; done) | (go_simp; rfl)); intro gb521 hg w16 hbox hb; have n0_ := Aside0.mk (Kd.R_below (by (with_reducible repeat (first | apply Kd.R_alloc | apply Kd.R_drewN | apply Kd.R_drew)); exact HO_520003.out) hb); have n1_ := Aside0.mk (blk_below (g := gb517) (o := .cells #[.int .u8 a0_0, .int .u64 a0_1, .string a0_2, .slice (some ad520) l0_3.length c0_3] 25 (0, 0)) (by (with_reducible repeat (first | refine blk_drewN ?_ _ | refine blk_drew ?_ | refine blk_alloc ?_ _)); exact BK517.out) hb); have n2_ := Aside0.mk (blk_below (g := gb518) (o := .cells #[.int .u8 0, .int .u64 0, .string (⟨#[]⟩ : ByteArray), .slice none 0 0] 41 (0, 0)) (by (with_reducible repeat (first | refine blk_drewN ?_ _ | refine blk_drew ?_ | refine blk_alloc ?_ _)); exact BK518.out) hb); have n3_ := Aside0.mk (blk_below (g := gb519) (o := .cells #[.int .u8 a0_0, .int .u64 a0_1, .string a0_2, u520003] 41 (0, 0)) (by (with_reducible repeat (first | refine blk_drewN ?_ _ | refine blk_drew ?_ | refine blk_alloc ?_ _)); exact BK519.out) hb); have n4_ := Aside0.mk (below_step (by repeat (first | (with_reducible first | exact HB.out | apply below_alloc | apply pw_below_drewN | apply below_drew1 | refine below_set ?_ GE517.out | refine below_set ?_ GE518.out | refine below_set ?_ GE519.out) | exact HB.out)) hb); have n5_ := Aside0.mk (hbox); have n6_ := Aside0.mk ((by rw [hg]; exact (below_size (by repeat (first | (with_reducible first | exact HB.out | apply below_alloc | apply pw_below_drewN | apply below_drew1 | refine below_set ?_ GE517.out | refine below_set ?_ GE518.out | refine below_set ?_ GE519.out) | exact HB.out))) : w.heap.size ≤ gb521)); have n7_ := Aside0.mk ((by rw [hg]; exact (below_size (by repeat (first | (with_reducible first | exact HB.out | apply below_alloc | apply pw_below_drewN | apply below_drew1 | refine below_set ?_ GE517.out | refine below_set ?_ GE518.out | refine below_set ?_ GE519.out) | exact HB.out))) : w.heap.size ≤ gb521)); have n8_ := Aside0.mk ((by rw [hg]; exact Nat.ne_of_lt (blk_lt (g := gb517) (o := .cells #[.int .u8 a0_0, .int .u64 a0_1, .string a0_2, .slice (some ad520) l0_3.length c0_3] 25 (0, 0)) (by (with_reducible repeat (first | refine blk_drewN ?_ _ | refine blk_drew ?_ | refine blk_alloc ?_ _)); exact BK517.out)) : gb517 ≠ gb521)); have n9_ := Aside0.mk ((by rw [hg]; exact Nat.ne_of_gt (blk_lt (g := gb517) (o := .cells #[.int .u8 a0_0, .int .u64 a0_1, .string a0_2, .slice (some ad520) l0_3.length c0_3] 25 (0, 0)) (by (with_reducible repeat (first | refine blk_drewN ?_ _ | refine blk_drew ?_ | refine blk_alloc ?_ _)); exact BK517.out)) : gb521 ≠ gb517)); have n10_ := Aside0.mk ((by rw [hg]; exact Nat.ne_of_lt (blk_lt (g := gb518) (o := .cells #[.int .u8 0, .int .u64 0, .string (⟨#[]⟩ : ByteArray), .slice none 0 0] 41 (0, 0)) (by (with_reducible repeat (first | refine blk_drewN ?_ _ | refine blk_drew ?_ | refine blk_alloc ?_ _)); exact BK518.out)) : gb518 ≠ gb521)); have n11_ := Aside0.mk ((by rw [hg]; exact Nat.ne_of_gt (blk_lt (g := gb518) (o := .cells #[.int .u8 0, .int .u64 0, .string (⟨#[]⟩ : ByteArray), .slice none 0 0] 41 (0, 0)) (by (with_reducible repeat (first | refine blk_drewN ?_ _ | refine blk_drew ?_ | refine blk_alloc ?_ _)); exact BK518.out)) : gb521 ≠ gb518)); have n12_ := Aside0.mk ((by rw [hg]; exact Nat.ne_of_lt (blk_lt (g := gb519) (o := .cells #[.int .u8 a0_0, .int .u64 a0_1, .string a0_2, u520003] 41 (0, 0)) (by (with_reducible repeat (first | refine blk_drewN ?_ _ | refine blk_drew ?_ | refine blk_alloc ?_ _)); exact BK519.out)) : gb519 ≠ gb521)); have n13_ := Aside0.mk ((by rw [hg]; exact Nat.ne_of_gt (blk_lt (g := gb519) (o := .cells #[.int .u8 a0_0, .int .u64 a0_1, .string a0_2, u520003] 41 (0, 0)) (by (with_reducible repeat (first | refine blk_drewN ?_ _ | refine blk_drew ?_ | refine blk_alloc ?_ _)); exact BK519.out)) : gb521 ≠ gb519)); clear HO_520003; clear BK517; clear BK518; clear BK519; clear HB; have HO_520003 := n0_; have BK517 := n1_; have BK518 := n2_; have BK519 := n3_; have HB := n4_; have BK521 := n5_; have GW521 := n6_; have GE521 := n7_; have NB517_521 := n8_; have NB521_517 := n9_; have NB518_521 := n10_; have NB521_518 := n11_; have NB519_521 := n12_; have NB521_519 := n13_; clear n0_ n1_ n2_ n3_ n4_ n5_ n6_ n7_ n8_ n9_ n10_ n11_ n12_ n13_; clear hb hbox hg; have hnb17 := NB521_517.out; have hnc17 := NB517_521.out; have hnb18 := NB521_518.out; have hnc18 := NB518_521.out; have hnb19 := NB521_519.out; have hnc19 := NB519_521.out; have hcz20_0 : w16.cell? ⟨gb521, 0, none⟩ = some (.int .u8 0) := (blk_cell BK521.out 0).trans rfl; have hcz20_1 : w16.cell? ⟨gb521, 1, none⟩ = some (.int .u64 0) := (blk_cell BK521.out 1).trans rfl; have hcz20_2 : w16.cell? ⟨gb521, 2, none⟩ = some (.string (⟨#[]⟩ : ByteArray)) := (blk_cell BK521.out 2).trans rfl; have hcz20_3 : w16.cell? ⟨gb521, 3, none⟩ = some (.slice none 0 0) := (blk_cell BK521.out 3).trans rfl; have hfz20_0 := blk_frozen BK521.out 0; have hfz20_1 := blk_frozen BK521.out 1; have hfz20_2 := blk_frozen BK521.out 2; have hfz20_3 := blk_frozen BK521.out 3))
              have n0_ : Aside0 (Kd.R k41 41 ((((w16.setCell ⟨gb521, 0, none⟩ (.int .u8 ((rd_T25 l0_3 x16_1).f0))).setCell ⟨gb521, 1, none⟩ (.int .u64 ((rd_T25 l0_3 x16_1).f1))).setCell ⟨gb521, 2, none⟩ (.string ((rd_T25 l0_3 x16_1).f2))).setCell ⟨gb521, 3, none⟩ (.slice A520_3 ((rd_T25 l0_3 x16_1).f3).length c520_3)) w.heap.size (fun k_ => k_ ≠ gb518 ∧ k_ ≠ gb519) u520003 x520003_1) := ⟨by (with_reducible repeat (first | apply Kd.R_alloc | apply Kd.R_drewN | apply Kd.R_drew)); exact Kd.R_mono (Kd.R_far (p := ⟨gb521, 3, none⟩) (Kd.R_far (p := ⟨gb521, 2, none⟩) (Kd.R_far (p := ⟨gb521, 1, none⟩) (Kd.R_far (p := ⟨gb521, 0, none⟩) (Kd.R_types HO_520003.out BK521.out (by decide)) (fun _ hk => hk.2) (.int .u8 ((rd_T25 l0_3 x16_1).f0))) (fun _ hk => hk.2) (.int .u64 ((rd_T25 l0_3 x16_1).f1))) (fun _ hk => hk.2) (.string ((rd_T25 l0_3 x16_1).f2))) (fun _ hk => hk.2) (.slice A520_3 ((rd_T25 l0_3 x16_1).f3).length c520_3)) (fun _ hk => ⟨hk.1.1, hk.1.2⟩)⟩
              have n1_ : Aside0 (((((w16.setCell ⟨gb521, 0, none⟩ (.int .u8 ((rd_T25 l0_3 x16_1).f0))).setCell ⟨gb521, 1, none⟩ (.int .u64 ((rd_T25 l0_3 x16_1).f1))).setCell ⟨gb521, 2, none⟩ (.string ((rd_T25 l0_3 x16_1).f2))).setCell ⟨gb521, 3, none⟩ (.slice A520_3 ((rd_T25 l0_3 x16_1).f3).length c520_3)).heap[gb517]? = some (.cells #[.int .u8 a0_0, .int .u64 a0_1, .string a0_2, .slice (some ad520) l0_3.length c0_3] 25 (0, 0))) := ⟨by (with_reducible repeat (first | refine blk_drewN ?_ _ | refine blk_drew ?_ | refine blk_alloc ?_ _)); refine blk_far ?_ NB517_521.out _; (with_reducible repeat (first | refine blk_drewN ?_ _ | refine blk_drew ?_ | refine blk_alloc ?_ _)); refine blk_far ?_ NB517_521.out _; (with_reducible repeat (first | refine blk_drewN ?_ _ | refine blk_drew ?_ | refine blk_alloc ?_ _)); refine blk_far ?_ NB517_521.out _; (with_reducible repeat (first | refine blk_drewN ?_ _ | refine blk_drew ?_ | refine blk_alloc ?_ _)); refine blk_far ?_ NB517_521.out _; (with_reducible repeat (first | refine blk_drewN ?_ _ | refine blk_drew ?_ | refine blk_alloc ?_ _)); exact BK517.out⟩
              have n2_ : Aside0 (((((w16.setCell ⟨gb521, 0, none⟩ (.int .u8 ((rd_T25 l0_3 x16_1).f0))).setCell ⟨gb521, 1, none⟩ (.int .u64 ((rd_T25 l0_3 x16_1).f1))).setCell ⟨gb521, 2, none⟩ (.string ((rd_T25 l0_3 x16_1).f2))).setCell ⟨gb521, 3, none⟩ (.slice A520_3 ((rd_T25 l0_3 x16_1).f3).length c520_3)).heap[gb518]? = some (.cells #[.int .u8 0, .int .u64 0, .string (⟨#[]⟩ : ByteArray), .slice none 0 0] 41 (0, 0))) := ⟨by (with_reducible repeat (first | refine blk_drewN ?_ _ | refine blk_drew ?_ | refine blk_alloc ?_ _)); refine blk_far ?_ NB518_521.out _; (with_reducible repeat (first | refine blk_drewN ?_ _ | refine blk_drew ?_ | refine blk_alloc ?_ _)); refine blk_far ?_ NB518_521.out _; (with_reducible repeat (first | refine blk_drewN ?_ _ | refine blk_drew ?_ | refine blk_alloc ?_ _)); refine blk_far ?_ NB518_521.out _; (with_reducible repeat (first | refine blk_drewN ?_ _ | refine blk_drew ?_ | refine blk_alloc ?_ _)); refine blk_far ?_ NB518_521.out _; (with_reducible repeat (first | refine blk_drewN ?_ _ | refine blk_drew ?_ | refine blk_alloc ?_ _)); exact BK518.out⟩
              have n3_ : Aside0 (((((w16.setCell ⟨gb521, 0, none⟩ (.int .u8 ((rd_T25 l0_3 x16_1).f0))).setCell ⟨gb521, 1, none⟩ (.int .u64 ((rd_T25 l0_3 x16_1).f1))).setCell ⟨gb521, 2, none⟩ (.string ((rd_T25 l0_3 x16_1).f2))).setCell ⟨gb521, 3, none⟩ (.slice A520_3 ((rd_T25 l0_3 x16_1).f3).length c520_3)).heap[gb519]? = some (.cells #[.int .u8 a0_0, .int .u64 a0_1, .string a0_2, u520003] 41 (0, 0))) := ⟨by (with_reducible repeat (first | refine blk_drewN ?_ _ | refine blk_drew ?_ | refine blk_alloc ?_ _)); refine blk_far ?_ NB519_521.out _; (with_reducible repeat (first | refine blk_drewN ?_ _ | refine blk_drew ?_ | refine blk_alloc ?_ _)); refine blk_far ?_ NB519_521.out _; (with_reducible repeat (first | refine blk_drewN ?_ _ | refine blk_drew ?_ | refine blk_alloc ?_ _)); refine blk_far ?_ NB519_521.out _; (with_reducible repeat (first | refine blk_drewN ?_ _ | refine blk_drew ?_ | refine blk_alloc ?_ _)); refine blk_far ?_ NB519_521.out _; (with_reducible repeat (first | refine blk_drewN ?_ _ | refine blk_drew ?_ | refine blk_alloc ?_ _)); exact BK519.out⟩
              have n4_ : Aside0 (((((w16.setCell ⟨gb521, 0, none⟩ (.int .u8 ((rd_T25 l0_3 x16_1).f0))).setCell ⟨gb521, 1, none⟩ (.int .u64 ((rd_T25 l0_3 x16_1).f1))).setCell ⟨gb521, 2, none⟩ (.string ((rd_T25 l0_3 x16_1).f2))).setCell ⟨gb521, 3, none⟩ (.slice A520_3 ((rd_T25 l0_3 x16_1).f3).length c520_3)).heap[gb521]? = some (.cells #[.int .u8 ((rd_T25 l0_3 x16_1).f0), .int .u64 ((rd_T25 l0_3 x16_1).f1), .string ((rd_T25 l0_3 x16_1).f2), .slice A520_3 ((rd_T25 l0_3 x16_1).f3).length c520_3] 25 (0, 0))) := ⟨by (with_reducible repeat (first | refine blk_drewN ?_ _ | refine blk_drew ?_ | refine blk_alloc ?_ _)); refine blk_put (cs := #[.int .u8 ((rd_T25 l0_3 x16_1).f0), .int .u64 ((rd_T25 l0_3 x16_1).f1), .string ((rd_T25 l0_3 x16_1).f2), .slice none 0 0]) ?_ 3 _ rfl; (with_reducible repeat (first | refine blk_drewN ?_ _ | refine blk_drew ?_ | refine blk_alloc ?_ _)); refine blk_put (cs := #[.int .u8 ((rd_T25 l0_3 x16_1).f0), .int .u64 ((rd_T25 l0_3 x16_1).f1), .string (⟨#[]⟩ : ByteArray), .slice none 0 0]) ?_ 2 _ rfl; (with_reducible repeat (first | refine blk_drewN ?_ _ | refine blk_drew ?_ | refine blk_alloc ?_ _)); refine blk_put (cs := #[.int .u8 ((rd_T25 l0_3 x16_1).f0), .int .u64 0, .string (⟨#[]⟩ : ByteArray), .slice none 0 0]) ?_ 1 _ rfl; (with_reducible repeat (first | refine blk_drewN ?_ _ | refine blk_drew ?_ | refine blk_alloc ?_ _)); refine blk_put (cs := #[.int .u8 0, .int .u64 0, .string (⟨#[]⟩ : ByteArray), .slice none 0 0]) ?_ 0 _ rfl; (with_reducible repeat (first | refine blk_drewN ?_ _ | refine blk_drew ?_ | refine blk_alloc ?_ _)); exact BK521.out⟩
              have n5_ : Aside0 (Below w.heap.size w ((((w16.setCell ⟨gb521, 0, none⟩ (.int .u8 ((rd_T25 l0_3 x16_1).f0))).setCell ⟨gb521, 1, none⟩ (.int .u64 ((rd_T25 l0_3 x16_1).f1))).setCell ⟨gb521, 2, none⟩ (.string ((rd_T25 l0_3 x16_1).f2))).setCell ⟨gb521, 3, none⟩ (.slice A520_3 ((rd_T25 l0_3 x16_1).f3).length c520_3))) := ⟨by repeat (first | (with_reducible first | exact HB.out | apply below_alloc | apply pw_below_drewN | apply below_drew1 | refine below_set ?_ GE517.out | refine below_set ?_ GE518.out | refine below_set ?_ GE519.out | refine below_set ?_ GE521.out) | exact HB.out)⟩
              (try clear HO_520003)
              (try clear BK517)
              (try clear BK518)
              (try clear BK519)
              (try clear BK521)
              (try clear HB)
              generalize ((((w16.setCell ⟨gb521, 0, none⟩ (.int .u8 ((rd_T25 l0_3 x16_1).f0))).setCell ⟨gb521, 1, none⟩ (.int .u64 ((rd_T25 l0_3 x16_1).f1))).setCell ⟨gb521, 2, none⟩ (.string ((rd_T25 l0_3 x16_1).f2))).setCell ⟨gb521, 3, none⟩ (.slice A520_3 ((rd_T25 l0_3 x16_1).f3).length c520_3)) = w21 at n0_ n1_ n2_ n3_ n4_ n5_ ⊢
              have HO_520003 := n0_
              have BK517 := n1_
              have BK518 := n2_
              have BK519 := n3_
              have BK521 := n4_
              have HB := n5_
              clear n0_ n1_ n2_ n3_ n4_ n5_
              have n0_ := Aside0.mk (Kd.R_drew HO_520003.out)
              have n1_ := Aside0.mk (blk_drew BK517.out)
              have n2_ := Aside0.mk (blk_drew BK518.out)
              have n3_ := Aside0.mk (blk_drew BK519.out)
              have n4_ := Aside0.mk (blk_drew BK521.out)
              have n5_ := Aside0.mk (below_drew1 HB.out)
              clear HO_520003
              clear BK517
              clear BK518
              clear BK519
              clear BK521
              clear HB
              have HO_520003 := n0_
              have BK517 := n1_
              have BK518 := n2_
              have BK519 := n3_
              have BK521 := n4_
              have HB := n5_
              clear n0_ n1_ n2_ n3_ n4_ n5_
              refine start_ (n := 8) (S := fun w' => w'.cell? ⟨gb519, 0, none⟩ = some (.int .u8 a0_0) ∧ w'.cell? ⟨gb519, 1, none⟩ = some (.int .u64 a0_1) ∧ w'.cell? ⟨gb519, 2, none⟩ = some (.string a0_2) ∧ w'.cell? ⟨gb519, 3, none⟩ = some (u520003) ∧ w'.cell? ⟨gb521, 0, none⟩ = some (.int .u8 ((rd_T25 l0_3 x16_1).f0)) ∧ w'.cell? ⟨gb521, 1, none⟩ = some (.int .u64 ((rd_T25 l0_3 x16_1).f1)) ∧ w'.cell? ⟨gb521, 2, none⟩ = some (.string ((rd_T25 l0_3 x16_1).f2)) ∧ w'.cell? ⟨gb521, 3, none⟩ = some (.slice A520_3 ((rd_T25 l0_3 x16_1).f3).length c520_3)) (ds := [7]) #[false, false, false, false, false, false, false, false] (by kernel_rfl) rfl rfl ⟨(blk_cell BK519.out 0).trans rfl, (blk_cell BK519.out 1).trans rfl, (blk_cell BK519.out 2).trans rfl, (blk_cell BK519.out 3).trans rfl, (blk_cell BK521.out 0).trans rfl, (blk_cell BK521.out 1).trans rfl, (blk_cell BK521.out 2).trans rfl, (blk_cell BK521.out 3).trans rfl⟩ (fun hHeld => ?_); refine with_tabW impl_valIn.tab5 impl_valIn.bits5 (fun HT_ HW_ => ?_)
              generalize w21.drew = w22 at HO_520003 BK517 BK518 BK519 BK521 HB hHeld ⊢
              refine pure_ (i := 0) (N := some 20) (v := ?_) (a' := ?_) #[true, false, false, false, false, false, false, false] rfl rfl (any_of HT_.out (by kernel_rfl)) (fun _ _ _ h => h) (Or.inl ⟨by rfl, ?_⟩) ?_ ?_
              rotate_left
              · intro w'
                go_simp
                with_reducible rfl
              rotate_left
              · simp only [Act.put, List.setIfInBounds_toArray, List.set_cons_zero, List.set_cons_succ, i64_w, i32_w]
                rfl
              refine take_ (i := 1) (N := some 21) (v := ?_) (a' := ?_) #[true, true, false, false, false, false, false, false] rfl rfl (take_ofW HT_.out HW_.out (by kernel_rfl)) (fun _ _ _ h => h) (Or.inl ⟨by rfl, ?_⟩) hHeld ?_ ?_
              rotate_left
              · rintro w' ⟨s0, s1, s2, s3, s4, s5, s6, s7⟩
                go_simp
                with_reducible rfl
              rotate_left
              · simp only [Act.put, List.setIfInBounds_toArray, List.set_cons_zero, List.set_cons_succ, i64_w, i32_w]
                rfl
              refine take_ (i := 2) (N := some 22) (v := ?_) (a' := ?_) #[true, true, true, false, false, false, false, false] rfl rfl (take_ofW HT_.out HW_.out (by kernel_rfl)) (fun _ _ _ h => h) (Or.inl ⟨by rfl, ?_⟩) hHeld ?_ ?_
              rotate_left
              · rintro w' ⟨s0, s1, s2, s3, s4, s5, s6, s7⟩
                go_simp
                with_reducible rfl
              rotate_left
              · simp only [Act.put, List.setIfInBounds_toArray, List.set_cons_zero, List.set_cons_succ, i64_w, i32_w]
                rfl
              refine one_ (i := 3) (N := some 23) #[true, true, true, true, false, false, false, false] rfl rfl (one_of HT_.out (by kernel_rfl)) (by decide) (fun K hK => ?_)
              refine goes_ Tryz.func12 (by kernel_rfl) rfl #[.agg #[.int .u8 ((rd_T25 l0_3 x16_1).f0), .int .u64 ((rd_T25 l0_3 x16_1).f1), .string ((rd_T25 l0_3 x16_1).f2), .slice A520_3 ((rd_T25 l0_3 x16_1).f3).length c520_3]] (by rfl) rfl rfl (by (try simp only [List.map_toArray, List.map_cons, List.map_nil]); first | done | rfl | (simp only [List.length_drop, List.length_take]; rfl)) ?_
              with_reducible refine (ih k1 (by have := HK1.out; omega) ((rd_T25 l0_3 x16_1).f0) ((rd_T25 l0_3 x16_1).f1) ((rd_T25 l0_3 x16_1).f2) _ _ ((rd_T25 l0_3 x16_1).f3) t522 t523 t524 t525 _ ?side1 ?side2 A14.out).mono ?_
              (case side1 => repeat (first | exact (Kd.C_below HR520_3.out HB.out) | (with_reducible refine Kd.C_alloc ?_ _) | (with_reducible refine Kd.C_drewN ?_ _) | (with_reducible refine Kd.C_drew ?_)))
              (case side2 => exact HC520_3.out)
              rintro e w23 ⟨v526, rfl, ho0, hb⟩
              refine ⟨_, rfl, ?_⟩
              have n0_ := Aside0.mk (Kd.R_elder' (by (with_reducible repeat (first | apply Kd.R_alloc | apply Kd.R_drewN | apply Kd.R_drew)); exact HO_520003.out) (Kd.R_base ho0) hb)
              have n1_ := Aside0.mk (Kd.R_lower (Kd.R_newB (Kd.R_newB (Kd.R_new' ho0 (Kd.R_lt (by (with_reducible repeat (first | apply Kd.R_alloc | apply Kd.R_drewN | apply Kd.R_drew)); exact HO_520003.out))) (g := gb518) (o := .cells #[.int .u8 0, .int .u64 0, .string (⟨#[]⟩ : ByteArray), .slice none 0 0] 41 (0, 0)) (by (with_reducible repeat (first | refine blk_drewN ?_ _ | refine blk_drew ?_ | refine blk_alloc ?_ _)); exact BK518.out)) (g := gb519) (o := .cells #[.int .u8 a0_0, .int .u64 a0_1, .string a0_2, u520003] 41 (0, 0)) (by (with_reducible repeat (first | refine blk_drewN ?_ _ | refine blk_drew ?_ | refine blk_alloc ?_ _)); exact BK519.out)) (below_size (by repeat (first | (with_reducible first | exact HB.out | apply below_alloc | apply pw_below_drewN | apply below_drew1 | refine below_set ?_ GE517.out | refine below_set ?_ GE518.out | refine below_set ?_ GE519.out | refine below_set ?_ GE521.out) | exact HB.out))))
              have n2_ := Aside0.mk (blk_below (g := gb517) (o := .cells #[.int .u8 a0_0, .int .u64 a0_1, .string a0_2, .slice (some ad520) l0_3.length c0_3] 25 (0, 0)) (by (with_reducible repeat (first | refine blk_drewN ?_ _ | refine blk_drew ?_ | refine blk_alloc ?_ _)); exact BK517.out) hb)
              have n3_ := Aside0.mk (blk_below (g := gb518) (o := .cells #[.int .u8 0, .int .u64 0, .string (⟨#[]⟩ : ByteArray), .slice none 0 0] 41 (0, 0)) (by (with_reducible repeat (first | refine blk_drewN ?_ _ | refine blk_drew ?_ | refine blk_alloc ?_ _)); exact BK518.out) hb)
              have n4_ := Aside0.mk (blk_below (g := gb519) (o := .cells #[.int .u8 a0_0, .int .u64 a0_1, .string a0_2, u520003] 41 (0, 0)) (by (with_reducible repeat (first | refine blk_drewN ?_ _ | refine blk_drew ?_ | refine blk_alloc ?_ _)); exact BK519.out) hb)
              have n5_ := Aside0.mk (blk_below (g := gb521) (o := .cells #[.int .u8 ((rd_T25 l0_3 x16_1).f0), .int .u64 ((rd_T25 l0_3 x16_1).f1), .string ((rd_T25 l0_3 x16_1).f2), .slice A520_3 ((rd_T25 l0_3 x16_1).f3).length c520_3] 25 (0, 0)) (by (with_reducible repeat (first | refine blk_drewN ?_ _ | refine blk_drew ?_ | refine blk_alloc ?_ _)); exact BK521.out) hb)
              have n6_ := Aside0.mk (below_step (by repeat (first | (with_reducible first | exact HB.out | apply below_alloc | apply pw_below_drewN | apply below_drew1 | refine below_set ?_ GE517.out | refine below_set ?_ GE518.out | refine below_set ?_ GE519.out | refine below_set ?_ GE521.out) | exact HB.out)) hb)
              clear HO_520003
              clear BK517
              clear BK518
              clear BK519
              clear BK521
              clear HB
              have HO_520003 := n0_
              have HO527 := n1_
              have BK517 := n2_
              have BK518 := n3_
              have BK519 := n4_
              have BK521 := n5_
              have HB := n6_
              clear n0_ n1_ n2_ n3_ n4_ n5_ n6_
              (try clear hb)
              (try clear hb2)
              (try clear hk)
              (try clear hi)
              (try clear ho0)
              obtain ⟨Ao25, co25, eo25⟩ := Kd.R_slice HO527.out
              (first | subst eo25 | (injection eo25 with f1_ f2_ f3_; have f4_ := f1_.symm; have f5_ := f3_.symm; clear f1_ f2_ f3_; subst f4_; subst f5_))
              refine hK.out _ _ ⟨(blk_cell BK519.out 0).trans rfl, (blk_cell BK519.out 1).trans rfl, (blk_cell BK519.out 2).trans rfl, (blk_cell BK519.out 3).trans rfl, (blk_cell BK521.out 0).trans rfl, (blk_cell BK521.out 1).trans rfl, (blk_cell BK521.out 2).trans rfl, (blk_cell BK521.out 3).trans rfl⟩ (fun hHeld => ?_)
              clear hK K
              refine norm_ (a' := ?_) ?_ ?_
              rotate_left
              · show Act.put _ (some 23) _ = _
                simp only [Act.put, List.setIfInBounds_toArray, List.set_cons_zero, List.set_cons_succ, i64_w, i32_w]
                rfl
              refine one_ (i := 4) (N := some 24) #[true, true, true, true, true, false, false, false] rfl rfl (one_of HT_.out (by kernel_rfl)) (by decide) (fun K hK => ?_)
              refine value_ (w1 := ?_) (v := ?_) (by rfl) rfl ?_ ?_
              rotate_left 2
              · go_simp
                constructor
                · rfl
                · rfl
              refine hK.out _ _ ⟨(blk_cell (blk_alloc BK519.out _) 0).trans rfl, (blk_cell (blk_alloc BK519.out _) 1).trans rfl, (blk_cell (blk_alloc BK519.out _) 2).trans rfl, (blk_cell (blk_alloc BK519.out _) 3).trans rfl, (blk_cell (blk_alloc BK521.out _) 0).trans rfl, (blk_cell (blk_alloc BK521.out _) 1).trans rfl, (blk_cell (blk_alloc BK521.out _) 2).trans rfl, (blk_cell (blk_alloc BK521.out _) 3).trans rfl⟩ (fun hHeld => ?_)
              clear hK K
              refine norm_ (a' := ?_) ?_ ?_
              rotate_left
              · show Act.put _ (some 24) _ = _
                simp only [Act.put, List.setIfInBounds_toArray, List.set_cons_zero, List.set_cons_succ, i64_w, i32_w]
                rfl
              refine one_ (i := 5) (N := some 25) #[true, true, true, true, true, true, false, false] rfl rfl (one_of HT_.out (by kernel_rfl)) (by decide) (fun K hK => ?_)
              refine Kd.R_append_step k41 (w0 := w) w.heap.size (by rfl) (.tmp 21) (.tmp 24) 39 41 (.agg #[(.int .u8 0), (.int .u64 0), (.string ⟨#[]⟩), (.slice none 0 0)]) 56 rfl Tryz.underlying39 info41 rfl (by decide) (by omega) u520003 x520003_1 (⟨t522, t523, t524, t525⟩ : S41) [.int .u8 t522, .int .u64 t523, .string t524, .slice Ao25 t525.length co25] (fun k_ => k_ ≠ gb518 ∧ k_ ≠ gb519) (fun k_ => ((fun k_ => k_ ≠ gb518 ∧ k_ ≠ gb519)) k_ ∧ some k_ ≠ (u520003 : Value).ownBlock) rfl rfl ?aP (fun _ hk => hk) ?aF ?aO ?aB ?aS ?aL ?_
              (case aP => exact k41_mkM _ _ _ (⟨t522, t523, t524, t525⟩ : S41) (Kd.R_mono (HO527.out) (fun k_ hk => ⟨⟨hk.1.2, hk.2⟩, hk.1.1.2⟩)))
              (case aB => exact (by repeat (first | (with_reducible first | exact HB.out | apply below_alloc | apply pw_below_drewN | apply below_drew1 | refine below_set ?_ GE517.out | refine below_set ?_ GE518.out | refine below_set ?_ GE519.out | refine below_set ?_ GE521.out) | exact HB.out)))
              (case aF => exact (fun k_ hk => ⟨Kd.freshB (g := gb518) (o := .cells #[.int .u8 0, .int .u64 0, .string (⟨#[]⟩ : ByteArray), .slice none 0 0] 41 (0, 0)) (by (with_reducible repeat (first | refine blk_drewN ?_ _ | refine blk_drew ?_ | refine blk_alloc ?_ _)); exact BK518.out) k_ hk, Kd.freshB (g := gb519) (o := .cells #[.int .u8 a0_0, .int .u64 a0_1, .string a0_2, u520003] 41 (0, 0)) (by (with_reducible repeat (first | refine blk_drewN ?_ _ | refine blk_drew ?_ | refine blk_alloc ?_ _)); exact BK519.out) k_ hk⟩))
              (case aO => exact (by (with_reducible repeat (first | apply Kd.R_alloc | apply Kd.R_drewN | apply Kd.R_drew)); exact Kd.R_mono HO_520003.out (fun _ hk => ⟨hk.1.1, hk.1.2⟩)))
              (case aS => exact (below_size (by repeat (first | (with_reducible first | exact HB.out | apply below_alloc | apply pw_below_drewN | apply below_drew1 | refine below_set ?_ GE517.out | refine below_set ?_ GE518.out | refine below_set ?_ GE519.out | refine below_set ?_ GE521.out) | exact HB.out))))
              (case aL => have := LMc15.out; omega)
              intro v529 w24 ho hb hg hat
              rw [← Ny528.out] at ho
              have n0_ := Aside0.mk (blk_grown (g := gb517) (o := .cells #[.int .u8 a0_0, .int .u64 a0_1, .string a0_2, .slice (some ad520) l0_3.length c0_3] 25 (0, 0)) (by (with_reducible repeat (first | refine blk_drewN ?_ _ | refine blk_drew ?_ | refine blk_alloc ?_ _)); exact BK517.out) hg (Kd.R_ne HO_520003.out BK517.out (by decide)))
              have n1_ := Aside0.mk (blk_grown (g := gb518) (o := .cells #[.int .u8 0, .int .u64 0, .string (⟨#[]⟩ : ByteArray), .slice none 0 0] 41 (0, 0)) (by (with_reducible repeat (first | refine blk_drewN ?_ _ | refine blk_drew ?_ | refine blk_alloc ?_ _)); exact BK518.out) hg (Kd.R_away HO_520003.out (fun _ hk => hk.1.1)))
              have n2_ := Aside0.mk (blk_grown (g := gb519) (o := .cells #[.int .u8 a0_0, .int .u64 a0_1, .string a0_2, u520003] 41 (0, 0)) (by (with_reducible repeat (first | refine blk_drewN ?_ _ | refine blk_drew ?_ | refine blk_alloc ?_ _)); exact BK519.out) hg (Kd.R_away HO_520003.out (fun _ hk => hk.1.2)))
              have n3_ := Aside0.mk (blk_grown (g := gb521) (o := .cells #[.int .u8 ((rd_T25 l0_3 x16_1).f0), .int .u64 ((rd_T25 l0_3 x16_1).f1), .string ((rd_T25 l0_3 x16_1).f2), .slice A520_3 ((rd_T25 l0_3 x16_1).f3).length c520_3] 25 (0, 0)) (by (with_reducible repeat (first | refine blk_drewN ?_ _ | refine blk_drew ?_ | refine blk_alloc ?_ _)); exact BK521.out) hg (Kd.R_ne HO_520003.out BK521.out (by decide)))
              have n4_ := Aside0.mk (hb)
              have n5_ := Aside0.mk (ho)
              clear BK517
              clear BK518
              clear BK519
              clear BK521
              clear HB
              clear HO_520003
              clear HO527
              have BK517 := n0_
              have BK518 := n1_
              have BK519 := n2_
              have BK521 := n3_
              have HB := n4_
              have HO530 := n5_
              clear n0_ n1_ n2_ n3_ n4_ n5_
              clear ho hb hg hat
              obtain ⟨Ao26, co26, eo26⟩ := Kd.R_slice HO530.out
              (first | subst eo26 | (injection eo26 with f1_ f2_ f3_; have f4_ := f1_.symm; have f5_ := f3_.symm; clear f1_ f2_ f3_; subst f4_; subst f5_))
              refine hK.out _ _ ⟨(blk_cell BK519.out 0).trans rfl, (blk_cell BK519.out 1).trans rfl, (blk_cell BK519.out 2).trans rfl, (blk_cell BK519.out 3).trans rfl, (blk_cell BK521.out 0).trans rfl, (blk_cell BK521.out 1).trans rfl, (blk_cell BK521.out 2).trans rfl, (blk_cell BK521.out 3).trans rfl⟩ (fun hHeld => ?_)
              clear hK K
              refine norm_ (a' := ?_) ?_ ?_
              rotate_left
              · show Act.put _ (some 25) _ = _
                simp only [Act.put, List.setIfInBounds_toArray, List.set_cons_zero, List.set_cons_succ, i64_w, i32_w]
                rfl
              refine pure_ (i := 6) (N := some 26) (v := ?_) (a' := ?_) #[true, true, true, true, true, true, true, false] rfl rfl (any_of HT_.out (by kernel_rfl)) (fun _ _ _ h => h) (Or.inl ⟨by rfl, ?_⟩) ?_ ?_
              rotate_left
              · intro w'
                go_simp
                with_reducible rfl
              rotate_left
              · simp only [Act.put, List.setIfInBounds_toArray, List.set_cons_zero, List.set_cons_succ, i64_w, i32_w]
                rfl
              refine last_ (i := 7) (N := none) #[true, true, true, true, true, true, true, true] rfl rfl (one_of HT_.out (by kernel_rfl)) (by decide) (fun K hK => ?_)
              have hs27 : w24.cell? ⟨gb519, 3, none⟩ = some (u520003) := (blk_cell BK519.out 3).trans rfl
              have hfs27 := blk_frozen BK519.out 3
              have hns27_0 := NB517_519.out
              have hns27_1 := NB518_519.out
              have hns27_3 := NB521_519.out
              have hms27_0 := NB519_517.out
              have hms27_1 := NB519_518.out
              have hms27_3 := NB519_521.out
              refine skip_ (w1 := ?_) (by rfl) rfl ?_ ?_
              rotate_left
              · go_simp
                rfl
              refine hK.out _ _ ?_
              clear hK K
              refine done_ (done_of HT_.out (by kernel_rfl)) ?_
              try go_wp2
              go_roundg k1
              case measure => have := HK1.out; omega
              case rel => exact ⟨(wrap64 (x16_1 + 1)), (y528), (.slice Ao26 y528.length co26), (by first | rfl | (simp; done) | (simp [*]; done)), H', ⟨by have := HK1.out; omega⟩, ⟨by (with_reducible repeat (first | apply Kd.R_alloc | apply Kd.R_drewN | apply Kd.R_drew)); exact Kd.R_mono (Kd.R_far (p := ⟨gb519, 3, none⟩) (Kd.R_mono HO530.out (fun k_ hk => (⟨hk, hk.2⟩ : _ ∧ k_ ≠ gb519))) (fun _ hk => hk.2) (.slice Ao26 y528.length co26)) (fun _ hk => ⟨hk.1.1, hk.1.2⟩)⟩, ⟨by (with_reducible repeat (first | refine blk_drewN ?_ _ | refine blk_drew ?_ | refine blk_alloc ?_ _)); refine blk_far ?_ NB517_519.out _; (with_reducible repeat (first | refine blk_drewN ?_ _ | refine blk_drew ?_ | refine blk_alloc ?_ _)); exact BK517.out⟩, ⟨by (with_reducible repeat (first | refine blk_drewN ?_ _ | refine blk_drew ?_ | refine blk_alloc ?_ _)); refine blk_far ?_ NB518_519.out _; (with_reducible repeat (first | refine blk_drewN ?_ _ | refine blk_drew ?_ | refine blk_alloc ?_ _)); exact BK518.out⟩, ⟨by (with_reducible repeat (first | refine blk_drewN ?_ _ | refine blk_drew ?_ | refine blk_alloc ?_ _)); refine blk_put (cs := #[.int .u8 a0_0, .int .u64 a0_1, .string a0_2, u520003]) ?_ 3 _ rfl; (with_reducible repeat (first | refine blk_drewN ?_ _ | refine blk_drew ?_ | refine blk_alloc ?_ _)); exact BK519.out⟩, ⟨by repeat (first | (with_reducible first | exact HB.out | apply below_alloc | apply pw_below_drewN | apply below_drew1 | refine below_set ?_ GE517.out | refine below_set ?_ GE518.out | refine below_set ?_ GE519.out | refine below_set ?_ GE521.out) | exact HB.out)⟩⟩
            · rw [if_neg c15] at H
              exact absurd H (by simp)
          · rw [if_neg c13] at H
            exact absurd H (by simp)
        · rw [if_neg c12] at H
          exact absurd H (by simp)
      · rw [if_neg c11] at H
        have c11b0 : decide (x16_1 < (l0_3.length : Int)) = false := decide_eq_false c11
        clear c11
        simp only [Option.some.injEq, Prod.mk.injEq] at H
        obtain ⟨rfl, rfl, rfl, rfl⟩ := H
        have hnb28 := NB519_517.out
        have hnc28 := NB517_519.out
        have hnb29 := NB519_518.out
        have hnc29 := NB518_519.out
        have hcz30_0 : wr.cell? ⟨gb519, 0, none⟩ = some (.int .u8 a0_0) := (blk_cell BK519.out 0).trans rfl
        have hcz30_1 : wr.cell? ⟨gb519, 1, none⟩ = some (.int .u64 a0_1) := (blk_cell BK519.out 1).trans rfl
        have hcz30_2 : wr.cell? ⟨gb519, 2, none⟩ = some (.string a0_2) := (blk_cell BK519.out 2).trans rfl
        have hcz30_3 : wr.cell? ⟨gb519, 3, none⟩ = some (u520003) := (blk_cell BK519.out 3).trans rfl
        have hfz30_0 := blk_frozen BK519.out 0
        have hfz30_1 := blk_frozen BK519.out 1
        have hfz30_2 := blk_frozen BK519.out 2
        have hfz30_3 := blk_frozen BK519.out 3
        have hnb31 := NB518_517.out
        have hnc31 := NB517_518.out
        have hcz32_0 : wr.cell? ⟨gb518, 0, none⟩ = some (.int .u8 0) := (blk_cell BK518.out 0).trans rfl
        have hcz32_1 : wr.cell? ⟨gb518, 1, none⟩ = some (.int .u64 0) := (blk_cell BK518.out 1).trans rfl
        have hcz32_2 : wr.cell? ⟨gb518, 2, none⟩ = some (.string (⟨#[]⟩ : ByteArray)) := (blk_cell BK518.out 2).trans rfl
        have hcz32_3 : wr.cell? ⟨gb518, 3, none⟩ = some (.slice none 0 0) := (blk_cell BK518.out 3).trans rfl
        have hfz32_0 := blk_frozen BK518.out 0
        have hfz32_1 := blk_frozen BK518.out 1
        have hfz32_2 := blk_frozen BK518.out 2
        have hfz32_3 := blk_frozen BK518.out 3
        obtain ⟨Ao33, co33, eo33⟩ := Kd.R_slice HO_520003.out
        subst eo33
        go_wp2
        refine bodyPost_ret (results_cell_row rfl _ _ gb518 41 #[.int .u8 a0_0, .int .u64 a0_1, .string a0_2, .slice Ao33 x520003_1.length co33] (0, 0) _ rfl (by (with_reducible repeat (first | refine blk_drewN ?_ _ | refine blk_drew ?_ | refine blk_alloc ?_ _)); refine blk_put (cs := #[.int .u8 a0_0, .int .u64 a0_1, .string a0_2, .slice none 0 0]) ?_ 3 _ rfl; (with_reducible repeat (first | refine blk_drewN ?_ _ | refine blk_drew ?_ | refine blk_alloc ?_ _)); refine blk_put (cs := #[.int .u8 a0_0, .int .u64 a0_1, .string (⟨#[]⟩ : ByteArray), .slice none 0 0]) ?_ 2 _ rfl; (with_reducible repeat (first | refine blk_drewN ?_ _ | refine blk_drew ?_ | refine blk_alloc ?_ _)); refine blk_put (cs := #[.int .u8 a0_0, .int .u64 0, .string (⟨#[]⟩ : ByteArray), .slice none 0 0]) ?_ 1 _ rfl; (with_reducible repeat (first | refine blk_drewN ?_ _ | refine blk_drew ?_ | refine blk_alloc ?_ _)); refine blk_put (cs := #[.int .u8 0, .int .u64 0, .string (⟨#[]⟩ : ByteArray), .slice none 0 0]) ?_ 0 _ rfl; (with_reducible repeat (first | refine blk_drewN ?_ _ | refine blk_drew ?_ | refine blk_alloc ?_ _)); exact BK518.out) Tryz.underlying41 rfl (by kernel_rfl)) rfl ?_
        exact ⟨_, by first | rfl | (simp [errW_none, errW_some] <;> rfl) | (simp [*, errW_none, errW_some] <;> rfl), by (with_reducible repeat (first | apply Kd.R_alloc | apply Kd.R_drewN | apply Kd.R_drew)); exact Kd.R_mono (Kd.R_far (p := ⟨gb518, 3, none⟩) (Kd.R_far (p := ⟨gb518, 2, none⟩) (Kd.R_far (p := ⟨gb518, 1, none⟩) (Kd.R_far (p := ⟨gb518, 0, none⟩) (Kd.R_mono HO_520003.out (fun k_ hk => (⟨hk, hk.1⟩ : _ ∧ k_ ≠ gb518))) (fun _ hk => hk.2) (.int .u8 a0_0)) (fun _ hk => hk.2) (.int .u64 a0_1)) (fun _ hk => hk.2) (.string a0_2)) (fun _ hk => hk.2) (.slice Ao33 x520003_1.length co33)) (fun _ hk => trivial), by repeat (first | (with_reducible first | exact HB.out | apply below_alloc | apply pw_below_drewN | apply below_drew1 | refine below_set ?_ GE517.out | refine below_set ?_ GE518.out | refine below_set ?_ GE519.out) | exact HB.out)⟩

-- NOT PRINTED: function 5 (impl_VtString)

-- NOT PRINTED: function 43 (bytealg_IndexByteString)

-- NOT PRINTED: function 25 (strconv_index)

-- NOT PRINTED: function 26 (strconv_contains)

/-! ### strconv_unhex: function 46 -/
mutual
def strconv_unhex.j0 : Nat → Int → Bool → Int → Bool → Option (Int × Bool)
  | 0, _, _, _, _ => none
  | k + 1, x2, x3, x4, x7 => if x7 = true then (some (wrap32 (x4 - 48), true)) else (if 97 ≤ x4 then (strconv_unhex.j1 k x2 x3 x4 (decide (x4 ≤ 102))) else (strconv_unhex.j1 k x2 x3 x4 false))
def strconv_unhex.j1 : Nat → Int → Bool → Int → Bool → Option (Int × Bool)
  | 0, _, _, _, _ => none
  | k + 1, x2, x3, x4, x16 => if x16 = true then (some (wrap32 ((wrap32 (x4 - 97)) + 10), true)) else (if 65 ≤ x4 then (if x4 ≤ 70 then (some (wrap32 ((wrap32 (x4 - 65)) + 10), true)) else (some (x2, x3))) else (some (x2, x3)))
end
def strconv_unhex.f (k : Nat) (a0 : Int) : Option (Int × Bool) := if 48 ≤ (wrap32 (a0)) then (strconv_unhex.j0 k 0 false (wrap32 (a0)) (decide ((wrap32 (a0)) ≤ 57))) else (strconv_unhex.j0 k 0 false (wrap32 (a0)) false)
theorem strconv_unhex.mono_l : ∀ k, (∀ y0 y1 y2 y3, LeO (strconv_unhex.j0 k y0 y1 y2 y3) (strconv_unhex.j0 (k + 1) y0 y1 y2 y3)) ∧ (∀ y0 y1 y2 y3, LeO (strconv_unhex.j1 k y0 y1 y2 y3) (strconv_unhex.j1 (k + 1) y0 y1 y2 y3))
  | 0 => ⟨fun _ _ _ _ r h => by simp [strconv_unhex.j0] at h, fun _ _ _ _ r h => by simp [strconv_unhex.j1] at h⟩
  | k + 1 => by
    obtain ⟨ih0, ih1⟩ := strconv_unhex.mono_l k
    refine ⟨?_, ?_⟩
    · intro y0 y1 y2 y3
      unfold strconv_unhex.j0
      repeat' first
      | (with_reducible exact ih0 _ _ _ _)
      | (with_reducible exact ih1 _ _ _ _)
      | (with_reducible exact LeO.refl _)
      | (with_reducible exact LeO.none _)
      | (with_reducible refine LeO.ite ?_ ?_)
      | (with_reducible refine LeO.bind ?_ (fun _ => ?_))
      | exact ih0 _ _ _ _
      | exact ih1 _ _ _ _
      | exact LeO.none _
      | refine LeO.ite ?_ ?_
      | refine LeO.bind ?_ (fun _ => ?_)
    · intro y0 y1 y2 y3
      unfold strconv_unhex.j1
      repeat' first
      | (with_reducible exact ih0 _ _ _ _)
      | (with_reducible exact ih1 _ _ _ _)
      | (with_reducible exact LeO.refl _)
      | (with_reducible exact LeO.none _)
      | (with_reducible refine LeO.ite ?_ ?_)
      | (with_reducible refine LeO.bind ?_ (fun _ => ?_))
      | exact ih0 _ _ _ _
      | exact ih1 _ _ _ _
      | exact LeO.none _
      | refine LeO.ite ?_ ?_
      | refine LeO.bind ?_ (fun _ => ?_)
theorem strconv_unhex.mono : ∀ a0 k, LeO (strconv_unhex.f k a0) (strconv_unhex.f (k + 1) a0) := by
  intro a0 k
  obtain ⟨ih0, ih1⟩ := strconv_unhex.mono_l k
  unfold strconv_unhex.f
  repeat' first
      | (with_reducible exact ih0 _ _ _ _)
      | (with_reducible exact ih1 _ _ _ _)
      | (with_reducible exact LeO.refl _)
      | (with_reducible exact LeO.none _)
      | (with_reducible refine LeO.ite ?_ ?_)
      | (with_reducible refine LeO.bind ?_ (fun _ => ?_))
      | exact ih0 _ _ _ _
      | exact ih1 _ _ _ _
      | exact LeO.none _
      | refine LeO.ite ?_ ?_
      | refine LeO.bind ?_ (fun _ => ?_)
set_option maxHeartbeats 8000000 in
set_option maxRecDepth 100000 in
theorem strconv_unhex.calls (k : Nat) (a0 : Int) (r1 : Int) (r2 : Bool) (w : World) (h : strconv_unhex.f k a0 = some (r1, r2)) :
    Calls Tryz.prog 46 #[.int .u8 a0] w fun e w' => e = .returned (.tuple #[.int .i32 r1, .bool r2]) ∧ Drawn0 w w' := by
  have H : (if 48 ≤ (wrap32 (a0)) then (strconv_unhex.j0 k 0 false (wrap32 (a0)) (decide ((wrap32 (a0)) ≤ 57))) else (strconv_unhex.j0 k 0 false (wrap32 (a0)) false)) = some (r1, r2) := h
  clear h
  have HC2 := Aside0.mk H
  clear H
  go_enter Tryz.func46, Tryz.ntmps46
  go_upto_region 2 with (fail)
  go_cut [7] (fun v7 wc => ∃ (kq : Nat) (x7_1 : Bool), v7 = .bool x7_1 ∧ Aside0 (strconv_unhex.j0 kq 0 false (wrap32 (a0)) x7_1 = some (r1, r2)) ∧ Aside0 (kq ≤ k) ∧ Drawn0 w wc)
  case first =>
    have H := HC2.out
    clear HC2
    by_cases c3 : 48 ≤ (wrap32 (a0))
    · rw [if_pos c3] at H
      have c3b0 : decide (48 ≤ (wrap32 (a0))) = true := decide_eq_true c3
      clear c3
      (first | rw [c3b0] | (simp only [i64_w, i32_w]; rw [c3b0]) | skip)
      have H' := Aside0.mk H
      clear H
      go_wp2
      go_meet
      case rel => exact ⟨_, (decide ((wrap32 (a0)) ≤ 57)), (by first | rfl | (simp; done) | (simp [*]; done)), H', ⟨by first | omega | exact Nat.le_refl _⟩, by repeat (first | exact Drawn0.refl _ | apply Drawn0.step)⟩
    · rw [if_neg c3] at H
      have c3b0 : decide (48 ≤ (wrap32 (a0))) = false := decide_eq_false c3
      clear c3
      (first | rw [c3b0] | (simp only [i64_w, i32_w]; rw [c3b0]) | skip)
      have H' := Aside0.mk H
      clear H
      go_wp2
      go_meet
      case rel => exact ⟨_, (false), (by first | rfl | (simp; done) | (simp [*]; done)), H', ⟨by first | omega | exact Nat.le_refl _⟩, by repeat (first | exact Drawn0.refl _ | apply Drawn0.step)⟩
  case rest =>
    clear HC2
    try clear p2
    try clear c3
    try clear c3b0
    try clear p3
    obtain ⟨kq, x7_1, rfl, HA, HJ1, ⟨mc1, rfl⟩⟩ := hcut
    cases kq with
    | zero => exact absurd HA.out (by simp [strconv_unhex.j0])
    | succ kj1 =>
      have H := HA.out
      clear HA
      simp only [strconv_unhex.j0] at H
      by_cases c4 : x7_1 = true
      · subst c4
        have H1 : (some (wrap32 ((wrap32 (a0)) - 48), true)) = some (r1, r2) := by rw [if_pos rfl] at H; exact H
        clear H
        have H := H1
        clear H1
        simp only [Option.some.injEq, Prod.mk.injEq] at H
        obtain ⟨rfl, rfl⟩ := H
        go_wp2
        go_ret2
        exact ⟨by first | rfl | (simp; done) | (simp [*]; done), by repeat (first | exact Drawn0.refl _ | apply Drawn0.step)⟩
      · replace c4 := Bool.eq_false_iff.mpr c4
        subst c4
        have H1 : (if 97 ≤ (wrap32 (a0)) then (strconv_unhex.j1 kj1 0 false (wrap32 (a0)) (decide ((wrap32 (a0)) ≤ 102))) else (strconv_unhex.j1 kj1 0 false (wrap32 (a0)) false)) = some (r1, r2) := by rw [if_neg (show ¬ (false = true) by decide)] at H; exact H
        clear H
        have H := H1
        clear H1
        have HC5 := Aside0.mk H
        clear H
        go_upto_region 4 with (fail)
        go_cut [16] (fun v16 wc => ∃ (kq : Nat) (x16_4 : Bool), v16 = .bool x16_4 ∧ Aside0 (strconv_unhex.j1 kq 0 false (wrap32 (a0)) x16_4 = some (r1, r2)) ∧ Aside0 (kq ≤ kj1) ∧ Drawn0 w wc)
        case first =>
          have H := HC5.out
          clear HC5
          by_cases c6 : 97 ≤ (wrap32 (a0))
          · rw [if_pos c6] at H
            have c6b0 : decide (97 ≤ (wrap32 (a0))) = true := decide_eq_true c6
            clear c6
            (first | rw [c6b0] | (simp only [i64_w, i32_w]; rw [c6b0]) | skip)
            have H' := Aside0.mk H
            clear H
            go_wp2
            go_meet
            case rel => exact ⟨_, (decide ((wrap32 (a0)) ≤ 102)), (by first | rfl | (simp; done) | (simp [*]; done)), H', ⟨by have := HJ1.out; first | omega | exact Nat.le_refl _⟩, by repeat (first | exact Drawn0.refl _ | apply Drawn0.step)⟩
          · rw [if_neg c6] at H
            have c6b0 : decide (97 ≤ (wrap32 (a0))) = false := decide_eq_false c6
            clear c6
            (first | rw [c6b0] | (simp only [i64_w, i32_w]; rw [c6b0]) | skip)
            have H' := Aside0.mk H
            clear H
            go_wp2
            go_meet
            case rel => exact ⟨_, (false), (by first | rfl | (simp; done) | (simp [*]; done)), H', ⟨by have := HJ1.out; first | omega | exact Nat.le_refl _⟩, by repeat (first | exact Drawn0.refl _ | apply Drawn0.step)⟩
        case rest =>
          clear HC5
          try clear c1
          try clear p2
          try clear c3
          try clear c3b0
          try clear p3
          try clear c4
          try clear c6
          try clear c6b0
          try clear p2
          try clear p3
          obtain ⟨kq, x16_4, rfl, HA, HJ4, ⟨mc4, rfl⟩⟩ := hcut
          cases kq with
          | zero => exact absurd HA.out (by simp [strconv_unhex.j1])
          | succ kj4 =>
            have H := HA.out
            clear HA
            simp only [strconv_unhex.j1] at H
            by_cases c7 : x16_4 = true
            · subst c7
              have H1 : (some (wrap32 ((wrap32 ((wrap32 (a0)) - 97)) + 10), true)) = some (r1, r2) := by rw [if_pos rfl] at H; exact H
              clear H
              have H := H1
              clear H1
              simp only [Option.some.injEq, Prod.mk.injEq] at H
              obtain ⟨rfl, rfl⟩ := H
              go_wp2
              go_ret2
              exact ⟨by first | rfl | (simp; done) | (simp [*]; done), by repeat (first | exact Drawn0.refl _ | apply Drawn0.step)⟩
            · replace c7 := Bool.eq_false_iff.mpr c7
              subst c7
              have H1 : (if 65 ≤ (wrap32 (a0)) then (if (wrap32 (a0)) ≤ 70 then (some (wrap32 ((wrap32 ((wrap32 (a0)) - 65)) + 10), true)) else (some (0, false))) else (some (0, false))) = some (r1, r2) := by rw [if_neg (show ¬ (false = true) by decide)] at H; exact H
              clear H
              have H := H1
              clear H1
              by_cases c8 : 65 ≤ (wrap32 (a0))
              · rw [if_pos c8] at H
                have c8b0 : decide (65 ≤ (wrap32 (a0))) = true := decide_eq_true c8
                clear c8
                by_cases c9 : (wrap32 (a0)) ≤ 70
                · rw [if_pos c9] at H
                  have c9b0 : decide ((wrap32 (a0)) ≤ 70) = true := decide_eq_true c9
                  clear c9
                  simp only [Option.some.injEq, Prod.mk.injEq] at H
                  obtain ⟨rfl, rfl⟩ := H
                  go_wp2
                  go_ret2
                  exact ⟨by first | rfl | (simp; done) | (simp [*]; done), by repeat (first | exact Drawn0.refl _ | apply Drawn0.step)⟩
                · rw [if_neg c9] at H
                  have c9b0 : decide ((wrap32 (a0)) ≤ 70) = false := decide_eq_false c9
                  clear c9
                  simp only [Option.some.injEq, Prod.mk.injEq] at H
                  obtain ⟨rfl, rfl⟩ := H
                  go_wp2
                  go_ret2
                  exact ⟨by first | rfl | (simp; done) | (simp [*]; done), by repeat (first | exact Drawn0.refl _ | apply Drawn0.step)⟩
              · rw [if_neg c8] at H
                have c8b0 : decide (65 ≤ (wrap32 (a0))) = false := decide_eq_false c8
                clear c8
                simp only [Option.some.injEq, Prod.mk.injEq] at H
                obtain ⟨rfl, rfl⟩ := H
                go_wp2
                go_ret2
                exact ⟨by first | rfl | (simp; done) | (simp [*]; done), by repeat (first | exact Drawn0.refl _ | apply Drawn0.step)⟩

-- NOT PRINTED: function 29 (strconv_UnquoteChar)

-- NOT PRINTED: function 13 (strconv_unquote)

-- NOT PRINTED: function 6 (strconv_Unquote)

-- NOT PRINTED: function 3 (laws_FnVtStringText)

end Go.Proofs.YtdcaigdhbbnfoaaGreatDoor.PFnVtStringText
