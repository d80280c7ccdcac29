/-
  WALKS: strconv.unquote at a text without a backslash; strconv.Unquote of what Quote writes gives the text back.
-/
import Derived.Test.YtdcaigdhbbnfoaaGreatDoorUnquote
namespace Go.Proofs.YtdcaigdhbbnfoaaGreatDoor
open Go.RowKit PFnVtStringText YtdcaigdhbbnfoaaGreatDoorW.PrintWords

theorem ret_ss {a a' b b' : ByteArray} (h : a = a') (h2 : b = b') : Ending.returned (.tuple #[.string a, .string b, .nilIface]) = .returned (.tuple #[.string a', .string b', .nilIface]) := by rw [h, h2]

set_option maxHeartbeats 1000000 in
set_option maxRecDepth 100000 in
theorem unquote_fast (s t u : ByteArray) (p : Nat) (w : World) (h2 : 2 ≤ t.size) (h0 : t[0]'(by omega) = 34) (hu : t.extract 1 t.size = u) (hpt : p + 2 ≤ t.size) (hts : t.size ≤ 1000000)
    (e1 : t.extract 0 (p + 2) = t) (e2 : t.extract 1 (p + 1) = s) (e3 : t.extract (p + 2) t.size = ⟨#[]⟩)
    (CI : Hid (∀ W, Calls Tryz.prog 25 #[.string u, .int .u8 34] W fun e w' => e = .returned (.int .i64 (p : Int)) ∧ W = w'))
    (C1 : Hid (∀ W, Calls Tryz.prog 26 #[.string t, .int .u8 92] W fun e w' => e = .returned (.bool false) ∧ W = w'))
    (C2 : Hid (∀ W, Calls Tryz.prog 26 #[.string t, .int .u8 10] W fun e w' => e = .returned (.bool false) ∧ W = w'))
    (CV : Hid (∀ W, Below w.heap.size w W → Calls Tryz.prog 27 #[.string s] W fun e w' => e = .returned (.bool true) ∧ Below W.heap.size W w')) :
    Calls Tryz.prog 13 #[.string t, .bool true] w fun e w' => e = .returned (.tuple #[.string s, .string ⟨#[]⟩, .nilIface]) ∧ Below w.heap.size w w' := by
  have h2' : (2 : Int) ≤ (t.size : Int) := by omega
  have hpt' : (p : Int) + 2 ≤ (t.size : Int) := by omega
  go_enter Tryz.func13, Tryz.ntmps13
  go_wp2_with fail
  refine (CI.out _).mono ?_
  rintro e w1 ⟨rfl, rfl⟩
  go_wp2_with fail
  refine (C1.out _).mono ?_
  rintro e w1 ⟨rfl, rfl⟩
  go_wp2_with fail
  refine (C2.out _).mono ?_
  rintro e w1 ⟨rfl, rfl⟩
  go_wp2_with fail
  refine (CV.out _ (Below.refl _ _)).mono ?_
  rintro e wv ⟨rfl, hbv⟩
  have HBV := Lib.hid hbv
  clear hbv
  go_wp2_with fail
  go_quiet (fail)
  go_wp2_with fail
  go_ret3
  exact ⟨ret_ss e2 e3, pw_below_drewN HBV.out _⟩

set_option maxHeartbeats 400000 in
theorem Unquote_of (s t : ByteArray) (w : World) (hC : Calls Tryz.prog 13 #[.string t, .bool true] w fun e w' => e = .returned (.tuple #[.string s, .string ⟨#[]⟩, .nilIface]) ∧ Below w.heap.size w w') :
    Calls Tryz.prog 6 #[.string t] w fun e w' => e = .returned (.tuple #[.string s, .nilIface]) ∧ Below w.heap.size w w' := by
  have HC := Lib.hid hC
  clear hC
  go_enter Tryz.func6, Tryz.ntmps6
  go_wp2_with fail
  refine HC.out.mono ?_
  rintro e w1 ⟨rfl, hb⟩
  have HB := Lib.hid hb
  clear hb
  go_wp2_with fail
  go_ret2
  exact ⟨rfl, HB.out⟩

/-- strconv.Unquote of what strconv.Quote writes for a text is the text. -/
theorem Unquote_quote (T : Lib.PrintTabs) (s : ByteArray) (w : World) (hs : s.size ≤ 90000) (hT : Lib.Utf8Tabs 2 3 w) :
    Calls Tryz.prog 6 #[.string (strOfNums (Lib.quoteZ T s))] w fun e w' => e = .returned (.tuple #[.string s, .nilIface]) ∧ Below w.heap.size w w' := by
  have et : strOfNums (Lib.quoteZ T s) = bs (34 :: (byts (Lib.quoteFrom T s.size s) ++ [34])) := by
    unfold strOfNums bs Lib.quoteZ byts
    simp
  have hq := Lib.quoteZ_length_le T s
  have hql : (byts (Lib.quoteFrom T s.size s)).length + 2 ≤ 10 * s.size + 2 := by simp [Lib.quoteZ] at hq; simp [byts]; omega
  rw [et]
  refine Unquote_of s _ w ?_
  obtain ⟨p, hp, hple, _⟩ := index_mark (byts (Lib.quoteFrom T s.size s))
  have hsz : (bs (34 :: (byts (Lib.quoteFrom T s.size s) ++ [34]))).size = (byts (Lib.quoteFrom T s.size s)).length + 2 := by rw [bs_size]; simp
  have h0 : (bs (34 :: (byts (Lib.quoteFrom T s.size s) ++ [34])))[0]'(by omega) = 34 := bs_get _ _ _
  have hu : (bs (34 :: (byts (Lib.quoteFrom T s.size s) ++ [34]))).extract 1 (bs (34 :: (byts (Lib.quoteFrom T s.size s) ++ [34]))).size = bs (byts (Lib.quoteFrom T s.size s) ++ [34]) := bs_from _ _
  have CI : Hid (∀ W, Calls Tryz.prog 25 #[.string (bs (byts (Lib.quoteFrom T s.size s) ++ [34])), .int .u8 34] W fun e w' => e = .returned (.int .i64 (p : Int)) ∧ W = w') := fun W => by
    rw [← hp]
    have := index_any (bs (byts (Lib.quoteFrom T s.size s) ++ [34])) 34 W
    rw [bs_data] at this
    exact this
  obtain ⟨c, hc⟩ : ∃ c : Nat, 3 * ((p : Int) + 2) / 2 = (c : Int) := ⟨(3 * (p + 2) / 2), by omega⟩
  have hc1 : c ≤ 10000000 := by omega
  have hcont : ∀ (x : ByteArray) (ch : Int) (b : Bool), (Lib.indexByte x.data.toList ch.toNat.toUInt8 != -1) = b → Hid (∀ W, Calls Tryz.prog 26 #[.string x, .int .u8 ch] W fun e w' => e = .returned (.bool b) ∧ W = w') := fun x ch b hb W => by
    rw [← hb]; exact contains_any x ch W
  have hext : ∀ k, ((bs (34 :: (byts (Lib.quoteFrom T s.size s) ++ [34]))).extract 0 k).data.toList = (34 :: (byts (Lib.quoteFrom T s.size s) ++ [34])).take k := fun k => by
    rw [Lib.extract_data, bs_data]; rfl
  by_cases hb1 : (Lib.indexByte ((bs (34 :: (byts (Lib.quoteFrom T s.size s) ++ [34]))).extract 0 (p + 2)).data.toList (92 : Int).toNat.toUInt8 != -1) = true
  · exact unquote_s1 T s _ _ p c w (by omega) h0 hu (by omega) (by omega) (by omega) hc hc1 hT rfl CI (hcont _ 92 true hb1)
  have hb1' := eq_false_of_ne_true hb1
  by_cases hb2 : (Lib.indexByte ((bs (34 :: (byts (Lib.quoteFrom T s.size s) ++ [34]))).extract 0 (p + 2)).data.toList (10 : Int).toNat.toUInt8 != -1) = true
  · exact unquote_s2 T s _ _ p c w (by omega) h0 hu (by omega) (by omega) (by omega) hc hc1 hT rfl CI (hcont _ 92 false hb1') (hcont _ 10 true hb2)
  have hb2' := eq_false_of_ne_true hb2
  have hvs : ∀ (x : ByteArray) (b : Bool), x.size ≤ 9223372036854775807 → Lib.validD x.data.toList = b → Hid (∀ W, Below w.heap.size w W → Calls Tryz.prog 27 #[.string x] W fun e w' => e = .returned (.bool b) ∧ Below W.heap.size W w') := fun x b hx hb W hW => by
    rw [← hb]; exact Tryz.utf8_ValidString x W hx (Utf8Tabs_below hT hW)
  have hxs : ((bs (34 :: (byts (Lib.quoteFrom T s.size s) ++ [34]))).extract 1 (p + 1)).size ≤ 9223372036854775807 := by
    rw [ByteArray.size_extract]; omega
  by_cases hv : Lib.validD ((bs (34 :: (byts (Lib.quoteFrom T s.size s) ++ [34]))).extract 1 (p + 1)).data.toList = true
  · obtain ⟨hpl, hpq⟩ := fast_plain T s p hp (by
      have := hb1'
      rw [hext] at this
      simpa using this)
    have e1 : (bs (34 :: (byts (Lib.quoteFrom T s.size s) ++ [34]))).extract 0 (p + 2) = bs (34 :: (byts (Lib.quoteFrom T s.size s) ++ [34])) := by
      rw [← bs_list ((bs _).extract 0 (p + 2)), hext, List.take_of_length_le (by simp; omega)]
    have e2 : (bs (34 :: (byts (Lib.quoteFrom T s.size s) ++ [34]))).extract 1 (p + 1) = s := by
      rw [← bs_list ((bs _).extract 1 (p + 1)), Lib.extract_data, bs_data, List.drop_succ_cons, List.drop_zero, show p + 1 - 1 = p by omega, hpl, List.take_left', hpq, bs_list]
      rfl
    have e3 : (bs (34 :: (byts (Lib.quoteFrom T s.size s) ++ [34]))).extract (p + 2) (bs (34 :: (byts (Lib.quoteFrom T s.size s) ++ [34]))).size = ⟨#[]⟩ := by
      rw [bs_from, List.drop_of_length_le (by simp; omega)]; rfl
    rw [e1] at hb1' hb2'
    rw [e2] at hv
    exact unquote_fast s _ _ p w (by omega) h0 hu (by omega) (by omega) e1 e2 e3 CI (hcont _ 92 false hb1') (hcont _ 10 false hb2') (hvs s true (by omega) hv)
  · exact unquote_s3 T s _ _ p c w (by omega) h0 hu (by omega) (by omega) (by omega) hc hc1 hT rfl CI (hcont _ 92 false hb1') (hcont _ 10 false hb2') (hvs _ false hxs (eq_false_of_ne_true hv))

end Go.Proofs.YtdcaigdhbbnfoaaGreatDoor
