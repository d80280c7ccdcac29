/-
  PLAIN: the references' functions, as printed, end with an answer: spec.Complete, Types, Valid, ValidPath at every text that is not too long.
-/
import Derived.Test.YtdcaigdhbbnfoaaGreatDoorPFnVtStringTextx4
import Derived.Lib.Strings
set_option linter.unusedVariables false
namespace Go.Proofs.YtdcaigdhbbnfoaaGreatDoor
open Go.RowKit PFnVtStringText YtdcaigdhbbnfoaaGreatDoorW.PrintWords

theorem ite_some {p : Prop} [Decidable p] {x y : Option Bool} (hx : ∃ b, x = some b) (hy : ∃ b, y = some b) : ∃ b, (if p then x else y) = some b := by
  by_cases h : p
  · rw [if_pos h]; exact hx
  · rw [if_neg h]; exact hy
theorem basic_some (c : Int) : ∃ b, spec_Basic.f c = some b := by
  unfold spec_Basic.f
  repeat (refine ite_some ⟨_, rfl⟩ ?_)
  exact ⟨_, rfl⟩
theorem word_some (c : Int) : ∃ b, spec_word.f c = some b := by
  unfold spec_word.f
  repeat' (first | exact ⟨_, rfl⟩ | refine ite_some ?_ ?_)
theorem wrap_id {x : Int} (h0 : -9000000000000000000 ≤ x) (h1 : x ≤ 9000000000000000000) : wrap64 x = x := by unfold wrap64; omega

theorem toList_nil {s : ByteArray} (h : ¬ s.toList = []) : 0 < s.size := by
  rw [Lib.toList_data] at h
  exact List.length_pos_iff.2 h

theorem ext_size (s : ByteArray) (k : Nat) : (s.extract k s.size).size = s.size - k := by simp [ByteArray.size_extract]

/-- spec.Complete ends, and what it returns lies within the text. -/
theorem complete_ends : ∀ (n : Nat) (s : ByteArray) (a b c : Int) (k : Nat), s.size ≤ n → n ≤ 1000000 → -1 ≤ a → a ≤ 100 → -1 ≤ b → b ≤ 100 → -1 ≤ c → c ≤ 100 → 6 * n + 10 ≤ k →
    ∃ r, spec_Complete.f k s a b c = some r ∧ 0 ≤ r ∧ r ≤ s.size := by
  intro n
  induction n using Nat.strongRecOn with
  | _ n ih =>
  intro s a b c k hs hn ha0 ha1 hb0 hb1 hc0 hc1 hk
  obtain ⟨k, rfl⟩ : ∃ m, k = m + 7 := ⟨k - 7, by omega⟩
  simp only [spec_Complete.f]
  have Z : ∃ r, (some 0 : Option Int) = some r ∧ 0 ≤ r ∧ r ≤ (s.size : Int) := ⟨0, rfl, by omega, by omega⟩
  have J0 : ∃ r, spec_Complete.j0 (k + 6) s a b c true = some r ∧ 0 ≤ r ∧ r ≤ (s.size : Int) := by simp only [spec_Complete.j0, if_true]; exact Z
  by_cases e0 : s.toList = ([] : List UInt8)
  · rw [if_pos e0]; exact J0
  rw [if_neg e0]
  by_cases e1 : a < 0
  · rw [if_pos e1]; exact J0
  rw [if_neg e1]
  by_cases e2 : b < 0
  · rw [if_pos e2]; exact J0
  rw [if_neg e2]
  by_cases e3 : c < 0
  · simp only [e3, decide_true]; exact J0
  simp only [e3, decide_false]
  have h0 : 0 < s.size := toList_nil e0
  have wa : wrap64 (a - 1) = a - 1 := wrap_id (by omega) (by omega)
  have wb : wrap64 (b - 1) = b - 1 := wrap_id (by omega) (by omega)
  have wc : wrap64 (c - 1) = c - 1 := wrap_id (by omega) (by omega)
  -- j0 false
  simp only [spec_Complete.j0, Bool.false_eq_true, if_false]
  rw [if_pos (by omega)]
  obtain ⟨t1, ht1⟩ := basic_some (bt s 0)
  rw [ht1]; simp only [Option.bind_some]
  -- the loop over a struct's fields
  have L : ∀ (d : Nat) (i : Int) (m : Nat), 1 ≤ i → i ≤ (s.size : Int) → (s.size : Int) - i ≤ d → 6 * d + 12 ≤ m → d < n → ∃ r, spec_Complete.l0 m s a b c i = some r ∧ 0 ≤ r ∧ r ≤ (s.size : Int) := by
    intro d
    induction d using Nat.strongRecOn with
    | _ d ihd =>
    intro i m hi1 hi2 hd hm hdn
    obtain ⟨m, rfl⟩ : ∃ q, m = q + 2 := ⟨m - 2, by omega⟩
    have E : ∃ r, spec_Complete.j5 (m + 1) s a b c i false = some r ∧ 0 ≤ r ∧ r ≤ (s.size : Int) := by
      simp only [spec_Complete.j5, Bool.false_eq_true, if_false]
      by_cases q1 : i > 1
      · rw [if_pos q1]
        by_cases q2 : i < (s.size : Int)
        · rw [if_pos q2, wrap_id (by omega) (by omega)]
          exact ⟨_, rfl, by omega, by omega⟩
        · rw [if_neg q2]; exact Z
      · rw [if_neg q1]; exact Z
    simp only [spec_Complete.l0]
    by_cases q0 : i < (s.size : Int)
    · rw [if_pos q0, if_pos (by omega)]
      by_cases q1 : (bt s i != 41) = true
      · rw [q1]
        simp only [spec_Complete.j5, if_true]
        rw [if_pos (by omega), if_pos (by omega)]
        obtain ⟨r, hr, hr0, hr1⟩ := ih d (by omega) (s.extract i.toNat s.size) a (wrap64 (b - 1)) c m (by rw [ext_size]; omega) (by omega) (by omega) (by omega) (by omega) (by omega) (by omega) (by omega) (by omega)
        rw [hr]; simp only [Option.bind_some]
        rw [ext_size] at hr1
        by_cases q2 : r = 0
        · rw [if_pos q2]; exact Z
        · rw [if_neg q2, wrap_id (by omega) (by omega)]
          exact ihd (d - 1) (by omega) (i + r) m (by omega) (by omega) (by omega) (by omega) (by omega)
      · rw [eq_false_of_ne_true q1]; exact E
    · rw [if_neg q0]; exact E
  -- j1
  have J2 : ∀ x, ∃ r, spec_Complete.j2 (k + 4) s a b c x = some r ∧ 0 ≤ r ∧ r ≤ (s.size : Int) := by
    intro x
    simp only [spec_Complete.j2]
    cases x with
    | true =>
      simp only [if_true]
      have J3 : ∀ y, (y = true ∨ 4 ≤ s.size) → ∃ r, spec_Complete.j3 (k + 3) s a b c y = some r ∧ 0 ≤ r ∧ r ≤ (s.size : Int) := by
        intro y hy
        simp only [spec_Complete.j3]
        cases y with
        | true => simp only [if_true]; exact Z
        | false =>
          simp only [Bool.false_eq_true, if_false]
          have h4 : 4 ≤ s.size := by rcases hy with h | h; · cases h
                                     · exact h
          rw [if_pos (by omega)]
          obtain ⟨r, hr, hr0, hr1⟩ := ih (n - 1) (by omega) (s.extract 3 s.size) (wrap64 (a - 1)) b (wrap64 (c - 1)) (k + 2) (by rw [ext_size]; omega) (by omega) (by omega) (by omega) (by omega) (by omega) (by omega) (by omega) (by omega)
          rw [hr]; simp only [Option.bind_some]
          rw [ext_size] at hr1
          rw [wrap_id (show -9000000000000000000 ≤ r + 4 by omega) (by omega), wrap_id (show -9000000000000000000 ≤ r + 3 by omega) (by omega)]
          by_cases q2 : r = 0
          · rw [if_pos q2]; exact Z
          rw [if_neg q2]
          by_cases q3 : (s.size : Int) < r + 4
          · rw [if_pos q3]; exact Z
          rw [if_neg q3, if_pos (by omega), if_pos (by omega)]
          by_cases q4 : bt s (r + 3) = 125
          · rw [if_pos q4]; exact ⟨_, rfl, by omega, by omega⟩
          · rw [if_neg q4]; exact Z
      by_cases q1 : (s.size : Int) < 4
      · rw [if_pos q1]; exact J3 true (Or.inl rfl)
      · rw [if_neg q1, if_pos (by omega)]
        obtain ⟨t2, ht2⟩ := basic_some (bt s 2)
        rw [ht2]; simp only [Option.bind_some]
        exact J3 _ (Or.inr (by omega))
    | false =>
      simp only [Bool.false_eq_true, if_false]
      rw [if_pos (by omega)]
      by_cases q1 : bt s 0 = 97
      · rw [if_pos q1, if_pos (by omega)]
        obtain ⟨r, hr, hr0, hr1⟩ := ih (n - 1) (by omega) (s.extract 1 s.size) (wrap64 (a - 1)) b c (k + 3) (by rw [ext_size]; omega) (by omega) (by omega) (by omega) (by omega) (by omega) (by omega) (by omega) (by omega)
        rw [hr]; simp only [Option.bind_some]
        rw [ext_size] at hr1
        by_cases q2 : r > 0
        · rw [if_pos q2, wrap_id (by omega) (by omega)]; exact ⟨_, rfl, by omega, by omega⟩
        · rw [if_neg q2]; exact Z
      · rw [if_neg q1]
        by_cases q2 : bt s 0 = 40
        · rw [if_pos q2]; exact L (n - 1) 1 (k + 3) (by omega) (by omega) (by omega) (by omega) (by omega)
        · rw [if_neg q2]; exact Z
  have J1 : ∀ x, ∃ r, spec_Complete.j1 (k + 5) s a b c x = some r ∧ 0 ≤ r ∧ r ≤ (s.size : Int) := by
    intro x
    simp only [spec_Complete.j1]
    cases x with
    | true => simp only [if_true]; exact ⟨1, rfl, by omega, by omega⟩
    | false =>
      simp only [Bool.false_eq_true, if_false]
      rw [if_pos (by omega)]
      by_cases q1 : bt s 0 = 97
      · rw [if_pos q1]
        by_cases q2 : (s.size : Int) > 1
        · rw [if_pos q2, if_pos (by omega)]; exact J2 _
        · rw [if_neg q2]; exact J2 _
      · rw [if_neg q1]; exact J2 _
  split <;> exact J1 _

theorem complete_small (s : ByteArray) (hs : s.size ≤ 255) : ∃ r, spec_complete.f 2000 s = some r ∧ 0 ≤ r ∧ r ≤ s.size := by
  obtain ⟨r, hr, h⟩ := complete_ends 255 s 32 32 32 2000 hs (by omega) (by omega) (by omega) (by omega) (by omega) (by omega) (by omega) (by omega)
  exact ⟨r, by unfold spec_complete.f; rw [hr]; rfl, h⟩

theorem complete_up {k m : Nat} (h : k ≤ m) {s : ByteArray} {r : Int} (hr : spec_complete.f k s = some r) : spec_complete.f m s = some r := by
  induction m with
  | zero => obtain rfl : k = 0 := by omega
            exact hr
  | succ m ih =>
    by_cases e : k = m + 1
    · rw [← e]; exact hr
    · exact spec_complete.mono s m r (ih (by omega))

/-- spec.Types and Valid end at every text. -/
theorem types_ends (s : ByteArray) : ∃ r, spec_Types.f 3000 s = some r := by
  unfold spec_Types.f
  by_cases h : (s.size : Int) > 255
  · rw [if_pos h]; exact ⟨_, rfl⟩
  rw [if_neg h]
  have key : ∀ (n : Nat) (s : ByteArray) (l : List ByteArray) (k : Nat), s.size ≤ n → n ≤ 255 → 2000 + n < k → l.length + n ≤ 255 → ∃ r, spec_Types.l0 k s l = some r := by
    intro n
    induction n with
    | zero =>
      intro s l k hs hn hk hl
      obtain ⟨k, rfl⟩ : ∃ m, k = m + 1 := ⟨k - 1, by omega⟩
      simp only [spec_Types.l0]
      by_cases e : s.toList = ([] : List UInt8)
      · rw [if_pos e]; exact ⟨_, rfl⟩
      · have := toList_nil e; omega
    | succ n ihn =>
      intro s l k hs hn hk hl
      obtain ⟨k, rfl⟩ : ∃ m, k = m + 1 := ⟨k - 1, by omega⟩
      simp only [spec_Types.l0]
      by_cases e : s.toList = ([] : List UInt8)
      · rw [if_pos e]; exact ⟨_, rfl⟩
      rw [if_neg e]
      have h0 := toList_nil e
      obtain ⟨r, hr, r0, r1⟩ := complete_small s (by omega)
      rw [complete_up (show 2000 ≤ k by omega) hr]
      simp only [Option.bind_some]
      by_cases q : r = 0
      · rw [if_pos q]; exact ⟨_, rfl⟩
      rw [if_neg q, if_pos r0, if_pos r1, if_pos (by omega)]
      exact ihn _ _ _ (by rw [ext_size]; omega) (by omega) (by omega) (by simp; omega)
  exact key 255 s [] 3000 (by omega) (by omega) (by omega) (by simp)

theorem valid_ends (s : ByteArray) : ∃ r, spec_Valid.f 3000 s = some r := by
  obtain ⟨r, hr⟩ := types_ends s
  exact ⟨r.2, by unfold spec_Valid.f; rw [hr]; rfl⟩

theorem path_ends (s : ByteArray) (hs : s.size ≤ 1000000) : ∃ k r, spec_ValidPath.f k s = some r := by
  have key : ∀ (d : Nat) (k : Nat) (i : Int), 1 ≤ i → (s.size : Int) - i ≤ d → d < k → ∃ r, spec_ValidPath.l0 k s i = some r := by
    intro d
    induction d with
    | zero =>
      intro k i h1 hd hk
      obtain ⟨k, rfl⟩ : ∃ m, k = m + 1 := ⟨k - 1, by omega⟩
      simp only [spec_ValidPath.l0]
      rw [if_neg (by omega)]; exact ⟨_, rfl⟩
    | succ d ihd =>
      intro k i h1 hd hk
      obtain ⟨k, rfl⟩ : ∃ m, k = m + 1 := ⟨k - 1, by omega⟩
      simp only [spec_ValidPath.l0]
      by_cases q : i < (s.size : Int)
      · rw [if_pos q, if_pos (by omega), wrap_id (show -9000000000000000000 ≤ i - 1 by omega) (by omega), wrap_id (show -9000000000000000000 ≤ i + 1 by omega) (by omega)]
        by_cases q1 : bt s i = 47
        · rw [if_pos q1, if_pos (by omega), if_pos (by omega)]
          by_cases q2 : bt s (i - 1) = 47
          · rw [if_pos q2]; exact ⟨_, rfl⟩
          · rw [if_neg q2]; exact ihd _ _ (by omega) (by omega) (by omega)
        · rw [if_neg q1]
          obtain ⟨t, ht⟩ := word_some (bt s i)
          rw [ht]; simp only [Option.bind_some]
          by_cases q2 : t = true
          · rw [if_pos q2]; exact ihd _ _ (by omega) (by omega) (by omega)
          · rw [if_neg q2]; exact ⟨_, rfl⟩
      · rw [if_neg q]; exact ⟨_, rfl⟩
  have J : ∀ x, ∃ r, spec_ValidPath.j0 (s.size + 2) s x = some r := by
    intro x
    simp only [spec_ValidPath.j0]
    cases x with
    | true => simp only [if_true]; exact ⟨_, rfl⟩
    | false => simp only [Bool.false_eq_true, if_false]; exact key s.size _ 1 (by omega) (by omega) (by omega)
  refine ⟨s.size + 2, ?_⟩
  unfold spec_ValidPath.f
  by_cases e1 : s.toList = ([47] : List UInt8)
  · rw [if_pos e1]; exact ⟨_, rfl⟩
  rw [if_neg e1]
  by_cases e2 : s.toList = ([] : List UInt8)
  · rw [if_pos e2]; exact J _
  have h0 := toList_nil e2
  rw [if_neg e2, if_pos (by omega)]
  by_cases e3 : bt s 0 = 47
  · rw [if_pos e3, wrap_id (by omega) (by omega), if_pos (by omega), if_pos (by omega)]; exact J _
  · rw [if_neg e3]; exact J _

end Go.Proofs.YtdcaigdhbbnfoaaGreatDoor
