/-
  WALKS: strconv.index, contains; UnquoteChar at every character that Quote writes, as one contract.
-/
import Derived.Test.YtdcaigdhbbnfoaaGreatDoorUnqHex
import Derived.Lib.Bytealg
namespace Go.Proofs.YtdcaigdhbbnfoaaGreatDoor
open Go.RowKit PFnVtStringText YtdcaigdhbbnfoaaGreatDoorW.PrintWords

theorem run_index43 (s : ByteArray) (c : Int) (w : World) : (callFunc 43 #[.string s, .int .u8 c]).run Tryz.prog w = .ok (.value (.int .i64 (Lib.indexByte s.data.toList c.toNat.toUInt8))) w := by
  rw [run_callFunc_extern Tryz.func43 (by kernel_rfl) (by kernel_rfl) (by kernel_rfl) (e := Extern.BytealgIndexByte.indexByte) (by kernel_rfl), Lib.run_indexByteString]
  rfl

set_option maxHeartbeats 400000 in
theorem index_any (s : ByteArray) (c : Int) (w : World) : Calls Tryz.prog 25 #[.string s, .int .u8 c] w fun e w' => e = .returned (.int .i64 (Lib.indexByte s.data.toList c.toNat.toUInt8)) ∧ w = w' := by
  have h := run_index43
  go_enter Tryz.func25, Tryz.ntmps25
  go_wp2
  go_ret
  exact ⟨rfl, rfl⟩

set_option maxHeartbeats 400000 in
theorem contains_any (s : ByteArray) (c : Int) (w : World) : Calls Tryz.prog 26 #[.string s, .int .u8 c] w fun e w' => e = .returned (.bool (Lib.indexByte s.data.toList c.toNat.toUInt8 != -1)) ∧ w = w' := by
  go_enter Tryz.func26, Tryz.ntmps26
  go_wp2_with (go_at_call 25; refine (index_any _ _ _).mono ?_; rintro e w' ⟨rfl, rfl⟩)
  go_ret
  exact ⟨rfl, rfl⟩

/-- A text of given bytes. -/
def bs (l : List UInt8) : ByteArray := ⟨l.toArray⟩
theorem bs_size (l : List UInt8) : (bs l).size = l.length := by simp [bs, ByteArray.size]
theorem bs_list (s : ByteArray) : bs s.data.toList = s := by cases s; simp [bs]
theorem bs_data (l : List UInt8) : (bs l).data.toList = l := by simp [bs]
theorem bs_get (l : List UInt8) (j : Nat) (h : j < (bs l).size) : (bs l)[j]'h = l[j]'(by rw [bs_size] at h; exact h) := by
  simp [bs, ByteArray.getElem_eq_getElem_data]
theorem bs_from (l : List UInt8) (k : Nat) : (bs l).extract k (bs l).size = bs (l.drop k) := by
  rw [← bs_list ((bs l).extract k (bs l).size), rest_list, bs_data]

theorem hexDigits_length (r : Nat) : ∀ n, (Lib.hexDigits r n).length = n
  | 0 => rfl
  | n + 1 => by simp [Lib.hexDigits, hexDigits_length r n]
theorem hexDigits_get (r : Nat) : ∀ (n j : Nat) (h : j < (Lib.hexDigits r n).length), (Lib.hexDigits r n)[j]'h = Lib.hexDigit (r / 16 ^ (n - 1 - j) % 16)
  | 0, j, h => by simp [Lib.hexDigits] at h
  | n + 1, 0, _ => by simp [Lib.hexDigits]
  | n + 1, j + 1, h => by
    simp only [Lib.hexDigits, List.getElem_cons_succ]
    rw [hexDigits_get r n j]
    congr 4
    omega
theorem hexDigit_range (x : Nat) (h : x < 16) : 0 ≤ Lib.hexDigit x ∧ Lib.hexDigit x < 256 := by
  unfold Lib.hexDigit; split <;> omega
theorem digits_of (V n : Nat) (t : List UInt8) : Digits (bs (byts (Lib.hexDigits V n) ++ t)) V n := by
  intro j h hj
  rw [bs_get]
  have hl : j < (byts (Lib.hexDigits V n)).length := by simp [byts, hexDigits_length]; exact hj
  rw [List.getElem_append_left hl]
  have e : (byts (Lib.hexDigits V n))[j]'hl = UInt8.ofNat ((Lib.hexDigits V n)[j]'(by rw [hexDigits_length]; exact hj)).toNat := by simp [byts]
  rw [e, hexDigits_get]
  have := hexDigit_range (V / 16 ^ (n - 1 - j) % 16) (Nat.mod_lt _ (by decide))
  rw [bnat this.1 this.2]
  omega
theorem digits_drop (V n : Nat) (t : List UInt8) : (byts (Lib.hexDigits V n) ++ t).drop n = t := by
  rw [List.drop_append_of_le_length (by simp [byts, hexDigits_length])]
  have : (byts (Lib.hexDigits V n)).length ≤ n := by simp [byts, hexDigits_length]
  rw [List.drop_of_length_le this]; rfl

/-- strconv.UnquoteChar at each character that Quote writes. -/
theorem unqChar_any {l l' : List UInt8} {r : Int} {mb : Bool} (h : Unq l r mb l') (w : World) (hT : Lib.Utf8Tabs 2 3 w) :
    Calls Tryz.prog 29 #[.string (bs l), .int .u8 34] w fun e w' => e = .returned (.tuple #[.int .i32 r, .bool mb, .string (bs l'), .nilIface]) ∧ Below w.heap.size w w' := by
  cases h with
  | plain c t h1 h2 h3 =>
    have hz : 0 < (bs (c :: l')).size := by rw [bs_size]; simp
    have := uc_plain (bs (c :: l')) w hz c (bs_get _ _ _) h1 (fun e => h2 (UInt8.toNat_inj.1 e)) (fun e => h3 (UInt8.toNat_inj.1 e))
    rw [bs_from] at this
    exact this
  | multi _ hne hge =>
    have hz : 0 < (bs l).size := by rw [bs_size]; exact List.length_pos_iff.2 hne
    obtain ⟨c, t, rfl⟩ := List.exists_cons_of_ne_nil hne
    have hw := Lib.width_le (bs (c :: t)) hz
    have := uc_multi (bs (c :: t)) w hT hz c (bs_get _ _ _) (by simpa using hge) (Lib.decodeL (c :: t)).1 (Lib.decodeL (c :: t)).2 rfl hw
    rw [bs_from] at this
    exact this
  | named c v t hm =>
    have hz : 2 ≤ (bs (92 :: c :: l')).size := by rw [bs_size]; simp
    have e0 : (bs (92 :: c :: l'))[0]'(by omega) = 92 := bs_get _ _ _
    have e1 : (bs (92 :: c :: l'))[1]'(by omega) = c := bs_get _ _ _
    have ed : (bs (92 :: c :: l')).extract 2 (bs (92 :: c :: l')).size = bs l' := bs_from _ _
    simp only [List.mem_cons, Prod.mk.injEq, List.not_mem_nil, or_false] at hm
    rcases hm with ⟨rfl, rfl⟩ | ⟨rfl, rfl⟩ | ⟨rfl, rfl⟩ | ⟨rfl, rfl⟩ | ⟨rfl, rfl⟩ | ⟨rfl, rfl⟩ | ⟨rfl, rfl⟩ | ⟨rfl, rfl⟩ | ⟨rfl, rfl⟩
    all_goals rw [← ed]
    · exact (uc_n97 _ w hz e0 e1).mono fun _ _ ⟨he, hw⟩ => ⟨he, hw ▸ Below.refl _ _⟩
    · exact (uc_n98 _ w hz e0 e1).mono fun _ _ ⟨he, hw⟩ => ⟨he, hw ▸ Below.refl _ _⟩
    · exact (uc_n102 _ w hz e0 e1).mono fun _ _ ⟨he, hw⟩ => ⟨he, hw ▸ Below.refl _ _⟩
    · exact (uc_n110 _ w hz e0 e1).mono fun _ _ ⟨he, hw⟩ => ⟨he, hw ▸ Below.refl _ _⟩
    · exact (uc_n114 _ w hz e0 e1).mono fun _ _ ⟨he, hw⟩ => ⟨he, hw ▸ Below.refl _ _⟩
    · exact (uc_n116 _ w hz e0 e1).mono fun _ _ ⟨he, hw⟩ => ⟨he, hw ▸ Below.refl _ _⟩
    · exact (uc_n118 _ w hz e0 e1).mono fun _ _ ⟨he, hw⟩ => ⟨he, hw ▸ Below.refl _ _⟩
    · exact (uc_n92 _ w hz e0 e1).mono fun _ _ ⟨he, hw⟩ => ⟨he, hw ▸ Below.refl _ _⟩
    · exact (uc_n34 _ w hz e0 e1).mono fun _ _ ⟨he, hw⟩ => ⟨he, hw ▸ Below.refl _ _⟩
  | hex2 n t hn =>
    have hz : 2 ≤ (bs (92 :: 120 :: (byts (Lib.hexDigits n 2) ++ l'))).size := by rw [bs_size]; simp
    have := uc_hex2 _ (bs (byts (Lib.hexDigits n 2) ++ l')) n w hz (bs_get _ _ _) (bs_get _ _ _) (bs_from _ _) (by rw [bs_size]; simp [byts, hexDigits_length]) (digits_of n 2 l') ⟨Nat.div_eq_of_lt (by omega), by omega, by simp [Lib.validRune]; omega⟩
    rw [bs_from, digits_drop] at this
    exact this
  | hex4 n t hn hv =>
    have hz : 2 ≤ (bs (92 :: 117 :: (byts (Lib.hexDigits n 4) ++ l'))).size := by rw [bs_size]; simp
    have := uc_hex4 _ (bs (byts (Lib.hexDigits n 4) ++ l')) n w hz (bs_get _ _ _) (bs_get _ _ _) (bs_from _ _) (by rw [bs_size]; simp [byts, hexDigits_length]) (digits_of n 4 l') ⟨Nat.div_eq_of_lt (by omega), by omega, hv⟩
    rw [bs_from, digits_drop] at this
    exact this
  | hex8 n t hv =>
    have hz : 2 ≤ (bs (92 :: 85 :: (byts (Lib.hexDigits n 8) ++ l'))).size := by rw [bs_size]; simp
    have hn : n ≤ 1114111 := by simp only [Lib.validRune, decide_eq_true_eq] at hv; omega
    have := uc_hex8 _ (bs (byts (Lib.hexDigits n 8) ++ l')) n w hz (bs_get _ _ _) (bs_get _ _ _) (bs_from _ _) (by rw [bs_size]; simp [byts, hexDigits_length]) (digits_of n 8 l') ⟨Nat.div_eq_of_lt (by omega), hn, hv⟩
    rw [bs_from, digits_drop] at this
    exact this

end Go.Proofs.YtdcaigdhbbnfoaaGreatDoor
