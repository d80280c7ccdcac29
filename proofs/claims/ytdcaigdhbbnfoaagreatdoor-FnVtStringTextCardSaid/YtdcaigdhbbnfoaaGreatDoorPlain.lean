/-
  PLAIN LAW, no program in sight: what strconv.Quote writes ('Lib.quoteZ') is taken back, character by character, by strconv.Unquote's rules ('Unq'): the bytes that come out are the string that went in; and a quoted text without a backslash is the string itself between its marks.
-/
import Derived.Lib.QuoteLoop
import Derived.Lib.ValidLaws
import Derived.Laws.BytesArg
import Derived.Lib.Strings
import Derived.Lib.Bytealg
namespace Go.Proofs.YtdcaigdhbbnfoaaGreatDoor
open Go.Lib

/-- The bytes that numbers stand for. -/
def byts (l : List Int) : List UInt8 := l.map fun n => UInt8.ofNat n.toNat
theorem byts_append (a b : List Int) : byts (a ++ b) = byts a ++ byts b := by simp [byts]
theorem byts_cons (x : Int) (b : List Int) : byts (x :: b) = UInt8.ofNat x.toNat :: byts b := rfl
theorem byts_nil : byts [] = [] := rfl

/-- One character that strconv.UnquoteChar takes off a text between the marks '"': the text, the character's number, whether it stands for more than a byte, what is left. -/
inductive Unq : List UInt8 → Int → Bool → List UInt8 → Prop
  | plain (c : UInt8) (t : List UInt8) : c.toNat < 128 → c ≠ 92 → c ≠ 34 → Unq (c :: t) (c.toNat : Int) false t
  | multi (l : List UInt8) : l ≠ [] → 128 ≤ (l.getD 0 0).toNat → Unq l ((decodeL l).1 : Int) true (l.drop (decodeL l).2)
  | named (c : UInt8) (v : Int) (t : List UInt8) : (c, v) ∈ [((97 : UInt8), (7 : Int)), (98, 8), (102, 12), (110, 10), (114, 13), (116, 9), (118, 11), (92, 92), (34, 34)] → Unq (92 :: c :: t) v false t
  | hex2 (n : Nat) (t : List UInt8) : n < 256 → Unq (92 :: 120 :: (byts (hexDigits n 2) ++ t)) (n : Int) false t
  | hex4 (n : Nat) (t : List UInt8) : n < 65536 → validRune (n : Int) = true → Unq (92 :: 117 :: (byts (hexDigits n 4) ++ t)) (n : Int) true t
  | hex8 (n : Nat) (t : List UInt8) : validRune (n : Int) = true → Unq (92 :: 85 :: (byts (hexDigits n 8) ++ t)) (n : Int) true t

/-- What strconv.Unquote appends for it. -/
def unqBytes (r : Int) (mb : Bool) : List Int := if r < 128 ∨ mb = false then [r] else encodeRuneZ r

theorem byte_eq (b : UInt8) : UInt8.ofNat ((b.toNat : Int)).toNat = b := by simp
theorem byte_of {x : Int} {b : UInt8} (h : x = b.toNat) : UInt8.ofNat x.toNat = b := by subst h; simp

/-- A rune that was decoded, written out again, is the bytes that it was decoded from. -/
theorem enc_dec (n b0 b1 b2 b3 : Nat) (h0 : b0 < 256) (h1 : b1 < 256) (h2 : b2 < 256) (_h3 : b3 < 256) (hn : 1 ≤ n) (hg : ¬ ((decodeN n b0 b1 b2 b3).2 = 1 ∧ (decodeN n b0 b1 b2 b3).1 = 65533)) :
    encodeRuneZ ((decodeN n b0 b1 b2 b3).1 : Int) = (([b0, b1, b2, b3] : List Nat).map fun (x : Nat) => (x : Int)).take (decodeN n b0 b1 b2 b3).2 ∧ (decodeN n b0 b1 b2 b3).2 ≤ n ∧ (decodeN n b0 b1 b2 b3).2 ≤ 4 := by
  revert hg
  unfold decodeN
  by_cases c0 : b0 < 128
  · rw [if_pos c0]; intro _
    refine ⟨?_, hn, by simp⟩
    rw [encodeRuneZ_one (by simp) (by simp; omega)]; simp
  rw [if_neg c0]
  by_cases c1 : b0 / 32 = 6 ∧ (1 < n ∧ b1 / 64 = 2)
  · rw [if_pos c1]
    by_cases d : b0 % 32 * 64 + b1 % 64 ≥ 128
    · rw [if_pos d]; intro _
      refine ⟨?_, by simp; omega, by simp⟩
      rw [encodeRuneZ_two (by simp; omega) (by simp; omega)]; simp; omega
    · rw [if_neg d]; intro h; simp at h
  rw [if_neg c1]
  by_cases c2 : b0 / 16 = 14 ∧ (1 < n ∧ b1 / 64 = 2) ∧ (2 < n ∧ b2 / 64 = 2)
  · rw [if_pos c2]
    split
    · rename_i d; intro _
      refine ⟨?_, by simp; omega, by simp⟩
      rw [encodeRuneZ_three (by simp; omega)]; simp; omega
    · intro h; simp at h
  rw [if_neg c2]
  by_cases c3 : b0 / 8 = 30 ∧ (1 < n ∧ b1 / 64 = 2) ∧ (2 < n ∧ b2 / 64 = 2) ∧ (3 < n ∧ b3 / 64 = 2)
  · rw [if_pos c3]
    split
    · rename_i d; intro _
      refine ⟨?_, by simp; omega, by simp⟩
      rw [encodeRuneZ_four (by simp; omega) (by simp; omega)]; simp; omega
    · intro h; simp at h
  rw [if_neg c3]; intro h; simp at h

theorem take4 (l : List UInt8) (k : Nat) (h : k ≤ l.length) (h4 : k ≤ 4) :
    byts ((([(l.getD 0 0).toNat, (l.getD 1 0).toNat, (l.getD 2 0).toNat, (l.getD 3 0).toNat] : List Nat).map fun (x : Nat) => (x : Int)).take k) = l.take k := by
  rcases l with _ | ⟨a, _ | ⟨b, _ | ⟨c, _ | ⟨d, t⟩⟩⟩⟩
  all_goals
    simp only [List.length_cons, List.length_nil] at h
    rcases k with _ | _ | _ | _ | _ | k
    all_goals first | (exfalso; omega) | simp [byts]

/-- The same of a text: the first character's bytes. -/
theorem enc_decL (l : List UInt8) (hne : l ≠ []) (hg : ¬ ((decodeL l).2 = 1 ∧ (decodeL l).1 = 65533)) :
    byts (encodeRuneZ ((decodeL l).1 : Int)) = l.take (decodeL l).2 ∧ (decodeL l).2 ≤ l.length := by
  have hl : 0 < l.length := List.length_pos_iff.2 hne
  rw [decodeL_N] at hg ⊢
  obtain ⟨e, h1, h4⟩ := enc_dec l.length _ _ _ _ (l.getD 0 0).toNat_lt (l.getD 1 0).toNat_lt (l.getD 2 0).toNat_lt (l.getD 3 0).toNat_lt hl hg
  refine ⟨?_, h1⟩
  rw [e, take4 l _ h1 h4]

theorem bnat {x : Int} (h0 : 0 ≤ x) (h1 : x < 256) : (UInt8.ofNat x.toNat).toNat = x.toNat := by
  rw [UInt8.toNat_ofNat']; omega

/-- A valid rune from 128 on, written out, is decoded again, whatever follows. -/
theorem dec_enc (r : Nat) (t : List UInt8) (h : validRune (r : Int) = true) (h128 : 128 ≤ r) :
    decodeL (byts (encodeRuneZ (r : Int)) ++ t) = (r, (encodeRuneZ (r : Int)).length) ∧ 128 ≤ ((byts (encodeRuneZ (r : Int)) ++ t).getD 0 0).toNat := by
  simp only [validRune, decide_eq_true_eq] at h
  rw [decodeL_N]
  by_cases c1 : r ≤ 2047
  · rw [encodeRuneZ_two (by omega) (by omega)]
    simp only [byts, List.map_cons, List.map_nil, List.cons_append, List.nil_append, List.getD_cons_zero, List.getD_cons_succ, List.length_cons, List.length_nil]
    rw [bnat (by omega) (by omega), bnat (by omega) (by omega)]
    refine ⟨?_, by omega⟩
    unfold decodeN
    rw [if_neg (by omega), if_pos (by omega), if_pos (by omega)]
    ext <;> simp <;> omega
  by_cases c2 : r ≤ 65535
  · rw [encodeRuneZ_three (by omega)]
    simp only [byts, List.map_cons, List.map_nil, List.cons_append, List.nil_append, List.getD_cons_zero, List.getD_cons_succ, List.length_cons, List.length_nil]
    rw [bnat (by omega) (by omega), bnat (by omega) (by omega), bnat (by omega) (by omega)]
    refine ⟨?_, by omega⟩
    unfold decodeN
    rw [if_neg (by omega), if_neg (by omega), if_pos (by omega), if_pos (by omega)]
    ext <;> simp <;> omega
  · rw [encodeRuneZ_four (by omega) (by omega)]
    simp only [byts, List.map_cons, List.map_nil, List.cons_append, List.nil_append, List.getD_cons_zero, List.getD_cons_succ, List.length_cons, List.length_nil]
    rw [bnat (by omega) (by omega), bnat (by omega) (by omega), bnat (by omega) (by omega), bnat (by omega) (by omega)]
    refine ⟨?_, by omega⟩
    unfold decodeN
    rw [if_neg (by omega), if_neg (by omega), if_neg (by omega), if_pos (by omega), if_pos (by omega)]
    ext <;> simp <;> omega


theorem hex2_eq (n : Nat) (h : n < 256) : hexDigits n 2 = [hexDigit (n / 16), hexDigit (n % 16)] := by
  have e : n / 16 % 16 = n / 16 := by omega
  simp [hexDigits, e]

theorem unq_small {r : Int} (h0 : 0 ≤ r) (h : r ≤ 127) (mb : Bool) : unqBytes r mb = encodeRuneZ r := by
  rw [encodeRuneZ_one h0 h]; unfold unqBytes; rw [if_pos (Or.inl (by omega))]
theorem unq_multi (r : Int) (h0 : 0 ≤ r) : unqBytes r true = encodeRuneZ r := by
  by_cases h : r ≤ 127
  · exact unq_small h0 h _
  · unfold unqBytes; rw [if_neg (by simp; omega)]

/-- What appendEscapedRune writes for a valid rune is taken back as that rune. -/
theorem esc_unq (T : PrintTabs) (R : Nat) (hv : validRune (R : Int) = true) (t : List UInt8) :
    ∃ mb, Unq (byts (escRune T (R : Int)) ++ t) (R : Int) mb t ∧ unqBytes (R : Int) mb = encodeRuneZ (R : Int) := by
  unfold escRune
  by_cases c0 : (R : Int) = 34 ∨ (R : Int) = 92
  · rw [if_pos c0]
    refine ⟨false, ?_, unq_small (by omega) (by omega) _⟩
    rcases c0 with c | c <;> rw [c]
    · exact Unq.named 34 34 t (by simp)
    · exact Unq.named 92 92 t (by simp)
  rw [if_neg c0]
  by_cases c1 : isPrintR T (R : Int) = true
  · rw [if_pos c1]
    by_cases hs : R < 128
    · refine ⟨false, ?_, unq_small (by omega) (by omega) _⟩
      rw [encodeRuneZ_one (by omega) (by omega)]
      have hb : (UInt8.ofNat R).toNat = R := by rw [UInt8.toNat_ofNat']; omega
      have := Unq.plain (UInt8.ofNat R) t (by rw [hb]; exact hs) (fun e => by have := congrArg UInt8.toNat e; rw [hb] at this; simp at this; omega) (fun e => by have := congrArg UInt8.toNat e; rw [hb] at this; simp at this; omega)
      rw [hb] at this
      exact this
    · refine ⟨true, ?_, unq_multi _ (by omega)⟩
      obtain ⟨e1, e2⟩ := dec_enc R t hv (by omega)
      have := Unq.multi (byts (encodeRuneZ (R : Int)) ++ t) (by
        have h1 := (encodeRuneZ_length (R : Int)).1
        intro e
        have h2 : encodeRuneZ (R : Int) = [] := by simpa [byts] using (List.append_eq_nil_iff.1 e).1
        rw [h2] at h1
        simp at h1) e2
      rw [e1] at this
      have ed : (byts (encodeRuneZ (R : Int)) ++ t).drop (encodeRuneZ (R : Int)).length = t := by
        rw [List.drop_append_of_le_length (by simp [byts])]
        simp [byts]
      simp only [ed] at this
      exact this
  rw [if_neg c1]
  by_cases c2 : (R : Int) = 7
  · rw [if_pos c2]; refine ⟨false, ?_, unq_small (by omega) (by omega) _⟩; rw [c2]; exact Unq.named 97 7 t (by simp)
  rw [if_neg c2]
  by_cases c3 : (R : Int) = 8
  · rw [if_pos c3]; refine ⟨false, ?_, unq_small (by omega) (by omega) _⟩; rw [c3]; exact Unq.named 98 8 t (by simp)
  rw [if_neg c3]
  by_cases c4 : (R : Int) = 12
  · rw [if_pos c4]; refine ⟨false, ?_, unq_small (by omega) (by omega) _⟩; rw [c4]; exact Unq.named 102 12 t (by simp)
  rw [if_neg c4]
  by_cases c5 : (R : Int) = 10
  · rw [if_pos c5]; refine ⟨false, ?_, unq_small (by omega) (by omega) _⟩; rw [c5]; exact Unq.named 110 10 t (by simp)
  rw [if_neg c5]
  by_cases c6 : (R : Int) = 13
  · rw [if_pos c6]; refine ⟨false, ?_, unq_small (by omega) (by omega) _⟩; rw [c6]; exact Unq.named 114 13 t (by simp)
  rw [if_neg c6]
  by_cases c7 : (R : Int) = 9
  · rw [if_pos c7]; refine ⟨false, ?_, unq_small (by omega) (by omega) _⟩; rw [c7]; exact Unq.named 116 9 t (by simp)
  rw [if_neg c7]
  by_cases c8 : (R : Int) = 11
  · rw [if_pos c8]; refine ⟨false, ?_, unq_small (by omega) (by omega) _⟩; rw [c8]; exact Unq.named 118 11 t (by simp)
  rw [if_neg c8]
  by_cases c9 : (R : Int) < 32 ∨ (R : Int) = 127
  · rw [if_pos c9]
    refine ⟨false, ?_, unq_small (by omega) (by omega) _⟩
    rw [Int.toNat_natCast]
    have := Unq.hex2 R t (by omega)
    rw [hex2_eq R (by omega)] at this
    exact this
  rw [if_neg c9]
  rw [if_neg (by rw [hv]; simp)]
  by_cases c11 : (R : Int) < 65536
  · rw [if_pos c11]
    refine ⟨true, ?_, unq_multi _ (by omega)⟩
    rw [Int.toNat_natCast]
    exact Unq.hex4 R t (by omega) hv
  · rw [if_neg c11]
    refine ⟨true, ?_, unq_multi _ (by omega)⟩
    rw [Int.toNat_natCast]
    exact Unq.hex8 R t hv

theorem dec_list (s : ByteArray) : decodeL s.data.toList = Utf8.decode s 0 := by unfold decodeL; cases s; simp

theorem get0 (s : ByteArray) (h : 0 < s.size) : ∃ t, s.data.toList = s.get! 0 :: t := by
  rcases s with ⟨⟨l⟩⟩
  rcases l with _ | ⟨a, t⟩
  · simp [ByteArray.size] at h
  · exact ⟨t, rfl⟩

/-- ONE ROUND: what one step of Quote writes is taken back as one character, whose bytes are those that the step was written for. -/
theorem step_unq (T : PrintTabs) (s : ByteArray) (h0 : 0 < s.size) (t : List UInt8) :
    ∃ r mb, Unq (byts (quoteStep T s) ++ t) r mb t ∧ byts (unqBytes r mb) = s.data.toList.take (Utf8.decode s 0).2 ∧ 0 ≤ r ∧ (mb = false → r < 256) ∧ r ≤ 1114111 := by
  obtain ⟨t0, ht0⟩ := get0 s h0
  have hv := rune_valid s
  have hle := rune_le s 0
  unfold quoteStep
  by_cases c : (Utf8.decode s 0).2 = 1 ∧ (Utf8.decode s 0).1 = 65533
  · rw [if_pos c, c.1, ht0]
    have hb : (s.get! 0).toNat < 256 := UInt8.toNat_lt _
    refine ⟨((s.get! 0).toNat : Int), false, ?_, ?_, by omega, fun _ => by omega, by omega⟩
    · have := Unq.hex2 (s.get! 0).toNat t hb
      rw [hex2_eq _ hb] at this
      exact this
    · unfold unqBytes
      rw [if_pos (Or.inr rfl)]
      simp [byts]
  · rw [if_neg c]
    obtain ⟨mb, hu, he⟩ := esc_unq T (Utf8.decode s 0).1 hv t
    have hd : ¬ ((decodeL s.data.toList).2 = 1 ∧ (decodeL s.data.toList).1 = 65533) := by rw [dec_list]; exact c
    have := (enc_decL s.data.toList (by rw [ht0]; simp) hd).1
    rw [dec_list] at this
    refine ⟨_, mb, hu, by rw [he, this], by omega, fun hm => ?_, by omega⟩
    subst hm
    -- a character that stands for one byte is below 256
    by_cases h : ((Utf8.decode s 0).1 : Int) < 256
    · exact h
    · exfalso
      unfold unqBytes at he
      rw [if_pos (Or.inr rfl)] at he
      have h1 := encodeRuneZ_byte ((Utf8.decode s 0).1 : Int) ((Utf8.decode s 0).1 : Int) (by rw [← he]; simp)
      omega

/-- A step begins with a backslash, or is the plain bytes of a character, none of them a mark or a backslash. -/
theorem step_kind (T : PrintTabs) (s : ByteArray) (h0 : 0 < s.size) :
    (∃ l, byts (quoteStep T s) = 92 :: l) ∨ (byts (quoteStep T s) = s.data.toList.take (Utf8.decode s 0).2 ∧ byts (quoteStep T s) ≠ [] ∧ (34 : UInt8) ∉ byts (quoteStep T s) ∧ (92 : UInt8) ∉ byts (quoteStep T s) ∧ (10 : UInt8) ∉ byts (quoteStep T s)) := by
  obtain ⟨t0, ht0⟩ := get0 s h0
  unfold quoteStep
  by_cases c : (Utf8.decode s 0).2 = 1 ∧ (Utf8.decode s 0).1 = 65533
  · rw [if_pos c]; exact .inl ⟨_, rfl⟩
  rw [if_neg c]
  unfold escRune
  by_cases c0 : ((Utf8.decode s 0).1 : Int) = 34 ∨ ((Utf8.decode s 0).1 : Int) = 92
  · rw [if_pos c0]; exact .inl ⟨_, rfl⟩
  rw [if_neg c0]
  by_cases c1 : isPrintR T ((Utf8.decode s 0).1 : Int) = true
  · rw [if_pos c1]
    right
    have hd : ¬ ((decodeL s.data.toList).2 = 1 ∧ (decodeL s.data.toList).1 = 65533) := by rw [dec_list]; exact c
    have := (enc_decL s.data.toList (by rw [ht0]; simp) hd).1
    rw [dec_list] at this
    have key : ∀ x ∈ byts (encodeRuneZ ((Utf8.decode s 0).1 : Int)), x ≠ 34 ∧ x ≠ 92 ∧ x ≠ 10 := by
      intro x hx
      obtain ⟨z, hz, rfl⟩ := List.mem_map.1 hx
      have hzb := encodeRuneZ_byte _ z hz
      have hz34 : z ≠ 34 ∧ z ≠ 92 ∧ z ≠ 10 := by
        have h10 : ((Utf8.decode s 0).1 : Int) ≠ 10 := by
          intro e; rw [e] at c1; exact absurd c1 (by simp [isPrintR, isPrintLatin])
        by_cases hs : ((Utf8.decode s 0).1 : Int) ≤ 127
        · rw [encodeRuneZ_one (by omega) hs] at hz
          simp at hz; omega
        · unfold encodeRuneZ at hz
          rw [if_neg (by omega)] at hz
          repeat' split at hz
          all_goals (simp at hz; omega)
      have hb := bnat hzb.1 hzb.2
      refine ⟨?_, ?_, ?_⟩
      · intro e; have := congrArg UInt8.toNat e; rw [hb] at this; simp at this; omega
      · intro e; have := congrArg UInt8.toNat e; rw [hb] at this; simp at this; omega
      · intro e; have := congrArg UInt8.toNat e; rw [hb] at this; simp at this; omega
    refine ⟨this, ?_, fun hx => (key _ hx).1 rfl, fun hx => (key _ hx).2.1 rfl, fun hx => (key _ hx).2.2 rfl⟩
    intro e
    have := congrArg List.length e
    simp [byts] at this
    have := (encodeRuneZ_length ((Utf8.decode s 0).1 : Int)).1
    simp_all
  rw [if_neg c1]
  left
  repeat' split
  all_goals exact ⟨_, rfl⟩

/-- What is left of a text behind its first character. -/
theorem rest_list (s : ByteArray) (k : Nat) : (s.extract k s.size).data.toList = s.data.toList.drop k := by
  rw [extract_data]
  exact List.take_of_length_le (by rw [List.length_drop]; exact Nat.le_refl _)

/-- In what Quote writes between the marks, no mark stands but behind a backslash. -/
theorem quote_marks (T : PrintTabs) : ∀ (f : Nat) (s : ByteArray) (A B : List UInt8), byts (quoteFrom T f s) = A ++ 34 :: B → (92 : UInt8) ∈ A
  | 0, s, A, B, h => by simp [quoteFrom, byts] at h
  | f + 1, s, A, B, h => by
    unfold quoteFrom at h
    by_cases h0 : 0 < s.size
    · rw [if_pos h0, byts_append] at h
      rcases step_kind T s h0 with ⟨l, hl⟩ | ⟨_, hne, hm, _⟩
      · rw [hl] at h
        rcases A with _ | ⟨a, A⟩
        · simp at h
        · simp at h
          simp [h.1]
      · -- the step is plain: the mark lies behind it
        rcases List.append_eq_append_iff.1 h with ⟨a, e1, e2⟩ | ⟨c, e1, e2⟩
        · have := quote_marks T f _ a B e2
          rw [e1]; exact List.mem_append_right _ this
        · exfalso
          rcases c with _ | ⟨c0, c⟩
          · simp at e2
            have := quote_marks T f (s.extract (Utf8.decode s 0).2 s.size) [] B (by simp [← e2])
            simp at this
          · simp at e2
            apply hm
            rw [e1, e2.1]
            simp
    · rw [if_neg h0] at h
      simp [byts] at h

/-- Without a backslash, what Quote writes between the marks is the text itself. -/
theorem quote_plain (T : PrintTabs) : ∀ (f : Nat) (s : ByteArray), s.size ≤ f → (92 : UInt8) ∉ byts (quoteFrom T f s) → byts (quoteFrom T f s) = s.data.toList
  | 0, s, hf, _ => by
    have : s.data.toList = [] := by
      rcases s with ⟨⟨l⟩⟩
      simp [ByteArray.size] at hf
      simpa using hf
    rw [this]; rfl
  | f + 1, s, hf, h => by
    unfold quoteFrom at h ⊢
    by_cases h0 : 0 < s.size
    · rw [if_pos h0, byts_append] at h ⊢
      rcases step_kind T s h0 with ⟨l, hl⟩ | ⟨he, _, _, _, _⟩
      · exfalso; apply h; rw [hl]; simp
      · have hw := width_pos s 0
        have hr := size_rest s (Utf8.decode s 0).2
        rw [quote_plain T f _ (by omega) (fun hx => h (List.mem_append_right _ hx)), he, rest_list, List.take_append_drop]
    · rw [if_neg h0]
      have : s.data.toList = [] := by
        rcases s with ⟨⟨l⟩⟩
        simp [ByteArray.size] at h0
        simpa using h0
      rw [this]; rfl

/-- The first byte of a step is no mark and no line feed. -/
theorem step_head (T : PrintTabs) (s : ByteArray) (h0 : 0 < s.size) : ∃ c l, byts (quoteStep T s) = c :: l ∧ c ≠ 34 ∧ c ≠ 10 := by
  rcases step_kind T s h0 with ⟨l, hl⟩ | ⟨_, hne, h34, _, h10⟩
  · exact ⟨92, l, hl, by decide, by decide⟩
  · obtain ⟨c, l, e⟩ := List.exists_cons_of_ne_nil hne
    rw [e] at h34 h10
    exact ⟨c, l, e, fun h => h34 (by rw [h]; simp), fun h => h10 (by rw [h]; simp)⟩

/-- Where the text between the marks ends: no mark before the last one, if no backslash stands before the first. -/
theorem index_mark : ∀ (A : List UInt8), ∃ p, indexByte (A ++ [34]) 34 = (p : Nat) ∧ p ≤ A.length ∧ (p < A.length → ∃ B, A = A.take p ++ 34 :: B)
  | [] => ⟨0, by simp [indexByte], by simp, by simp⟩
  | a :: A => by
    by_cases h : a = 34
    · subst h
      exact ⟨0, by simp [indexByte], by simp, fun _ => ⟨A, by simp⟩⟩
    · obtain ⟨p, e, hp, hB⟩ := index_mark A
      refine ⟨p + 1, ?_, by simp; omega, ?_⟩
      · have hne : (a == 34) = false := by simpa using h
        have h1 : ((p : Int) == -1) = false := by rw [beq_eq_false_iff_ne]; omega
        simp only [List.cons_append, indexByte, hne, e, h1]
        simp
      · intro hlt
        obtain ⟨B, hb⟩ := hB (by simp at hlt; omega)
        exact ⟨B, by simp [List.take_succ_cons]; exact hb⟩

theorem index_none (c : UInt8) : ∀ (A : List UInt8), indexByte A c = -1 → c ∉ A
  | [], _ => by simp
  | a :: A, h => by
    unfold indexByte at h
    by_cases e : (a == c) = true
    · rw [if_pos e] at h; cases h
    · rw [if_neg e] at h
      by_cases e2 : (indexByte A c == -1) = true
      · have := index_none c A (by simpa using e2)
        intro hm
        rcases List.mem_cons.1 hm with h3 | h3
        · subst h3; simp at e
        · exact this h3
      · rw [if_neg e2] at h
        have := indexByte_ge A c
        omega

/-- Without a backslash up to the first mark, the quoted text is the text itself and the first mark ends it. -/
theorem fast_plain (T : PrintTabs) (s : ByteArray) (p : Nat) (hp : indexByte (byts (quoteFrom T s.size s) ++ [34]) 34 = (p : Int))
    (hb : indexByte ((34 :: (byts (quoteFrom T s.size s) ++ [34])).take (p + 2)) 92 = -1) :
    p = (byts (quoteFrom T s.size s)).length ∧ byts (quoteFrom T s.size s) = s.data.toList := by
  obtain ⟨q, hq, hle, hB⟩ := index_mark (byts (quoteFrom T s.size s))
  obtain rfl : q = p := by rw [hp] at hq; omega
  have hn := index_none 92 _ hb
  have hall : ∀ A, A = (byts (quoteFrom T s.size s)).take q → (92 : UInt8) ∉ A := by
    intro A hA hm
    apply hn
    subst hA
    rw [List.take_succ_cons]
    refine List.mem_cons_of_mem _ ?_
    rw [List.take_append, List.mem_append]
    left
    have : (byts (quoteFrom T s.size s)).take q = ((byts (quoteFrom T s.size s)).take (q + 1)).take q := by rw [List.take_take]; congr 1; omega
    rw [this] at hm
    exact List.mem_of_mem_take hm
  have hq' : q = (byts (quoteFrom T s.size s)).length := by
    by_cases hlt : q < (byts (quoteFrom T s.size s)).length
    · obtain ⟨B, e⟩ := hB hlt
      exact absurd (quote_marks T s.size s _ B e) (hall _ rfl)
    · omega
  refine ⟨hq', quote_plain T s.size s (Nat.le_refl _) ?_⟩
  have := hall _ rfl
  rw [hq', List.take_length] at this
  exact this

end Go.Proofs.YtdcaigdhbbnfoaaGreatDoor
