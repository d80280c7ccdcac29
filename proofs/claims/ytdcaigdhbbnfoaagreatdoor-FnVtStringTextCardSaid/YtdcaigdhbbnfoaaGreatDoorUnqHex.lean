/-
  WALKS: strconv.UnquoteChar at hexadecimal digits: backslash x, u, U.
-/
import Derived.Test.YtdcaigdhbbnfoaaGreatDoorUnqChar
import Derived.Lib.QuoteBits
namespace Go.Proofs.YtdcaigdhbbnfoaaGreatDoor
open Go.RowKit PFnVtStringText YtdcaigdhbbnfoaaGreatDoorW.PrintWords

theorem unhex_val : ∀ x : Fin 16, strconv_unhex.f 9 (Lib.hexDigit x.val) = some ((x.val : Int), true) := by decide +kernel
theorem unhex_any (x : Nat) (hx : x < 16) (w : World) : Calls Tryz.prog 46 #[.int .u8 (Lib.hexDigit x)] w fun e w' => e = .returned (.tuple #[.int .i32 (x : Int), .bool true]) ∧ Drawn0 w w' :=
  strconv_unhex.calls 9 _ _ _ w (unhex_val ⟨x, hx⟩)

theorem or16 (m d : Nat) (hm : m < 100000000) (hd : d < 16) : bits .or .i32 (wrap32 ((m : Int) * 16)) (d : Int) = ((m * 16 + d : Nat) : Int) := by
  have e : wrap32 ((m : Int) * 16) = ((m * 16 : Nat) : Int) := by unfold wrap32; omega
  rw [e]
  show IntKind.i32.wrap ((BitVec.ofInt 32 ((m * 16 : Nat) : Int) ||| BitVec.ofInt 32 (d : Int)).toNat : Int) = _
  rw [BitVec.toNat_or, ofInt_u32 (m * 16) (by omega), ofInt_u32 d (by omega)]
  have e2 : m * 16 ||| d = m * 16 + d := by
    have := Nat.shiftLeft_add_eq_or_of_lt (i := 4) (show d < 2 ^ 4 by omega) m
    rw [Nat.shiftLeft_eq, show (2 : Nat) ^ 4 = 16 from rfl] at this
    omega
  rw [e2]
  exact Lib.wrap_i32_small _ (by omega)

/-- The first n bytes of u are the n hexadecimal digits of V. -/
def Digits (u : ByteArray) (V n : Nat) : Prop := ∀ (j : Nat) (h : j < u.size), j < n → ((u[j]'h).toNat : Int) = Lib.hexDigit (V / 16 ^ (n - 1 - j) % 16)
/-- V is a valid character's number of at most n hexadecimal digits. -/
def Fits (V n : Nat) : Prop := V / 16 ^ n = 0 ∧ V ≤ 1114111 ∧ Lib.validRune (V : Int) = true
/-- A digit more. -/
def more (V n k : Nat) : Int := ((V / 16 ^ (n - k) : Nat) : Int)
theorem more_step (V n k d : Nat) (m : Int) (hV : Fits V n) (hk : k < n) (hm : more V n k = m) (hd : V / 16 ^ (n - 1 - k) % 16 = d) : bits .or .i32 (wrap32 (m * 16)) (d : Int) = more V n (k + 1) := by
  subst hm hd
  unfold more
  have hle : V / 16 ^ (n - k) ≤ V := Nat.div_le_self _ _
  have hV2 := hV.2.1
  rw [or16 _ _ (by omega) (Nat.mod_lt _ (by decide))]
  have e1 : n - k = (n - 1 - k) + 1 := by omega
  have e2 : n - (k + 1) = n - 1 - k := by omega
  rw [e1, e2, Nat.pow_succ, ← Nat.div_div_eq_div_mul]
  have := Nat.div_add_mod (V / 16 ^ (n - 1 - k)) 16
  omega

set_option maxHeartbeats 400000 in
set_option maxRecDepth 100000 in
theorem uc_hex2 (t u : ByteArray) (V : Nat) (w : World) (h2 : 2 ≤ t.size) (hc : t[0]'(by omega) = 92) (hc1 : t[1]'(by omega) = 120) (hu : t.extract 2 t.size = u) (hn : 2 ≤ u.size)
    (hd : Digits u V 2) (hV : Fits V 2) :
    Calls Tryz.prog 29 #[.string t, .int .u8 34] w fun e w' => e = .returned (.tuple #[.int .i32 (V : Int), .bool false, .string (u.extract 2 u.size), .nilIface]) ∧ Below w.heap.size w w' := by
  have hz : ((t.size : Int) == 0) = false := by rw [beq_eq_false_iff_ne]; omega
  have h2' : (2 : Int) ≤ (t.size : Int) := by omega
  go_enter Tryz.func29, Tryz.ntmps29
  go_wp2_with fail
  go_loopw [7, 13, 14] (fun er v j wr => Below w.heap.size w wr ∧ ∃ k : Nat, k ≤ 2 ∧ j = .int .i64 k ∧ v = .int .i32 (more V 2 k) ∧ er = .nilIface) (fun _ _ j _ => 2 - (intOf j).toNat)
  case atStart => exact ⟨Below.refl _ _, 0, Nat.zero_le _, rfl, by unfold more; rw [hV.1]; rfl, rfl⟩
  case round =>
    obtain ⟨hbw, k, hk, rfl, rfl, rfl⟩ := hrel
    by_cases hlt : k < 2
    · have hku : k < u.size := by omega
      have cU : ∀ W, Calls Tryz.prog 46 #[.int .u8 (((u[k]'hku).toNat : Nat) : Int)] W fun e w' => e = .returned (.tuple #[.int .i32 ((V / 16 ^ (2 - 1 - k) % 16 : Nat) : Int), .bool true]) ∧ Drawn0 W w' := fun W => by
        rw [hd k hku hlt]; exact unhex_any _ (Nat.mod_lt _ (by decide)) W
      obtain ⟨d, hdd⟩ : ∃ d, V / 16 ^ (2 - 1 - k) % 16 = d := ⟨_, rfl⟩
      rw [hdd] at cU
      have CU := Lib.hid cU
      have HDD := Lib.hid hdd
      clear cU hdd
      go_wp2_with fail
      refine (CU.out _).mono ?_
      rintro e w1 ⟨rfl, ⟨nd, rfl⟩⟩
      obtain ⟨m, hm⟩ : ∃ m, more V 2 k = m := ⟨_, rfl⟩
      rw [hm]
      have HM := Lib.hid hm
      clear hm
      go_wp2_with fail
      exact ⟨⟨pw_below_drewN hbw _, k + 1, by omega, by go_num, by rw [more_step V 2 k d m hV hlt HM.out HDD.out], rfl⟩, by simp [intOf]; omega⟩
    · obtain rfl : k = 2 := by omega
      have hm : more V 2 2 = (V : Int) := by simp [more]
      rw [hm]
      clear hm hlt
      go_wp2_with fail
      exact bodyPost_ret (v := .tuple #[.int .i32 (V : Int), .bool false, .string (u.extract 2 u.size), .nilIface]) (by simp [results, Tryz.results29, go_sem]) rfl ⟨rfl, hbw⟩

set_option maxHeartbeats 400000 in
set_option maxRecDepth 100000 in
theorem uc_hex4 (t u : ByteArray) (V : Nat) (w : World) (h2 : 2 ≤ t.size) (hc : t[0]'(by omega) = 92) (hc1 : t[1]'(by omega) = 117) (hu : t.extract 2 t.size = u) (hn : 4 ≤ u.size)
    (hd : Digits u V 4) (hV : Fits V 4) :
    Calls Tryz.prog 29 #[.string t, .int .u8 34] w fun e w' => e = .returned (.tuple #[.int .i32 (V : Int), .bool true, .string (u.extract 4 u.size), .nilIface]) ∧ Below w.heap.size w w' := by
  have hz : ((t.size : Int) == 0) = false := by rw [beq_eq_false_iff_ne]; omega
  have h2' : (2 : Int) ≤ (t.size : Int) := by omega
  go_enter Tryz.func29, Tryz.ntmps29
  go_wp2_with fail
  go_loopw [7, 13, 14] (fun er v j wr => Below w.heap.size w wr ∧ ∃ k : Nat, k ≤ 4 ∧ j = .int .i64 k ∧ v = .int .i32 (more V 4 k) ∧ er = .nilIface) (fun _ _ j _ => 4 - (intOf j).toNat)
  case atStart => exact ⟨Below.refl _ _, 0, Nat.zero_le _, rfl, by unfold more; rw [hV.1]; rfl, rfl⟩
  case round =>
    obtain ⟨hbw, k, hk, rfl, rfl, rfl⟩ := hrel
    by_cases hlt : k < 4
    · have hku : k < u.size := by omega
      have cU : ∀ W, Calls Tryz.prog 46 #[.int .u8 (((u[k]'hku).toNat : Nat) : Int)] W fun e w' => e = .returned (.tuple #[.int .i32 ((V / 16 ^ (4 - 1 - k) % 16 : Nat) : Int), .bool true]) ∧ Drawn0 W w' := fun W => by
        rw [hd k hku hlt]; exact unhex_any _ (Nat.mod_lt _ (by decide)) W
      obtain ⟨d, hdd⟩ : ∃ d, V / 16 ^ (4 - 1 - k) % 16 = d := ⟨_, rfl⟩
      rw [hdd] at cU
      have CU := Lib.hid cU
      have HDD := Lib.hid hdd
      clear cU hdd
      go_wp2_with fail
      refine (CU.out _).mono ?_
      rintro e w1 ⟨rfl, ⟨nd, rfl⟩⟩
      obtain ⟨m, hm⟩ : ∃ m, more V 4 k = m := ⟨_, rfl⟩
      rw [hm]
      have HM := Lib.hid hm
      clear hm
      go_wp2_with fail
      exact ⟨⟨pw_below_drewN hbw _, k + 1, by omega, by go_num, by rw [more_step V 4 k d m hV hlt HM.out HDD.out], rfl⟩, by simp [intOf]; omega⟩
    · obtain rfl : k = 4 := by omega
      have hm : more V 4 4 = (V : Int) := by simp [more]
      rw [hm]
      clear hm hlt
      go_wp2_with fail
      refine (Tryz.utf8_ValidRune _ _).mono ?_
      rintro e w1 ⟨rfl, rfl⟩
      rw [hV.2.2]
      go_wp2_with fail
      exact bodyPost_ret (v := .tuple #[.int .i32 (V : Int), .bool true, .string (u.extract 4 u.size), .nilIface]) (by simp [results, Tryz.results29, go_sem]) rfl ⟨rfl, hbw⟩

set_option maxHeartbeats 400000 in
set_option maxRecDepth 100000 in
theorem uc_hex8 (t u : ByteArray) (V : Nat) (w : World) (h2 : 2 ≤ t.size) (hc : t[0]'(by omega) = 92) (hc1 : t[1]'(by omega) = 85) (hu : t.extract 2 t.size = u) (hn : 8 ≤ u.size)
    (hd : Digits u V 8) (hV : Fits V 8) :
    Calls Tryz.prog 29 #[.string t, .int .u8 34] w fun e w' => e = .returned (.tuple #[.int .i32 (V : Int), .bool true, .string (u.extract 8 u.size), .nilIface]) ∧ Below w.heap.size w w' := by
  have hz : ((t.size : Int) == 0) = false := by rw [beq_eq_false_iff_ne]; omega
  have h2' : (2 : Int) ≤ (t.size : Int) := by omega
  go_enter Tryz.func29, Tryz.ntmps29
  go_wp2_with fail
  go_loopw [7, 13, 14] (fun er v j wr => Below w.heap.size w wr ∧ ∃ k : Nat, k ≤ 8 ∧ j = .int .i64 k ∧ v = .int .i32 (more V 8 k) ∧ er = .nilIface) (fun _ _ j _ => 8 - (intOf j).toNat)
  case atStart => exact ⟨Below.refl _ _, 0, Nat.zero_le _, rfl, by unfold more; rw [hV.1]; rfl, rfl⟩
  case round =>
    obtain ⟨hbw, k, hk, rfl, rfl, rfl⟩ := hrel
    by_cases hlt : k < 8
    · have hku : k < u.size := by omega
      have cU : ∀ W, Calls Tryz.prog 46 #[.int .u8 (((u[k]'hku).toNat : Nat) : Int)] W fun e w' => e = .returned (.tuple #[.int .i32 ((V / 16 ^ (8 - 1 - k) % 16 : Nat) : Int), .bool true]) ∧ Drawn0 W w' := fun W => by
        rw [hd k hku hlt]; exact unhex_any _ (Nat.mod_lt _ (by decide)) W
      obtain ⟨d, hdd⟩ : ∃ d, V / 16 ^ (8 - 1 - k) % 16 = d := ⟨_, rfl⟩
      rw [hdd] at cU
      have CU := Lib.hid cU
      have HDD := Lib.hid hdd
      clear cU hdd
      go_wp2_with fail
      refine (CU.out _).mono ?_
      rintro e w1 ⟨rfl, ⟨nd, rfl⟩⟩
      obtain ⟨m, hm⟩ : ∃ m, more V 8 k = m := ⟨_, rfl⟩
      rw [hm]
      have HM := Lib.hid hm
      clear hm
      go_wp2_with fail
      exact ⟨⟨pw_below_drewN hbw _, k + 1, by omega, by go_num, by rw [more_step V 8 k d m hV hlt HM.out HDD.out], rfl⟩, by simp [intOf]; omega⟩
    · obtain rfl : k = 8 := by omega
      have hm : more V 8 8 = (V : Int) := by simp [more]
      rw [hm]
      clear hm hlt
      go_wp2_with fail
      refine (Tryz.utf8_ValidRune _ _).mono ?_
      rintro e w1 ⟨rfl, rfl⟩
      rw [hV.2.2]
      go_wp2_with fail
      exact bodyPost_ret (v := .tuple #[.int .i32 (V : Int), .bool true, .string (u.extract 8 u.size), .nilIface]) (by simp [results, Tryz.results29, go_sem]) rfl ⟨rfl, hbw⟩

end Go.Proofs.YtdcaigdhbbnfoaaGreatDoor
