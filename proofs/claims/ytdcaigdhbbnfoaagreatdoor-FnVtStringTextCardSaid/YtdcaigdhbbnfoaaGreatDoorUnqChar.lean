/-
  WALKS: strconv.UnquoteChar between the marks '"', at each kind of character that Quote writes ('Unq').
-/
import Derived.Test.YtdcaigdhbbnfoaaGreatDoorDoor
import Derived.Test.YtdcaigdhbbnfoaaGreatDoorPlain
namespace Go.Proofs.YtdcaigdhbbnfoaaGreatDoor
open Go.RowKit PFnVtStringText YtdcaigdhbbnfoaaGreatDoorW.PrintWords

set_option maxHeartbeats 400000 in
set_option maxRecDepth 100000 in
theorem uc_plain (t : ByteArray) (w : World) (h0 : 0 < t.size) (c : UInt8) (hc : t[0]'h0 = c) (hlt : c.toNat < 128) (h92 : c.toNat ≠ 92) (h34 : c.toNat ≠ 34) :
    Calls Tryz.prog 29 #[.string t, .int .u8 34] w fun e w' => e = .returned (.tuple #[.int .i32 (c.toNat : Int), .bool false, .string (t.extract 1 t.size), .nilIface]) ∧ Below w.heap.size w w' := by
  have b1 : (((c.toNat : Nat) : Int) == 34) = false := by rw [beq_eq_false_iff_ne]; omega
  have b2 : (((c.toNat : Nat) : Int) != 92) = true := by rw [bne_iff_ne]; omega
  have b3 : ((c.toNat : Nat) : Int) < 128 := by omega
  have hz : ((t.size : Int) == 0) = false := by rw [beq_eq_false_iff_ne]; omega
  have h1 : (1 : Int) ≤ (t.size : Int) := by omega
  clear hlt h92 h34
  go_enter Tryz.func29, Tryz.ntmps29
  go_wp2_with fail
  go_quiet (fail)
  go_wp2_with fail
  exact bodyPost_ret (v := .tuple #[.int .i32 (c.toNat : Int), .bool false, .string (t.extract 1 t.size), .nilIface]) (by simp [results, Tryz.results29, go_sem]) rfl ⟨rfl, pw_below_drewN (Below.refl _ _) _⟩

set_option maxHeartbeats 400000 in
set_option maxRecDepth 100000 in
theorem uc_multi (t : ByteArray) (w : World) (hT : Lib.Utf8Tabs 2 3 w) (h0 : 0 < t.size) (c : UInt8) (hc : t[0]'h0 = c) (hge : 128 ≤ c.toNat) (R K : Nat) (hR : Utf8.decode t 0 = (R, K)) (hK : K ≤ t.size) :
    Calls Tryz.prog 29 #[.string t, .int .u8 34] w fun e w' => e = .returned (.tuple #[.int .i32 (R : Int), .bool true, .string (t.extract K t.size), .nilIface]) ∧ Below w.heap.size w w' := by
  have cD : Calls Tryz.prog 28 #[.string t] w fun e w' => e = .returned (.tuple #[.int .i32 (R : Int), .int .i64 (K : Int)]) ∧ Below w.heap.size w w' := by
    have := Tryz.utf8_DecodeRuneInString t w hT
    rw [show Lib.decodeGo t = (R, K) by unfold Lib.decodeGo; rw [if_neg (by omega)]; exact hR] at this
    exact this
  have CD := Lib.hid cD
  have b1 : (((c.toNat : Nat) : Int) == 34) = false := by rw [beq_eq_false_iff_ne]; omega
  have b3 : (128 : Int) ≤ ((c.toNat : Nat) : Int) := by omega
  have hz : ((t.size : Int) == 0) = false := by rw [beq_eq_false_iff_ne]; omega
  have h1 : (K : Int) ≤ (t.size : Int) := by omega
  clear hge hR cD hT
  go_enter Tryz.func29, Tryz.ntmps29
  go_wp2_with fail
  refine CD.out.mono ?_
  rintro e w1 ⟨rfl, hb⟩
  have HB := Lib.hid hb
  clear hb
  go_wp2_with fail
  go_quiet (fail)
  go_wp2_with fail
  exact bodyPost_ret (v := .tuple #[.int .i32 (R : Int), .bool true, .string (t.extract K t.size), .nilIface]) (by simp [results, Tryz.results29, go_sem]) rfl ⟨rfl, pw_below_drewN HB.out _⟩

set_option maxHeartbeats 400000 in
set_option maxRecDepth 100000 in
theorem uc_n97 (t : ByteArray) (w : World) (h2 : 2 ≤ t.size) (hc : t[0]'(by omega) = 92) (hc1 : t[1]'(by omega) = 97) :
    Calls Tryz.prog 29 #[.string t, .int .u8 34] w fun e w' => e = .returned (.tuple #[.int .i32 7, .bool false, .string (t.extract 2 t.size), .nilIface]) ∧ w' = w := by
  have hz : ((t.size : Int) == 0) = false := by rw [beq_eq_false_iff_ne]; omega
  have h2' : (2 : Int) ≤ (t.size : Int) := by omega
  go_enter Tryz.func29, Tryz.ntmps29
  go_wp2_with fail
  exact bodyPost_ret (v := .tuple #[.int .i32 7, .bool false, .string (t.extract 2 t.size), .nilIface]) (by simp [results, Tryz.results29, go_sem]) rfl ⟨rfl, rfl⟩

set_option maxHeartbeats 400000 in
set_option maxRecDepth 100000 in
theorem uc_n98 (t : ByteArray) (w : World) (h2 : 2 ≤ t.size) (hc : t[0]'(by omega) = 92) (hc1 : t[1]'(by omega) = 98) :
    Calls Tryz.prog 29 #[.string t, .int .u8 34] w fun e w' => e = .returned (.tuple #[.int .i32 8, .bool false, .string (t.extract 2 t.size), .nilIface]) ∧ w' = w := by
  have hz : ((t.size : Int) == 0) = false := by rw [beq_eq_false_iff_ne]; omega
  have h2' : (2 : Int) ≤ (t.size : Int) := by omega
  go_enter Tryz.func29, Tryz.ntmps29
  go_wp2_with fail
  exact bodyPost_ret (v := .tuple #[.int .i32 8, .bool false, .string (t.extract 2 t.size), .nilIface]) (by simp [results, Tryz.results29, go_sem]) rfl ⟨rfl, rfl⟩

set_option maxHeartbeats 400000 in
set_option maxRecDepth 100000 in
theorem uc_n102 (t : ByteArray) (w : World) (h2 : 2 ≤ t.size) (hc : t[0]'(by omega) = 92) (hc1 : t[1]'(by omega) = 102) :
    Calls Tryz.prog 29 #[.string t, .int .u8 34] w fun e w' => e = .returned (.tuple #[.int .i32 12, .bool false, .string (t.extract 2 t.size), .nilIface]) ∧ w' = w := by
  have hz : ((t.size : Int) == 0) = false := by rw [beq_eq_false_iff_ne]; omega
  have h2' : (2 : Int) ≤ (t.size : Int) := by omega
  go_enter Tryz.func29, Tryz.ntmps29
  go_wp2_with fail
  exact bodyPost_ret (v := .tuple #[.int .i32 12, .bool false, .string (t.extract 2 t.size), .nilIface]) (by simp [results, Tryz.results29, go_sem]) rfl ⟨rfl, rfl⟩

set_option maxHeartbeats 400000 in
set_option maxRecDepth 100000 in
theorem uc_n110 (t : ByteArray) (w : World) (h2 : 2 ≤ t.size) (hc : t[0]'(by omega) = 92) (hc1 : t[1]'(by omega) = 110) :
    Calls Tryz.prog 29 #[.string t, .int .u8 34] w fun e w' => e = .returned (.tuple #[.int .i32 10, .bool false, .string (t.extract 2 t.size), .nilIface]) ∧ w' = w := by
  have hz : ((t.size : Int) == 0) = false := by rw [beq_eq_false_iff_ne]; omega
  have h2' : (2 : Int) ≤ (t.size : Int) := by omega
  go_enter Tryz.func29, Tryz.ntmps29
  go_wp2_with fail
  exact bodyPost_ret (v := .tuple #[.int .i32 10, .bool false, .string (t.extract 2 t.size), .nilIface]) (by simp [results, Tryz.results29, go_sem]) rfl ⟨rfl, rfl⟩

set_option maxHeartbeats 400000 in
set_option maxRecDepth 100000 in
theorem uc_n114 (t : ByteArray) (w : World) (h2 : 2 ≤ t.size) (hc : t[0]'(by omega) = 92) (hc1 : t[1]'(by omega) = 114) :
    Calls Tryz.prog 29 #[.string t, .int .u8 34] w fun e w' => e = .returned (.tuple #[.int .i32 13, .bool false, .string (t.extract 2 t.size), .nilIface]) ∧ w' = w := by
  have hz : ((t.size : Int) == 0) = false := by rw [beq_eq_false_iff_ne]; omega
  have h2' : (2 : Int) ≤ (t.size : Int) := by omega
  go_enter Tryz.func29, Tryz.ntmps29
  go_wp2_with fail
  exact bodyPost_ret (v := .tuple #[.int .i32 13, .bool false, .string (t.extract 2 t.size), .nilIface]) (by simp [results, Tryz.results29, go_sem]) rfl ⟨rfl, rfl⟩

set_option maxHeartbeats 400000 in
set_option maxRecDepth 100000 in
theorem uc_n116 (t : ByteArray) (w : World) (h2 : 2 ≤ t.size) (hc : t[0]'(by omega) = 92) (hc1 : t[1]'(by omega) = 116) :
    Calls Tryz.prog 29 #[.string t, .int .u8 34] w fun e w' => e = .returned (.tuple #[.int .i32 9, .bool false, .string (t.extract 2 t.size), .nilIface]) ∧ w' = w := by
  have hz : ((t.size : Int) == 0) = false := by rw [beq_eq_false_iff_ne]; omega
  have h2' : (2 : Int) ≤ (t.size : Int) := by omega
  go_enter Tryz.func29, Tryz.ntmps29
  go_wp2_with fail
  exact bodyPost_ret (v := .tuple #[.int .i32 9, .bool false, .string (t.extract 2 t.size), .nilIface]) (by simp [results, Tryz.results29, go_sem]) rfl ⟨rfl, rfl⟩

set_option maxHeartbeats 400000 in
set_option maxRecDepth 100000 in
theorem uc_n118 (t : ByteArray) (w : World) (h2 : 2 ≤ t.size) (hc : t[0]'(by omega) = 92) (hc1 : t[1]'(by omega) = 118) :
    Calls Tryz.prog 29 #[.string t, .int .u8 34] w fun e w' => e = .returned (.tuple #[.int .i32 11, .bool false, .string (t.extract 2 t.size), .nilIface]) ∧ w' = w := by
  have hz : ((t.size : Int) == 0) = false := by rw [beq_eq_false_iff_ne]; omega
  have h2' : (2 : Int) ≤ (t.size : Int) := by omega
  go_enter Tryz.func29, Tryz.ntmps29
  go_wp2_with fail
  exact bodyPost_ret (v := .tuple #[.int .i32 11, .bool false, .string (t.extract 2 t.size), .nilIface]) (by simp [results, Tryz.results29, go_sem]) rfl ⟨rfl, rfl⟩

set_option maxHeartbeats 400000 in
set_option maxRecDepth 100000 in
theorem uc_n92 (t : ByteArray) (w : World) (h2 : 2 ≤ t.size) (hc : t[0]'(by omega) = 92) (hc1 : t[1]'(by omega) = 92) :
    Calls Tryz.prog 29 #[.string t, .int .u8 34] w fun e w' => e = .returned (.tuple #[.int .i32 92, .bool false, .string (t.extract 2 t.size), .nilIface]) ∧ w' = w := by
  have hz : ((t.size : Int) == 0) = false := by rw [beq_eq_false_iff_ne]; omega
  have h2' : (2 : Int) ≤ (t.size : Int) := by omega
  go_enter Tryz.func29, Tryz.ntmps29
  go_wp2_with fail
  exact bodyPost_ret (v := .tuple #[.int .i32 92, .bool false, .string (t.extract 2 t.size), .nilIface]) (by simp [results, Tryz.results29, go_sem]) rfl ⟨rfl, rfl⟩

set_option maxHeartbeats 400000 in
set_option maxRecDepth 100000 in
theorem uc_n34 (t : ByteArray) (w : World) (h2 : 2 ≤ t.size) (hc : t[0]'(by omega) = 92) (hc1 : t[1]'(by omega) = 34) :
    Calls Tryz.prog 29 #[.string t, .int .u8 34] w fun e w' => e = .returned (.tuple #[.int .i32 34, .bool false, .string (t.extract 2 t.size), .nilIface]) ∧ w' = w := by
  have hz : ((t.size : Int) == 0) = false := by rw [beq_eq_false_iff_ne]; omega
  have h2' : (2 : Int) ≤ (t.size : Int) := by omega
  go_enter Tryz.func29, Tryz.ntmps29
  go_wp2_with fail
  exact bodyPost_ret (v := .tuple #[.int .i32 34, .bool false, .string (t.extract 2 t.size), .nilIface]) (by simp [results, Tryz.results29, go_sem]) rfl ⟨rfl, rfl⟩

end Go.Proofs.YtdcaigdhbbnfoaaGreatDoor
