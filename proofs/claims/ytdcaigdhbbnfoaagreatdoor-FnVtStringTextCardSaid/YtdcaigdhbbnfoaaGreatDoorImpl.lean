/-
  WALKS: the package's road for a string, an object path and a signature: the value that the plain data stand for, its type, its signature, the variant.
-/
import Derived.Test.YtdcaigdhbbnfoaaGreatDoorTidy
import Derived.Defers
import Derived.Recover
import Derived.Outline
namespace Go.Proofs.YtdcaigdhbbnfoaaGreatDoor
open Go.RowKit PFnVtStringText YtdcaigdhbbnfoaaGreatDoorW.PrintWords

/-- The program's value for a kind: a string, an ObjectPath, a Signature. -/
def ifaceOf (k : Int) (s : ByteArray) : Value := if k = 115 then .iface 9 (.string s) else if k = 111 then .iface 75 (.string s) else .iface 54 (.agg #[.string s])

@[go_sem] theorem as9_5 (v : Value) (w : World) : (Instr.typeAssert (.iface 9 v) 20 5 true).run Tryz.prog w = .ok (.tuple #[.int .u8 0, .bool false]) w := by kernel_rfl
@[go_sem] theorem as9_146 (v : Value) (w : World) : (Instr.typeAssert (.iface 9 v) 20 146 true).run Tryz.prog w = .ok (.tuple #[.int .u8 0, .bool false]) w := by kernel_rfl
@[go_sem] theorem as9_147 (v : Value) (w : World) : (Instr.typeAssert (.iface 9 v) 20 147 true).run Tryz.prog w = .ok (.tuple #[.int .u8 0, .bool false]) w := by kernel_rfl
@[go_sem] theorem as9_148 (v : Value) (w : World) : (Instr.typeAssert (.iface 9 v) 20 148 true).run Tryz.prog w = .ok (.tuple #[.int .u8 0, .bool false]) w := by kernel_rfl
@[go_sem] theorem as9_4 (v : Value) (w : World) : (Instr.typeAssert (.iface 9 v) 20 4 true).run Tryz.prog w = .ok (.tuple #[.bool false, .bool false]) w := by kernel_rfl
@[go_sem] theorem as9_68 (v : Value) (w : World) : (Instr.typeAssert (.iface 9 v) 20 68 true).run Tryz.prog w = .ok (.tuple #[.int .i16 0, .bool false]) w := by kernel_rfl
@[go_sem] theorem as9_71 (v : Value) (w : World) : (Instr.typeAssert (.iface 9 v) 20 71 true).run Tryz.prog w = .ok (.tuple #[.int .u16 0, .bool false]) w := by kernel_rfl
@[go_sem] theorem as9_21 (v : Value) (w : World) : (Instr.typeAssert (.iface 9 v) 20 21 true).run Tryz.prog w = .ok (.tuple #[.int .i32 0, .bool false]) w := by kernel_rfl
@[go_sem] theorem as9_72 (v : Value) (w : World) : (Instr.typeAssert (.iface 9 v) 20 72 true).run Tryz.prog w = .ok (.tuple #[.int .u32 0, .bool false]) w := by kernel_rfl
@[go_sem] theorem as9_2 (v : Value) (w : World) : (Instr.typeAssert (.iface 9 v) 20 2 true).run Tryz.prog w = .ok (.tuple #[.int .i64 0, .bool false]) w := by kernel_rfl
@[go_sem] theorem as9_22 (v : Value) (w : World) : (Instr.typeAssert (.iface 9 v) 20 22 true).run Tryz.prog w = .ok (.tuple #[.int .u64 0, .bool false]) w := by kernel_rfl
@[go_sem] theorem as9_73 (v : Value) (w : World) : (Instr.typeAssert (.iface 9 v) 20 73 true).run Tryz.prog w = .ok (.tuple #[.float .f64 0, .bool false]) w := by kernel_rfl
@[go_sem] theorem as9_9 (v : Value) (w : World) : (Instr.typeAssert (.iface 9 v) 20 9 true).run Tryz.prog w = .ok (.tuple #[v, .bool true]) w := by kernel_rfl
@[go_sem] theorem as75_5 (v : Value) (w : World) : (Instr.typeAssert (.iface 75 v) 20 5 true).run Tryz.prog w = .ok (.tuple #[.int .u8 0, .bool false]) w := by kernel_rfl
@[go_sem] theorem as75_146 (v : Value) (w : World) : (Instr.typeAssert (.iface 75 v) 20 146 true).run Tryz.prog w = .ok (.tuple #[.int .u8 0, .bool false]) w := by kernel_rfl
@[go_sem] theorem as75_147 (v : Value) (w : World) : (Instr.typeAssert (.iface 75 v) 20 147 true).run Tryz.prog w = .ok (.tuple #[.int .u8 0, .bool false]) w := by kernel_rfl
@[go_sem] theorem as75_148 (v : Value) (w : World) : (Instr.typeAssert (.iface 75 v) 20 148 true).run Tryz.prog w = .ok (.tuple #[.int .u8 0, .bool false]) w := by kernel_rfl
@[go_sem] theorem as75_4 (v : Value) (w : World) : (Instr.typeAssert (.iface 75 v) 20 4 true).run Tryz.prog w = .ok (.tuple #[.bool false, .bool false]) w := by kernel_rfl
@[go_sem] theorem as75_68 (v : Value) (w : World) : (Instr.typeAssert (.iface 75 v) 20 68 true).run Tryz.prog w = .ok (.tuple #[.int .i16 0, .bool false]) w := by kernel_rfl
@[go_sem] theorem as75_71 (v : Value) (w : World) : (Instr.typeAssert (.iface 75 v) 20 71 true).run Tryz.prog w = .ok (.tuple #[.int .u16 0, .bool false]) w := by kernel_rfl
@[go_sem] theorem as75_21 (v : Value) (w : World) : (Instr.typeAssert (.iface 75 v) 20 21 true).run Tryz.prog w = .ok (.tuple #[.int .i32 0, .bool false]) w := by kernel_rfl
@[go_sem] theorem as75_72 (v : Value) (w : World) : (Instr.typeAssert (.iface 75 v) 20 72 true).run Tryz.prog w = .ok (.tuple #[.int .u32 0, .bool false]) w := by kernel_rfl
@[go_sem] theorem as75_2 (v : Value) (w : World) : (Instr.typeAssert (.iface 75 v) 20 2 true).run Tryz.prog w = .ok (.tuple #[.int .i64 0, .bool false]) w := by kernel_rfl
@[go_sem] theorem as75_22 (v : Value) (w : World) : (Instr.typeAssert (.iface 75 v) 20 22 true).run Tryz.prog w = .ok (.tuple #[.int .u64 0, .bool false]) w := by kernel_rfl
@[go_sem] theorem as75_73 (v : Value) (w : World) : (Instr.typeAssert (.iface 75 v) 20 73 true).run Tryz.prog w = .ok (.tuple #[.float .f64 0, .bool false]) w := by kernel_rfl
@[go_sem] theorem as75_9 (v : Value) (w : World) : (Instr.typeAssert (.iface 75 v) 20 9 true).run Tryz.prog w = .ok (.tuple #[.string ⟨#[]⟩, .bool false]) w := by kernel_rfl
@[go_sem] theorem as75_75 (v : Value) (w : World) : (Instr.typeAssert (.iface 75 v) 20 75 true).run Tryz.prog w = .ok (.tuple #[v, .bool true]) w := by kernel_rfl
@[go_sem] theorem as54_5 (v : Value) (w : World) : (Instr.typeAssert (.iface 54 v) 20 5 true).run Tryz.prog w = .ok (.tuple #[.int .u8 0, .bool false]) w := by kernel_rfl
@[go_sem] theorem as54_146 (v : Value) (w : World) : (Instr.typeAssert (.iface 54 v) 20 146 true).run Tryz.prog w = .ok (.tuple #[.int .u8 0, .bool false]) w := by kernel_rfl
@[go_sem] theorem as54_147 (v : Value) (w : World) : (Instr.typeAssert (.iface 54 v) 20 147 true).run Tryz.prog w = .ok (.tuple #[.int .u8 0, .bool false]) w := by kernel_rfl
@[go_sem] theorem as54_148 (v : Value) (w : World) : (Instr.typeAssert (.iface 54 v) 20 148 true).run Tryz.prog w = .ok (.tuple #[.int .u8 0, .bool false]) w := by kernel_rfl
@[go_sem] theorem as54_4 (v : Value) (w : World) : (Instr.typeAssert (.iface 54 v) 20 4 true).run Tryz.prog w = .ok (.tuple #[.bool false, .bool false]) w := by kernel_rfl
@[go_sem] theorem as54_68 (v : Value) (w : World) : (Instr.typeAssert (.iface 54 v) 20 68 true).run Tryz.prog w = .ok (.tuple #[.int .i16 0, .bool false]) w := by kernel_rfl
@[go_sem] theorem as54_71 (v : Value) (w : World) : (Instr.typeAssert (.iface 54 v) 20 71 true).run Tryz.prog w = .ok (.tuple #[.int .u16 0, .bool false]) w := by kernel_rfl
@[go_sem] theorem as54_21 (v : Value) (w : World) : (Instr.typeAssert (.iface 54 v) 20 21 true).run Tryz.prog w = .ok (.tuple #[.int .i32 0, .bool false]) w := by kernel_rfl
@[go_sem] theorem as54_72 (v : Value) (w : World) : (Instr.typeAssert (.iface 54 v) 20 72 true).run Tryz.prog w = .ok (.tuple #[.int .u32 0, .bool false]) w := by kernel_rfl
@[go_sem] theorem as54_2 (v : Value) (w : World) : (Instr.typeAssert (.iface 54 v) 20 2 true).run Tryz.prog w = .ok (.tuple #[.int .i64 0, .bool false]) w := by kernel_rfl
@[go_sem] theorem as54_22 (v : Value) (w : World) : (Instr.typeAssert (.iface 54 v) 20 22 true).run Tryz.prog w = .ok (.tuple #[.int .u64 0, .bool false]) w := by kernel_rfl
@[go_sem] theorem as54_73 (v : Value) (w : World) : (Instr.typeAssert (.iface 54 v) 20 73 true).run Tryz.prog w = .ok (.tuple #[.float .f64 0, .bool false]) w := by kernel_rfl
@[go_sem] theorem as54_9 (v : Value) (w : World) : (Instr.typeAssert (.iface 54 v) 20 9 true).run Tryz.prog w = .ok (.tuple #[.string ⟨#[]⟩, .bool false]) w := by kernel_rfl
@[go_sem] theorem as54_75 (v : Value) (w : World) : (Instr.typeAssert (.iface 54 v) 20 75 true).run Tryz.prog w = .ok (.tuple #[.string ⟨#[]⟩, .bool false]) w := by kernel_rfl
@[go_sem] theorem as54_54 (v : Value) (w : World) : (Instr.typeAssert (.iface 54 v) 20 54 true).run Tryz.prog w = .ok (.tuple #[v, .bool true]) w := by kernel_rfl

set_option maxHeartbeats 400000 in
set_option maxRecDepth 100000 in
theorem typeOf_s (s : ByteArray) (w : World) : Calls Tryz.prog 52 #[.iface 9 (.string s)] w fun e w' => e = .returned (.string ⟨#[115]⟩) ∧ Below w.heap.size w w' := by
  go_enter Tryz.func52, Tryz.ntmps52
  go_wp2_with fail
  go_ret
  exact ⟨rfl, Below.refl _ _⟩
set_option maxHeartbeats 400000 in
set_option maxRecDepth 100000 in
theorem typeOf_o (s : ByteArray) (w : World) : Calls Tryz.prog 52 #[.iface 75 (.string s)] w fun e w' => e = .returned (.string ⟨#[111]⟩) ∧ Below w.heap.size w w' := by
  go_enter Tryz.func52, Tryz.ntmps52
  go_wp2_with fail
  go_ret
  exact ⟨rfl, Below.refl _ _⟩
set_option maxHeartbeats 400000 in
set_option maxRecDepth 100000 in
theorem typeOf_g (s : ByteArray) (w : World) : Calls Tryz.prog 52 #[.iface 54 (.agg #[.string s])] w fun e w' => e = .returned (.string ⟨#[103]⟩) ∧ Below w.heap.size w w' := by
  go_enter Tryz.func52, Tryz.ntmps52
  go_wp2_with fail
  go_ret
  exact ⟨rfl, below_alloc (Below.refl _ _) _⟩

set_option maxHeartbeats 400000 in
set_option maxRecDepth 100000 in
theorem kind_s (w : World) : Calls Tryz.prog 53 #[.string ⟨#[115]⟩] w fun e w' => e = .returned (.int .i64 17) ∧ w = w' := by
  go_enter Tryz.func53, Tryz.ntmps53
  go_wp2_with fail
  go_ret
  exact ⟨rfl, rfl⟩
set_option maxHeartbeats 400000 in
set_option maxRecDepth 100000 in
theorem kind_o (w : World) : Calls Tryz.prog 53 #[.string ⟨#[111]⟩] w fun e w' => e = .returned (.int .i64 17) ∧ w = w' := by
  go_enter Tryz.func53, Tryz.ntmps53
  go_wp2_with fail
  go_ret
  exact ⟨rfl, rfl⟩
set_option maxHeartbeats 400000 in
set_option maxRecDepth 100000 in
theorem kind_g (w : World) : Calls Tryz.prog 53 #[.string ⟨#[103]⟩] w fun e w' => e = .returned (.int .i64 18) ∧ w = w' := by
  go_enter Tryz.func53, Tryz.ntmps53
  go_wp2_with fail
  go_ret
  exact ⟨rfl, rfl⟩

set_option maxHeartbeats 400000 in
set_option maxRecDepth 100000 in
theorem doorIn_s (s : ByteArray) (v3 : Value) (w : World) : Calls Tryz.prog 23 #[.agg #[.int .u8 115, .int .u64 0, .string s, v3]] w fun e w' => e = .returned (.iface 9 (.string s)) ∧ Below w.heap.size w w' := by
  go_enter Tryz.func23, Tryz.ntmps23
  go_wp2_with fail
  go_ret
  exact ⟨rfl, below_alloc (Below.refl _ _) _⟩
set_option maxHeartbeats 400000 in
set_option maxRecDepth 100000 in
theorem doorIn_o (s : ByteArray) (v3 : Value) (w : World) : Calls Tryz.prog 23 #[.agg #[.int .u8 111, .int .u64 0, .string s, v3]] w fun e w' => e = .returned (.iface 75 (.string s)) ∧ Below w.heap.size w w' := by
  go_enter Tryz.func23, Tryz.ntmps23
  go_wp2_with fail
  go_ret
  exact ⟨rfl, below_alloc (Below.refl _ _) _⟩
set_option maxHeartbeats 400000 in
set_option maxRecDepth 100000 in
theorem doorIn_g (s : ByteArray) (v3 : Value) (w : World) : Calls Tryz.prog 23 #[.agg #[.int .u8 103, .int .u64 0, .string s, v3]] w fun e w' => e = .returned (.iface 54 (.agg #[.string s])) ∧ Below w.heap.size w w' := by
  go_enter Tryz.func23, Tryz.ntmps23
  go_wp2_with fail
  go_ret
  exact ⟨rfl, below_alloc (Below.refl _ _) _⟩


set_option maxHeartbeats 400000 in
set_option maxRecDepth 100000 in
theorem depthValid (b : Nat) (w : World) (h0 : w.cell? ⟨b, 0, none⟩ = some (.int .i64 0)) (h1 : w.cell? ⟨b, 1, none⟩ = some (.int .i64 0)) (h2 : w.cell? ⟨b, 2, none⟩ = some (.int .i64 0)) :
    Calls Tryz.prog 77 #[.pointer (some ⟨b, 0, none⟩)] w fun e w' => e = .returned (.bool true) ∧ w = w' := by
  go_enter Tryz.func77, Tryz.ntmps77
  go_wp2_with fail
  go_ret
  exact ⟨rfl, rfl⟩

set_option maxHeartbeats 400000 in
set_option maxRecDepth 100000 in
/-- getSignature's deferred function at a short signature: nothing is done. -/
theorem sigLimit (p : Addr) (s : ByteArray) (u : FrameMode) (w : World) (hc : w.cell? p = some (.string s)) (hs : ¬ (255 : Int) < (s.size : Int)) :
    CallsD Tryz.prog 78 #[.pointer (some p)] u w fun e u' w' => u' = u ∧ (e = .returned (.tuple #[]) ∧ w' = w) := by
  go_enter_d Tryz.func78, Tryz.ntmps78
  go_wp2
  go_end0
  exact ⟨rfl, rfl⟩


set_option maxHeartbeats 400000 in
set_option maxRecDepth 100000 in
theorem getSig_s (b : Nat) (w : World) (hb : b < w.heap.size) (h0 : w.cell? ⟨b, 0, none⟩ = some (.int .i64 0)) (h1 : w.cell? ⟨b, 1, none⟩ = some (.int .i64 0)) (h2 : w.cell? ⟨b, 2, none⟩ = some (.int .i64 0)) :
    Calls Tryz.prog 51 #[.string ⟨#[115]⟩, .pointer (some ⟨b, 0, none⟩)] w fun e w' => e = .returned (.string ⟨#[115]⟩) ∧ Below w.heap.size w w' := by
  have hmf : ∀ (fn : Fn) (first cap : Array Value) (w : World), (Instr.makeFunc fn first cap).run Tryz.prog w = .ok (.func fn first cap) w := fun _ _ _ _ => rfl
  have cV : Calls Tryz.prog 77 #[.pointer (some ⟨b, 0, none⟩)] (w.alloc (.cells #[.string ⟨#[]⟩] 9)) _ := depthValid b _ (by rw [World.cell?_alloc_past _ _ _ hb]; exact h0) (by rw [World.cell?_alloc_past _ _ _ hb]; exact h1) (by rw [World.cell?_alloc_past _ _ _ hb]; exact h2)
  have CV := Lib.hid cV
  have CK : Hid (∀ w, Calls Tryz.prog 53 #[.string ⟨#[115]⟩] w fun e w' => e = .returned (.int .i64 17) ∧ w = w') := kind_s
  clear cV h0 h1 h2
  go_enter_defers Tryz.func51, Tryz.ntmps51
  go_wp2_with (first | (go_at_call 77; go_fit CV.out; rintro e w1 ⟨rfl, rfl⟩) | (go_at_call 53; go_fit (CK.out _); rintro e w1 ⟨rfl, rfl⟩))
  refine leaves_cons (f := 78) (args := #[.pointer (some ⟨w.heap.size, 0, none⟩)]) (by simp) (by simp [go_sem]) ?_
  refine (sigLimit ⟨w.heap.size, 0, none⟩ ⟨#[115]⟩ .returning _ ?_ ?_).mono ?_
  · simp [go_sem]
  · simp [ByteArray.size]
  rintro e u' w'' ⟨rfl, rfl, rfl⟩
  simp [Leaves, settle, results, Tryz.results51, go_sem]
  exact below_alloc (Below.refl _ _) _

set_option maxHeartbeats 400000 in
set_option maxRecDepth 100000 in
theorem getSig_o (b : Nat) (w : World) (hb : b < w.heap.size) (h0 : w.cell? ⟨b, 0, none⟩ = some (.int .i64 0)) (h1 : w.cell? ⟨b, 1, none⟩ = some (.int .i64 0)) (h2 : w.cell? ⟨b, 2, none⟩ = some (.int .i64 0)) :
    Calls Tryz.prog 51 #[.string ⟨#[111]⟩, .pointer (some ⟨b, 0, none⟩)] w fun e w' => e = .returned (.string ⟨#[111]⟩) ∧ Below w.heap.size w w' := by
  have hmf : ∀ (fn : Fn) (first cap : Array Value) (w : World), (Instr.makeFunc fn first cap).run Tryz.prog w = .ok (.func fn first cap) w := fun _ _ _ _ => rfl
  have cV : Calls Tryz.prog 77 #[.pointer (some ⟨b, 0, none⟩)] (w.alloc (.cells #[.string ⟨#[]⟩] 9)) _ := depthValid b _ (by rw [World.cell?_alloc_past _ _ _ hb]; exact h0) (by rw [World.cell?_alloc_past _ _ _ hb]; exact h1) (by rw [World.cell?_alloc_past _ _ _ hb]; exact h2)
  have CV := Lib.hid cV
  have CK : Hid (∀ w, Calls Tryz.prog 53 #[.string ⟨#[111]⟩] w fun e w' => e = .returned (.int .i64 17) ∧ w = w') := kind_o
  clear cV h0 h1 h2
  go_enter_defers Tryz.func51, Tryz.ntmps51
  go_wp2_with (first | (go_at_call 77; go_fit CV.out; rintro e w1 ⟨rfl, rfl⟩) | (go_at_call 53; go_fit (CK.out _); rintro e w1 ⟨rfl, rfl⟩))
  refine leaves_cons (f := 78) (args := #[.pointer (some ⟨w.heap.size, 0, none⟩)]) (by simp) (by simp [go_sem]) ?_
  refine (sigLimit ⟨w.heap.size, 0, none⟩ ⟨#[111]⟩ .returning _ ?_ ?_).mono ?_
  · simp [go_sem]
  · simp [ByteArray.size]
  rintro e u' w'' ⟨rfl, rfl, rfl⟩
  simp [Leaves, settle, results, Tryz.results51, go_sem]
  exact below_alloc (Below.refl _ _) _

set_option maxHeartbeats 400000 in
set_option maxRecDepth 100000 in
theorem getSig_g (b : Nat) (w : World) (hb : b < w.heap.size) (h0 : w.cell? ⟨b, 0, none⟩ = some (.int .i64 0)) (h1 : w.cell? ⟨b, 1, none⟩ = some (.int .i64 0)) (h2 : w.cell? ⟨b, 2, none⟩ = some (.int .i64 0)) :
    Calls Tryz.prog 51 #[.string ⟨#[103]⟩, .pointer (some ⟨b, 0, none⟩)] w fun e w' => e = .returned (.string ⟨#[103]⟩) ∧ Below w.heap.size w w' := by
  have hmf : ∀ (fn : Fn) (first cap : Array Value) (w : World), (Instr.makeFunc fn first cap).run Tryz.prog w = .ok (.func fn first cap) w := fun _ _ _ _ => rfl
  have cV : Calls Tryz.prog 77 #[.pointer (some ⟨b, 0, none⟩)] (w.alloc (.cells #[.string ⟨#[]⟩] 9)) _ := depthValid b _ (by rw [World.cell?_alloc_past _ _ _ hb]; exact h0) (by rw [World.cell?_alloc_past _ _ _ hb]; exact h1) (by rw [World.cell?_alloc_past _ _ _ hb]; exact h2)
  have CV := Lib.hid cV
  have CK : Hid (∀ w, Calls Tryz.prog 53 #[.string ⟨#[103]⟩] w fun e w' => e = .returned (.int .i64 18) ∧ w = w') := kind_g
  clear cV h0 h1 h2
  go_enter_defers Tryz.func51, Tryz.ntmps51
  go_wp2_with (first | (go_at_call 77; go_fit CV.out; rintro e w1 ⟨rfl, rfl⟩) | (go_at_call 53; go_fit (CK.out _); rintro e w1 ⟨rfl, rfl⟩))
  refine leaves_cons (f := 78) (args := #[.pointer (some ⟨w.heap.size, 0, none⟩)]) (by simp) (by simp [go_sem]) ?_
  refine (sigLimit ⟨w.heap.size, 0, none⟩ ⟨#[103]⟩ .returning _ ?_ ?_).mono ?_
  · simp [go_sem]
  · simp [ByteArray.size]
  rintro e u' w'' ⟨rfl, rfl, rfl⟩
  simp [Leaves, settle, results, Tryz.results51, go_sem]
  exact below_alloc (Below.refl _ _) _


/-- The two contracts of a kind, as SignatureOf meets them: its type's text and its signature are the one letter. -/
structure Kinded (T : TypeId) (v : Value) (c : UInt8) : Prop where
  typeOf : ∀ w, Calls Tryz.prog 52 #[.iface T v] w fun e w' => e = .returned (.string ⟨#[c]⟩) ∧ Below w.heap.size w w'
  sig : ∀ (b : Nat) (w : World), b < w.heap.size → w.cell? ⟨b, 0, none⟩ = some (.int .i64 0) → w.cell? ⟨b, 1, none⟩ = some (.int .i64 0) → w.cell? ⟨b, 2, none⟩ = some (.int .i64 0) →
    Calls Tryz.prog 51 #[.string ⟨#[c]⟩, .pointer (some ⟨b, 0, none⟩)] w fun e w' => e = .returned (.string ⟨#[c]⟩) ∧ Below w.heap.size w w'
theorem kinded_s (s : ByteArray) : Kinded 9 (.string s) 115 := ⟨typeOf_s s, getSig_s⟩
theorem kinded_o (s : ByteArray) : Kinded 75 (.string s) 111 := ⟨typeOf_o s, getSig_o⟩
theorem kinded_g (s : ByteArray) : Kinded 54 (.agg #[.string s]) 103 := ⟨typeOf_g s, getSig_g⟩

set_option maxHeartbeats 400000 in
set_option maxRecDepth 100000 in
theorem signatureOf_one (T : TypeId) (v : Value) (c : UInt8) (hK : Kinded T v c) (b : Nat) (w : World) (hb : b < w.heap.size) (hc : w.cell? ⟨b, 0, none⟩ = some (.iface T v)) :
    Calls Tryz.prog 35 #[.slice (some ⟨b, 0, none⟩) 1 1] w fun e w' => e = .returned (.agg #[.string ⟨#[c]⟩]) ∧ Below w.heap.size w w' := by
  go_enter Tryz.func35, Tryz.ntmps35
  go_wp2_with fail
  go_loopw [3, 8] (fun s i wr => Below w.heap.size w wr ∧ w.heap.size < wr.heap.size ∧ wr.cell? ⟨w.heap.size, 0, none⟩ = some (.string ⟨#[]⟩) ∧ wr.frozen? ⟨w.heap.size, 0, none⟩ = false ∧ ((i = .int .i64 0 ∧ s = .string ⟨#[]⟩) ∨ (i = .int .i64 1 ∧ s = .string ⟨#[c]⟩))) (fun _ i _ => (1 - intOf i).toNat)
  case atStart => exact ⟨below_alloc (Below.refl _ _) _, by simp, by simp, by simp, Or.inl ⟨rfl, rfl⟩⟩
  case round =>
    obtain ⟨hbw, hz, hq, hfz, h⟩ := hrel
    have hcw : wr.cell? ⟨b, 0, none⟩ = some (.iface T v) := by rw [hbw.cell (p := ⟨b, 0, none⟩) hb]; exact hc
    rcases h with ⟨rfl, rfl⟩ | ⟨rfl, rfl⟩
    · go_wp2_with fail
      refine (hK.typeOf _).mono ?_
      rintro e w1 ⟨rfl, hb1⟩
      have hB1 := Lib.hid hb1
      clear hb1
      go_wp2_with fail
      refine (hK.sig w1.heap.size _ (by simp) (by simp) (by simp) (by simp)).mono ?_
      rintro e w2 ⟨rfl, hb2⟩
      have hB2 := Lib.hid (below_step hB1.out (below_step (below_alloc (Below.refl _ _) _) hb2))
      clear hb2
      go_wp2_with fail
      go_roundw
      case rel =>
        have hbb := hB2.out
        refine ⟨below_step hbw hbb, Nat.lt_of_lt_of_le hz hbb.size, ?_, ?_, Or.inr ⟨rfl, rfl⟩⟩
        · rw [hbb.cell (p := ⟨w.heap.size, 0, none⟩) hz]; exact hq
        · rw [hbb.frozen (p := ⟨w.heap.size, 0, none⟩) hz]; exact hfz
      case measure => simp [intOf]
    · go_wp2_with fail
      have hsame : (wr.setCell ⟨w.heap.size, 0, none⟩ (.string ⟨#[c]⟩)).cell? ⟨w.heap.size, 0, none⟩ = some (.string ⟨#[c]⟩) := World.cell?_setCell_same' wr _ _ (by rw [hq]; rfl)
      exact bodyPost_ret (v := .agg #[.string ⟨#[c]⟩]) (by simp [results, Tryz.results35, go_sem, hsame]) rfl ⟨rfl, hbw.setCell (Nat.le_refl _) _⟩


set_option maxHeartbeats 400000 in
set_option maxRecDepth 100000 in
theorem makeWith (T : TypeId) (v : Value) (c : UInt8) (w : World) :
    Calls Tryz.prog 34 #[.iface T v, .agg #[.string ⟨#[c]⟩]] w fun e w' => e = .returned (.agg #[.string ⟨#[c]⟩, .iface T v]) ∧ Below w.heap.size w w' := by
  go_enter Tryz.func34, Tryz.ntmps34
  go_wp2_with fail
  exact bodyPost_ret (v := .agg #[.string ⟨#[c]⟩, .iface T v]) (by simp [results, Tryz.results34, go_sem]) rfl ⟨rfl, by repeat (first | exact Below.refl _ _ | apply below_alloc)⟩

set_option maxHeartbeats 400000 in
set_option maxRecDepth 100000 in
theorem makeVariant_one (T : TypeId) (v : Value) (c : UInt8) (hK : Kinded T v c) (w : World) :
    Calls Tryz.prog 22 #[.iface T v] w fun e w' => e = .returned (.agg #[.string ⟨#[c]⟩, .iface T v]) ∧ Below w.heap.size w w' := by
  have CS : Hid (∀ b W, b < W.heap.size → W.cell? ⟨b, 0, none⟩ = some (.iface T v) → Calls Tryz.prog 35 #[.slice (some ⟨b, 0, none⟩) 1 1] W fun e w' => e = .returned (.agg #[.string ⟨#[c]⟩]) ∧ Below W.heap.size W w') := fun b W hb hc => signatureOf_one T v c hK b W hb hc
  go_enter Tryz.func22, Tryz.ntmps22
  go_wp2_with fail
  refine (CS.out (w.heap.size + 1) _ (by simp) (by simp)).mono ?_
  rintro e w1 ⟨rfl, hb⟩
  have HB := Lib.hid (below_step (below_alloc (below_alloc (Below.refl _ _) _) _) hb)
  obtain ⟨hc, hf⟩ := bcell hb
  have hz : w.heap.size < w1.heap.size := by have := hb.size; simp at this; omega
  clear hb
  go_wp2_with fail
  refine (makeWith T v c _).mono ?_
  rintro e w2 ⟨rfl, hb⟩
  have HB2 := Lib.hid (below_step HB.out hb)
  obtain ⟨hc2, hf2⟩ := bcell hb
  have hz2 : w.heap.size < w2.heap.size := by have := hb.size; omega
  clear hb
  go_wp2_with fail
  have q0 : w2.cell? ⟨w.heap.size, 0, none⟩ = some (.string ⟨#[]⟩) := by rw [hc2 _ _ hz, hc _ _ (by simp only [World.size_alloc]; omega)]; simp
  have q1 : w2.cell? ⟨w.heap.size, 1, none⟩ = some .nilIface := by rw [hc2 _ _ hz, hc _ _ (by simp only [World.size_alloc]; omega)]; simp
  have s0 : ((w2.setCell ⟨w.heap.size, 0, none⟩ (.string ⟨#[c]⟩)).setCell ⟨w.heap.size, 1, none⟩ (.iface T v)).cell? ⟨w.heap.size, 0, none⟩ = some (.string ⟨#[c]⟩) := by simp [go_sem, q0]
  have s1 : ((w2.setCell ⟨w.heap.size, 0, none⟩ (.string ⟨#[c]⟩)).setCell ⟨w.heap.size, 1, none⟩ (.iface T v)).cell? ⟨w.heap.size, 1, none⟩ = some (.iface T v) := by simp [go_sem, q1]
  exact bodyPost_ret (v := .agg #[.string ⟨#[c]⟩, .iface T v]) (by simp [results, Tryz.results22, go_sem, s0, s1]) rfl ⟨rfl, (HB2.out.setCell (Nat.le_refl _) _).setCell (Nat.le_refl _) _⟩
end Go.Proofs.YtdcaigdhbbnfoaaGreatDoor
