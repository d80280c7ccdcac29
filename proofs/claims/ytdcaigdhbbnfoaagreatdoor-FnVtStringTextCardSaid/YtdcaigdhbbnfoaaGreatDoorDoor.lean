/-
  WALKS: the text of the variant of a string, an object path and a signature: Variant.format, String, DoorString, VtString.
-/
import Derived.Test.YtdcaigdhbbnfoaaGreatDoorImpl
import Derived.Test.YtdcaigdhbbnfoaaGreatDoorPFnVtStringTextx17
import Derived.Deep.QuietTactic
import Derived.BigQuiet
namespace Go.Proofs.YtdcaigdhbbnfoaaGreatDoor
open Go.RowKit PFnVtStringText YtdcaigdhbbnfoaaGreatDoorW.PrintWords

@[go_sem] theorem asx9 (v : Value) (w : World) : (Instr.typeAssert (.iface 9 v) 20 9 false).run Tryz.prog w = .ok v w := by kernel_rfl
@[go_sem] theorem asx75 (v : Value) (w : World) : (Instr.typeAssert (.iface 75 v) 20 75 false).run Tryz.prog w = .ok v w := by kernel_rfl
@[go_sem] theorem asx54 (v : Value) (w : World) : (Instr.typeAssert (.iface 54 v) 20 54 false).run Tryz.prog w = .ok v w := by kernel_rfl
@[go_sem] theorem field54 (s : ByteArray) (w : World) : (Instr.field 54 (.agg #[.string s]) 0).run Tryz.prog w = .ok (.string s) w := by kernel_rfl

/-- strconv.Quote's answer q for a text s, in every later world. -/
def Quotes (s q : ByteArray) (w : World) : Prop := ∀ W, Below w.heap.size w W → Calls Tryz.prog 7 #[.string s] W fun e w' => e = .returned (.string q) ∧ Below W.heap.size W w'

set_option maxHeartbeats 400000 in
set_option maxRecDepth 100000 in
theorem format_s (s q : ByteArray) (w : World) (hq : Quotes s q w) :
    Calls Tryz.prog 42 #[.agg #[.string ⟨#[115]⟩, .iface 9 (.string s)]] w fun e w' => e = .returned (.tuple #[.string q, .bool true]) ∧ Below w.heap.size w w' := by
  have HQ := Lib.hid hq
  clear hq
  go_enter Tryz.func42, Tryz.ntmps42
  go_wp2_with fail
  refine (HQ.out _ (below_alloc (Below.refl _ _) _)).mono ?_
  rintro e w1 ⟨rfl, hb⟩
  have HB := Lib.hid (below_step (below_alloc (Below.refl _ _) _) hb)
  clear hb
  go_wp2_with fail
  go_ret2
  exact ⟨rfl, HB.out⟩
set_option maxHeartbeats 400000 in
set_option maxRecDepth 100000 in
theorem format_o (s q : ByteArray) (w : World) (hq : Quotes s q w) :
    Calls Tryz.prog 42 #[.agg #[.string ⟨#[111]⟩, .iface 75 (.string s)]] w fun e w' => e = .returned (.tuple #[.string q, .bool false]) ∧ Below w.heap.size w w' := by
  have HQ := Lib.hid hq
  clear hq
  go_enter Tryz.func42, Tryz.ntmps42
  go_wp2_with fail
  refine (HQ.out _ (below_alloc (Below.refl _ _) _)).mono ?_
  rintro e w1 ⟨rfl, hb⟩
  have HB := Lib.hid (below_step (below_alloc (Below.refl _ _) _) hb)
  clear hb
  go_wp2_with fail
  go_ret2
  exact ⟨rfl, HB.out⟩
set_option maxHeartbeats 400000 in
set_option maxRecDepth 100000 in
theorem format_g (s q : ByteArray) (w : World) (hq : Quotes s q w) :
    Calls Tryz.prog 42 #[.agg #[.string ⟨#[103]⟩, .iface 54 (.agg #[.string s])]] w fun e w' => e = .returned (.tuple #[.string q, .bool false]) ∧ Below w.heap.size w w' := by
  have HQ := Lib.hid hq
  clear hq
  go_enter Tryz.func42, Tryz.ntmps42
  go_wp2_with fail
  refine (HQ.out _ (below_alloc (Below.refl _ _) _)).mono ?_
  rintro e w1 ⟨rfl, hb⟩
  have HB := Lib.hid (below_step (below_alloc (Below.refl _ _) _) hb)
  clear hb
  go_wp2_with fail
  go_ret2
  exact ⟨rfl, HB.out⟩

/-- What stands ahead of the quoted text. -/
def aheadOf (k : UInt8) : ByteArray := if k = 115 then ⟨#[]⟩ else ⟨#[64, k, 32]⟩

set_option maxHeartbeats 400000 in
set_option maxRecDepth 100000 in
theorem string_s (s q : ByteArray) (w : World) (hq : Quotes s q w) :
    Calls Tryz.prog 24 #[.agg #[.string ⟨#[115]⟩, .iface 9 (.string s)]] w fun e w' => e = .returned (.string q) ∧ Below w.heap.size w w' := by
  have HF : Hid (∀ W, Below w.heap.size w W → Calls Tryz.prog 42 #[.agg #[.string ⟨#[115]⟩, .iface 9 (.string s)]] W fun e w' => e = .returned (.tuple #[.string q, .bool true]) ∧ Below W.heap.size W w') :=
    fun W hW => format_s s q W fun W' hW' => hq W' (below_step hW hW')
  clear hq
  go_enter Tryz.func24, Tryz.ntmps24
  go_wp2_with fail
  refine (HF.out _ (below_alloc (Below.refl _ _) _)).mono ?_
  rintro e w1 ⟨rfl, hb⟩
  have HB := Lib.hid (below_step (below_alloc (Below.refl _ _) _) hb)
  clear hb
  go_wp2_with fail
  go_ret
  exact ⟨rfl, HB.out⟩
set_option maxHeartbeats 400000 in
set_option maxRecDepth 100000 in
theorem string_o (s q : ByteArray) (w : World) (hq : Quotes s q w) (hsz : q.size ≤ 1000000) :
    Calls Tryz.prog 24 #[.agg #[.string ⟨#[111]⟩, .iface 75 (.string s)]] w fun e w' => e = .returned (.string (⟨#[64, 111, 32]⟩ ++ q)) ∧ Below w.heap.size w w' := by
  have HF : Hid (∀ W, Below w.heap.size w W → Calls Tryz.prog 42 #[.agg #[.string ⟨#[111]⟩, .iface 75 (.string s)]] W fun e w' => e = .returned (.tuple #[.string q, .bool false]) ∧ Below W.heap.size W w') :=
    fun W hW => format_o s q W fun W' hW' => hq W' (below_step hW hW')
  clear hq
  go_enter Tryz.func24, Tryz.ntmps24
  go_wp2_with fail
  refine (HF.out _ (below_alloc (Below.refl _ _) _)).mono ?_
  rintro e w1 ⟨rfl, hb⟩
  have HB := Lib.hid (below_step (below_alloc (Below.refl _ _) _) hb)
  obtain ⟨hc, hf⟩ := bcell hb
  clear hb
  go_wp2_with fail
  go_ret
  exact ⟨rfl, HB.out⟩
set_option maxHeartbeats 400000 in
set_option maxRecDepth 100000 in
theorem string_g (s q : ByteArray) (w : World) (hq : Quotes s q w) (hsz : q.size ≤ 1000000) :
    Calls Tryz.prog 24 #[.agg #[.string ⟨#[103]⟩, .iface 54 (.agg #[.string s])]] w fun e w' => e = .returned (.string (⟨#[64, 103, 32]⟩ ++ q)) ∧ Below w.heap.size w w' := by
  have HF : Hid (∀ W, Below w.heap.size w W → Calls Tryz.prog 42 #[.agg #[.string ⟨#[103]⟩, .iface 54 (.agg #[.string s])]] W fun e w' => e = .returned (.tuple #[.string q, .bool false]) ∧ Below W.heap.size W w') :=
    fun W hW => format_g s q W fun W' hW' => hq W' (below_step hW hW')
  clear hq
  go_enter Tryz.func24, Tryz.ntmps24
  go_wp2_with fail
  refine (HF.out _ (below_alloc (Below.refl _ _) _)).mono ?_
  rintro e w1 ⟨rfl, hb⟩
  have HB := Lib.hid (below_step (below_alloc (Below.refl _ _) _) hb)
  obtain ⟨hc, hf⟩ := bcell hb
  clear hb
  go_wp2_with fail
  go_ret
  exact ⟨rfl, HB.out⟩


/-- DoorString's deferred function, nothing panicking: nothing is done. -/
theorem doorIdle (p q : Addr) (w : World) : CallsD Tryz.prog 21 #[.pointer (some p), .pointer (some q)] .returning w fun e u' w' => e = .returned (.tuple #[]) ∧ u' = .returning ∧ w' = w := by
  refine callsD_of_wpS Tryz.func21 rfl fun c₀ cs hu => ?_
  apply wpS_seq
  apply wpS_region
  simp [wpOpsS, go_sem, recoverD, hu, Tryz.ntmps21, Exit.thenS]
  refine wpS_cond (t := false) (by simp [Act.eval, Array.replicate]) ?_
  simp only [Bool.false_eq_true, if_false]
  refine wpS_of_wp (wp_skip ?_)
  cases c₀
  simp_all [bodyPostS, results, Tryz.results21]

/-- What DoorString needs of a kind. -/
structure Doored (k : Int) (T : TypeId) (v : Value) (c : UInt8) (s q : ByteArray) (w : World) : Prop where
  made : ∀ (v3 : Value) (W : World), Calls Tryz.prog 23 #[.agg #[.int .u8 k, .int .u64 0, .string s, v3]] W fun e w' => e = .returned (.iface T v) ∧ Below W.heap.size W w'
  kinded : Kinded T v c
  text : ∀ W, Below w.heap.size w W → Calls Tryz.prog 24 #[.agg #[.string ⟨#[c]⟩, .iface T v]] W fun e w' => e = .returned (.string (aheadOf c ++ q)) ∧ Below W.heap.size W w'

set_option maxHeartbeats 400000 in
set_option maxRecDepth 100000 in
theorem doorString_any (k : Int) (T : TypeId) (v : Value) (c : UInt8) (s q : ByteArray) (v3 : Value) (w : World) (h : Doored k T v c s q w) :
    Calls Tryz.prog 11 #[.agg #[.int .u8 k, .int .u64 0, .string s, v3]] w fun e w' => e = .returned (.tuple #[.string (aheadOf c ++ q), .nilIface]) ∧ Below w.heap.size w w' := by
  have hmf : ∀ (fn : Fn) (first cap : Array Value) (w : World), (Instr.makeFunc fn first cap).run Tryz.prog w = .ok (.func fn first cap) w := fun _ _ _ _ => rfl
  go_enter_defers Tryz.func11, Tryz.ntmps11
  go_wp2_with fail
  refine (h.made _ _).mono ?_
  rintro e w1 ⟨rfl, hb⟩
  have HB := Lib.hid (below_step (below_alloc (below_alloc (below_alloc (Below.refl _ _) _) _) _) hb)
  obtain ⟨hc, hf⟩ := bcell hb
  have hz : w.heap.size + 2 < w1.heap.size := by have := hb.size; simp at this; omega
  have q1 : w1.cell? ⟨w.heap.size + 1, 0, none⟩ = some (.string ⟨#[]⟩) := by rw [hc _ _ (by simp only [World.size_alloc]; omega)]; simp [go_sem]
  have q2 : w1.cell? ⟨w.heap.size + 2, 0, none⟩ = some .nilIface := by rw [hc _ _ (by simp only [World.size_alloc]; omega)]; simp [go_sem]
  have f1 : w1.frozen? ⟨w.heap.size + 1, 0, none⟩ = false := by rw [hf _ _ (by simp only [World.size_alloc]; omega)]; simp [go_sem]
  have f2 : w1.frozen? ⟨w.heap.size + 2, 0, none⟩ = false := by rw [hf _ _ (by simp only [World.size_alloc]; omega)]; simp [go_sem]
  clear hb hc hf
  go_wp2_with fail
  refine (makeVariant_one T v c h.kinded _).mono ?_
  rintro e w2 ⟨rfl, hb⟩
  have HB2 := Lib.hid (below_step HB.out hb)
  have q1' : w2.cell? ⟨w.heap.size + 1, 0, none⟩ = some (.string ⟨#[]⟩) := by rw [hb.cell (p := ⟨w.heap.size + 1, 0, none⟩) (by show w.heap.size + 1 < _; omega)]; exact q1
  have q2' : w2.cell? ⟨w.heap.size + 2, 0, none⟩ = some .nilIface := by rw [hb.cell (p := ⟨w.heap.size + 2, 0, none⟩) (by show w.heap.size + 2 < _; omega)]; exact q2
  have f1' : w2.frozen? ⟨w.heap.size + 1, 0, none⟩ = false := by rw [hb.frozen (p := ⟨w.heap.size + 1, 0, none⟩) (by show w.heap.size + 1 < _; omega)]; exact f1
  have f2' : w2.frozen? ⟨w.heap.size + 2, 0, none⟩ = false := by rw [hb.frozen (p := ⟨w.heap.size + 2, 0, none⟩) (by show w.heap.size + 2 < _; omega)]; exact f2
  have hz2 : w.heap.size + 2 < w2.heap.size := by have := hb.size; omega
  clear hb q1 q2 f1 f2 hz
  go_wp2_with fail
  refine (h.text _ HB2.out).mono ?_
  rintro e w3 ⟨rfl, hb⟩
  have HB3 := Lib.hid (below_step HB2.out hb)
  have r1 : w3.cell? ⟨w.heap.size + 1, 0, none⟩ = some (.string ⟨#[]⟩) := by rw [hb.cell (p := ⟨w.heap.size + 1, 0, none⟩) (by show w.heap.size + 1 < _; omega)]; exact q1'
  have r2 : w3.cell? ⟨w.heap.size + 2, 0, none⟩ = some .nilIface := by rw [hb.cell (p := ⟨w.heap.size + 2, 0, none⟩) (by show w.heap.size + 2 < _; omega)]; exact q2'
  have g1 : w3.frozen? ⟨w.heap.size + 1, 0, none⟩ = false := by rw [hb.frozen (p := ⟨w.heap.size + 1, 0, none⟩) (by show w.heap.size + 1 < _; omega)]; exact f1'
  have g2 : w3.frozen? ⟨w.heap.size + 2, 0, none⟩ = false := by rw [hb.frozen (p := ⟨w.heap.size + 2, 0, none⟩) (by show w.heap.size + 2 < _; omega)]; exact f2'
  clear hb q1' q2' f1' f2' hz2
  go_wp2_with fail
  refine leaves_cons (f := 21) (args := #[.pointer (some ⟨w.heap.size + 1, 0, none⟩), .pointer (some ⟨w.heap.size + 2, 0, none⟩)]) (by simp) (by simp [go_sem]) ?_
  refine (doorIdle _ _ _).mono ?_
  rintro e u' w'' ⟨rfl, rfl, rfl⟩
  have s1 : ((w3.setCell ⟨w.heap.size + 1, 0, none⟩ (.string (aheadOf c ++ q))).setCell ⟨w.heap.size + 2, 0, none⟩ .nilIface).cell? ⟨w.heap.size + 1, 0, none⟩ = some (.string (aheadOf c ++ q)) := by simp [go_sem, r1]
  have s2 : ((w3.setCell ⟨w.heap.size + 1, 0, none⟩ (.string (aheadOf c ++ q))).setCell ⟨w.heap.size + 2, 0, none⟩ .nilIface).cell? ⟨w.heap.size + 2, 0, none⟩ = some .nilIface := by simp [go_sem, r2]
  simp [Leaves, settle, results, Tryz.results11, go_sem, s1, s2]
  exact (HB3.out.setCell (by show w.heap.size ≤ w.heap.size + 1; omega) _).setCell (by show w.heap.size ≤ w.heap.size + 2; omega) _


theorem valIn_one (k : Int) (s : ByteArray) (w : World) :
    Calls Tryz.prog 12 #[valOf k s] w fun e w' => ∃ v3, e = .returned (.agg #[.int .u8 k, .int .u64 0, .string s, v3]) ∧ Below w.heap.size w w' :=
  (impl_valIn.calls 2 k 0 s none 0 [] k 0 s [] w (Kd.C_nil _ _) (Nat.le_refl _) rfl).mono fun _ _ ⟨v3, he, _, hb⟩ => ⟨v3, he, hb⟩

set_option maxHeartbeats 400000 in
set_option maxRecDepth 100000 in
theorem vtString_any (k : Int) (T : TypeId) (v : Value) (c : UInt8) (s q : ByteArray) (w : World) (h : ∀ W, Below w.heap.size w W → Doored k T v c s q W) :
    Calls Tryz.prog 5 #[valOf k s] w fun e w' => e = .returned (.tuple #[.string (aheadOf c ++ q), .bool true]) ∧ Below w.heap.size w w' := by
  have CI : Hid (∀ W, Calls Tryz.prog 12 #[valOf k s] W fun e w' => ∃ v3, e = .returned (.agg #[.int .u8 k, .int .u64 0, .string s, v3]) ∧ Below W.heap.size W w') := valIn_one k s
  have CD : Hid (∀ v3 W, Below w.heap.size w W → Calls Tryz.prog 11 #[.agg #[.int .u8 k, .int .u64 0, .string s, v3]] W fun e w' => e = .returned (.tuple #[.string (aheadOf c ++ q), .nilIface]) ∧ Below W.heap.size W w') :=
    fun v3 W hW => doorString_any k T v c s q v3 W (h W hW)
  clear h
  go_enter Tryz.func5, Tryz.ntmps5
  go_wp2_with fail
  refine (CI.out _).mono ?_
  rintro e w1 ⟨v3, rfl, hb⟩
  have HB := Lib.hid (below_step (below_alloc (Below.refl _ _) _) hb)
  clear hb
  go_wp2_with fail
  refine (CD.out _ _ HB.out).mono ?_
  rintro e w2 ⟨rfl, hb⟩
  have HB2 := Lib.hid (below_step HB.out hb)
  clear hb
  go_wp2_with fail
  go_quiet (fail)
  go_wp2_with fail
  go_ret2
  exact ⟨rfl, pw_below_drewN HB2.out _⟩

theorem Quotes.later {s q : ByteArray} {w W : World} (h : Quotes s q w) (hW : Below w.heap.size w W) : Quotes s q W := fun W' hW' => h W' (below_step hW hW')

/-- The text that impl.VtString gives for a string, an object path, a signature: the quoted text, its type ahead of it where it is no string. -/
theorem vtString_text (k : Int) (c : UInt8) (hk : (k = 115 ∧ c = 115) ∨ (k = 111 ∧ c = 111) ∨ (k = 103 ∧ c = 103)) (s q : ByteArray) (w : World) (hq : Quotes s q w) (hsz : q.size ≤ 1000000) :
    Calls Tryz.prog 5 #[valOf k s] w fun e w' => e = .returned (.tuple #[.string (aheadOf c ++ q), .bool true]) ∧ Below w.heap.size w w' := by
  rcases hk with ⟨rfl, rfl⟩ | ⟨rfl, rfl⟩ | ⟨rfl, rfl⟩
  · refine vtString_any 115 9 (.string s) 115 s q w fun W hW => ⟨doorIn_s s, kinded_s s, fun W' hW' => ?_⟩
    have e : aheadOf 115 ++ q = q := by rw [show aheadOf 115 = ByteArray.empty from rfl]; exact ByteArray.empty_append
    rw [e]
    exact string_s s q W' ((hq.later hW).later hW')
  · refine vtString_any 111 75 (.string s) 111 s q w fun W hW => ⟨doorIn_o s, kinded_o s, fun W' hW' => ?_⟩
    exact string_o s q W' ((hq.later hW).later hW') hsz
  · refine vtString_any 103 54 (.agg #[.string s]) 103 s q w fun W hW => ⟨doorIn_g s, kinded_g s, fun W' hW' => ?_⟩
    exact string_g s q W' ((hq.later hW).later hW') hsz

end Go.Proofs.YtdcaigdhbbnfoaaGreatDoor
