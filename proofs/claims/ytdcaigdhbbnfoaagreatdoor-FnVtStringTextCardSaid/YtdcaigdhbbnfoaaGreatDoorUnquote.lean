/-
  WALKS: strconv.unquote and Unquote at what Quote writes.
-/
import Derived.Test.YtdcaigdhbbnfoaaGreatDoorUnqAny
import Derived.Lib.BufSteps
import Derived.Deep.DeepCutAuto
import Derived.Deep.LoopGhost
import Derived.BigGuardPart
namespace Go.Proofs.YtdcaigdhbbnfoaaGreatDoor
open Go.RowKit PFnVtStringText YtdcaigdhbbnfoaaGreatDoorW.PrintWords

theorem info5 : (Tryz.prog.info? 5).map (fun i => (i.zero, i.size, i.bytes)) = some (some (.int .u8 0), 1, 1) := by kernel_rfl

/-- After some rounds: what is left to read (i), what has been read (b), in the world wr. -/
def Left (T : Lib.PrintTabs) (s : ByteArray) (B : Nat) (w : World) (i b : Value) (wr : World) : Prop :=
  ∃ (x rest : ByteArray) (f : Nat) (done : List Int), i = .string x ∧ x = bs (byts (Lib.quoteFrom T f rest) ++ [34]) ∧ rest.size ≤ f ∧ byts done ++ rest.data.toList = s.data.toList ∧ Lib.OwnBuf B 5 b done.length (Lib.intCells done) w wr

/-- The buffer's text. -/
theorem buf_text {B : Nat} {b : Value} {done : List Int} {W0 wr : World} (h : Lib.OwnBuf B 5 b done.length (Lib.intCells done) W0 wr) :
    (convert 29 9 b).run Tryz.prog wr = .ok (.string (bs (byts done))) wr := by
  rcases h.1.2 with ⟨rfl, h0⟩ | ⟨g, cap, cur, fz, rfl, _⟩
  · rw [run_convert_bytes_nil wr 29 5 Tryz.underlying29 Tryz.underlying5 0 0 9 Tryz.underlying9]
    rw [List.length_eq_zero_iff.1 h0]
    rfl
  · refine (run_convert_bytes_arg wr 29 5 Tryz.underlying29 Tryz.underlying5 g 0 _ cap done rfl ?_ 9 Tryz.underlying9).trans rfl
    intro i hi
    have := h.1.cells (g := g) (by simp [Value.ownBlock]) i (.int .u8 (done.getD i 0)) (by simp [Lib.intCells, List.getD, List.getElem?_eq_getElem hi])
    by_cases hi0 : i = 0 <;> simpa [Addr.add, hi0] using this

/-- What one round finds, and what it leaves. -/
theorem round_facts (T : Lib.PrintTabs) (rest : ByteArray) (f : Nat) (x : ByteArray) (hx : x = bs (byts (Lib.quoteFrom T f rest) ++ [34])) (hf : rest.size ≤ f) (hr : 0 < rest.size) :
    ∃ (y : ByteArray) (r : Int) (mb : Bool) (h0 : 0 < x.size), (x[0]'h0).toNat ≠ 34 ∧ (x[0]'h0).toNat ≠ 10 ∧ y.size < x.size ∧ 0 ≤ r ∧ (mb = false → r < 256) ∧ r ≤ 1114111 ∧
      (∀ w, Lib.Utf8Tabs 2 3 w → Calls Tryz.prog 29 #[.string x, .int .u8 34] w fun e w' => e = .returned (.tuple #[.int .i32 r, .bool mb, .string y, .nilIface]) ∧ Below w.heap.size w w') ∧
      y = bs (byts (Lib.quoteFrom T (f - 1) (rest.extract (Utf8.decode rest 0).2 rest.size)) ++ [34]) ∧ (rest.extract (Utf8.decode rest 0).2 rest.size).size ≤ f - 1 ∧
      byts (unqBytes r mb) ++ (rest.extract (Utf8.decode rest 0).2 rest.size).data.toList = rest.data.toList := by
  subst hx
  rw [Lib.quoteFrom_step T f rest hr hf, byts_append, List.append_assoc]
  obtain ⟨r, mb, hU, hb, hr0, hmb, hr1⟩ := step_unq T rest hr (byts (Lib.quoteFrom T (f - 1) (rest.extract (Utf8.decode rest 0).2 rest.size)) ++ [34])
  obtain ⟨c, l, hcl, h34, h10⟩ := step_head T rest hr
  have hw := Lib.width_pos rest 0
  have hsz := Lib.size_rest rest (Utf8.decode rest 0).2
  have e0 : ∀ h, ((bs (byts (Lib.quoteStep T rest) ++ (byts (Lib.quoteFrom T (f - 1) (rest.extract (Utf8.decode rest 0).2 rest.size)) ++ [34])))[0]'h) = c := by
    intro h
    rw [bs_get]
    simp only [hcl, List.cons_append, List.getElem_cons_zero]
  refine ⟨_, r, mb, by rw [bs_size, hcl]; simp, ?_, ?_, ?_, hr0, hmb, hr1, fun w hT => unqChar_any hU w hT, rfl, by omega, ?_⟩
  · rw [e0]; exact fun e => h34 (UInt8.toNat_inj.1 e)
  · rw [e0]; exact fun e => h10 (UInt8.toNat_inj.1 e)
  · rw [bs_size, bs_size, hcl]; simp; omega
  · rw [hb, rest_list, List.take_append_drop]

theorem intCells_append (a b : List Int) : Lib.intCells (a ++ b) = Lib.intCells a ++ Lib.intCells b := by simp [Lib.intCells]

set_option maxHeartbeats 1000000 in
set_option maxRecDepth 100000 in
theorem unquote_s1 (T : Lib.PrintTabs) (s t u : ByteArray) (p c : Nat) (w : World) (h2 : 2 ≤ t.size) (h0 : t[0]'(by omega) = 34) (hu : t.extract 1 t.size = u) (hpt : p + 2 ≤ t.size) (hts : t.size ≤ 1000000) (hss : s.size ≤ 1000000)
    (hc : 3 * ((p : Int) + 2) / 2 = (c : Int)) (hc1 : c ≤ 10000000) (hT : Lib.Utf8Tabs 2 3 w) (hL : u = bs (byts (Lib.quoteFrom T s.size s) ++ [34]))
    (CI : Hid (∀ W, Calls Tryz.prog 25 #[.string u, .int .u8 34] W fun e w' => e = .returned (.int .i64 (p : Int)) ∧ W = w'))
    (C1 : Hid (∀ W, Calls Tryz.prog 26 #[.string (t.extract 0 (p + 2)), .int .u8 92] W fun e w' => e = .returned (.bool true) ∧ W = w')) :
    Calls Tryz.prog 13 #[.string t, .bool true] w fun e w' => e = .returned (.tuple #[.string s, .string ⟨#[]⟩, .nilIface]) ∧ Below w.heap.size w w' := by
  obtain ⟨i0, hi, hz0, hz1, hz2⟩ := info_parts info5
  have h2' : (2 : Int) ≤ (t.size : Int) := by omega
  have hpt' : (p : Int) + 2 ≤ (t.size : Int) := by omega
  have HL := Lib.hid hL
  have HT := Lib.hid hT
  clear hT hL
  go_enter Tryz.func13, Tryz.ntmps13
  go_wp2_with fail
  refine (CI.out _).mono ?_
  rintro e w1 ⟨rfl, rfl⟩
  go_wp2_with fail
  refine (C1.out _).mono ?_
  rintro e w1 ⟨rfl, rfl⟩
  go_wp2_with (at_make; refine wpList_make_own _ rfl _ _ 29 rfl w.heap.size 5 i0 (.int .u8 0) 1 Tryz.underlying29 hi hz0 hz1 _ _ _ c rfl rfl (by first | rfl | assumption) (by rw [hz2]; omega) (by unfold maxLen; omega) (Nat.le_refl _) ?_; intro wm hown hg)
  have hbm : Below w.heap.size w wm := (Below.refl _ _).grown hg (Nat.le_refl _) (by intro k hk; cases hk)
  have HO : Left T s w.heap.size w (.string u) (.slice (some ⟨w.heap.size, 0, none⟩) 0 c) wm := ⟨u, s, s.size, [], rfl, HL.out, Nat.le_refl _, rfl, World.ownsRowF_of hown, hbm, hbm.size⟩
  clear hown hg hbm
  go_loopw [0, 14] (fun i b wr => Left T s w.heap.size w i b wr) (fun i _ _ => match i with | .string r => r.size | _ => 0)
  case atStart => exact HO
  case round =>
    obtain ⟨x, rest, f, done, rfl, hx, hf, hd, hbuf⟩ := hrel
    have HX := Lib.hid hx
    have HD := Lib.hid hd
    have HBuf := Lib.hid hbuf
    have hdl : done.length ≤ 1000000 := by
      have := congrArg List.length hd
      simp [byts] at this
      have h3 : s.data.size = s.size := rfl
      omega
    clear hd HO
    by_cases hr : 0 < rest.size
    · obtain ⟨y, r, mb, hx0, hn34, hn10, hlt, hr0, hmb, hr1, hU, hy, hf', hby⟩ := round_facts T rest f x hx hf hr
      have CU := Lib.hid (hU wr (Utf8Tabs_below HT.out hbuf.2.1))
      have HY := Lib.hid hy
      have HBY := Lib.hid hby
      have HM := Lib.hid hmb
      have HR1 := Lib.hid hr1
      have HF := Lib.hid hf'
      have b34 : (((x[0]'hx0).toNat : Int) != 34) = true := by rw [bne_iff_ne]; omega
      have b10 : (((x[0]'hx0).toNat : Int) == 10) = false := by rw [beq_eq_false_iff_ne]; omega
      clear hx hbuf hU hy hby hmb hf' hn34 hn10 hf hr hr1
      cases mb with
      | false =>
        have hr256 : r < 256 := HM.out rfl
        rcases Int.lt_or_le r 128 with h128 | h128
        · go_wp2_with fail
          refine CU.out.mono ?_
          rintro e w2 ⟨rfl, hb2⟩
          have HB3 := Lib.hid (buf_below HBuf.out hb2)
          clear hb2
          go_wp2_with (at_builtin; refine Lib.wpList_append_byte rfl _ _ 29 rfl w.heap.size 5 i0 Tryz.underlying29 hi hz0 hz1 hz2 _ _ _ rfl w _ r (by exact HB3.out) rfl (by omega) ?_; intro vb wb hb4)
          have HB4 := Lib.hid hb4
          clear hb4
          go_wp2_with fail
          go_roundw
          case rel =>
            refine ⟨y, _, f - 1, done ++ [r], rfl, HY.out, HF.out, ?_, ?_⟩
            · have := HBY.out
              rw [show unqBytes r false = [r] from by unfold unqBytes; rw [if_pos (Or.inr rfl)]] at this
              rw [byts_append, List.append_assoc, this]; exact HD.out
            · rw [intCells_append]; simpa [Lib.intCells] using HB4.out
          case measure => exact hlt
        · have hd128 : decide (r < 128) = false := by simpa using h128
          clear h128
          go_wp2_with fail
          refine CU.out.mono ?_
          rintro e w2 ⟨rfl, hb2⟩
          have HB3 := Lib.hid (buf_below HBuf.out hb2)
          clear hb2
          go_wp2_with (at_builtin; refine Lib.wpList_append_byte rfl _ _ 29 rfl w.heap.size 5 i0 Tryz.underlying29 hi hz0 hz1 hz2 _ _ _ rfl w _ r (by exact HB3.out) rfl (by omega) ?_; intro vb wb hb4)
          have HB4 := Lib.hid hb4
          clear hb4
          go_wp2_with fail
          go_roundw
          case rel =>
            refine ⟨y, _, f - 1, done ++ [r], rfl, HY.out, HF.out, ?_, ?_⟩
            · have := HBY.out
              rw [show unqBytes r false = [r] from by unfold unqBytes; rw [if_pos (Or.inr rfl)]] at this
              rw [byts_append, List.append_assoc, this]; exact HD.out
            · rw [intCells_append]; simpa [Lib.intCells] using HB4.out
          case measure => exact hlt
      | true =>
        rcases Int.lt_or_le r 128 with h128 | h128
        · go_wp2_with fail
          refine CU.out.mono ?_
          rintro e w2 ⟨rfl, hb2⟩
          have HB3 := Lib.hid (buf_below HBuf.out hb2)
          clear hb2
          go_wp2_with (at_builtin; refine Lib.wpList_append_byte rfl _ _ 29 rfl w.heap.size 5 i0 Tryz.underlying29 hi hz0 hz1 hz2 _ _ _ rfl w _ r (by exact HB3.out) rfl (by omega) ?_; intro vb wb hb4)
          have HB4 := Lib.hid hb4
          clear hb4
          go_wp2_with fail
          go_roundw
          case rel =>
            refine ⟨y, _, f - 1, done ++ [r], rfl, HY.out, HF.out, ?_, ?_⟩
            · have := HBY.out
              rw [show unqBytes r true = [r] from by unfold unqBytes; rw [if_pos (Or.inl (by omega))]] at this
              rw [byts_append, List.append_assoc, this]; exact HD.out
            · rw [intCells_append]; simpa [Lib.intCells] using HB4.out
          case measure => exact hlt
        · have hd128 : decide (r < 128) = false := by simpa using h128
          clear h128
          go_wp2_with fail
          refine CU.out.mono ?_
          rintro e w2 ⟨rfl, hb2⟩
          have HB3 := Lib.hid (buf_below HBuf.out hb2)
          clear hb2
          have CA : Hid (Calls Tryz.prog 30 #[u14, .int .i32 r] w2 fun e w' => ∃ v', e = .returned v' ∧ Lib.OwnBuf w.heap.size 5 v' (done.length + (Lib.runeCells r).length) (Lib.intCells done ++ Lib.runeCells r) w w') :=
            (Tryz.utf8_AppendRune_row w.heap.size u14 done.length (Lib.intCells done) r (by omega) (by have := HR1.out; omega) w2 HB3.out.1 (by omega) HB3.out.2.2).mono fun _ _ ⟨v', h1, h2, o, h3⟩ => ⟨v', h1, (HB3.out.alloc o).grown h2 h3⟩
          go_wp2_with fail
          refine CA.out.mono ?_
          rintro e wb ⟨vb, rfl, hb4⟩
          have HB4 := Lib.hid hb4
          clear hb4
          go_wp2_with fail
          go_roundw
          case rel =>
            refine ⟨y, _, f - 1, done ++ Lib.encodeRuneZ r, rfl, HY.out, HF.out, ?_, ?_⟩
            · have := HBY.out
              rw [unq_multi r hr0] at this
              rw [byts_append, List.append_assoc, this]; exact HD.out
            · rw [intCells_append]; simpa [Lib.intCells, Lib.runeCells] using HB4.out
          case measure => exact hlt
    · have hr0 : rest.size = 0 := by omega
      have hx1 : x = bs [34] := by
        rw [hx, Lib.quoteFrom_end T f rest hr]; rfl
      have hx0 : 0 < x.size := by rw [hx1, bs_size]; simp
      have e0 : x[0]'hx0 = 34 := by subst hx1; exact bs_get _ _ _
      have ex : x.extract 1 x.size = bs [] := by rw [hx1]; exact bs_from _ _
      have hds : bs (byts done) = s := by
        have h3 : rest.data.toList = [] := List.length_eq_zero_iff.1 hr0
        have h4 := HD.out
        rw [h3, List.append_nil] at h4
        rw [h4, bs_list]
      have hcv := buf_text hbuf
      rw [hds] at hcv
      have hbw := Lib.hid hbuf.2.1
      have ex' : x.extract 1 x.size = ⟨#[]⟩ := ex
      have hone : ((1 : Int) ≤ (x.size : Int)) := by omega
      clear hx1 ex hds hx hbuf hr0 hr hf
      go_wp2_with fail
      go_ret3
      exact ⟨rfl, hbw.out⟩

set_option maxHeartbeats 1000000 in
set_option maxRecDepth 100000 in
theorem unquote_s2 (T : Lib.PrintTabs) (s t u : ByteArray) (p c : Nat) (w : World) (h2 : 2 ≤ t.size) (h0 : t[0]'(by omega) = 34) (hu : t.extract 1 t.size = u) (hpt : p + 2 ≤ t.size) (hts : t.size ≤ 1000000) (hss : s.size ≤ 1000000)
    (hc : 3 * ((p : Int) + 2) / 2 = (c : Int)) (hc1 : c ≤ 10000000) (hT : Lib.Utf8Tabs 2 3 w) (hL : u = bs (byts (Lib.quoteFrom T s.size s) ++ [34]))
    (CI : Hid (∀ W, Calls Tryz.prog 25 #[.string u, .int .u8 34] W fun e w' => e = .returned (.int .i64 (p : Int)) ∧ W = w'))
    (C1 : Hid (∀ W, Calls Tryz.prog 26 #[.string (t.extract 0 (p + 2)), .int .u8 92] W fun e w' => e = .returned (.bool false) ∧ W = w')) (C2 : Hid (∀ W, Calls Tryz.prog 26 #[.string (t.extract 0 (p + 2)), .int .u8 10] W fun e w' => e = .returned (.bool true) ∧ W = w')) :
    Calls Tryz.prog 13 #[.string t, .bool true] w fun e w' => e = .returned (.tuple #[.string s, .string ⟨#[]⟩, .nilIface]) ∧ Below w.heap.size w w' := by
  obtain ⟨i0, hi, hz0, hz1, hz2⟩ := info_parts info5
  have h2' : (2 : Int) ≤ (t.size : Int) := by omega
  have hpt' : (p : Int) + 2 ≤ (t.size : Int) := by omega
  have HL := Lib.hid hL
  have HT := Lib.hid hT
  clear hT hL
  go_enter Tryz.func13, Tryz.ntmps13
  go_wp2_with fail
  refine (CI.out _).mono ?_
  rintro e w1 ⟨rfl, rfl⟩
  go_wp2_with fail
  refine (C1.out _).mono ?_
  rintro e w1 ⟨rfl, rfl⟩
  go_wp2_with fail
  refine (C2.out _).mono ?_
  rintro e w1 ⟨rfl, rfl⟩
  go_wp2_with (at_make; refine wpList_make_own _ rfl _ _ 29 rfl w.heap.size 5 i0 (.int .u8 0) 1 Tryz.underlying29 hi hz0 hz1 _ _ _ c rfl rfl (by first | rfl | assumption) (by rw [hz2]; omega) (by unfold maxLen; omega) (Nat.le_refl _) ?_; intro wm hown hg)
  have hbm : Below w.heap.size w wm := (Below.refl _ _).grown hg (Nat.le_refl _) (by intro k hk; cases hk)
  have HO : Left T s w.heap.size w (.string u) (.slice (some ⟨w.heap.size, 0, none⟩) 0 c) wm := ⟨u, s, s.size, [], rfl, HL.out, Nat.le_refl _, rfl, World.ownsRowF_of hown, hbm, hbm.size⟩
  clear hown hg hbm
  go_loopw [0, 14] (fun i b wr => Left T s w.heap.size w i b wr) (fun i _ _ => match i with | .string r => r.size | _ => 0)
  case atStart => exact HO
  case round =>
    obtain ⟨x, rest, f, done, rfl, hx, hf, hd, hbuf⟩ := hrel
    have HX := Lib.hid hx
    have HD := Lib.hid hd
    have HBuf := Lib.hid hbuf
    have hdl : done.length ≤ 1000000 := by
      have := congrArg List.length hd
      simp [byts] at this
      have h3 : s.data.size = s.size := rfl
      omega
    clear hd HO
    by_cases hr : 0 < rest.size
    · obtain ⟨y, r, mb, hx0, hn34, hn10, hlt, hr0, hmb, hr1, hU, hy, hf', hby⟩ := round_facts T rest f x hx hf hr
      have CU := Lib.hid (hU wr (Utf8Tabs_below HT.out hbuf.2.1))
      have HY := Lib.hid hy
      have HBY := Lib.hid hby
      have HM := Lib.hid hmb
      have HR1 := Lib.hid hr1
      have HF := Lib.hid hf'
      have b34 : (((x[0]'hx0).toNat : Int) != 34) = true := by rw [bne_iff_ne]; omega
      have b10 : (((x[0]'hx0).toNat : Int) == 10) = false := by rw [beq_eq_false_iff_ne]; omega
      clear hx hbuf hU hy hby hmb hf' hn34 hn10 hf hr hr1
      cases mb with
      | false =>
        have hr256 : r < 256 := HM.out rfl
        rcases Int.lt_or_le r 128 with h128 | h128
        · go_wp2_with fail
          refine CU.out.mono ?_
          rintro e w2 ⟨rfl, hb2⟩
          have HB3 := Lib.hid (buf_below HBuf.out hb2)
          clear hb2
          go_wp2_with (at_builtin; refine Lib.wpList_append_byte rfl _ _ 29 rfl w.heap.size 5 i0 Tryz.underlying29 hi hz0 hz1 hz2 _ _ _ rfl w _ r (by exact HB3.out) rfl (by omega) ?_; intro vb wb hb4)
          have HB4 := Lib.hid hb4
          clear hb4
          go_wp2_with fail
          go_roundw
          case rel =>
            refine ⟨y, _, f - 1, done ++ [r], rfl, HY.out, HF.out, ?_, ?_⟩
            · have := HBY.out
              rw [show unqBytes r false = [r] from by unfold unqBytes; rw [if_pos (Or.inr rfl)]] at this
              rw [byts_append, List.append_assoc, this]; exact HD.out
            · rw [intCells_append]; simpa [Lib.intCells] using HB4.out
          case measure => exact hlt
        · have hd128 : decide (r < 128) = false := by simpa using h128
          clear h128
          go_wp2_with fail
          refine CU.out.mono ?_
          rintro e w2 ⟨rfl, hb2⟩
          have HB3 := Lib.hid (buf_below HBuf.out hb2)
          clear hb2
          go_wp2_with (at_builtin; refine Lib.wpList_append_byte rfl _ _ 29 rfl w.heap.size 5 i0 Tryz.underlying29 hi hz0 hz1 hz2 _ _ _ rfl w _ r (by exact HB3.out) rfl (by omega) ?_; intro vb wb hb4)
          have HB4 := Lib.hid hb4
          clear hb4
          go_wp2_with fail
          go_roundw
          case rel =>
            refine ⟨y, _, f - 1, done ++ [r], rfl, HY.out, HF.out, ?_, ?_⟩
            · have := HBY.out
              rw [show unqBytes r false = [r] from by unfold unqBytes; rw [if_pos (Or.inr rfl)]] at this
              rw [byts_append, List.append_assoc, this]; exact HD.out
            · rw [intCells_append]; simpa [Lib.intCells] using HB4.out
          case measure => exact hlt
      | true =>
        rcases Int.lt_or_le r 128 with h128 | h128
        · go_wp2_with fail
          refine CU.out.mono ?_
          rintro e w2 ⟨rfl, hb2⟩
          have HB3 := Lib.hid (buf_below HBuf.out hb2)
          clear hb2
          go_wp2_with (at_builtin; refine Lib.wpList_append_byte rfl _ _ 29 rfl w.heap.size 5 i0 Tryz.underlying29 hi hz0 hz1 hz2 _ _ _ rfl w _ r (by exact HB3.out) rfl (by omega) ?_; intro vb wb hb4)
          have HB4 := Lib.hid hb4
          clear hb4
          go_wp2_with fail
          go_roundw
          case rel =>
            refine ⟨y, _, f - 1, done ++ [r], rfl, HY.out, HF.out, ?_, ?_⟩
            · have := HBY.out
              rw [show unqBytes r true = [r] from by unfold unqBytes; rw [if_pos (Or.inl (by omega))]] at this
              rw [byts_append, List.append_assoc, this]; exact HD.out
            · rw [intCells_append]; simpa [Lib.intCells] using HB4.out
          case measure => exact hlt
        · have hd128 : decide (r < 128) = false := by simpa using h128
          clear h128
          go_wp2_with fail
          refine CU.out.mono ?_
          rintro e w2 ⟨rfl, hb2⟩
          have HB3 := Lib.hid (buf_below HBuf.out hb2)
          clear hb2
          have CA : Hid (Calls Tryz.prog 30 #[u14, .int .i32 r] w2 fun e w' => ∃ v', e = .returned v' ∧ Lib.OwnBuf w.heap.size 5 v' (done.length + (Lib.runeCells r).length) (Lib.intCells done ++ Lib.runeCells r) w w') :=
            (Tryz.utf8_AppendRune_row w.heap.size u14 done.length (Lib.intCells done) r (by omega) (by have := HR1.out; omega) w2 HB3.out.1 (by omega) HB3.out.2.2).mono fun _ _ ⟨v', h1, h2, o, h3⟩ => ⟨v', h1, (HB3.out.alloc o).grown h2 h3⟩
          go_wp2_with fail
          refine CA.out.mono ?_
          rintro e wb ⟨vb, rfl, hb4⟩
          have HB4 := Lib.hid hb4
          clear hb4
          go_wp2_with fail
          go_roundw
          case rel =>
            refine ⟨y, _, f - 1, done ++ Lib.encodeRuneZ r, rfl, HY.out, HF.out, ?_, ?_⟩
            · have := HBY.out
              rw [unq_multi r hr0] at this
              rw [byts_append, List.append_assoc, this]; exact HD.out
            · rw [intCells_append]; simpa [Lib.intCells, Lib.runeCells] using HB4.out
          case measure => exact hlt
    · have hr0 : rest.size = 0 := by omega
      have hx1 : x = bs [34] := by
        rw [hx, Lib.quoteFrom_end T f rest hr]; rfl
      have hx0 : 0 < x.size := by rw [hx1, bs_size]; simp
      have e0 : x[0]'hx0 = 34 := by subst hx1; exact bs_get _ _ _
      have ex : x.extract 1 x.size = bs [] := by rw [hx1]; exact bs_from _ _
      have hds : bs (byts done) = s := by
        have h3 : rest.data.toList = [] := List.length_eq_zero_iff.1 hr0
        have h4 := HD.out
        rw [h3, List.append_nil] at h4
        rw [h4, bs_list]
      have hcv := buf_text hbuf
      rw [hds] at hcv
      have hbw := Lib.hid hbuf.2.1
      have ex' : x.extract 1 x.size = ⟨#[]⟩ := ex
      have hone : ((1 : Int) ≤ (x.size : Int)) := by omega
      clear hx1 ex hds hx hbuf hr0 hr hf
      go_wp2_with fail
      go_ret3
      exact ⟨rfl, hbw.out⟩

set_option maxHeartbeats 1000000 in
set_option maxRecDepth 100000 in
theorem unquote_s3 (T : Lib.PrintTabs) (s t u : ByteArray) (p c : Nat) (w : World) (h2 : 2 ≤ t.size) (h0 : t[0]'(by omega) = 34) (hu : t.extract 1 t.size = u) (hpt : p + 2 ≤ t.size) (hts : t.size ≤ 1000000) (hss : s.size ≤ 1000000)
    (hc : 3 * ((p : Int) + 2) / 2 = (c : Int)) (hc1 : c ≤ 10000000) (hT : Lib.Utf8Tabs 2 3 w) (hL : u = bs (byts (Lib.quoteFrom T s.size s) ++ [34]))
    (CI : Hid (∀ W, Calls Tryz.prog 25 #[.string u, .int .u8 34] W fun e w' => e = .returned (.int .i64 (p : Int)) ∧ W = w'))
    (C1 : Hid (∀ W, Calls Tryz.prog 26 #[.string (t.extract 0 (p + 2)), .int .u8 92] W fun e w' => e = .returned (.bool false) ∧ W = w')) (C2 : Hid (∀ W, Calls Tryz.prog 26 #[.string (t.extract 0 (p + 2)), .int .u8 10] W fun e w' => e = .returned (.bool false) ∧ W = w')) (CV : Hid (∀ W, Below w.heap.size w W → Calls Tryz.prog 27 #[.string (t.extract 1 (p + 1))] W fun e w' => e = .returned (.bool false) ∧ Below W.heap.size W w')) :
    Calls Tryz.prog 13 #[.string t, .bool true] w fun e w' => e = .returned (.tuple #[.string s, .string ⟨#[]⟩, .nilIface]) ∧ Below w.heap.size w w' := by
  obtain ⟨i0, hi, hz0, hz1, hz2⟩ := info_parts info5
  have h2' : (2 : Int) ≤ (t.size : Int) := by omega
  have hpt' : (p : Int) + 2 ≤ (t.size : Int) := by omega
  have HL := Lib.hid hL
  have HT := Lib.hid hT
  clear hT hL
  go_enter Tryz.func13, Tryz.ntmps13
  go_wp2_with fail
  refine (CI.out _).mono ?_
  rintro e w1 ⟨rfl, rfl⟩
  go_wp2_with fail
  refine (C1.out _).mono ?_
  rintro e w1 ⟨rfl, rfl⟩
  go_wp2_with fail
  refine (C2.out _).mono ?_
  rintro e w1 ⟨rfl, rfl⟩
  go_wp2_with fail
  refine (CV.out _ (Below.refl _ _)).mono ?_
  rintro e wv ⟨rfl, hbv⟩
  have HBV := Lib.hid hbv
  have hzv : w.heap.size ≤ wv.heap.size := hbv.size
  clear hbv
  go_wp2_with (at_make; refine wpList_make_own _ rfl _ _ 29 rfl w.heap.size 5 i0 (.int .u8 0) 1 Tryz.underlying29 hi hz0 hz1 _ _ _ c rfl rfl (by first | rfl | assumption) (by rw [hz2]; omega) (by unfold maxLen; omega) hzv ?_; intro wm hown hg)
  have hbm : Below w.heap.size w wm := (HBV.out).grown hg hzv (by intro k hk; cases hk)
  have HO : Left T s w.heap.size w (.string u) (.slice (some ⟨wv.heap.size, 0, none⟩) 0 c) wm := ⟨u, s, s.size, [], rfl, HL.out, Nat.le_refl _, rfl, World.ownsRowF_of hown, hbm, hbm.size⟩
  clear hown hg hbm
  go_loopw [0, 14] (fun i b wr => Left T s w.heap.size w i b wr) (fun i _ _ => match i with | .string r => r.size | _ => 0)
  case atStart => exact HO
  case round =>
    obtain ⟨x, rest, f, done, rfl, hx, hf, hd, hbuf⟩ := hrel
    have HX := Lib.hid hx
    have HD := Lib.hid hd
    have HBuf := Lib.hid hbuf
    have hdl : done.length ≤ 1000000 := by
      have := congrArg List.length hd
      simp [byts] at this
      have h3 : s.data.size = s.size := rfl
      omega
    clear hd HO
    by_cases hr : 0 < rest.size
    · obtain ⟨y, r, mb, hx0, hn34, hn10, hlt, hr0, hmb, hr1, hU, hy, hf', hby⟩ := round_facts T rest f x hx hf hr
      have CU := Lib.hid (hU wr (Utf8Tabs_below HT.out hbuf.2.1))
      have HY := Lib.hid hy
      have HBY := Lib.hid hby
      have HM := Lib.hid hmb
      have HR1 := Lib.hid hr1
      have HF := Lib.hid hf'
      have b34 : (((x[0]'hx0).toNat : Int) != 34) = true := by rw [bne_iff_ne]; omega
      have b10 : (((x[0]'hx0).toNat : Int) == 10) = false := by rw [beq_eq_false_iff_ne]; omega
      clear hx hbuf hU hy hby hmb hf' hn34 hn10 hf hr hr1
      cases mb with
      | false =>
        have hr256 : r < 256 := HM.out rfl
        rcases Int.lt_or_le r 128 with h128 | h128
        · go_wp2_with fail
          refine CU.out.mono ?_
          rintro e w2 ⟨rfl, hb2⟩
          have HB3 := Lib.hid (buf_below HBuf.out hb2)
          clear hb2
          go_wp2_with (at_builtin; refine Lib.wpList_append_byte rfl _ _ 29 rfl w.heap.size 5 i0 Tryz.underlying29 hi hz0 hz1 hz2 _ _ _ rfl w _ r (by exact HB3.out) rfl (by omega) ?_; intro vb wb hb4)
          have HB4 := Lib.hid hb4
          clear hb4
          go_wp2_with fail
          go_roundw
          case rel =>
            refine ⟨y, _, f - 1, done ++ [r], rfl, HY.out, HF.out, ?_, ?_⟩
            · have := HBY.out
              rw [show unqBytes r false = [r] from by unfold unqBytes; rw [if_pos (Or.inr rfl)]] at this
              rw [byts_append, List.append_assoc, this]; exact HD.out
            · rw [intCells_append]; simpa [Lib.intCells] using HB4.out
          case measure => exact hlt
        · have hd128 : decide (r < 128) = false := by simpa using h128
          clear h128
          go_wp2_with fail
          refine CU.out.mono ?_
          rintro e w2 ⟨rfl, hb2⟩
          have HB3 := Lib.hid (buf_below HBuf.out hb2)
          clear hb2
          go_wp2_with (at_builtin; refine Lib.wpList_append_byte rfl _ _ 29 rfl w.heap.size 5 i0 Tryz.underlying29 hi hz0 hz1 hz2 _ _ _ rfl w _ r (by exact HB3.out) rfl (by omega) ?_; intro vb wb hb4)
          have HB4 := Lib.hid hb4
          clear hb4
          go_wp2_with fail
          go_roundw
          case rel =>
            refine ⟨y, _, f - 1, done ++ [r], rfl, HY.out, HF.out, ?_, ?_⟩
            · have := HBY.out
              rw [show unqBytes r false = [r] from by unfold unqBytes; rw [if_pos (Or.inr rfl)]] at this
              rw [byts_append, List.append_assoc, this]; exact HD.out
            · rw [intCells_append]; simpa [Lib.intCells] using HB4.out
          case measure => exact hlt
      | true =>
        rcases Int.lt_or_le r 128 with h128 | h128
        · go_wp2_with fail
          refine CU.out.mono ?_
          rintro e w2 ⟨rfl, hb2⟩
          have HB3 := Lib.hid (buf_below HBuf.out hb2)
          clear hb2
          go_wp2_with (at_builtin; refine Lib.wpList_append_byte rfl _ _ 29 rfl w.heap.size 5 i0 Tryz.underlying29 hi hz0 hz1 hz2 _ _ _ rfl w _ r (by exact HB3.out) rfl (by omega) ?_; intro vb wb hb4)
          have HB4 := Lib.hid hb4
          clear hb4
          go_wp2_with fail
          go_roundw
          case rel =>
            refine ⟨y, _, f - 1, done ++ [r], rfl, HY.out, HF.out, ?_, ?_⟩
            · have := HBY.out
              rw [show unqBytes r true = [r] from by unfold unqBytes; rw [if_pos (Or.inl (by omega))]] at this
              rw [byts_append, List.append_assoc, this]; exact HD.out
            · rw [intCells_append]; simpa [Lib.intCells] using HB4.out
          case measure => exact hlt
        · have hd128 : decide (r < 128) = false := by simpa using h128
          clear h128
          go_wp2_with fail
          refine CU.out.mono ?_
          rintro e w2 ⟨rfl, hb2⟩
          have HB3 := Lib.hid (buf_below HBuf.out hb2)
          clear hb2
          have CA : Hid (Calls Tryz.prog 30 #[u14, .int .i32 r] w2 fun e w' => ∃ v', e = .returned v' ∧ Lib.OwnBuf w.heap.size 5 v' (done.length + (Lib.runeCells r).length) (Lib.intCells done ++ Lib.runeCells r) w w') :=
            (Tryz.utf8_AppendRune_row w.heap.size u14 done.length (Lib.intCells done) r (by omega) (by have := HR1.out; omega) w2 HB3.out.1 (by omega) HB3.out.2.2).mono fun _ _ ⟨v', h1, h2, o, h3⟩ => ⟨v', h1, (HB3.out.alloc o).grown h2 h3⟩
          go_wp2_with fail
          refine CA.out.mono ?_
          rintro e wb ⟨vb, rfl, hb4⟩
          have HB4 := Lib.hid hb4
          clear hb4
          go_wp2_with fail
          go_roundw
          case rel =>
            refine ⟨y, _, f - 1, done ++ Lib.encodeRuneZ r, rfl, HY.out, HF.out, ?_, ?_⟩
            · have := HBY.out
              rw [unq_multi r hr0] at this
              rw [byts_append, List.append_assoc, this]; exact HD.out
            · rw [intCells_append]; simpa [Lib.intCells, Lib.runeCells] using HB4.out
          case measure => exact hlt
    · have hr0 : rest.size = 0 := by omega
      have hx1 : x = bs [34] := by
        rw [hx, Lib.quoteFrom_end T f rest hr]; rfl
      have hx0 : 0 < x.size := by rw [hx1, bs_size]; simp
      have e0 : x[0]'hx0 = 34 := by subst hx1; exact bs_get _ _ _
      have ex : x.extract 1 x.size = bs [] := by rw [hx1]; exact bs_from _ _
      have hds : bs (byts done) = s := by
        have h3 : rest.data.toList = [] := List.length_eq_zero_iff.1 hr0
        have h4 := HD.out
        rw [h3, List.append_nil] at h4
        rw [h4, bs_list]
      have hcv := buf_text hbuf
      rw [hds] at hcv
      have hbw := Lib.hid hbuf.2.1
      have ex' : x.extract 1 x.size = ⟨#[]⟩ := ex
      have hone : ((1 : Int) ≤ (x.size : Int)) := by omega
      clear hx1 ex hds hx hbuf hr0 hr hf
      go_wp2_with fail
      go_ret3
      exact ⟨rfl, hbw.out⟩

end Go.Proofs.YtdcaigdhbbnfoaaGreatDoor
