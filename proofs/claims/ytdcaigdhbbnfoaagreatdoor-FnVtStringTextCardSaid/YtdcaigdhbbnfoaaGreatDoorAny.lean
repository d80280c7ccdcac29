/-
  THE LAW's FUNCTION ANSWERS true AT EVERY TEXT AND EVERY BYTE, where the library's tables read as Go's own.
-/
import Derived.Test.YtdcaigdhbbnfoaaGreatDoorLaw
namespace Go.Proofs.YtdcaigdhbbnfoaaGreatDoor
open Go.RowKit PFnVtStringText YtdcaigdhbbnfoaaGreatDoorW.PrintWords

/-- All that the statement's function meets, at a text of at most 4096 bytes. -/
theorem meets (k : Int) (c : UInt8) (hk : (k = 115 ∧ c = 115) ∨ (k = 111 ∧ c = 111) ∨ (k = 103 ∧ c = 103)) (T : Lib.PrintTabs) (s : ByteArray) (w : World) (hs : s.size ≤ 4096)
    (hT : Lib.PrintTabsAt 6 7 8 9 T w) (hU : Lib.Utf8Tabs 2 3 w) :
    Meets k (aheadOf c ++ strOfNums (Lib.quoteZ T s)) s (strOfNums (Lib.quoteZ T s)) w := by
  have hq : Quotes s (strOfNums (Lib.quoteZ T s)) w := fun W hW =>
    Tryz.strconv_Quote T s W (by omega) (printTabs_below hT hW) (Utf8Tabs_below hU hW)
  have hsz : (strOfNums (Lib.quoteZ T s)).size ≤ 1000000 := by
    have h1 : (strOfNums (Lib.quoteZ T s)).size ≤ 10 * s.size + 2 := by rw [strOfNums_size]; exact Lib.quoteZ_length_le _ s
    omega
  have hk' : k = 115 ∨ k = 111 ∨ k = 103 := by rcases hk with ⟨h, _⟩ | ⟨h, _⟩ | ⟨h, _⟩ <;> simp [h]
  exact ⟨fun W hW => tidy_top k hk' s W (by omega) (Utf8Tabs_below hU hW),
    fun W hW => vtString_text k c hk s _ W (hq.later hW) hsz,
    fun W hW => Unquote_quote T s W (by omega) (Utf8Tabs_below hU hW), hq⟩

theorem ahead_size (c : UInt8) (hc : c ≠ 115) (q : ByteArray) : 3 ≤ (aheadOf c ++ q).size := by
  rw [ByteArray.size_append]
  have : (aheadOf c).size = 3 := by unfold aheadOf; rw [if_neg hc]; rfl
  omega
theorem ahead_front (c : UInt8) (hc : c ≠ 115) (q : ByteArray) : (aheadOf c ++ q).extract 0 3 = ⟨#[64, c, 32]⟩ := by
  unfold aheadOf; rw [if_neg hc]
  exact ByteArray.extract_append_eq_left rfl
theorem ahead_back (c : UInt8) (hc : c ≠ 115) (q : ByteArray) : (aheadOf c ++ q).extract 3 (aheadOf c ++ q).size = q := by
  unfold aheadOf; rw [if_neg hc]
  refine ByteArray.extract_append_eq_right rfl ?_
  rw [ByteArray.size_append]

theorem law_any (T : Lib.PrintTabs) (s : ByteArray) (wh : Int) (w : World) (h0 : 0 ≤ wh) (hT : Lib.PrintTabsAt 6 7 8 9 T w) (hU : Lib.Utf8Tabs 2 3 w) :
    Calls Tryz.prog 3 #[.string s, .int .u8 wh] w fun e w' => e = .returned (.bool true) ∧ Below w.heap.size w w' := by
  have h3 : wh % 3 = 0 ∨ wh % 3 = 1 ∨ wh % 3 = 2 := by omega
  by_cases hs : 2147483647 < s.size
  · exact law_long s wh w hs
  by_cases hs2 : 4096 < s.size
  · rcases h3 with h3 | h3 | h3
    · exact law_mid0 s wh w h0 (by omega) hs2 h3
    · exact law_mid1 s wh w h0 (by omega) hs2 h3
    · exact law_mid2 s wh w h0 (by omega) hs2 h3
  · have hs3 : s.size ≤ 4096 := by omega
    rcases h3 with h3 | h3 | h3
    · have hM := meets 115 115 (Or.inl ⟨rfl, rfl⟩) T s w hs3 hT hU
      have e : aheadOf 115 ++ strOfNums (Lib.quoteZ T s) = strOfNums (Lib.quoteZ T s) := by rw [show aheadOf 115 = ByteArray.empty from rfl]; exact ByteArray.empty_append
      rw [e] at hM
      exact law_k115 s _ wh w h0 hs3 h3 hM
    · exact law_k111 s _ wh w h0 hs3 h3 _ (ahead_size 111 (by decide) _) (ahead_front 111 (by decide) _) (ahead_back 111 (by decide) _) (meets 111 111 (Or.inr (Or.inl ⟨rfl, rfl⟩)) T s w hs3 hT hU)
    · exact law_k103 s _ wh w h0 hs3 h3 _ (ahead_size 103 (by decide) _) (ahead_front 103 (by decide) _) (ahead_back 103 (by decide) _) (meets 103 103 (Or.inr (Or.inr ⟨rfl, rfl⟩)) T s w hs3 hT hU)

end Go.Proofs.YtdcaigdhbbnfoaaGreatDoor
