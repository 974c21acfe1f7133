import Derived.Test.Qxb6604081aModsUtoa
namespace Go.Proofs.Qxb6604081aMods.Dig
open Go.RowKit

theorem zz_true (s : ByteArray) (w : World) (hs : s.size ≤ maxLen) (h : allDig s.data.toList = true) :
    Calls Trym.prog 19 #[.string s] w fun e w' => e = .returned (.bool true) ∧ Below w.heap.size w w' := by
  rw [← h]; exact zzAllDigits_any s w hs
theorem zz_false (s : ByteArray) (w : World) (hs : s.size ≤ maxLen) (h : allDig s.data.toList = false) :
    Calls Trym.prog 19 #[.string s] w fun e w' => e = .returned (.bool false) ∧ Below w.heap.size w w' := by
  rw [← h]; exact zzAllDigits_any s w hs

theorem data_add (a b : ByteArray) : (a ++ b).data.toList = a.data.toList ++ b.data.toList := by
  rw [ByteArray.data_append]; simp

theorem size_add (a b : ByteArray) : (a ++ b).size = a.size + b.size := by
  simp

theorem dec_minus (s : ByteArray) : allDig (({ data := #[45] } : ByteArray) ++ s).data.toList = false := by
  rw [data_add]
  simp [allDig, isDig]

theorem dec_blank (s : ByteArray) : allDig (s ++ ({ data := #[32] } : ByteArray)).data.toList = false := by
  rw [data_add]
  simp [allDig, isDig]

theorem dec_plain (s : ByteArray) (h0 : 0 < s.size) (h : ∀ j (hj : j < s.size), isDig (s[j].toNat : Int) = true) : allDig s.data.toList = true := by
  refine allDig_true ?_ h
  rw [ByteArray.toList_eq, List.isEmpty_eq_false_iff]
  intro e
  have : s.data.toList.length = 0 := by rw [e]; rfl
  have e2 : s.size = s.data.toList.length := by simp
  omega

set_option maxHeartbeats 400000 in
theorem decimal_any (n : Int) (h0 : 0 ≤ n) (h1 : n < 18446744073709551616) (w : World) :
    Calls Trym.prog 7 #[.int .u64 n] w fun e w' => e = .returned (.bool true) ∧ Below w.heap.size w w' := by
  go_enter Trym.func7, Trym.ntmps7
  go_wp2_with (go_at_call 21; refine (utoa_any _ h0 h1 _).mono ?_; rintro e w' ⟨⟨s, rfl, hs0, hs1, hdig⟩, hb⟩)
  refine (zz_true s _ (by unfold maxLen; omega) (dec_plain s hs0 hdig)).mono ?_
  rintro e w2 ⟨rfl, hb2⟩
  go_wp2_with fail
  refine (zz_false _ _ ?_ (dec_minus s)).mono ?_
  · rw [size_add]; unfold maxLen; show 1 + s.size ≤ _; omega
  rintro e w3 ⟨rfl, hb3⟩
  go_wp2_with fail
  refine (zz_false _ _ ?_ (dec_blank s)).mono ?_
  · rw [size_add]; unfold maxLen; show s.size + 1 ≤ _; omega
  rintro e w4 ⟨rfl, hb4⟩
  go_wp2_with fail
  go_ret
  have g1 := hb.size
  have g2 := hb2.size
  have g3 := hb3.size
  exact ⟨rfl, hb.trans ((hb2.mono g1).trans ((hb3.mono (by omega)).trans (hb4.mono (by omega))))⟩
end Go.Proofs.Qxb6604081aMods.Dig
