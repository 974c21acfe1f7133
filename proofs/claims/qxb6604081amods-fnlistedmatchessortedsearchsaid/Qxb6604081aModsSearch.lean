import Derived.Test.Qxb6604081aModsHas
namespace Go.Proofs.Qxb6604081aMods.Str
open Go.RowKit

set_option maxHeartbeats 800000 in
theorem search_any (a : Option Addr) (n cap : Nat) (S : Nat → ByteArray) (x : ByteArray) (w : World) (hn : n ≤ maxLen) (hx : x.size ≤ maxLen) (hS : StrAt w a n S) :
    Calls Trym.prog 3 #[.slice a n cap, .string x] w fun e w' => e = .returned (.bool true) ∧ Below w.heap.size w w' := by
  have hn' := hn
  unfold maxLen at hn hx
  have HS : Hid (StrAt w a n S) := hS
  clear hS
  by_cases hbig : (65536 : Int) < (n : Int)
  · go_enter Trym.func3, Trym.ntmps3
    go_wp2_with (go_at_call 8; refine (bytes8_any _ _ _ S _ _ hn' HS.out).mono ?_; rintro e w' ⟨⟨b, rfl⟩, rfl⟩)
    all_goals (go_ret; exact ⟨rfl, Below.refl _ _⟩)
  · by_cases hxs : (1048576 : Int) < (x.size : Int)
    · go_enter Trym.func3, Trym.ntmps3
      go_wp2_with (go_at_call 8; refine (bytes8_any _ _ _ S _ _ hn' HS.out).mono ?_; rintro e w' ⟨⟨b, rfl⟩, rfl⟩)
      all_goals (go_ret; exact ⟨rfl, Below.refl _ _⟩)
    · go_enter Trym.func3, Trym.ntmps3
      go_wp2_with (first | (go_at_call 8; refine (bytes8_any _ _ _ S _ _ hn' HS.out).mono ?_; rintro e w' ⟨⟨b, rfl⟩, rfl⟩) | (go_at_call 9; refine (strBytes_any _ _ _ S _ (by omega) HS.out).mono ?_; rintro e w' ⟨⟨r, rfl, hr0, hr1⟩, rfl⟩))
      · go_ret; exact ⟨rfl, Below.refl _ _⟩
      · go_ret; exact ⟨rfl, Below.refl _ _⟩
      · refine (clone_any _ _ _ S _ (by omega) HS.out).mono ?_
        rintro e w1 ⟨⟨a1, rfl, hS1⟩, hb1⟩
        have HS1 : Hid (StrAt w1 a1 n S) := hS1
        clear hS1
        go_wp2_with fail
        refine (zzListed_any _ _ _ S _ _ (by omega) HS1.out).mono ?_
        rintro e w2 ⟨rfl, rfl⟩
        go_wp2_with fail
        refine (sortedCopy_any _ _ _ S _ (by omega) HS1.out).mono ?_
        rintro e w3 ⟨⟨a3, T, rfl, hS3, hsort, hsame⟩, hb3⟩
        have HS3 : Hid (StrAt w3 a3 n T) := hS3
        have HO3 : Hid (Sorted n T) := hsort
        have HM3 : Hid (mem n T x = mem n S x) := mem_same hsame
        clear hS3 hsort hsame
        go_wp2_with fail
        refine (sortedHas_any _ _ _ T _ _ (by omega) HS3.out HO3.out).mono ?_
        rintro e w4 ⟨rfl, rfl⟩
        go_wp2_with fail
        go_ret
        exact ⟨ret_bool (by rw [HM3.out]; simp), hb1.trans (hb3.mono hb1.size)⟩

end Go.Proofs.Qxb6604081aMods.Str
