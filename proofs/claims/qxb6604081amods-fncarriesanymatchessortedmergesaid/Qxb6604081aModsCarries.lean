import Derived.Test.Qxb6604081aModsMeet
namespace Go.Proofs.Qxb6604081aMods.Str
open Go.RowKit

set_option maxHeartbeats 800000 in
theorem carries_any (a : Option Addr) (n cap : Nat) (S : Nat → ByteArray) (a2 : Option Addr) (m cap2 : Nat) (T : Nat → ByteArray) (w : World) (hn : n ≤ maxLen) (hm : m ≤ maxLen) (hS : StrAt w a n S) (hT : StrAt w a2 m T) :
    Calls Trym.prog 5 #[.slice a n cap, .slice a2 m cap2] w fun e w' => e = .returned (.bool true) ∧ Below w.heap.size w w' := by
  have hn' := hn
  have hm' := hm
  unfold maxLen at hn hm
  have HS : Hid (StrAt w a n S) := hS
  have HT : Hid (StrAt w a2 m T) := hT
  clear hS hT
  by_cases hbig : (4096 : Int) < (n : Int)
  · go_enter Trym.func5, Trym.ntmps5
    go_wp2_with (go_at_call 15; refine (bytes15_any _ _ _ S _ _ _ T _ hn' hm' HS.out HT.out).mono ?_; rintro e w' ⟨⟨b, rfl⟩, rfl⟩)
    all_goals (go_ret; exact ⟨rfl, Below.refl _ _⟩)
  · by_cases hxs : (4096 : Int) < (m : Int)
    · go_enter Trym.func5, Trym.ntmps5
      go_wp2_with (go_at_call 15; refine (bytes15_any _ _ _ S _ _ _ T _ hn' hm' HS.out HT.out).mono ?_; rintro e w' ⟨⟨b, rfl⟩, rfl⟩)
      all_goals (go_ret; exact ⟨rfl, Below.refl _ _⟩)
    · go_enter Trym.func5, Trym.ntmps5
      go_wp2_with (go_at_call 15; refine (bytes15_any _ _ _ S _ _ _ T _ hn' hm' HS.out HT.out).mono ?_; rintro e w' ⟨⟨b, rfl⟩, rfl⟩)
      · go_ret; exact ⟨rfl, Below.refl _ _⟩
      · refine (strBytes_any _ _ _ S _ (by omega) HS.out).mono ?_
        rintro e w' ⟨⟨r, rfl, hr0, hr1⟩, rfl⟩
        go_wp2_with fail
        refine (strBytes_any _ _ _ T _ (by omega) HT.out).mono ?_
        rintro e w' ⟨⟨r2, rfl, hs0, hs1⟩, rfl⟩
        go_wp2_with fail
        · go_ret; exact ⟨rfl, Below.refl _ _⟩
        · refine (clone_any _ _ _ S _ (by omega) HS.out).mono ?_
          rintro e w1 ⟨⟨a1, rfl, hS1⟩, hb1⟩
          have HS1 : Hid (StrAt w1 a1 n S) := hS1
          have HT1 : Hid (StrAt w1 a2 m T) := HT.out.keep hb1
          clear hS1
          go_wp2_with fail
          refine (clone_any _ _ _ T _ (by omega) HT1.out).mono ?_
          rintro e w2 ⟨⟨a3, rfl, hT2⟩, hb2⟩
          have HS2 : Hid (StrAt w2 a1 n S) := HS1.out.keep hb2
          have HT2 : Hid (StrAt w2 a3 m T) := hT2
          clear hT2
          go_wp2_with fail
          refine (zzCarriesAny_any _ _ _ S _ _ _ T _ (by omega) (by omega) HS2.out HT2.out).mono ?_
          rintro e w3 ⟨rfl, rfl⟩
          go_wp2_with fail
          refine (sortedCopy_any _ _ _ S _ (by omega) HS2.out).mono ?_
          rintro e w4 ⟨⟨a4, S4, rfl, hS4, hsort4, hsame4⟩, hb4⟩
          have HS4 : Hid (StrAt w4 a4 n S4) := hS4
          have HT4 : Hid (StrAt w4 a3 m T) := HT2.out.keep hb4
          have HO4 : Hid (Sorted n S4) := hsort4
          have HM4 : Hid (Same n S4 S) := hsame4
          clear hS4 hsort4 hsame4
          go_wp2_with fail
          refine (sortedCopy_any _ _ _ T _ (by omega) HT4.out).mono ?_
          rintro e w5 ⟨⟨a5, T5, rfl, hT5, hsort5, hsame5⟩, hb5⟩
          have HS5 : Hid (StrAt w5 a4 n S4) := HS4.out.keep hb5
          have HT5 : Hid (StrAt w5 a5 m T5) := hT5
          have HO5 : Hid (Sorted m T5) := hsort5
          have HM5 : Hid (meets n S4 m T5 = meets n S m T) := meets_same HM4.out hsame5
          clear hT5 hsort5 hsame5
          go_wp2_with fail
          refine (sortedMeet_any _ _ _ S4 _ _ _ T5 _ (by omega) (by omega) HS5.out HT5.out HO4.out HO5.out).mono ?_
          rintro e w6 ⟨rfl, HW⟩
          go_wp2_with fail
          go_ret
          obtain ⟨d, rfl⟩ := HW.out
          have s1 := hb1.size
          have s2 := hb2.size
          have s4 := hb4.size
          exact ⟨ret_bool (by rw [HM5.out]; simp), below_drewN (hb1.trans ((hb2.mono s1).trans ((hb4.mono (by omega)).trans (hb5.mono (by omega))))) d⟩

end Go.Proofs.Qxb6604081aMods.Str
