import Derived.Test.Qxb6000643aModsCut
namespace Go.Proofs.Qxb6000643aMods.Byt
open Go.RowKit

set_option maxRecDepth 100000 in
set_option maxHeartbeats 1000000 in
theorem cutAt_any (a : Option Addr) (n : Nat) (L : Nat → Int) (w : World) (hn : n ≤ 1048576) (hL : ByteAt w a n L) (bL : IsByte L) :
    Calls Trym.prog 32 #[.slice a n n] w fun e w' => e = .returned (.bool (free n L)) ∧ Below w.heap.size w w' := by
  have HL : Hid (ByteAt w a n L) := hL
  have HB : Hid (IsByte L) := bL
  clear hL bL
  have kc := fun (w : World) (C : Array Value) (n c : Nat) => Lib.run_convert_bytes_const (P := Trym.prog) w 22 5 C n c Trym.underlying22 Trym.underlying5
  go_enter Trym.func32, Trym.ntmps32
  go_wp2
  go_loopw [7] (fun i wr => ∃ k : Nat, k ≤ n ∧ i = .int .i64 k ∧ Hid (∀ j, j < k → ∀ q, q < 5 → occ n L q j = false) ∧ Hid (Below w.heap.size w wr)) (fun i _ => n - (intOf i).toNat)
  case atStart => exact ⟨0, Nat.zero_le _, rfl, fun j h => absurd h (by omega), Below.refl _ _⟩
  case round =>
    obtain ⟨k, hk, rfl, HF, HW⟩ := hrel
    by_cases hlt : k < n
    · obtain ⟨b, off, ha, hc⟩ := (HL.out.keep HW.out) k hlt
      subst ha
      by_cases h13 : L k = 13
      · have HE : Hid (free n L = false) := free_false hlt (by omega : 0 < 5) (occ_cr hlt h13)
        have hd : (L k == 13) = true := by simp [h13]
        have H13 : Hid (L k = 13) := h13
        clear h13
        go_wp2
        go_ret
        exact ⟨ret_bool HE.out.symm, HW.out⟩
      · by_cases hlow : L k < 194
        · have HN : Hid (∀ j, j < k + 1 → ∀ q, q < 5 → occ n L q j = false) := by
            intro j hj q hq
            by_cases e : j = k
            · rw [e]; exact occ_low h13 hlow hq
            · exact HF.out j (by omega) q hq
          go_wp2
          go_roundw
          case rel => exact ⟨k + 1, by omega, by go_num, HN, HW⟩
          case measure => simp [intOf]; omega
        · have hsl := slice_tail b off n k hlt
          have H0 : Hid (occ n L 0 k = false) := by
            show occ n L 0 k = false
            rw [← Bool.not_eq_true]
            intro h
            exact h13 (occ_first h)
          go_wp2_with fail
          cases h1 : occ n L 1 k with
          | true =>
            refine (hp1 h1 HW.out HL.out HB.out).mono ?_
            rintro e w1 ⟨rfl, hb1⟩
            have HE : Hid (free n L = false) := free_false hlt (by omega : 1 < 5) h1
            clear h1
            go_wp2_with fail
            go_ret
            exact ⟨ret_bool HE.out.symm, hb1⟩
          | false =>
            refine (hp1 h1 HW.out HL.out HB.out).mono ?_
            rintro e w1 ⟨rfl, hb1⟩
            have H1 : Hid (occ n L 1 k = false) := h1
            have HW1 : Hid (Below w.heap.size w w1) := hb1
            clear h1 hb1
            go_wp2_with fail
            cases h2 : occ n L 2 k with
            | true =>
              refine (hp2 h2 HW1.out HL.out HB.out).mono ?_
              rintro e w2 ⟨rfl, hb2⟩
              have HE : Hid (free n L = false) := free_false hlt (by omega : 2 < 5) h2
              clear h2
              go_wp2_with fail
              go_ret
              exact ⟨ret_bool HE.out.symm, hb2⟩
            | false =>
              refine (hp2 h2 HW1.out HL.out HB.out).mono ?_
              rintro e w2 ⟨rfl, hb2⟩
              have H2 : Hid (occ n L 2 k = false) := h2
              have HW2 : Hid (Below w.heap.size w w2) := hb2
              clear h2 hb2
              go_wp2_with fail
              cases h3 : occ n L 3 k with
              | true =>
                refine (hp3 h3 HW2.out HL.out HB.out).mono ?_
                rintro e w3 ⟨rfl, hb3⟩
                have HE : Hid (free n L = false) := free_false hlt (by omega : 3 < 5) h3
                clear h3
                go_wp2_with fail
                go_ret
                exact ⟨ret_bool HE.out.symm, hb3⟩
              | false =>
                refine (hp3 h3 HW2.out HL.out HB.out).mono ?_
                rintro e w3 ⟨rfl, hb3⟩
                have H3 : Hid (occ n L 3 k = false) := h3
                have HW3 : Hid (Below w.heap.size w w3) := hb3
                clear h3 hb3
                go_wp2_with fail
                cases h4 : occ n L 4 k with
                | true =>
                  refine (hp4 h4 HW3.out HL.out HB.out).mono ?_
                  rintro e w4 ⟨rfl, hb4⟩
                  have HE : Hid (free n L = false) := free_false hlt (by omega : 4 < 5) h4
                  clear h4
                  go_wp2_with fail
                  go_ret
                  exact ⟨ret_bool HE.out.symm, hb4⟩
                | false =>
                  refine (hp4 h4 HW3.out HL.out HB.out).mono ?_
                  rintro e w4 ⟨rfl, hb4⟩
                  have H4 : Hid (occ n L 4 k = false) := h4
                  have HW4 : Hid (Below w.heap.size w w4) := hb4
                  clear h4 hb4
                  go_wp2_with fail
                  go_roundw
                  case rel =>
                    refine ⟨k + 1, by omega, by go_num, fun j hj q hq => ?_, HW4⟩
                    by_cases e : j = k
                    · subst e
                      rcases (by omega : q = 0 ∨ q = 1 ∨ q = 2 ∨ q = 3 ∨ q = 4) with rfl | rfl | rfl | rfl | rfl
                      · exact H0.out
                      · exact H1.out
                      · exact H2.out
                      · exact H3.out
                      · exact H4.out
                    · exact HF.out j (by omega) q hq
                  case measure => simp [intOf]; omega
    · have HE : Hid (free n L = true) := free_iff.2 (fun j hj => HF.out j (by omega))
      go_wp2
      go_ret
      exact ⟨ret_bool HE.out.symm, HW.out⟩

end Go.Proofs.Qxb6000643aMods.Byt
