import Derived.Test.Qxb6000643aModsFeeds
import Derived.Test.Qxb6000643aModsContains
namespace Go.Proofs.Qxb6000643aMods.Byt
open Go.RowKit

/-- The q-th sequence stands somewhere in the text, or nowhere. -/
theorem has_occ_true {n q : Nat} {L : Nat → Int} (h : has n L (pat q).length (fun i => (pat q).getD i 0) = true) : ∃ k, k < n ∧ occ n L q k = true := by
  unfold has at h
  rw [List.any_eq_true] at h
  obtain ⟨k, hk, he⟩ := h
  have hk' := List.mem_range.1 hk
  have hp := pat_pos q
  refine ⟨k, by omega, ?_⟩
  unfold occ pre
  rw [Bool.and_eq_true, decide_eq_true_eq]
  exact ⟨by omega, he⟩

theorem has_occ_false {n q : Nat} {L : Nat → Int} (h : has n L (pat q).length (fun i => (pat q).getD i 0) = false) : ∀ k, k < n → occ n L q k = false := by
  intro k hk
  rw [← Bool.not_eq_true]
  intro ho
  unfold occ pre at ho
  rw [Bool.and_eq_true, decide_eq_true_eq] at ho
  unfold has at h
  rw [List.any_eq_false] at h
  exact h k (List.mem_range.2 (by omega)) ho.2

theorem pat_le (q : Nat) : (pat q).length ≤ 8 := by
  unfold pat
  split <;> simp

set_option maxHeartbeats 800000 in
theorem freeOf_any (a : Option Addr) (n c : Nat) (L : Nat → Int) (w : World) (hn : n ≤ 1048576) (hL : ByteAt w a n L) :
    Calls Trym.prog 21 #[.slice a n c] w fun e w' => e = .returned (.bool (free n L)) ∧ Below w.heap.size w w' := by
  have HL : Hid (ByteAt w a n L) := hL
  clear hL
  go_enter Trym.func21, Trym.ntmps21
  go_wp2
  go_loopw [3] (fun i wr => ∃ q : Nat, q ≤ 5 ∧ i = .int .i64 q ∧ Hid (∀ p, p < q → ∀ k, k < n → occ n L p k = false) ∧ Hid (Below w.heap.size w wr)) (fun i _ => 5 - (intOf i).toNat)
  case atStart => exact ⟨0, by omega, rfl, fun p h => absurd h (by omega), Below.refl _ _⟩
  case round =>
    obtain ⟨q, hq, rfl, HF, HW⟩ := hrel
    by_cases hlt : q < 5
    · go_wp2_with fail
      refine (refused_any q hlt _).mono ?_
      rintro e w1 ⟨⟨a1, rfl, hR⟩, hb1⟩
      have HB1 : Hid (Below w.heap.size w w1) := HW.out.trans (hb1.mono HW.out.size)
      have HR : Hid (ByteAt w1 a1 (pat q).length (fun i => (pat q).getD i 0)) := hR
      clear hR hb1
      go_wp2_with fail
      have hcon := contains_any a a1 n (pat q).length c (pat q).length L (fun i => (pat q).getD i 0) w1 hn (pat_le q) (pat_pos q) (HL.out.keep HB1.out) HR.out
      cases hh : has n L (pat q).length (fun i => (pat q).getD i 0) with
      | true =>
        rw [hh] at hcon
        have HE : Hid (free n L = false) := by
          obtain ⟨k, hk, ho⟩ := has_occ_true hh
          exact free_false hk hlt ho
        clear hh
        refine hcon.mono ?_
        clear hcon
        rintro e w2 ⟨rfl, HD⟩
        have HB2 : Hid (Below w.heap.size w w2) := by
          obtain ⟨d, rfl⟩ := HD.out
          exact below_drewN HB1.out d
        go_wp2_with fail
        go_ret
        exact ⟨ret_bool HE.out.symm, HB2.out⟩
      | false =>
        rw [hh] at hcon
        have HN : Hid (∀ p, p < q + 1 → ∀ k, k < n → occ n L p k = false) := by
          intro p hp k hk
          by_cases e : p = q
          · rw [e]; exact has_occ_false hh k hk
          · exact HF.out p (by omega) k hk
        clear hh
        refine hcon.mono ?_
        clear hcon
        rintro e w2 ⟨rfl, HD⟩
        have HB2 : Hid (Below w.heap.size w w2) := by
          obtain ⟨d, rfl⟩ := HD.out
          exact below_drewN HB1.out d
        go_wp2_with fail
        go_roundw
        case rel => exact ⟨q + 1, by omega, by go_num, HN, HB2⟩
        case measure => simp [intOf]; omega
    · have HE : Hid (free n L = true) := free_iff.2 (fun k hk p hp => HF.out p (by omega) k hk)
      go_wp2
      go_ret
      exact ⟨ret_bool HE.out.symm, HW.out⟩

theorem zzCutAt_any (a : Option Addr) (n : Nat) (L : Nat → Int) (w : World) (hn : n ≤ 1048576) (hL : ByteAt w a n L) (bL : IsByte L) :
    Calls Trym.prog 20 #[.slice a n n] w fun e w' => e = .returned (.bool (free n L)) ∧ Below w.heap.size w w' := by
  go_enter Trym.func20, Trym.ntmps20
  go_wp2_with (go_at_call 32; refine (cutAt_any _ _ L _ hn hL bL).mono ?_; rintro e w' ⟨rfl, hb⟩)
  go_ret
  exact ⟨rfl, hb⟩

set_option maxHeartbeats 800000 in
theorem feeds_any (a : Option Addr) (n cap : Nat) (L : Nat → Int) (w : World) (hn : n ≤ maxLen) (hL : ByteAt w a n L) (bL : IsByte L) :
    Calls Trym.prog 6 #[.slice a n cap] w fun e w' => e = .returned (.bool true) ∧ Below w.heap.size w w' := by
  have hn' := hn
  unfold maxLen at hn
  have HL : Hid (ByteAt w a n L) := hL
  have HB : Hid (IsByte L) := bL
  clear hL bL
  by_cases hbig : (1048576 : Int) < (n : Int)
  · go_enter Trym.func6, Trym.ntmps6
    go_wp2_with (go_at_call 19; refine (bytes19_any _ _ _ _ hn').mono ?_; rintro e w' ⟨⟨bb, rfl⟩, rfl⟩)
    all_goals (go_ret; exact ⟨rfl, Below.refl _ _⟩)
  go_enter Trym.func6, Trym.ntmps6
  go_wp2_with (go_at_call 19; refine (bytes19_any _ _ _ _ hn').mono ?_; rintro e w' ⟨⟨bb, rfl⟩, rfl⟩)
  · go_ret; exact ⟨rfl, Below.refl _ _⟩
  refine (clone_any _ _ _ L _ (by omega) HL.out (none_zero HL.out)).mono ?_
  rintro e w1 ⟨⟨a1, rfl, hL1⟩, hb1⟩
  have HL1 : Hid (ByteAt w1 a1 n L) := hL1
  clear hL1
  go_wp2_with fail
  refine (zzCutAt_any _ _ L _ (by omega) HL1.out HB.out).mono ?_
  rintro e w2 ⟨rfl, hb2⟩
  have HL2 : Hid (ByteAt w2 a1 n L) := HL1.out.keep hb2
  go_wp2_with fail
  refine (freeOf_any _ _ _ L _ (by omega) HL2.out).mono ?_
  rintro e w3 ⟨rfl, hb3⟩
  go_wp2_with fail
  go_ret
  have z1 := hb1.size
  have z2 := hb2.size
  exact ⟨ret_bool (by simp), hb1.trans ((hb2.mono z1).trans (hb3.mono (by omega)))⟩

end Go.Proofs.Qxb6000643aMods.Byt
