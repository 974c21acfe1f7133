import Derived.Test.Qxb6604081aModsDig
namespace Go.Proofs.Qxb6604081aMods.Dig
open Go.RowKit

/-- How many of the first k bytes are digits. -/
def cnt (s : ByteArray) (k : Nat) : Nat := (s.data.toList.take k).countP (fun c => isDig (c.toNat : Int))

theorem cnt_zero (s : ByteArray) : cnt s 0 = 0 := by simp [cnt]
theorem cnt_le (s : ByteArray) (k : Nat) : cnt s k ≤ k := by
  unfold cnt
  exact Nat.le_trans List.countP_le_length (List.length_take_le _ _)
theorem cnt_succ (s : ByteArray) (k : Nat) (h : k < s.size) : cnt s (k + 1) = cnt s k + if isDig (s[k].toNat : Int) then 1 else 0 := by
  unfold cnt
  rw [List.take_succ_eq_append_getElem (by simpa using h), List.countP_append]
  have : s.data.toList[k]'(by simpa using h) = s[k] := rfl
  rw [this]
  simp [List.countP_cons]
theorem cnt_all (s : ByteArray) (hne : s.toList.isEmpty = false) : ((cnt s s.size : Int) == (s.size : Int)) = allDig s.data.toList := by
  have e : s.data.toList.take s.size = s.data.toList := List.take_of_length_le (by simp)
  rw [ByteArray.toList_eq] at hne
  unfold cnt allDig
  rw [e, hne]
  have hl : s.size = s.data.toList.length := by simp
  rw [Bool.eq_iff_iff]
  simp only [Bool.not_false, Bool.true_and, beq_iff_eq, List.all_eq_true]
  rw [hl, Int.ofNat_inj, List.countP_eq_length]

set_option maxHeartbeats 400000 in
theorem count_any (s : ByteArray) (w : World) (hs : s.size ≤ maxLen) :
    Calls Trym.prog 20 #[.string s] w fun e w' => e = .returned (.bool (allDig s.data.toList)) ∧ w' = w := by
  unfold maxLen at hs
  go_enter Trym.func20, Trym.ntmps20
  go_wp2
  go_loop [3, 4] (fun n i => ∃ k : Nat, k ≤ s.size ∧ i = .int .i64 k ∧ n = .int .i64 (cnt s k)) (fun _ i => s.size - (intOf i).toNat)
  case atStart => exact ⟨0, Nat.zero_le _, rfl, by rw [cnt_zero]; rfl⟩
  case round =>
    obtain ⟨k, hk, rfl, rfl⟩ := hrel
    have hc := cnt_le s k
    by_cases hlt : k < s.size
    · have HS : Hid (cnt s (k + 1) = cnt s k + if isDig (s[k].toNat : Int) then 1 else 0) := cnt_succ s k hlt
      have hu := s[k].toNat_lt
      by_cases h1 : (s[k].toNat : Int) < 48
      · go_wp2
        go_round
        case rel => exact ⟨k + 1, by omega, by go_num, by rw [HS.out, if_neg (by simp [isDig]; omega)]; rfl⟩
        case measure => simp [intOf]; omega
      · by_cases h2 : (s[k].toNat : Int) ≤ 57
        · go_wp2
          go_round
          case rel => exact ⟨k + 1, by omega, by go_num, by rw [HS.out, if_pos (by simp [isDig]; omega)]; go_num⟩
          case measure => simp [intOf]; omega
        · go_wp2
          go_round
          case rel => exact ⟨k + 1, by omega, by go_num, by rw [HS.out, if_neg (by simp [isDig]; omega)]; rfl⟩
          case measure => simp [intOf]; omega
    · have HK : Hid (k = s.size) := (by omega : k = s.size)
      by_cases h0 : 0 < s.size
      · have hne : s.toList.isEmpty = false := by
          rw [ByteArray.toList_eq, List.isEmpty_eq_false_iff]
          intro h
          have : s.data.toList.length = 0 := by rw [h]; rfl
          have e : s.size = s.data.toList.length := by simp
          omega
        have HC : Hid (((cnt s s.size : Int) == (s.size : Int)) = allDig s.data.toList) := cnt_all s hne
        clear hne
        go_wp2
        go_ret
        exact ⟨ret_bool (by rw [← HC.out, HK.out]), rfl⟩
      · have HC : Hid (allDig s.data.toList = false) := by
          have e : s.size = s.data.toList.length := by simp
          have : s.data.toList = [] := List.eq_nil_of_length_eq_zero (by omega)
          show allDig s.data.toList = false
          rw [this]; rfl
        go_wp2
        go_ret
        exact ⟨ret_bool HC.out.symm, rfl⟩

set_option maxHeartbeats 400000 in
theorem bytes18_any (s : ByteArray) (w : World) (hs : s.size ≤ maxLen) :
    Calls Trym.prog 18 #[.string s] w fun e w' => (∃ b, e = .returned (.bool b)) ∧ w' = w := by
  unfold maxLen at hs
  go_enter Trym.func18, Trym.ntmps18
  go_wp2
  all_goals (go_ret; exact ⟨⟨_, rfl⟩, rfl⟩)

set_option maxHeartbeats 400000 in
theorem law_any (s : ByteArray) (w : World) (hs : s.size ≤ maxLen) :
    Calls Trym.prog 6 #[.string s] w fun e w' => e = .returned (.bool true) ∧ Below w.heap.size w w' := by
  go_enter Trym.func6, Trym.ntmps6
  go_wp2_with (first | (go_at_call 18; refine (bytes18_any _ _ hs).mono ?_; rintro e w' ⟨⟨b, rfl⟩, rfl⟩) | (go_at_call 19; refine (zzAllDigits_any _ _ hs).mono ?_; rintro e w' ⟨rfl, hb⟩) | (go_at_call 20; refine (count_any _ _ hs).mono ?_; rintro e w' ⟨rfl, rfl⟩))
  · go_ret; exact ⟨rfl, Below.refl _ _⟩
  · go_ret; exact ⟨rfl, Below.refl _ _⟩
  · go_ret; exact ⟨ret_bool (by simp), hb⟩

end Go.Proofs.Qxb6604081aMods.Dig
