import Derived.Test.Qxb6604081aModsHas
namespace Go.Proofs.Qxb6604081aMods.Str
open Go.RowKit

/-- Do the two lists share a string? -/
def meets (n : Nat) (S : Nat → ByteArray) (m : Nat) (T : Nat → ByteArray) : Bool := (List.range n).any (fun i => mem m T (S i))

theorem meets_iff {n m : Nat} {S T : Nat → ByteArray} : meets n S m T = true ↔ ∃ i j, i < n ∧ j < m ∧ T j = S i := by
  unfold meets
  rw [List.any_eq_true]
  constructor
  · rintro ⟨i, hi, h⟩
    obtain ⟨j, hj, e⟩ := mem_iff.1 h
    exact ⟨i, j, List.mem_range.1 hi, hj, e⟩
  · rintro ⟨i, j, hi, hj, e⟩
    exact ⟨i, List.mem_range.2 hi, mem_iff.2 ⟨j, hj, e⟩⟩

theorem meets_true {n m i : Nat} {S T : Nat → ByteArray} (hi : i < n) (h : mem m T (S i) = true) : meets n S m T = true := by
  obtain ⟨j, hj, e⟩ := mem_iff.1 h
  exact meets_iff.2 ⟨i, j, hi, hj, e⟩

theorem meets_false {n m : Nat} {S T : Nat → ByteArray} (h : ∀ i, i < n → mem m T (S i) = false) : meets n S m T = false := by
  rw [← Bool.not_eq_true, meets_iff]
  rintro ⟨i, j, hi, hj, e⟩
  have h2 := h i hi
  rw [mem_iff.2 ⟨j, hj, e⟩] at h2
  cases h2

theorem meets_same {n m : Nat} {S S' T T' : Nat → ByteArray} (h : Same n S S') (k : Same m T T') : meets n S m T = meets n S' m T' := by
  rw [Bool.eq_iff_iff, meets_iff, meets_iff]
  constructor
  · rintro ⟨i, j, hi, hj, e⟩
    obtain ⟨p, hp, e1⟩ := h.1 i hi
    obtain ⟨q, hq, e2⟩ := k.1 j hj
    exact ⟨p, q, hp, hq, by rw [← e1, ← e2, e]⟩
  · rintro ⟨i, j, hi, hj, e⟩
    obtain ⟨p, hp, e1⟩ := h.2 i hi
    obtain ⟨q, hq, e2⟩ := k.2 j hj
    exact ⟨p, q, hp, hq, by rw [e1, e2, e]⟩

set_option maxHeartbeats 400000 in
theorem carriesAny_any (a : Option Addr) (n cap : Nat) (S : Nat → ByteArray) (a2 : Option Addr) (m cap2 : Nat) (T : Nat → ByteArray) (w : World) (hn : n ≤ 1048576) (hm : m ≤ 1048576) (hS : StrAt w a n S) (hT : StrAt w a2 m T) :
    Calls Trym.prog 23 #[.slice a n cap, .slice a2 m cap2] w fun e w' => e = .returned (.bool (meets n S m T)) ∧ w' = w := by
  have HT : Hid (StrAt w a2 m T) := hT
  clear hT
  go_enter Trym.func23, Trym.ntmps23
  go_wp2
  go_loop [9] (fun i => ∃ k : Nat, k ≤ n ∧ i = .int .i64 k ∧ Hid (∀ j, j < k → mem m T (S j) = false)) (fun i => n - (intOf i).toNat)
  case atStart => exact ⟨0, Nat.zero_le _, rfl, fun j h => absurd h (by omega)⟩
  case round =>
    obtain ⟨k, hk, rfl, HA⟩ := hrel
    by_cases hlt : k < n
    · obtain ⟨b, off, ha, hc⟩ := hS k hlt
      subst ha
      clear hS
      go_wp2_with fail
      cases hx : mem m T (S k) with
      | true =>
        have hl := listed_any a2 m cap2 T (S k) w hm HT.out
        rw [hx] at hl
        have HX : Hid (mem m T (S k) = true) := hx
        clear hx
        refine hl.mono ?_
        clear hl
        rintro e w' ⟨rfl, rfl⟩
        go_wp2_with fail
        go_ret
        exact ⟨ret_bool (meets_true hlt HX.out).symm, rfl⟩
      | false =>
        have hl := listed_any a2 m cap2 T (S k) w hm HT.out
        rw [hx] at hl
        have HX : Hid (mem m T (S k) = false) := hx
        clear hx
        refine hl.mono ?_
        clear hl
        rintro e w' ⟨rfl, rfl⟩
        go_wp2_with fail
        go_round
        case rel =>
          refine ⟨k + 1, by omega, by go_num, fun j hj => ?_⟩
          by_cases e : j = k
          · rw [e]; exact HX.out
          · exact HA.out j (by omega)
        case measure => simp [intOf]; omega
    · clear hS
      go_wp2
      go_ret
      exact ⟨ret_bool (meets_false (fun i hi => HA.out i (by omega))).symm, rfl⟩

theorem zzCarriesAny_any (a : Option Addr) (n cap : Nat) (S : Nat → ByteArray) (a2 : Option Addr) (m cap2 : Nat) (T : Nat → ByteArray) (w : World) (hn : n ≤ 1048576) (hm : m ≤ 1048576) (hS : StrAt w a n S) (hT : StrAt w a2 m T) :
    Calls Trym.prog 16 #[.slice a n cap, .slice a2 m cap2] w fun e w' => e = .returned (.bool (meets n S m T)) ∧ w' = w := by
  go_enter Trym.func16, Trym.ntmps16
  go_wp2_with (go_at_call 23; refine (carriesAny_any _ _ _ S _ _ _ T _ hn hm hS hT).mono ?_; rintro e w' ⟨rfl, rfl⟩)
  go_ret
  exact ⟨rfl, rfl⟩

/-- No string below i of S is met, nor one below j of T. -/
def Apart (n m : Nat) (S T : Nat → ByteArray) (i j : Nat) : Prop := ∀ p q, p < n → q < m → p < i ∨ q < j → T q ≠ S p

theorem Apart.left {n m i j : Nat} {S T : Nat → ByteArray} (h : Apart n m S T i j) (hT : Sorted m T) (hl : Op.bytesLess (S i).toList (T j).toList = true) : Apart n m S T (i + 1) j := by
  intro p q hp hq hpq
  by_cases hd : p < i ∨ q < j
  · exact h p q hp hq hd
  · have e : p = i := by omega
    subst e
    intro heq
    have k := hT j q (by omega) hq
    rw [heq] at k
    rw [not_lss_of_le k] at hl
    cases hl

theorem Apart.right {n m i j : Nat} {S T : Nat → ByteArray} (h : Apart n m S T i j) (hS : Sorted n S) (hl : Op.bytesLess (S i).toList (T j).toList = false) (hne : ((S i).toList == (T j).toList) = false) : Apart n m S T i (j + 1) := by
  intro p q hp hq hpq
  by_cases hd : p < i ∨ q < j
  · exact h p q hp hq hd
  · have e : q = j := by omega
    subst e
    intro heq
    have k := hS i p (by omega) hp
    rw [← heq] at k
    have e2 := eq_of_le k (le_of_not_lss hl)
    rw [bytes_eq.2 e2] at hne
    cases hne

theorem Apart.done {n m i j : Nat} {S T : Nat → ByteArray} (h : Apart n m S T i j) (hd : n ≤ i ∨ m ≤ j) : meets n S m T = false := by
  rw [← Bool.not_eq_true, meets_iff]
  rintro ⟨p, q, hp, hq, e⟩
  exact h p q hp hq (by omega) e

set_option maxHeartbeats 800000 in
theorem sortedMeet_any (a : Option Addr) (n cap : Nat) (S : Nat → ByteArray) (a2 : Option Addr) (m cap2 : Nat) (T : Nat → ByteArray) (w : World) (hn : n ≤ 1048576) (hm : m ≤ 1048576) (hS : StrAt w a n S) (hT : StrAt w a2 m T) (hso : Sorted n S) (hto : Sorted m T) :
    Calls Trym.prog 17 #[.slice a n cap, .slice a2 m cap2] w fun e w' => e = .returned (.bool (meets n S m T)) ∧ Hid (∃ d, w' = w.drewN d) := by
  have HSO : Hid (Sorted n S) := hso
  have HTO : Hid (Sorted m T) := hto
  clear hso hto
  go_enter Trym.func17, Trym.ntmps17
  go_wp2
  go_loopw [5, 6] (fun vi vj wq => ∃ i j : Nat, vi = .int .i64 i ∧ vj = .int .i64 j ∧ i ≤ n ∧ j ≤ m ∧ Hid (Apart n m S T i j) ∧ Hid (∃ d, wq = w.drewN d)) (fun vi vj _ => (n - (intOf vi).toNat) + (m - (intOf vj).toNat))
  case atStart => exact ⟨0, 0, rfl, rfl, by omega, by omega, fun p q _ _ h => absurd h (by omega), 0, rfl⟩
  case round =>
    obtain ⟨i, j, rfl, rfl, hi, hj, HA, HW⟩ := hrel
    obtain ⟨d, rfl⟩ := HW.out
    clear HW
    by_cases hi1 : i < n
    · by_cases hj1 : j < m
      · obtain ⟨b, off, ha, hc⟩ := hS i hi1
        obtain ⟨b2, off2, ha2, hc2⟩ := hT j hj1
        subst ha
        subst ha2
        clear hS hT
        have hik : (i : Int) < (n : Int) := by omega
        have hjk : (j : Int) < (m : Int) := by omega
        cases hx : ((S i).toList == (T j).toList) with
        | true =>
          have HE : Hid (meets n S m T = true) := meets_iff.2 ⟨i, j, hi1, hj1, (bytes_eq.1 hx).symm⟩
          go_wp2
          go_quiet (fail)
          go_wp2
          go_ret
          exact ⟨ret_bool HE.out.symm, d + nq, by rw [World.drewN_drewN]⟩
        | false =>
          cases hl : Op.bytesLess (S i).toList (T j).toList with
          | true =>
            have HA2 : Hid (Apart n m S T (i + 1) j) := HA.out.left HTO.out hl
            go_wp2
            go_quiet (fail)
            go_wp2
            go_quiet (fail)
            go_wp2
            go_roundw
            case rel => exact ⟨i + 1, j, by go_num, rfl, by omega, by omega, HA2, _, rfl⟩
            case measure => simp [intOf]; omega
          | false =>
            have HA2 : Hid (Apart n m S T i (j + 1)) := HA.out.right HSO.out hl hx
            go_wp2
            go_quiet (fail)
            go_wp2
            go_quiet (fail)
            go_wp2
            go_roundw
            case rel => exact ⟨i, j + 1, rfl, by go_num, by omega, by omega, HA2, _, rfl⟩
            case measure => simp [intOf]; omega
      · have HE : Hid (meets n S m T = false) := HA.out.done (by omega)
        clear hS hT
        go_wp2
        go_ret
        exact ⟨ret_bool HE.out.symm, _, rfl⟩
    · have HE : Hid (meets n S m T = false) := HA.out.done (by omega)
      clear hS hT
      go_wp2
      go_ret
      exact ⟨ret_bool HE.out.symm, _, rfl⟩

end Go.Proofs.Qxb6604081aMods.Str
