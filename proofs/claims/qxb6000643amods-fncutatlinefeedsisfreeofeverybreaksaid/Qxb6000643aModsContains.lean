import Derived.Test.Qxb6000643aModsCut
import Derived.Deep.QuietTactic
import Derived.BigQuiet
namespace Go.Proofs.Qxb6000643aMods.Byt
open Go.RowKit

/-- Do the m bytes Q stand somewhere in the n bytes L? -/
def has (n : Nat) (L : Nat → Int) (m : Nat) (Q : Nat → Int) : Bool := (List.range (n + 1 - m)).any (fun i => eqB m (fun j => L (i + j)) Q)

theorem has_true {n m i : Nat} {L Q : Nat → Int} (hi : i + m ≤ n) (h : ∀ j, j < m → L (i + j) = Q j) : has n L m Q = true := by
  unfold has
  rw [List.any_eq_true]
  exact ⟨i, List.mem_range.2 (by omega), eqB_iff.2 h⟩

theorem has_false {n m : Nat} {L Q : Nat → Int} (h : ∀ i, i + m ≤ n → ∃ j, j < m ∧ L (i + j) ≠ Q j) : has n L m Q = false := by
  unfold has
  rw [List.any_eq_false]
  intro i hi
  rw [Bool.not_eq_true, ← Bool.not_eq_true, eqB_iff]
  intro hall
  obtain ⟨j, hj, hne⟩ := h i (by have := List.mem_range.1 hi; omega)
  exact hne (hall j hj)

set_option maxRecDepth 100000 in
set_option maxHeartbeats 1000000 in
theorem contains_any (a a2 : Option Addr) (n m : Nat) (c c2 : Nat) (L Q : Nat → Int) (w : World) (hn : n ≤ 1048576) (hm : m ≤ 8) (hm0 : 0 < m) (hL : ByteAt w a n L) (hQ : ByteAt w a2 m Q) :
    Calls Trym.prog 33 #[.slice a n c, .slice a2 m c2] w fun e w' => e = .returned (.bool (has n L m Q)) ∧ Hid (∃ d, w' = w.drewN d) := by
  have HL : Hid (ByteAt w a n L) := hL
  have HQ : Hid (ByteAt w a2 m Q) := hQ
  clear hL hQ
  go_enter Trym.func33, Trym.ntmps33
  go_wp2
  go_loopw [5] (fun vi wq => ∃ i : Nat, vi = .int .i64 i ∧ i ≤ n + 1 ∧ Hid (∀ t, t < i → t + m ≤ n → ∃ j, j < m ∧ L (t + j) ≠ Q j) ∧ Hid (∃ d, wq = w.drewN d)) (fun vi _ => n + 1 - (intOf vi).toNat)
  case atStart => exact ⟨0, rfl, by omega, fun t h => absurd h (by omega), 0, rfl⟩
  case round =>
    obtain ⟨i, rfl, hi, HF, HW⟩ := hrel
    obtain ⟨d, rfl⟩ := HW.out
    clear HW
    by_cases hlt : i + m ≤ n
    · go_wp2
      go_loopw [6] (fun vj wq => ∃ j : Nat, vj = .int .i64 j ∧ j ≤ m ∧ Hid (∀ t, t < j → L (i + t) = Q t) ∧ Hid (∃ d, wq = w.drewN d)) (fun vj _ => m - (intOf vj).toNat)
      case atStart => exact ⟨0, rfl, by omega, fun t h => absurd h (by omega), d, rfl⟩
      case round =>
        obtain ⟨j, rfl, hj, HE, HW⟩ := hrel
        obtain ⟨d2, rfl⟩ := HW.out
        clear HW
        by_cases hjm : j < m
        · obtain ⟨p, hp⟩ : ∃ p, p = i + j := ⟨_, rfl⟩
          have hwr : IntKind.i64.wrap ((i : Int) + (j : Int)) = (p : Int) := by
            rw [IntWalk.i64_in _ ⟨by omega, by omega⟩, hp]; omega
          have hpn : (p : Int) < (n : Int) := by omega
          have hjk : (j : Int) < (m : Int) := by omega
          obtain ⟨b, off, ha, hc⟩ := HL.out p (by omega)
          obtain ⟨b2, off2, ha2, hc2⟩ := HQ.out j hjm
          subst ha
          subst ha2
          have HP : Hid (p = i + j) := hp
          clear hp
          cases he : (L p == Q j) with
          | true =>
            have HE2 : Hid (∀ t, t < j + 1 → L (i + t) = Q t) := by
              intro t ht
              by_cases e : t = j
              · rw [e, ← HP.out]; simpa using he
              · exact HE.out t (by omega)
            go_wp2
            go_quiet (fail)
            go_wp2
            go_roundw
            case rel => exact ⟨j + 1, by go_num, by omega, HE2, _, rfl⟩
            case measure => simp [intOf]; omega
          | false =>
            have HN : Hid (∀ t, t < i + 1 → t + m ≤ n → ∃ j, j < m ∧ L (t + j) ≠ Q j) := by
              intro t ht htm
              by_cases e : t = i
              · refine ⟨j, hjm, ?_⟩
                rw [e, ← HP.out]; simpa using he
              · exact HF.out t (by omega) htm
            go_wp2
            go_quiet (fail)
            go_wp2
            go_roundw
            case rel => exact ⟨i + 1, by go_num, by omega, HN, _, rfl⟩
            case measure => simp [intOf]; omega
        · have hd : decide ((j : Int) < (m : Int)) = false := decide_eq_false (by omega)
          have HT : Hid (has n L m Q = true) := has_true hlt (fun t ht => HE.out t (by omega))
          go_wp2
          go_quiet (fail)
          go_wp2
          go_ret
          exact ⟨ret_bool HT.out.symm, _, rfl⟩
    · have HT : Hid (has n L m Q = false) := has_false (fun t ht => HF.out t (by omega) ht)
      go_wp2
      go_ret
      exact ⟨ret_bool HT.out.symm, d, rfl⟩

end Go.Proofs.Qxb6000643aMods.Byt
