import Derived.Test.Qxb6604081aModsRows
import Derived.WalkKit
import Derived.WalkSpells
import Derived.WalkLawsBesides
import Derived.Deep.OwnRows
import Derived.Below
namespace Go.Proofs.Qxb6604081aMods.Str
open Go.RowKit

/-- The slice of n strings at address a holds S 0, .., S (n - 1). -/
def StrAt (w : World) (a : Option Addr) (n : Nat) (S : Nat → ByteArray) : Prop :=
  ∀ i, i < n → ∃ b off, a = some ⟨b, off, none⟩ ∧ w.cell? ⟨b, off + i, none⟩ = some (.string (S i))

theorem StrAt.keep {w w' : World} {a : Option Addr} {n : Nat} {S : Nat → ByteArray} (h : StrAt w a n S) (hb : Below w.heap.size w w') : StrAt w' a n S := by
  intro i hi
  obtain ⟨b, off, e, hc⟩ := h i hi
  exact ⟨b, off, e, (hb.cell (World.block_lt_of_cell? _ _ hc)).trans hc⟩

theorem StrAt.drew {w : World} {a : Option Addr} {n : Nat} {S : Nat → ByteArray} (h : StrAt w a n S) : StrAt w.drew a n S := h

theorem StrAt.front {w : World} {a : Option Addr} {n m : Nat} {S : Nat → ByteArray} (h : StrAt w a n S) (hm : m ≤ n) : StrAt w a m S := fun i hi => h i (by omega)

theorem StrAt.of_row {w : World} {g n : Nat} {S : Nat → ByteArray} (h : w.rowIs g 9 n (fun i => .string (S i))) : StrAt w (some ⟨g, 0, none⟩) n S := by
  intro i hi
  refine ⟨g, 0, rfl, ?_⟩
  rw [Nat.zero_add]
  exact h.cell hi

/-- Is x among S 0, .., S (n - 1)? -/
def mem (n : Nat) (S : Nat → ByteArray) (x : ByteArray) : Bool := (List.range n).any (fun i => (S i).toList == x.toList)

theorem bytes_eq {a b : ByteArray} : (a.toList == b.toList) = true ↔ a = b := by
  rw [ByteArray.toList_eq, ByteArray.toList_eq, beq_iff_eq]
  constructor
  · intro h
    obtain ⟨a⟩ := a
    obtain ⟨b⟩ := b
    have : a = b := Array.ext' h
    rw [this]
  · intro h; rw [h]

theorem mem_iff {n : Nat} {S : Nat → ByteArray} {x : ByteArray} : mem n S x = true ↔ ∃ i, i < n ∧ S i = x := by
  unfold mem
  rw [List.any_eq_true]
  constructor
  · rintro ⟨i, hi, h⟩
    exact ⟨i, List.mem_range.1 hi, bytes_eq.1 h⟩
  · rintro ⟨i, hi, h⟩
    exact ⟨i, List.mem_range.2 hi, bytes_eq.2 h⟩

theorem mem_true {n i : Nat} {S : Nat → ByteArray} {x : ByteArray} (hi : i < n) (h : ((S i).toList == x.toList) = true) : mem n S x = true := mem_iff.2 ⟨i, hi, bytes_eq.1 h⟩
theorem mem_false {n : Nat} {S : Nat → ByteArray} {x : ByteArray} (h : ∀ i, i < n → ((S i).toList == x.toList) = false) : mem n S x = false := by
  rw [← Bool.not_eq_true]
  intro hm
  obtain ⟨i, hi, e⟩ := mem_iff.1 hm
  have := h i hi
  rw [bytes_eq.2 e] at this
  cases this

theorem ret_bool {a b : Bool} (h : a = b) : Ending.returned (.bool a) = .returned (.bool b) := by rw [h]

set_option maxHeartbeats 400000 in
theorem listed_any (a : Option Addr) (n cap : Nat) (S : Nat → ByteArray) (x : ByteArray) (w : World) (hn : n ≤ 1048576) (hS : StrAt w a n S) :
    Calls Trym.prog 22 #[.slice a n cap, .string x] w fun e w' => e = .returned (.bool (mem n S x)) ∧ w' = w := by
  go_enter Trym.func22, Trym.ntmps22
  go_wp2
  go_loop [9] (fun i => ∃ k : Nat, k ≤ n ∧ i = .int .i64 k ∧ ∀ j, j < k → ((S j).toList == x.toList) = false) (fun i => n - (intOf i).toNat)
  case atStart => exact ⟨0, Nat.zero_le _, rfl, fun j h => absurd h (by omega)⟩
  case round =>
    obtain ⟨k, hk, rfl, hall⟩ := hrel
    have HA : Hid (∀ j, j < k → ((S j).toList == x.toList) = false) := hall
    clear hall
    by_cases hlt : k < n
    · obtain ⟨b, off, ha, hc⟩ := hS k hlt
      subst ha
      have HS : Hid (StrAt w (some ⟨b, off, none⟩) n S) := hS
      clear hS
      cases hx : ((S k).toList == x.toList) with
      | true =>
        go_wp2
        go_ret
        exact ⟨ret_bool (mem_true hlt hx).symm, rfl⟩
      | false =>
        go_wp2
        go_round
        case rel =>
          refine ⟨k + 1, by omega, by go_num, fun j hj => ?_⟩
          by_cases e : j = k
          · rw [e]; exact hx
          · exact HA.out j (by omega)
        case measure => simp [intOf]; omega
    · clear hS
      go_wp2
      go_ret
      exact ⟨ret_bool (mem_false (fun i hi => HA.out i (by omega))).symm, rfl⟩

theorem zzListed_any (a : Option Addr) (n cap : Nat) (S : Nat → ByteArray) (x : ByteArray) (w : World) (hn : n ≤ 1048576) (hS : StrAt w a n S) :
    Calls Trym.prog 11 #[.slice a n cap, .string x] w fun e w' => e = .returned (.bool (mem n S x)) ∧ w' = w := by
  go_enter Trym.func11, Trym.ntmps11
  go_wp2_with (go_at_call 22; refine (listed_any _ _ _ S _ _ hn hS).mono ?_; rintro e w' ⟨rfl, rfl⟩)
  go_ret
  exact ⟨rfl, rfl⟩

/-- What b1StrBytes answers is small. -/
theorem strBytes_any (a : Option Addr) (n cap : Nat) (S : Nat → ByteArray) (w : World) (hn : n ≤ 1048576) (hS : StrAt w a n S) :
    Calls Trym.prog 9 #[.slice a n cap] w fun e w' => (∃ r : Int, e = .returned (.int .i64 r) ∧ 0 ≤ r ∧ r ≤ 4194304) ∧ w' = w := by
  go_enter Trym.func9, Trym.ntmps9
  go_wp2
  go_loop [3, 4] (fun t i => ∃ (k : Nat) (r : Int), k ≤ n ∧ i = .int .i64 k ∧ t = .int .i64 r ∧ 0 ≤ r ∧ r ≤ 1048576) (fun _ i => n - (intOf i).toNat)
  case atStart => exact ⟨0, 0, Nat.zero_le _, rfl, rfl, by omega, by omega⟩
  case round =>
    obtain ⟨k, r, hk, rfl, rfl, hr0, hr1⟩ := hrel
    by_cases hlt : k < n
    · obtain ⟨b, off, ha, hc⟩ := hS k hlt
      subst ha
      clear hS
      by_cases h1 : (1048576 : Int) < ((S k).size : Int)
      · go_wp2
        go_ret
        exact ⟨⟨_, rfl, by omega, by omega⟩, rfl⟩
      · by_cases h2 : (1048576 : Int) < r + 16 + ((S k).size : Int)
        · go_wp2
          go_ret
          exact ⟨⟨_, rfl, by omega, by omega⟩, rfl⟩
        · go_wp2
          go_round
          case rel => exact ⟨k + 1, r + 16 + ((S k).size : Int), by omega, by go_num, rfl, by omega, by omega⟩
          case measure => simp [intOf]; omega
    · clear hS
      go_wp2
      go_ret
      exact ⟨⟨_, rfl, by omega, by omega⟩, rfl⟩

end Go.Proofs.Qxb6604081aMods.Str
