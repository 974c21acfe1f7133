import Derived.Test.Qxb6604081aModsStrs
namespace Go.Proofs.Qxb6604081aMods.Str
open Go.RowKit

/-- It returns a bool. -/
def IsBool (e : Ending) : Prop := ∃ b, e = .returned (.bool b)
theorem isBool (b : Bool) : IsBool (.returned (.bool b)) := ⟨b, rfl⟩

set_option maxHeartbeats 400000 in
theorem bytes14_any (a : Option Addr) (n cap : Nat) (S : Nat → ByteArray) (x : Int) (w : World) (hn : n ≤ maxLen) (hS : StrAt w a n S) :
    Calls Trym.prog 14 #[.slice a n cap, .int .i64 x] w fun e w' => IsBool e ∧ w' = w := by
  unfold maxLen at hn
  by_cases hbig : (1048576 : Int) < (n : Int)
  · go_enter Trym.func14, Trym.ntmps14
    go_wp2
    go_ret
    exact ⟨isBool _, rfl⟩
  · go_enter Trym.func14, Trym.ntmps14
    go_wp2
    go_loop [5, 6] (fun t i => ∃ (k : Nat) (r : Int), k ≤ n ∧ i = .int .i64 k ∧ t = .int .i64 r ∧ 0 ≤ r ∧ r ≤ 1048576) (fun _ i => n - (intOf i).toNat)
    case atStart => exact ⟨0, n, Nat.zero_le _, rfl, rfl, by omega, by omega⟩
    case round =>
      obtain ⟨k, r, hk, rfl, rfl, hr0, hr1⟩ := hrel
      by_cases hlt : k < n
      · obtain ⟨b, off, ha, hc⟩ := hS k hlt
        subst ha
        clear hS
        by_cases h1 : (1048576 : Int) < ((S k).size : Int)
        · go_wp2
          go_ret
          exact ⟨isBool _, rfl⟩
        · by_cases h2 : (1048576 : Int) < r + ((S k).size : Int)
          · go_wp2
            go_ret
            exact ⟨isBool _, rfl⟩
          · go_wp2
            go_round
            case rel => exact ⟨k + 1, r + ((S k).size : Int), by omega, by go_num, rfl, by omega, by omega⟩
            case measure => simp [intOf]; omega
      · clear hS
        go_wp2
        go_ret
        exact ⟨isBool _, rfl⟩

set_option maxHeartbeats 400000 in
theorem bytes8_any (a : Option Addr) (n cap : Nat) (S : Nat → ByteArray) (x : ByteArray) (w : World) (hn : n ≤ maxLen) (hS : StrAt w a n S) :
    Calls Trym.prog 8 #[.slice a n cap, .string x] w fun e w' => IsBool e ∧ w' = w := by
  unfold maxLen at hn
  by_cases hbig : (1048576 : Int) < (n : Int)
  · go_enter Trym.func8, Trym.ntmps8
    go_wp2
    go_ret
    exact ⟨isBool _, rfl⟩
  · go_enter Trym.func8, Trym.ntmps8
    go_wp2
    go_loop [5, 6] (fun t i => ∃ (k : Nat) (r : Int), k ≤ n ∧ i = .int .i64 k ∧ t = .int .i64 r ∧ 0 ≤ r ∧ r ≤ 1048576) (fun _ i => n - (intOf i).toNat)
    case atStart => exact ⟨0, n, Nat.zero_le _, rfl, rfl, by omega, by omega⟩
    case round =>
      obtain ⟨k, r, hk, rfl, rfl, hr0, hr1⟩ := hrel
      by_cases hlt : k < n
      · obtain ⟨b, off, ha, hc⟩ := hS k hlt
        subst ha
        clear hS
        by_cases h1 : (1048576 : Int) < ((S k).size : Int)
        · go_wp2
          go_ret
          exact ⟨isBool _, rfl⟩
        · by_cases h2 : (1048576 : Int) < r + ((S k).size : Int)
          · go_wp2
            go_ret
            exact ⟨isBool _, rfl⟩
          · go_wp2
            go_round
            case rel => exact ⟨k + 1, r + ((S k).size : Int), by omega, by go_num, rfl, by omega, by omega⟩
            case measure => simp [intOf]; omega
      · clear hS
        by_cases h3 : (1048576 : Int) < (x.size : Int)
        · go_wp2
          go_ret
          exact ⟨isBool _, rfl⟩
        · by_cases h4 : (1048576 : Int) < r + (x.size : Int)
          · go_wp2
            go_ret
            exact ⟨isBool _, rfl⟩
          · go_wp2
            go_ret
            exact ⟨isBool _, rfl⟩

set_option maxHeartbeats 800000 in
theorem bytes15_any (a : Option Addr) (n cap : Nat) (S : Nat → ByteArray) (a2 : Option Addr) (m cap2 : Nat) (T : Nat → ByteArray) (w : World) (hn : n ≤ maxLen) (hm : m ≤ maxLen) (hS : StrAt w a n S) (hT : StrAt w a2 m T) :
    Calls Trym.prog 15 #[.slice a n cap, .slice a2 m cap2] w fun e w' => IsBool e ∧ w' = w := by
  unfold maxLen at hn hm
  by_cases hbig : (1048576 : Int) < (n : Int)
  · go_enter Trym.func15, Trym.ntmps15
    go_wp2
    go_ret
    exact ⟨isBool _, rfl⟩
  · go_enter Trym.func15, Trym.ntmps15
    go_wp2
    go_loop [5, 6] (fun t i => ∃ (k : Nat) (r : Int), k ≤ n ∧ i = .int .i64 k ∧ t = .int .i64 r ∧ 0 ≤ r ∧ r ≤ 1048576) (fun _ i => n - (intOf i).toNat)
    case atStart => exact ⟨0, n, Nat.zero_le _, rfl, rfl, by omega, by omega⟩
    case round =>
      obtain ⟨k, r, hk, rfl, rfl, hr0, hr1⟩ := hrel
      by_cases hlt : k < n
      · obtain ⟨b, off, ha, hc⟩ := hS k hlt
        subst ha
        clear hS hT
        by_cases h1 : (1048576 : Int) < ((S k).size : Int)
        · go_wp2
          go_ret
          exact ⟨isBool _, rfl⟩
        · by_cases h2 : (1048576 : Int) < r + ((S k).size : Int)
          · go_wp2
            go_ret
            exact ⟨isBool _, rfl⟩
          · go_wp2
            go_round
            case rel => exact ⟨k + 1, r + ((S k).size : Int), by omega, by go_num, rfl, by omega, by omega⟩
            case measure => simp [intOf]; omega
      · clear hS
        by_cases h3 : (1048576 : Int) < (m : Int)
        · clear hT
          go_wp2
          go_ret
          exact ⟨isBool _, rfl⟩
        · by_cases h4 : (1048576 : Int) < r + (m : Int)
          · clear hT
            go_wp2
            go_ret
            exact ⟨isBool _, rfl⟩
          · go_wp2
            go_loop [5, 7] (fun t i => ∃ (k : Nat) (r : Int), k ≤ m ∧ i = .int .i64 k ∧ t = .int .i64 r ∧ 0 ≤ r ∧ r ≤ 1048576) (fun _ i => m - (intOf i).toNat)
            case atStart => exact ⟨0, r + m, Nat.zero_le _, rfl, rfl, by omega, by omega⟩
            case round =>
              obtain ⟨k, q, hk, rfl, rfl, hq0, hq1⟩ := hrel
              by_cases hlt : k < m
              · obtain ⟨b, off, ha, hc⟩ := hT k hlt
                subst ha
                clear hT
                by_cases h1 : (1048576 : Int) < ((T k).size : Int)
                · go_wp2
                  go_ret
                  exact ⟨isBool _, rfl⟩
                · by_cases h2 : (1048576 : Int) < q + ((T k).size : Int)
                  · go_wp2
                    go_ret
                    exact ⟨isBool _, rfl⟩
                  · go_wp2
                    go_round
                    case rel => exact ⟨k + 1, q + ((T k).size : Int), by omega, by go_num, rfl, by omega, by omega⟩
                    case measure => simp [intOf]; omega
              · clear hT
                go_wp2
                go_ret
                exact ⟨isBool _, rfl⟩

end Go.Proofs.Qxb6604081aMods.Str
