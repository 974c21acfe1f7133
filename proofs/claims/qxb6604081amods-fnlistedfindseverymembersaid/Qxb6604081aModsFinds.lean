import Derived.Test.Qxb6604081aModsSizes
import Derived.Test.Qxb6604081aModsClone
import Derived.Deep.QuietTactic
import Derived.BigQuiet
import Derived.Deep.RegionWith
namespace Go.Proofs.Qxb6604081aMods.Str
open Go.RowKit

theorem zz_true (a : Option Addr) (n cap : Nat) (S : Nat → ByteArray) (x : ByteArray) (w : World) (hn : n ≤ 1048576) (hS : StrAt w a n S) (h : mem n S x = true) :
    Calls Trym.prog 11 #[.slice a n cap, .string x] w fun e w' => e = .returned (.bool true) ∧ w' = w := by
  rw [← h]; exact zzListed_any a n cap S x w hn hS

/-- 'names[:k+1]'. -/
theorem slice_front (a : Option Addr) (n k : Nat) (hk : k < n) (wx : World) : (Instr.slice 22 (.slice a n n) none (some (.int .i64 ((k : Int) + 1))) none).run Trym.prog wx = .ok (.slice a (k + 1) n) wx := by
  have he : Trym.prog.elem 22 = 9 := by kernel_rfl
  have hu : Trym.prog.underlying 22 = some (.slice (Trym.prog.elem 22)) := by rw [he]; exact Trym.underlying22
  have hs : (sizeOf 9).run Trym.prog wx = .ok 1 wx := by simp [go_sem]
  rw [run_slice_h wx 22 a n n hu .i64 ((k : Int) + 1) (by omega) (by omega), he, hs]
  have e : ((k : Int) + 1).toNat = k + 1 := by omega
  cases a <;> simp [sliced, e, Result.andThen, Addr.add]

theorem StrAt.drewN {w : World} {a : Option Addr} {n : Nat} {S : Nat → ByteArray} (h : StrAt w a n S) (m : Nat) : StrAt (w.drewN m) a n S := h

set_option maxHeartbeats 400000 in
theorem finds_any (a : Option Addr) (n cap : Nat) (S : Nat → ByteArray) (x : Int) (w : World) (hn : n ≤ maxLen) (hS : StrAt w a n S) :
    Calls Trym.prog 4 #[.slice a n cap, .int .i64 x] w fun e w' => e = .returned (.bool true) ∧ Below w.heap.size w w' := by
  have hn' := hn
  unfold maxLen at hn
  by_cases hbig : (65536 : Int) < (n : Int)
  · go_enter Trym.func4, Trym.ntmps4
    go_wp2_with (go_at_call 14; refine (bytes14_any _ _ _ S _ _ hn' hS).mono ?_; rintro e w' ⟨⟨b, rfl⟩, rfl⟩)
    all_goals (go_ret; exact ⟨rfl, Below.refl _ _⟩)
  · by_cases hx : x < 0 ∨ (n : Int) ≤ x
    · have h0 : x < 0 ∨ ¬ x < 0 := by omega
      rcases h0 with h0 | h0
      · go_enter Trym.func4, Trym.ntmps4
        go_wp2_with (first | (go_at_call 14; refine (bytes14_any _ _ _ S _ _ hn' hS).mono ?_; rintro e w' ⟨⟨b, rfl⟩, rfl⟩) | (go_at_call 9; refine (strBytes_any _ _ _ S _ (by omega) hS).mono ?_; rintro e w' ⟨⟨r, rfl, hr0, hr1⟩, rfl⟩))
        all_goals (go_ret; exact ⟨rfl, Below.refl _ _⟩)
      · have h1 : (n : Int) ≤ x := by omega
        clear hx
        go_enter Trym.func4, Trym.ntmps4
        go_wp2_with (first | (go_at_call 14; refine (bytes14_any _ _ _ S _ _ hn' hS).mono ?_; rintro e w' ⟨⟨b, rfl⟩, rfl⟩) | (go_at_call 9; refine (strBytes_any _ _ _ S _ (by omega) hS).mono ?_; rintro e w' ⟨⟨r, rfl, hr0, hr1⟩, rfl⟩))
        all_goals (go_ret; exact ⟨rfl, Below.refl _ _⟩)
    · obtain ⟨k, rfl⟩ : ∃ k : Nat, x = k := ⟨x.toNat, by omega⟩
      have hk : k < n := by omega
      clear hx
      go_enter Trym.func4, Trym.ntmps4
      go_wp2_with (first | (go_at_call 14; refine (bytes14_any _ _ _ S _ _ hn' hS).mono ?_; rintro e w' ⟨⟨b, rfl⟩, rfl⟩) | (go_at_call 9; refine (strBytes_any _ _ _ S _ (by omega) hS).mono ?_; rintro e w' ⟨⟨r, rfl, hr0, hr1⟩, rfl⟩) | (go_at_call 10; refine (clone_any _ _ _ S _ (by omega) hS).mono ?_; rintro e w' ⟨⟨a', rfl, hS'⟩, hb⟩))
      · go_ret; exact ⟨rfl, Below.refl _ _⟩
      · go_ret; exact ⟨rfl, Below.refl _ _⟩
      · obtain ⟨b2, off, ha, hc⟩ := hS' k hk
        subst ha
        have hsl := slice_front (some ⟨b2, off, none⟩) n k hk
        have HM1 : Hid (mem n S (S k) = true) := mem_iff.2 ⟨k, hk, rfl⟩
        have HM2 : Hid (mem (k + 1) S (S k) = true) := mem_iff.2 ⟨k, by omega, rfl⟩
        have HS1 : Hid (StrAt w' (some ⟨b2, off, none⟩) n S) := hS'
        clear hS hS'
        have hki : (k : Int) < (n : Int) := by omega
        have hwr : IntKind.i64.wrap ((k : Int) + 1) = (k : Int) + 1 := IntWalk.i64_in _ ⟨by omega, by omega⟩
        go_quiet (first
          | (go_at_call_of 11 (Value.slice (some ⟨b2, off, none⟩) n n); refine Calls.quiet_of_same (zz_true _ _ _ S _ _ ?_ ?_ HM1.out); omega; exact HS1.out.drewN _)
          | (go_at_call 11; refine Calls.quiet_of_same (zz_true _ _ _ S _ _ ?_ ?_ HM2.out); omega; exact (HS1.out.front (by omega)).drewN _))
        go_wp2
        go_ret
        exact ⟨rfl, below_drewN hb _⟩
end Go.Proofs.Qxb6604081aMods.Str
