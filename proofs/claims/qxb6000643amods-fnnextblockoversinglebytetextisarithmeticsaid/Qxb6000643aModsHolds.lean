import Derived.Test.Qxb6000643aModsOct
namespace Go.Proofs.Qxb6000643aMods.Byt
open Go.RowKit

theorem zzNext_any (off l b : Int) (a : Option Addr) (n cap : Nat) (L : Nat → Int) (w : World) (hb0 : 0 ≤ b) (hbo : b ≤ off) (ho : off ≤ 1099511627776) (hn : n ≤ 1048576) (hL : ByteAt w a n L) :
    Calls Trym.prog 16 #[.int .i64 off, .int .i64 l, .int .i64 b, .slice a n cap] w fun e w' => NextIs off b n L e ∧ Below w.heap.size w w' := by
  go_enter Trym.func16, Trym.ntmps16
  go_wp2_with (go_at_call 31; refine (next_any _ _ _ _ _ _ L _ hb0 hbo ho hn hL).mono ?_; rintro e w' ⟨⟨r, rfl, hr⟩, hb⟩)
  go_ret
  exact ⟨⟨r, rfl, hr⟩, hb⟩

set_option maxHeartbeats 1000000 in
theorem holds_any (off b : Int) (a : Option Addr) (n cap : Nat) (L : Nat → Int) (x : Int) (w : World) (hn : n ≤ maxLen) (hL : ByteAt w a n L) :
    Calls Trym.prog 4 #[.int .i64 off, .int .i64 b, .slice a n cap, .int .i64 x] w fun e w' => e = .returned (.bool true) ∧ Below w.heap.size w w' := by
  have hn' := hn
  unfold maxLen at hn
  have HL : Hid (ByteAt w a n L) := hL
  clear hL
  by_cases hbig : (1048576 : Int) < (n : Int)
  · go_enter Trym.func4, Trym.ntmps4
    go_wp2_with (go_at_call 17; refine (bytes17_any _ _ _ _ _ _ _ hn').mono ?_; rintro e w' ⟨⟨bb, rfl⟩, rfl⟩)
    all_goals (go_ret; exact ⟨rfl, Below.refl _ _⟩)
  by_cases ho0 : off < 0
  · go_enter Trym.func4, Trym.ntmps4
    go_wp2_with (go_at_call 17; refine (bytes17_any _ _ _ _ _ _ _ hn').mono ?_; rintro e w' ⟨⟨bb, rfl⟩, rfl⟩)
    all_goals (go_ret; exact ⟨rfl, Below.refl _ _⟩)
  by_cases ho1 : (1099511627776 : Int) < off
  · go_enter Trym.func4, Trym.ntmps4
    go_wp2_with (go_at_call 17; refine (bytes17_any _ _ _ _ _ _ _ hn').mono ?_; rintro e w' ⟨⟨bb, rfl⟩, rfl⟩)
    all_goals (go_ret; exact ⟨rfl, Below.refl _ _⟩)
  by_cases hb0 : b < 0
  · go_enter Trym.func4, Trym.ntmps4
    go_wp2_with (go_at_call 17; refine (bytes17_any _ _ _ _ _ _ _ hn').mono ?_; rintro e w' ⟨⟨bb, rfl⟩, rfl⟩)
    all_goals (go_ret; exact ⟨rfl, Below.refl _ _⟩)
  by_cases hb1 : off < b
  · go_enter Trym.func4, Trym.ntmps4
    go_wp2_with (go_at_call 17; refine (bytes17_any _ _ _ _ _ _ _ hn').mono ?_; rintro e w' ⟨⟨bb, rfl⟩, rfl⟩)
    all_goals (go_ret; exact ⟨rfl, Below.refl _ _⟩)
  by_cases hx0 : x < 0
  · go_enter Trym.func4, Trym.ntmps4
    go_wp2_with (go_at_call 17; refine (bytes17_any _ _ _ _ _ _ _ hn').mono ?_; rintro e w' ⟨⟨bb, rfl⟩, rfl⟩)
    all_goals (go_ret; exact ⟨rfl, Below.refl _ _⟩)
  by_cases hx1 : (n : Int) < x
  · go_enter Trym.func4, Trym.ntmps4
    go_wp2_with (go_at_call 17; refine (bytes17_any _ _ _ _ _ _ _ hn').mono ?_; rintro e w' ⟨⟨bb, rfl⟩, rfl⟩)
    all_goals (go_ret; exact ⟨rfl, Below.refl _ _⟩)
  obtain ⟨k, rfl⟩ : ∃ k : Nat, x = k := ⟨x.toNat, by omega⟩
  go_enter Trym.func4, Trym.ntmps4
  go_wp2_with (go_at_call 17; refine (bytes17_any _ _ _ _ _ _ _ hn').mono ?_; rintro e w' ⟨⟨bb, rfl⟩, rfl⟩)
  · go_ret; exact ⟨rfl, Below.refl _ _⟩
  refine (clone_any _ _ _ L _ (by omega) HL.out (none_zero HL.out)).mono ?_
  rintro e w1 ⟨⟨a1, rfl, hL1⟩, hb1⟩
  have HL1 : Hid (ByteAt w1 a1 n L) := hL1
  clear hL1
  go_wp2_with fail
  refine (zzNext_any _ _ _ _ _ _ L _ (by omega) (by omega) (by omega) (by omega) HL1.out).mono ?_
  rintro e w2 ⟨⟨r, rfl, hr⟩, hb2⟩
  have r1 := hr.ge (wOf_widths off L)
  have r2 := hr.lt
  have r3 := hr.le (by omega) (by omega)
  have HR : Hid (IsBlock (wOf off L) off b (off + n) r) := hr
  clear hr
  have HL2 : Hid (ByteAt w2 a1 n L) := HL1.out.keep hb2
  have hsl := slice_front a1 n k (by omega)
  go_wp2_with fail
  refine (clone_any _ _ _ L _ (by omega) (HL2.out.front (by omega)) (fun e => by have := none_zero HL2.out e; omega)).mono ?_
  rintro e w3 ⟨⟨a3, rfl, hL3⟩, hb3⟩
  have HL3 : Hid (ByteAt w3 a3 k L) := hL3
  clear hL3 hsl
  go_wp2_with fail
  refine (zzNext_any _ _ _ _ _ _ L _ (by omega) (by omega) (by omega) (by omega) HL3.out).mono ?_
  rintro e w4 ⟨⟨s, rfl, hs⟩, hb4⟩
  have s1 := hs.ge (wOf_widths off L)
  have s2 := HR.out.mono hs (wOf_widths off L) (by omega)
  clear hs
  go_wp2_with fail
  go_ret
  have z1 := hb1.size
  have z2 := hb2.size
  have z3 := hb3.size
  exact ⟨ret_bool (by simp), hb1.trans ((hb2.mono z1).trans ((hb3.mono (by omega)).trans (hb4.mono (by omega))))⟩

end Go.Proofs.Qxb6000643aMods.Byt
