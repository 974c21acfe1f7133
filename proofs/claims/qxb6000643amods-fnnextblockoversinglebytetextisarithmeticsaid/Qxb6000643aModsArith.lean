import Derived.Test.Qxb6000643aModsHolds
namespace Go.Proofs.Qxb6000643aMods.Byt
open Go.RowKit

/-- A byte's lower seven bits. -/
def low7 (c : Int) : Int := bits BinOp.and IntKind.u8 c 127

theorem oct_low7_all : ∀ n : Fin 256, oct (low7 (n.val : Int)) = 1 := by decide +kernel

theorem oct_low7 {c : Int} (h0 : 0 ≤ c) (h1 : c ≤ 255) : oct (low7 c) = 1 := by
  have h := oct_low7_all ⟨c.toNat, by omega⟩
  have e : (((⟨c.toNat, by omega⟩ : Fin 256).val : Nat) : Int) = c := by
    show ((c.toNat : Nat) : Int) = c
    omega
  rw [e] at h
  exact h

theorem wOf_low7 {L : Nat → Int} (hL : IsByte L) (off : Int) : ∀ x, wOf off (fun j => low7 (L j)) x = 1 := fun _ => oct_low7 (hL _).1 (hL _).2

set_option maxHeartbeats 1000000 in
theorem arith_any (off b : Int) (a : Option Addr) (n cap : Nat) (L : Nat → Int) (w : World) (hn : n ≤ maxLen) (hL : ByteAt w a n L) (hB : IsByte L) :
    Calls Trym.prog 5 #[.int .i64 off, .int .i64 b, .slice a n cap] w fun e w' => e = .returned (.bool true) ∧ Below w.heap.size w w' := by
  have hn' := hn
  unfold maxLen at hn
  have HL : Hid (ByteAt w a n L) := hL
  have HB : Hid (IsByte L) := hB
  clear hL hB
  by_cases hbig : (1048576 : Int) < (n : Int)
  · go_enter Trym.func5, Trym.ntmps5
    go_wp2_with (go_at_call 18; refine (bytes18_any _ _ _ _ _ _ hn').mono ?_; rintro e w' ⟨⟨bb, rfl⟩, rfl⟩)
    all_goals (go_ret; exact ⟨rfl, Below.refl _ _⟩)
  by_cases ho0 : off < 0
  · go_enter Trym.func5, Trym.ntmps5
    go_wp2_with (go_at_call 18; refine (bytes18_any _ _ _ _ _ _ hn').mono ?_; rintro e w' ⟨⟨bb, rfl⟩, rfl⟩)
    all_goals (go_ret; exact ⟨rfl, Below.refl _ _⟩)
  by_cases ho1 : (1099511627776 : Int) < off
  · go_enter Trym.func5, Trym.ntmps5
    go_wp2_with (go_at_call 18; refine (bytes18_any _ _ _ _ _ _ hn').mono ?_; rintro e w' ⟨⟨bb, rfl⟩, rfl⟩)
    all_goals (go_ret; exact ⟨rfl, Below.refl _ _⟩)
  by_cases hb0 : b < 0
  · go_enter Trym.func5, Trym.ntmps5
    go_wp2_with (go_at_call 18; refine (bytes18_any _ _ _ _ _ _ hn').mono ?_; rintro e w' ⟨⟨bb, rfl⟩, rfl⟩)
    all_goals (go_ret; exact ⟨rfl, Below.refl _ _⟩)
  by_cases hb1 : off < b
  · go_enter Trym.func5, Trym.ntmps5
    go_wp2_with (go_at_call 18; refine (bytes18_any _ _ _ _ _ _ hn').mono ?_; rintro e w' ⟨⟨bb, rfl⟩, rfl⟩)
    all_goals (go_ret; exact ⟨rfl, Below.refl _ _⟩)
  by_cases hb2 : 512 ≤ off - b
  · go_enter Trym.func5, Trym.ntmps5
    go_wp2_with (go_at_call 18; refine (bytes18_any _ _ _ _ _ _ hn').mono ?_; rintro e w' ⟨⟨bb, rfl⟩, rfl⟩)
    all_goals (go_ret; exact ⟨rfl, Below.refl _ _⟩)
  have hmk := run_make_row' (P := Trym.prog) 22 5 (.int .u8 0) 1 Trym.underlying22 info5 rfl .i64 .i64 n (by omega) (by omega)
  go_enter Trym.func5, Trym.ntmps5
  go_wp2_with (go_at_call 18; refine (bytes18_any _ _ _ _ _ _ hn').mono ?_; rintro e w' ⟨⟨bb, rfl⟩, rfl⟩)
  · go_ret; exact ⟨rfl, Below.refl _ _⟩
  refine (clone_any _ _ _ L _ (by omega) HL.out (none_zero HL.out)).mono ?_
  rintro e w1 ⟨⟨a1, rfl, hL1⟩, hbel1⟩
  have HL1 : Hid (ByteAt w1 a1 n L) := hL1
  clear hL1
  go_wp2_with fail
  clear hmk
  go_loopw [8] (fun i wr => ∃ k : Nat, k ≤ n ∧ i = .int .i64 k ∧ wr.rowIs w1.heap.size 5 n (upto k (fun j => low7 (L j))) ∧ Below w1.heap.size w1 wr) (fun i _ => n - (intOf i).toNat)
  case atStart => exact ⟨0, Nat.zero_le _, rfl, upto_made w1 n _, (Below.refl _ _).alloc (Nat.le_refl _) _⟩
  case round =>
    obtain ⟨k, hk, rfl, hrow, hbel⟩ := hrel
    by_cases hlt : k < n
    · obtain ⟨b3, off3, ha, hc0⟩ := (HL1.out.keep hbel) k hlt
      subst ha
      have hc1 := hrow.cell hlt
      have hf1 := hrow.frozen k
      have hstep := upto_step hrow
      have hbel2 := hbel.setCell (p := ⟨w1.heap.size, k, none⟩) (Nat.le_refl _) (.int .u8 (low7 (L k)))
      clear hrow
      unfold upto at hc1
      go_wp2_with fail
      go_roundw
      case rel => exact ⟨k + 1, by omega, by go_num, hstep, hbel2⟩
      case measure => simp [intOf]; omega
    · have e : k = n := by omega
      subst e
      have HM : Hid (ByteAt wr (some ⟨w1.heap.size, 0, none⟩) k (fun j => low7 (L j))) := ByteAt.of_row (upto_all hrow)
      clear hrow
      go_wp2_with fail
      refine (zzNext_any _ _ _ _ _ _ (fun j => low7 (L j)) _ (by omega) (by omega) (by omega) (by omega) HM.out).mono ?_
      rintro e w4 ⟨⟨r, rfl, hr⟩, hb4⟩
      have HR : Hid (r = b + 512 * ((off + k - b) / 512)) := hr.ones (wOf_low7 HB.out off) (by omega) (by omega)
      clear hr
      go_wp2_with fail
      go_ret
      have z1 := hbel1.size
      have z2 := hbel.size
      exact ⟨ret_bool (by rw [HR.out]; simp), hbel1.trans ((hbel.mono z1).trans (hb4.mono (by omega)))⟩

end Go.Proofs.Qxb6000643aMods.Byt
