import Derived.Test.Qxb6000643aModsBytes
import Derived.Test.Qxb6000643aModsBlock
namespace Go.Proofs.Qxb6000643aMods.Byt
open Go.RowKit

/-- What octets answers. -/
def oct (c : Int) : Int := if (bits BinOp.and IntKind.u8 c 224 == 192) = true then 2 else if (bits BinOp.and IntKind.u8 c 240 == 224) = true then 3 else if (bits BinOp.and IntKind.u8 c 248 == 240) = true then 4 else 1

theorem oct_bounds (c : Int) : 1 ≤ oct c ∧ oct c ≤ 4 := by
  unfold oct
  split
  · omega
  · split
    · omega
    · split <;> omega

set_option maxHeartbeats 400000 in
theorem octets_any (c : Int) (w : World) :
    Calls Trym.prog 35 #[.int .u8 c] w fun e w' => e = .returned (.int .i64 (oct c)) ∧ w' = w := by
  cases h1 : (bits BinOp.and IntKind.u8 c 224 == 192) with
  | true =>
    have HO : Hid (oct c = 2) := by show oct c = 2; unfold oct; rw [if_pos h1]
    go_enter Trym.func35, Trym.ntmps35
    go_wp2
    go_ret
    exact ⟨ret_int HO.out.symm, rfl⟩
  | false =>
    cases h2 : (bits BinOp.and IntKind.u8 c 240 == 224) with
    | true =>
      have HO : Hid (oct c = 3) := by show oct c = 3; unfold oct; rw [if_neg (by rw [h1]; simp), if_pos h2]
      go_enter Trym.func35, Trym.ntmps35
      go_wp2
      go_ret
      exact ⟨ret_int HO.out.symm, rfl⟩
    | false =>
      cases h3 : (bits BinOp.and IntKind.u8 c 248 == 240) with
      | true =>
        have HO : Hid (oct c = 4) := by show oct c = 4; unfold oct; rw [if_neg (by rw [h1]; simp), if_neg (by rw [h2]; simp), if_pos h3]
        go_enter Trym.func35, Trym.ntmps35
        go_wp2
        go_ret
        exact ⟨ret_int HO.out.symm, rfl⟩
      | false =>
        have HO : Hid (oct c = 1) := by show oct c = 1; unfold oct; rw [if_neg (by rw [h1]; simp), if_neg (by rw [h2]; simp), if_neg (by rw [h3]; simp)]
        go_enter Trym.func35, Trym.ntmps35
        go_wp2
        go_ret
        exact ⟨ret_int HO.out.symm, rfl⟩

/-- How wide the character at place x of the text is, read off the line's bytes. -/
def wOf (off : Int) (L : Nat → Int) (x : Int) : Int := oct (L (x - off).toNat)

theorem wOf_widths (off : Int) (L : Nat → Int) : Widths (wOf off L) := fun _ => oct_bounds _

/-- The next round of the outer loop. -/
theorem round_on {off b x y : Int} {n i : Nat} {L : Nat → Int} (hx : x = blockAt (wOf off L) off b i) (hp : ∀ j, j < i → blockAt (wOf off L) off b j + 512 ≤ off + n) (hlt : x + 512 ≤ off + (n : Int)) (hy : y = step (wOf off L) off x) :
    y = blockAt (wOf off L) off b (i + 1) ∧ ∀ j, j < i + 1 → blockAt (wOf off L) off b j + 512 ≤ off + n := by
  refine ⟨?_, fun j hj => ?_⟩
  · rw [hy, hx]; rfl
  · by_cases e : j = i
    · rw [e, ← hx]; exact hlt
    · exact hp j (by omega)

theorem step_start {wf : Int → Int} {off x y : Int} (h : y = max x off) : inner wf (x + 512) 512 y = step wf off x := by
  unfold step
  rw [h]

/-- nextBlock's answer. -/
def NextIs (off b : Int) (n : Nat) (L : Nat → Int) (e : Ending) : Prop := ∃ r, e = .returned (.int .i64 r) ∧ IsBlock (wOf off L) off b (off + n) r

set_option maxHeartbeats 800000 in
theorem next_any (off l b : Int) (a : Option Addr) (n cap : Nat) (L : Nat → Int) (w : World) (hb0 : 0 ≤ b) (hbo : b ≤ off) (ho : off ≤ 1099511627776) (hn : n ≤ 1048576) (hL : ByteAt w a n L) :
    Calls Trym.prog 31 #[.agg #[.int .i64 off, .int .i64 l, .int .i64 b], .slice a n cap] w fun e w' => NextIs off b n L e ∧ Below w.heap.size w w' := by
  have HL : Hid (∀ o, ByteAt (w.alloc o) a n L) := fun o => hL.keep ((Below.refl _ _).alloc (Nat.le_refl _) _)
  clear hL
  go_enter Trym.func31, Trym.ntmps31
  go_wp2
  go_loop [5, 6] (fun vb ve => ∃ (i : Nat) (x : Int), vb = .int .i64 x ∧ ve = .int .i64 (x + 512) ∧ Hid (x = blockAt (wOf off L) off b i) ∧ Hid (∀ j, j < i → blockAt (wOf off L) off b j + 512 ≤ off + n) ∧ b ≤ x ∧ x ≤ off + n) (fun vb _ => (off + n + 1 - intOf vb).toNat)
  case atStart => exact ⟨0, b, rfl, rfl, rfl, fun j h => absurd h (by omega), by omega, by omega⟩
  case round =>
    obtain ⟨i, x, rfl, rfl, HX, HP, hx0, hx1⟩ := hrel
    by_cases hlt : x + 512 ≤ off + (n : Int)
    · have hgt := step_gt (wOf_widths off L) off x
      have hle := step_le (wOf off L) off x
      have HGT : Hid (x < step (wOf off L) off x) := hgt
      have HLE : Hid (step (wOf off L) off x ≤ off + n) := by show step (wOf off L) off x ≤ off + n; omega
      clear hgt hle
      go_wp2
      all_goals
        go_loop [7] (fun vy => ∃ (f : Nat) (y : Int), vy = .int .i64 y ∧ Hid (inner (wOf off L) (x + 512) f y = step (wOf off L) off x) ∧ x + 512 - y ≤ f ∧ off ≤ y ∧ x ≤ y ∧ y ≤ max (x + 512) off) (fun vy => (x + 512 - intOf vy).toNat)
        case atStart => exact ⟨512, _, rfl, step_start (by omega), by omega, by omega, by omega, by omega⟩
        case round =>
          obtain ⟨f, y, rfl, HI, hf, hy1, hy2, hy3⟩ := hrel
          by_cases hye : y < x + 512
          · obtain ⟨f, rfl⟩ : ∃ g, f = g + 1 := ⟨f - 1, by omega⟩
            obtain ⟨k, hk⟩ : ∃ k : Nat, y - off = (k : Int) := ⟨(y - off).toNat, by omega⟩
            obtain ⟨b2, o2, ha, hc⟩ := HL.out (Obj.cells #[Value.int IntKind.i64 off, Value.int IntKind.i64 l, Value.int IntKind.i64 b] 37) k (by omega)
            subst ha
            have HW : Hid (wOf off L y = oct (L k)) := by show oct (L (y - off).toNat) = oct (L k); rw [hk]; rfl
            have ho1 := (oct_bounds (L k)).1
            have ho2 := (oct_bounds (L k)).2
            by_cases hbr : x + 512 < y + oct (L k)
            · have HY : Hid (y = step (wOf off L) off x) := by
                have h := HI.out
                rw [inner_break _ (by rw [HW.out]; exact hbr)] at h
                exact h
              have HN := round_on HX.out HP.out hlt HY.out
              have HN1 : Hid (y = blockAt (wOf off L) off b (i + 1)) := HN.1
              have HN2 : Hid (∀ j, j < i + 1 → blockAt (wOf off L) off b j + 512 ≤ off + n) := HN.2
              clear HN
              have hyx : x < y := by have := HY.out; have := HGT.out; omega
              have hyp : y ≤ off + n := by have := HY.out; have := HLE.out; omega
              go_wp2_with (go_at_call 35; refine (octets_any _ _).mono ?_; rintro e w' ⟨rfl, rfl⟩)
              go_round
              case rel => exact ⟨i + 1, y, rfl, rfl, HN1, HN2, by omega, by omega⟩
              case measure => simp [intOf]; omega
            · have HI2 : Hid (inner (wOf off L) (x + 512) f (y + oct (L k)) = step (wOf off L) off x) := by
                have h := HI.out
                rw [inner_go _ hye (by rw [HW.out]; exact hbr), HW.out] at h
                exact h
              go_wp2_with (go_at_call 35; refine (octets_any _ _).mono ?_; rintro e w' ⟨rfl, rfl⟩)
              go_round
              case rel => exact ⟨f, y + oct (L k), rfl, HI2, by omega, by omega, by omega, by omega⟩
              case measure => simp [intOf]; omega
          · have HY : Hid (y = step (wOf off L) off x) := by
              have h := HI.out
              rw [inner_end _ hye] at h
              exact h
            have HN := round_on HX.out HP.out hlt HY.out
            have HN1 : Hid (y = blockAt (wOf off L) off b (i + 1)) := HN.1
            have HN2 : Hid (∀ j, j < i + 1 → blockAt (wOf off L) off b j + 512 ≤ off + n) := HN.2
            clear HN
            have hyx : x < y := by have := HY.out; have := HGT.out; omega
            have hyp : y ≤ off + n := by have := HY.out; have := HLE.out; omega
            go_wp2
            go_round
            case rel => exact ⟨i + 1, y, rfl, rfl, HN1, HN2, by omega, by omega⟩
            case measure => simp [intOf]; omega
    · have HE : Hid (IsBlock (wOf off L) off b (off + n) x) := ⟨i, HX.out, HP.out, by have := HX.out; omega⟩
      go_wp2
      go_ret
      exact ⟨⟨x, rfl, HE.out⟩, (Below.refl _ _).alloc (Nat.le_refl _) _⟩

end Go.Proofs.Qxb6000643aMods.Byt
