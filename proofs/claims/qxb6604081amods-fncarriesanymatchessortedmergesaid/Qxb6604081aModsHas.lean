import Derived.Test.Qxb6604081aModsSort
import Derived.Test.Qxb6604081aModsSizes
namespace Go.Proofs.Qxb6604081aMods.Str
open Go.RowKit

theorem eq_of_le {a b : ByteArray} (h : le a b) (k : le b a) : a = b := by
  have e : a.toList = b.toList := List.le_antisymm h k
  exact bytes_eq.1 (by rw [e]; simp)

theorem mem_same {n : Nat} {T S : Nat → ByteArray} {x : ByteArray} (h : Same n T S) : mem n T x = mem n S x := by
  rw [Bool.eq_iff_iff, mem_iff, mem_iff]
  constructor
  · rintro ⟨p, hp, e⟩
    obtain ⟨q, hq, e2⟩ := h.1 p hp
    exact ⟨q, hq, e2.symm.trans e⟩
  · rintro ⟨q, hq, e⟩
    obtain ⟨p, hp, e2⟩ := h.2 q hq
    exact ⟨p, hp, e2.trans e⟩

/-- The search has come to its end: what lies below lo is smaller, what lies from lo on is not. -/
theorem has_end {n lo : Nat} {T : Nat → ByteArray} {x : ByteArray} (hs : Sorted n T) (h1 : ∀ p, p < lo → Op.bytesLess (T p).toList x.toList = true) (h2 : ∀ p, lo ≤ p → p < n → Op.bytesLess (T p).toList x.toList = false) (hlo : lo < n) :
    ((T lo).toList == x.toList) = mem n T x := by
  rw [Bool.eq_iff_iff, bytes_eq, mem_iff]
  constructor
  · intro e; exact ⟨lo, hlo, e⟩
  · rintro ⟨i, hi, e⟩
    have hge : lo ≤ i := by
      by_cases h : lo ≤ i
      · exact h
      · have h3 := h1 i (by omega)
        rw [e, not_lss_of_le (le_refl x)] at h3
        cases h3
    have k1 : le x (T lo) := le_of_not_lss (h2 lo (Nat.le_refl _) hlo)
    have k2 : le (T lo) x := by rw [← e]; exact hs lo i hge hi
    exact eq_of_le k2 k1

theorem has_end_out {n lo : Nat} {T : Nat → ByteArray} {x : ByteArray} (h1 : ∀ p, p < lo → Op.bytesLess (T p).toList x.toList = true) (hlo : n ≤ lo) : mem n T x = false := by
  rw [← Bool.not_eq_true, mem_iff]
  rintro ⟨i, hi, e⟩
  have h3 := h1 i (by omega)
  rw [e, not_lss_of_le (le_refl x)] at h3
  cases h3

theorem lss_down {n p m : Nat} {T : Nat → ByteArray} {x : ByteArray} (hs : Sorted n T) (hm : m < n) (h : Op.bytesLess (T m).toList x.toList = true) (hp : p ≤ m) : Op.bytesLess (T p).toList x.toList = true := by
  have k := hs p m hp hm
  rw [less_eq, decide_eq_true_eq] at h ⊢
  exact List.lt_of_le_of_lt k h

theorem lss_up {n p m : Nat} {T : Nat → ByteArray} {x : ByteArray} (hs : Sorted n T) (hp : p < n) (h : Op.bytesLess (T m).toList x.toList = false) (hm : m ≤ p) : Op.bytesLess (T p).toList x.toList = false :=
  not_lss_of_le (le_trans (le_of_not_lss h) (hs m p hm hp))

set_option maxHeartbeats 400000 in
theorem sortedHas_any (a : Option Addr) (n cap : Nat) (T : Nat → ByteArray) (x : ByteArray) (w : World) (hn : n ≤ 1048576) (hS : StrAt w a n T) (hsort : Sorted n T) :
    Calls Trym.prog 12 #[.slice a n cap, .string x] w fun e w' => e = .returned (.bool (mem n T x)) ∧ w' = w := by
  have HSO : Hid (Sorted n T) := hsort
  clear hsort
  go_enter Trym.func12, Trym.ntmps12
  go_wp2
  go_loop [5, 6] (fun vl vh => ∃ lo hi : Nat, vl = .int .i64 lo ∧ vh = .int .i64 hi ∧ lo ≤ hi ∧ hi ≤ n ∧ Hid (∀ p, p < lo → Op.bytesLess (T p).toList x.toList = true) ∧ Hid (∀ p, hi ≤ p → p < n → Op.bytesLess (T p).toList x.toList = false)) (fun vl vh => (intOf vh - intOf vl).toNat)
  case atStart => exact ⟨0, n, rfl, rfl, by omega, by omega, fun p h => absurd h (by omega), fun p h h2 => absurd h (by omega)⟩
  case round =>
    obtain ⟨lo, hi, rfl, rfl, h1, h2, HL, HU⟩ := hrel
    by_cases hlt : lo < hi
    · obtain ⟨m, hm⟩ : ∃ m : Nat, (lo : Int) + ((hi : Int) - (lo : Int)) / 2 = (m : Int) := ⟨lo + (hi - lo) / 2, by omega⟩
      have hm1 : lo ≤ m := by omega
      have hm2 : m < hi := by omega
      obtain ⟨b, off, ha, hc⟩ := hS m (by omega)
      subst ha
      clear hS
      cases hx : Op.bytesLess (T m).toList x.toList with
      | true =>
        go_wp2
        go_round
        case rel => exact ⟨m + 1, hi, by go_num, rfl, by omega, by omega, fun p hp => lss_down HSO.out (by omega) hx (by omega), HU⟩
        case measure => simp [intOf]; omega
      | false =>
        go_wp2
        go_round
        case rel => exact ⟨lo, m, rfl, rfl, by omega, by omega, HL, fun p hp hp2 => lss_up HSO.out hp2 hx hp⟩
        case measure => simp [intOf]; omega
    · have e : hi = lo := by omega
      subst e
      by_cases hln : hi < n
      · obtain ⟨b, off, ha, hc⟩ := hS hi hln
        subst ha
        clear hS
        have HE : Hid (((T hi).toList == x.toList) = mem n T x) := has_end HSO.out HL.out HU.out hln
        go_wp2
        go_ret
        exact ⟨ret_bool HE.out, rfl⟩
      · clear hS
        have HE : Hid (mem n T x = false) := has_end_out HL.out (by omega)
        go_wp2
        go_ret
        exact ⟨ret_bool HE.out.symm, rfl⟩

end Go.Proofs.Qxb6604081aMods.Str
