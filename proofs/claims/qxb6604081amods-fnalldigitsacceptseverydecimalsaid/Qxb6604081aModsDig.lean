import Derived.Test.Qxb6604081aModsRows
import Derived.WalkKit
import Derived.WalkSpells
import Derived.WalkLawsBesides
import Derived.Laws.IdiomStrings
import Derived.Below
namespace Go.Proofs.Qxb6604081aMods.Dig
open Go.RowKit

/-- Is the byte a decimal digit? -/
def isDig (n : Int) : Bool := decide (48 ≤ n) && decide (n ≤ 57)
/-- What allDigits answers. -/
def allDig (l : List UInt8) : Bool := !l.isEmpty && l.all (fun c => isDig (c.toNat : Int))

theorem allDig_true {s : ByteArray} (hne : s.toList.isEmpty = false) (h : ∀ j (hj : j < s.size), isDig (s[j].toNat : Int) = true) : allDig s.data.toList = true := by
  rw [ByteArray.toList_eq] at hne
  unfold allDig
  rw [hne]
  simp only [Bool.not_false, Bool.true_and, List.all_eq_true]
  intro c hc
  obtain ⟨j, hj, rfl⟩ := List.getElem_of_mem hc
  exact h j (by simpa using hj)

theorem allDig_false {s : ByteArray} {j : Nat} (hj : j < s.size) (h : isDig (s[j].toNat : Int) = false) : allDig s.data.toList = false := by
  unfold allDig
  rw [Bool.and_eq_false_iff]
  right
  rw [List.all_eq_false]
  refine ⟨s[j], ?_, by simpa using h⟩
  have : s[j] = s.data.toList[j]'(by simpa using hj) := rfl
  rw [this]
  exact List.getElem_mem _

theorem ret_bool {a b : Bool} (h : a = b) : Ending.returned (.bool a) = .returned (.bool b) := by rw [h]

set_option maxHeartbeats 400000 in
theorem allDigits_some (s : ByteArray) (w : World) (hs : s.size ≤ maxLen) (hne : s.toList.isEmpty = false) (cap : Nat) (C : Array Value)
    (hconv : (convert 9 33 (.string s)).run Trym.prog w = .ok (.slice (some ⟨w.heap.size, 0, none⟩) s.size cap) (w.drew.alloc (.cells C 5 (C.size, C.size + 1))))
    (hcell : ∀ k (h : k < s.size), (w.alloc (.cells C 5 (C.size, C.size + 1))).cell? ⟨w.heap.size, k, none⟩ = some (.int .u8 (s[k].toNat : Int))) :
    Calls Trym.prog 24 #[.string s] w fun e w' => e = .returned (.bool (allDig s.data.toList)) ∧ Below w.heap.size w w' := by
  unfold maxLen at hs
  go_enter Trym.func24, Trym.ntmps24
  go_wp2
  go_loop [10] (fun i => ∃ k : Nat, k ≤ s.size ∧ i = .int .i64 k ∧ ∀ j (hj : j < s.size), j < k → isDig (s[j].toNat : Int) = true) (fun i => s.size - (intOf i).toNat)
  case atStart => exact ⟨0, Nat.zero_le _, rfl, fun j _ h => absurd h (by omega)⟩
  case round =>
    obtain ⟨k, hk, rfl, hall⟩ := hrel
    have HA : Hid (∀ j (hj : j < s.size), j < k → isDig (s[j].toNat : Int) = true) := hall
    clear hall
    have hin : Below w.heap.size w (w.alloc (Obj.cells C 5 (C.size, C.size + 1))).drew := ((Below.refl _ _).alloc (Nat.le_refl _) _).drew
    by_cases hlt : k < s.size
    · have hc := hcell k hlt
      clear hcell
      by_cases h1 : (s[k].toNat : Int) < 48
      · go_wp2
        go_ret
        exact ⟨ret_bool (allDig_false hlt (by simp [isDig]; omega)).symm, hin⟩
      · by_cases h2 : 57 < (s[k].toNat : Int)
        · go_wp2
          go_ret
          exact ⟨ret_bool (allDig_false hlt (by simp [isDig]; omega)).symm, hin⟩
        · go_wp2
          go_round
          case rel =>
            refine ⟨k + 1, by omega, by go_num, fun j hj hjk => ?_⟩
            by_cases e : j = k
            · subst e; simp [isDig]; omega
            · exact HA.out j hj (by omega)
          case measure => simp [intOf]; omega
    · clear hcell
      go_wp2
      go_ret
      exact ⟨ret_bool (allDig_true hne (fun j hj => HA.out j hj (by omega))).symm, hin⟩

theorem allDigits_any (s : ByteArray) (w : World) (hs : s.size ≤ maxLen) :
    Calls Trym.prog 24 #[.string s] w fun e w' => e = .returned (.bool (allDig s.data.toList)) ∧ Below w.heap.size w w' := by
  cases hne : s.toList.isEmpty with
  | false =>
    exact allDigits_some s w hs hne _ _ (run_bytes_of_string w 9 33 5 s Trym.underlying9 Trym.underlying33 Trym.underlying5)
      (fun k h => by rw [World.cell?_alloc_mark, bytesRow_at _ _ _ h]; rfl)
  | true =>
    have h0 : allDig s.data.toList = false := by
      rw [ByteArray.toList_eq] at hne
      unfold allDig; rw [hne]; rfl
    go_enter Trym.func24, Trym.ntmps24
    go_wp2
    go_ret
    exact ⟨ret_bool h0.symm, Below.refl _ _⟩

theorem zzAllDigits_any (s : ByteArray) (w : World) (hs : s.size ≤ maxLen) :
    Calls Trym.prog 19 #[.string s] w fun e w' => e = .returned (.bool (allDig s.data.toList)) ∧ Below w.heap.size w w' := by
  go_enter Trym.func19, Trym.ntmps19
  go_wp2_with (go_at_call 24; refine (allDigits_any _ _ hs).mono ?_; rintro e w' ⟨rfl, hb⟩)
  go_ret
  exact ⟨rfl, hb⟩

end Go.Proofs.Qxb6604081aMods.Dig
