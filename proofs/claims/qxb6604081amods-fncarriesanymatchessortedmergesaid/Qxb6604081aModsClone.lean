import Derived.Test.Qxb6604081aModsStrs
namespace Go.Proofs.Qxb6604081aMods.Str
open Go.RowKit

theorem info9 : (Trym.prog.info? 9).map (fun i => (i.zero, i.size, i.bytes)) = some (some (.string ByteArray.empty), 1, 16) := by kernel_rfl

/-- What a copying loop has laid by its k-th round: the first k strings of S, empty ones behind. -/
def upto (k : Nat) (S : Nat → ByteArray) : Nat → Value := fun j => .string (if j < k then S j else ByteArray.empty)

theorem upto_step {w : World} {g n k : Nat} {S : Nat → ByteArray} (h : w.rowIs g 9 n (upto k S)) : (w.setCell ⟨g, k, none⟩ (.string (S k))).rowIs g 9 n (upto (k + 1) S) := by
  refine (h.set k (.string (S k))).congr fun j hj => ?_
  unfold upto
  by_cases e : j = k
  · subst e; simp
  · by_cases h2 : j < k
    · simp [e, h2, (by omega : j < k + 1)]
    · simp only [if_neg e, if_neg h2, if_neg (by omega : ¬ j < k + 1)]

theorem upto_all {w : World} {g n : Nat} {S : Nat → ByteArray} (h : w.rowIs g 9 n (upto n S)) : w.rowIs g 9 n (fun i => .string (S i)) :=
  h.congr fun j hj => by simp [upto, hj]

theorem upto_made (w : World) (n : Nat) (S : Nat → ByteArray) : (w.alloc (.cells (madeCells #[.string ByteArray.empty] n) 9)).rowIs w.heap.size 9 n (upto 0 S) :=
  (World.rowIs_made w (.string ByteArray.empty) n 9).congr fun j _ => by simp [upto]

/-- b1Clone's answer: a slice of the same strings. -/
def Cloned (n : Nat) (S : Nat → ByteArray) (e : Ending) (w : World) : Prop := ∃ a, e = .returned (.slice a n n) ∧ StrAt w a n S

set_option maxHeartbeats 400000 in
theorem clone_any (a : Option Addr) (n cap : Nat) (S : Nat → ByteArray) (w : World) (hn : n ≤ 1048576) (hS : StrAt w a n S) :
    Calls Trym.prog 10 #[.slice a n cap] w fun e w' => Cloned n S e w' ∧ Below w.heap.size w w' := by
  have hq := fun wx => Lib.run_eql_slice_nil (P := Trym.prog) wx 22 9 a n cap 0 0 Trym.underlying22
  cases a with
  | none =>
    have h0 : n = 0 := by
      by_cases h : n = 0
      · exact h
      · obtain ⟨b, off, e, _⟩ := hS 0 (by omega)
        cases e
    subst h0
    go_enter Trym.func10, Trym.ntmps10
    go_wp2
    go_ret
    exact ⟨⟨none, rfl, hS⟩, Below.refl _ _⟩
  | some ad =>
    have hmk := run_make_row' (P := Trym.prog) 22 9 (.string ByteArray.empty) 16 Trym.underlying22 info9 rfl .i64 .i64 n (by omega) (by omega)
    go_enter Trym.func10, Trym.ntmps10
    go_wp2
    clear hq hmk
    go_loopw [4] (fun i wr => ∃ k : Nat, k ≤ n ∧ i = .int .i64 k ∧ wr.rowIs w.heap.size 9 n (upto k S) ∧ Below w.heap.size w wr) (fun i _ => n - (intOf i).toNat)
    case atStart => exact ⟨0, Nat.zero_le _, rfl, upto_made w n S, (Below.refl _ _).alloc (Nat.le_refl _) _⟩
    case round =>
      obtain ⟨k, hk, rfl, hrow, hbel⟩ := hrel
      by_cases hlt : k < n
      · obtain ⟨b, off, ha, hc0⟩ := (hS.keep hbel) k hlt
        injection ha with ha
        subst ha
        have hc1 := hrow.cell hlt
        have hf1 := hrow.frozen k
        have hstep := upto_step hrow
        have hbel2 := hbel.setCell (p := ⟨w.heap.size, k, none⟩) (Nat.le_refl _) (.string (S k))
        clear hS hrow
        go_wp2
        go_roundw
        case rel => exact ⟨k + 1, by omega, by go_num, hstep, hbel2⟩
        case measure => simp [intOf]; omega
      · have e : k = n := by omega
        subst e
        clear hS
        go_wp2
        go_ret
        exact ⟨⟨_, rfl, StrAt.of_row (upto_all hrow)⟩, hbel⟩

end Go.Proofs.Qxb6604081aMods.Str
