import Derived.Test.Qxb6000643aModsPats
namespace Go.Proofs.Qxb6000643aMods.Byt
open Go.RowKit

/-- Does the q-th refused sequence stand at place k of the text? -/
def occ (n : Nat) (L : Nat → Int) (q k : Nat) : Bool := pre (n - k) (fun i => L (k + i)) (pat q).length (fun i => (pat q).getD i 0)

/-- Does the text hold none of them? -/
def free (n : Nat) (L : Nat → Int) : Bool := !((List.range n).any fun k => (List.range 5).any fun q => occ n L q k)

theorem free_iff {n : Nat} {L : Nat → Int} : free n L = true ↔ ∀ k, k < n → ∀ q, q < 5 → occ n L q k = false := by
  unfold free
  rw [Bool.not_eq_true', List.any_eq_false]
  constructor
  · intro h k hk q hq
    have h1 := h k (List.mem_range.2 hk)
    rw [Bool.not_eq_true, List.any_eq_false] at h1
    have h2 := h1 q (List.mem_range.2 hq)
    simpa using h2
  · intro h k hk
    rw [Bool.not_eq_true, List.any_eq_false]
    intro q hq
    have := h k (List.mem_range.1 hk) q (List.mem_range.1 hq)
    rw [this]
    simp

theorem free_false {n k q : Nat} {L : Nat → Int} (hk : k < n) (hq : q < 5) (h : occ n L q k = true) : free n L = false := by
  rw [← Bool.not_eq_true, free_iff]
  intro hf
  rw [hf k hk q hq] at h
  cases h

theorem pat_byte (q : Nat) : IsByte (fun i => (pat q).getD i 0) := by
  intro i
  have h : ∀ z ∈ pat q, 0 ≤ z ∧ z ≤ 255 := by
    intro z hz
    unfold pat at hz
    split at hz <;> simp at hz <;> omega
  show 0 ≤ (pat q).getD i 0 ∧ (pat q).getD i 0 ≤ 255
  by_cases hi : i < (pat q).length
  · rw [List.getD_eq_getElem?_getD, List.getElem?_eq_getElem hi]
    exact h _ (List.getElem_mem hi)
  · rw [List.getD_eq_getElem?_getD, List.getElem?_eq_none (by omega)]
    simp

theorem pat_pos (q : Nat) : 0 < (pat q).length := by
  unfold pat
  split <;> simp

/-- What stands at the first place, where a sequence stands. -/
theorem occ_first {n k q : Nat} {L : Nat → Int} (h : occ n L q k = true) : L k = (pat q).getD 0 0 := by
  unfold occ pre at h
  rw [Bool.and_eq_true, eqB_iff] at h
  exact h.2 0 (pat_pos q)

theorem occ_cr {n k : Nat} {L : Nat → Int} (hk : k < n) (h : L k = 13) : occ n L 0 k = true := by
  unfold occ pre
  rw [Bool.and_eq_true, eqB_iff, decide_eq_true_eq]
  refine ⟨by show 1 ≤ n - k; omega, fun i hi => ?_⟩
  have e : i = 0 := by have : i < 1 := hi; omega
  subst e
  exact h

/-- A byte below C2 that is no CR begins none of them. -/
theorem occ_low {n k q : Nat} {L : Nat → Int} (h1 : L k ≠ 13) (h2 : L k < 194) (hq : q < 5) : occ n L q k = false := by
  rw [← Bool.not_eq_true]
  intro h
  have e := occ_first h
  rcases (by omega : q = 0 ∨ q = 1 ∨ q = 2 ∨ q = 3 ∨ q = 4) with rfl | rfl | rfl | rfl | rfl
  · exact h1 e
  all_goals
    simp [pat] at e
    omega

theorem ByteAt.tail {w : World} {b off n k : Nat} {L : Nat → Int} (h : ByteAt w (some ⟨b, off, none⟩) n L) : ByteAt w (some ⟨b, off + k, none⟩) (n - k) (fun i => L (k + i)) := by
  intro i hi
  obtain ⟨b2, off2, e, hc⟩ := h (k + i) (by omega)
  injection e with e
  injection e with e1 e2
  subst e1 e2
  exact ⟨b, off + k, rfl, by rw [Nat.add_assoc]; exact hc⟩

/-- HasPrefix at place k of the line: the q-th sequence has just been laid in new memory. -/
theorem hp_any {w W : World} {b off n k : Nat} {L : Nat → Int} (q : Nat) (fr : Nat × Nat) (hW : Below w.heap.size w W) (hL : ByteAt w (some ⟨b, off, none⟩) n L) (bL : IsByte L) :
    Calls Trym.prog 36 #[.slice (some ⟨b, off + k, none⟩) (n - k) (n - k), .slice (some ⟨W.heap.size, 0, none⟩) (pat q).length (pat q).length] (W.alloc (.cells ((pat q).map (Value.int .u8)).toArray 5 fr))
      fun e w' => e = .returned (.bool (occ n L q k)) ∧ Below w.heap.size w w' := by
  have hB : Below w.heap.size w (W.alloc (.cells ((pat q).map (Value.int .u8)).toArray 5 fr)) := hW.alloc hW.size _
  refine (hasPrefix_any _ _ (n - k) (pat q).length (pat q).length (fun i => L (k + i)) (fun i => (pat q).getD i 0) _ (pat_pos q) (hL.keep hB).tail (byteAt_lit W (pat q) fr) (fun i => bL (k + i)) (pat_byte q)).mono ?_
  rintro e w' ⟨rfl, rfl⟩
  exact ⟨rfl, hB⟩

theorem hp1 {w W : World} {b off n k : Nat} {L : Nat → Int} {r : Bool} (hr : occ n L 1 k = r) (hW : Below w.heap.size w W) (hL : ByteAt w (some ⟨b, off, none⟩) n L) (bL : IsByte L) :
    Calls Trym.prog 36 #[.slice (some ⟨b, off + k, none⟩) (n - k) (n - k), .slice (some ⟨W.heap.size, 0, none⟩) 2 2] (W.alloc (.cells #[.int .u8 194, .int .u8 133] 5 (2, 3)))
      fun e w' => e = .returned (.bool r) ∧ Below w.heap.size w w' := by
  subst hr; exact hp_any 1 (2, 3) hW hL bL
theorem hp2 {w W : World} {b off n k : Nat} {L : Nat → Int} {r : Bool} (hr : occ n L 2 k = r) (hW : Below w.heap.size w W) (hL : ByteAt w (some ⟨b, off, none⟩) n L) (bL : IsByte L) :
    Calls Trym.prog 36 #[.slice (some ⟨b, off + k, none⟩) (n - k) (n - k), .slice (some ⟨W.heap.size, 0, none⟩) 3 3] (W.alloc (.cells #[.int .u8 226, .int .u8 128, .int .u8 168] 5 (3, 4)))
      fun e w' => e = .returned (.bool r) ∧ Below w.heap.size w w' := by
  subst hr; exact hp_any 2 (3, 4) hW hL bL
theorem hp3 {w W : World} {b off n k : Nat} {L : Nat → Int} {r : Bool} (hr : occ n L 3 k = r) (hW : Below w.heap.size w W) (hL : ByteAt w (some ⟨b, off, none⟩) n L) (bL : IsByte L) :
    Calls Trym.prog 36 #[.slice (some ⟨b, off + k, none⟩) (n - k) (n - k), .slice (some ⟨W.heap.size, 0, none⟩) 3 3] (W.alloc (.cells #[.int .u8 226, .int .u8 128, .int .u8 169] 5 (3, 4)))
      fun e w' => e = .returned (.bool r) ∧ Below w.heap.size w w' := by
  subst hr; exact hp_any 3 (3, 4) hW hL bL
theorem hp4 {w W : World} {b off n k : Nat} {L : Nat → Int} {r : Bool} (hr : occ n L 4 k = r) (hW : Below w.heap.size w W) (hL : ByteAt w (some ⟨b, off, none⟩) n L) (bL : IsByte L) :
    Calls Trym.prog 36 #[.slice (some ⟨b, off + k, none⟩) (n - k) (n - k), .slice (some ⟨W.heap.size, 0, none⟩) 3 3] (W.alloc (.cells #[.int .u8 239, .int .u8 187, .int .u8 191] 5 (3, 4)))
      fun e w' => e = .returned (.bool r) ∧ Below w.heap.size w w' := by
  subst hr; exact hp_any 4 (3, 4) hW hL bL

/-- 'line[k:]'. -/
theorem slice_tail (b off n k : Nat) (hk : k < n) (wx : World) : (Instr.slice 22 (.slice (some ⟨b, off, none⟩) n n) (some (.int .i64 (k : Int))) none none).run Trym.prog wx = .ok (.slice (some ⟨b, off + k, none⟩) (n - k) (n - k)) wx := by
  have he : Trym.prog.elem 22 = 5 := by kernel_rfl
  have hu : Trym.prog.underlying 22 = some (.slice (Trym.prog.elem 22)) := by rw [he]; exact Trym.underlying22
  have hs : (sizeOf 5).run Trym.prog wx = .ok 1 wx := by simp [go_sem]
  rw [run_slice_l wx 22 (some ⟨b, off, none⟩) n n hu .i64 (k : Int) (by omega) (by omega), he, hs]
  have e : ¬ n = k := by omega
  simp [sliced, Result.andThen, e, Addr.add_lit]

end Go.Proofs.Qxb6000643aMods.Byt
