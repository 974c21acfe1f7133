import Derived.Test.Qxb6604081aModsDig
namespace Go.Proofs.Qxb6604081aMods.Dig
open Go.RowKit

/-- The buffer of b1Utoa: twenty bytes at block b, digits from i on; nothing below b has turned. -/
structure Buf (w0 w : World) (b i : Nat) : Prop where
  cells : ∃ f : Nat → UInt8, (∀ j, j < 20 → w.cell? ⟨b, j, none⟩ = some (.int .u8 ((f j).toNat : Int))) ∧ ∀ j, j < 20 → i ≤ j → isDig ((f j).toNat : Int) = true
  free : ∀ j, w.frozen? ⟨b, j, none⟩ = false
  below : Below b w0 w

/-- One digit more is laid at k. -/
theorem Buf.step {w0 w : World} {b i k : Nat} (h : Buf w0 w b i) (hk : k < 20) (hi : i = k + 1) (d : Int) (hd : isDig d = true) : Buf w0 (w.setCell ⟨b, k, none⟩ (.int .u8 d)) b k := by
  obtain ⟨⟨f, h1, h2⟩, hf, hb⟩ := h
  have hd' : 48 ≤ d ∧ d ≤ 57 := by simpa [isDig] using hd
  have hu : ((UInt8.ofNat d.toNat).toNat : Int) = d := by
    rw [UInt8.toNat_ofNat']
    omega
  refine ⟨⟨fun j => if j = k then UInt8.ofNat d.toNat else f j, fun j hj => ?_, fun j hj hij => ?_⟩, fun j => by rw [World.frozen?_setCell]; exact hf j, hb.setCell (Nat.le_refl _) _⟩
  · by_cases e : j = k
    · subst e
      simp only [if_true]
      rw [hu]
      exact World.cell?_setCell_same _ _ _ (h1 j hj)
    · simp only [if_neg e]
      rw [World.cell?_setCell_other _ _ _ _ (by intro h; injection h; omega)]
      exact h1 j hj
  · by_cases e : j = k
    · simp only [if_pos e]
      rw [hu]; exact hd
    · simp only [if_neg e]
      exact h2 j hj (by omega)

theorem add_none (b o i : Nat) : (⟨b, o, none⟩ : Addr).add i = ⟨b, o + i, none⟩ := by
  by_cases h : i = 0
  · subst h; rfl
  · simp [Addr.add, h]

/-- 'buf[k:]', k below 20. -/
theorem slice_buf (b k : Nat) (hk : k < 20) (wx : World) : (Instr.sliceAt 32 (.pointer (some ⟨b, 0, none⟩)) (some (.int .i64 (k : Int))) none none).run Trym.prog wx = .ok (.slice (some ⟨b, k, none⟩) (20 - k) (20 - k)) wx := by
  have ha : Trym.prog.arrayLen 32 = 20 := by kernel_rfl
  have he : Trym.prog.elem 32 = 5 := by kernel_rfl
  have hu : Trym.prog.underlying 32 = some (.array (Trym.prog.arrayLen 32) (Trym.prog.elem 32)) := by rw [ha, he]; exact Trym.underlying32
  rw [run_sliceAt_array_l wx 32 _ hu .i64 (k : Int) (by omega) (by rw [ha]; omega), ha, he]
  have hs : (sizeOf 5).run Trym.prog wx = .ok 1 wx := by simp [go_sem]
  rw [hs]
  simp [slicedAt, Addr.add]
  rw [if_neg (by omega)]
  split
  · rename_i h; rw [h]
  · rfl

/-- 'string(buf[k:])': a text of 20 - k digits. -/
theorem Buf.text {w0 w : World} {b k : Nat} (h : Buf w0 w b k) (hk : k < 20) :
    ∃ s : ByteArray, (convert 33 9 (.slice (some ⟨b, k, none⟩) (20 - k) (20 - k))).run Trym.prog w = .ok (.string s) w ∧ s.size = 20 - k ∧ ∀ j (hj : j < s.size), isDig (s[j].toNat : Int) = true := by
  obtain ⟨⟨f, h1, h2⟩, hf, hb⟩ := h
  have hl : ((List.range (20 - k)).map (fun j => f (k + j))).length = 20 - k := by simp
  refine ⟨⟨((List.range (20 - k)).map (fun j => f (k + j))).toArray⟩, ?_, ?_, ?_⟩
  · have := run_convert_bytes_back (P := Trym.prog) w 33 9 5 ⟨b, k, none⟩ (20 - k) ((List.range (20 - k)).map (fun j => f (k + j))) Trym.underlying33 Trym.underlying5 Trym.underlying9 (fun j hj => by
      rw [hl] at hj
      rw [add_none, List.getElem_map, List.getElem_range]
      exact h1 (k + j) (by omega))
    rw [hl] at this
    exact this
  · show ((List.range (20 - k)).map (fun j => f (k + j))).toArray.size = _
    simp
  · intro j hj
    have hj' : j < 20 - k := by
      have e : ByteArray.size ⟨((List.range (20 - k)).map (fun j => f (k + j))).toArray⟩ = 20 - k := by
        show ((List.range (20 - k)).map (fun j => f (k + j))).toArray.size = _
        simp
      omega
    have e : (⟨((List.range (20 - k)).map (fun j => f (k + j))).toArray⟩ : ByteArray)[j] = f (k + j) := by
      show ((List.range (20 - k)).map (fun j => f (k + j))).toArray[j]'_ = _
      simp
    rw [e]
    exact h2 (k + j) (by omega) (by omega)

theorem zeros_at (w : World) (j : Nat) (hj : j < 20) (t : TypeId) : (w.alloc (.cells #[.int .u8 0, .int .u8 0, .int .u8 0, .int .u8 0, .int .u8 0, .int .u8 0, .int .u8 0, .int .u8 0, .int .u8 0, .int .u8 0, .int .u8 0, .int .u8 0, .int .u8 0, .int .u8 0, .int .u8 0, .int .u8 0, .int .u8 0, .int .u8 0, .int .u8 0, .int .u8 0] t)).cell? ⟨w.heap.size, j, none⟩ = some (.int .u8 ((0 : UInt8).toNat : Int)) := by
  rw [World.cell?_alloc_new]
  rcases (by omega : j = 0 ∨ j = 1 ∨ j = 2 ∨ j = 3 ∨ j = 4 ∨ j = 5 ∨ j = 6 ∨ j = 7 ∨ j = 8 ∨ j = 9 ∨ j = 10 ∨ j = 11 ∨ j = 12 ∨ j = 13 ∨ j = 14 ∨ j = 15 ∨ j = 16 ∨ j = 17 ∨ j = 18 ∨ j = 19) with rfl | rfl | rfl | rfl | rfl | rfl | rfl | rfl | rfl | rfl | rfl | rfl | rfl | rfl | rfl | rfl | rfl | rfl | rfl | rfl <;> rfl

set_option maxHeartbeats 400000 in
theorem utoa_any (n : Int) (h0 : 0 ≤ n) (h1 : n < 18446744073709551616) (w : World) :
    Calls Trym.prog 21 #[.int .u64 n] w fun e w' => (∃ s : ByteArray, e = .returned (.string s) ∧ 0 < s.size ∧ s.size ≤ 20 ∧ ∀ j (hj : j < s.size), isDig (s[j].toNat : Int) = true) ∧ Below w.heap.size w w' := by
  go_enter Trym.func21, Trym.ntmps21
  go_wp2
  go_loopw [0, 4] (fun m i wr => ∃ (q : Int) (k : Nat), m = .int .u64 q ∧ i = .int .i64 ((k : Int) + 1) ∧ k < 20 ∧ 0 ≤ q ∧ q < 18446744073709551616 ∧ q < (10 ^ (k + 1) : Nat) ∧ Buf w wr w.heap.size (k + 1)) (fun _ i _ => (intOf i).toNat)
  case atStart =>
    refine ⟨n, 19, rfl, rfl, by omega, h0, h1, by omega, ⟨fun _ => 0, fun j hj => ?_, fun j hj hij => absurd hj (by omega)⟩, fun j => ?_, ?_⟩
    · exact zeros_at w j hj 32
    · exact World.frozen?_alloc_new _ _ _ _
    · exact (Below.refl _ _).alloc (Nat.le_refl _) _
  case round =>
    obtain ⟨q, k, rfl, rfl, hk, hq0, hq2, hq1, hbuf⟩ := hrel
    by_cases hlt : 10 ≤ q
    · obtain ⟨k, rfl⟩ : ∃ k', k = k' + 1 := by
        cases k with
        | zero => simp at hq1; omega
        | succ k => exact ⟨k, rfl⟩
      have hp : (10 ^ (k + 1 + 1) : Nat) = 10 * (10 ^ (k + 1) : Nat) := by rw [Nat.pow_succ]; omega
      have HQ : Hid (q / 10 < (10 ^ (k + 1) : Nat)) := by show q / 10 < (10 ^ (k + 1) : Nat); omega
      clear hp hq1
      have hst := fun d hd => hbuf.step (k := k + 1) hk rfl d hd
      obtain ⟨f, hf1, hf2⟩ := hbuf.cells
      have hc := hf1 (k + 1) hk
      have hz := hbuf.free (k + 1)
      clear hf1 hf2
      go_wp2
      go_roundw
      case rel =>
        exact ⟨q / 10, k, rfl, rfl, by omega, by omega, by omega, HQ.out, hst _ (by simp [isDig]; omega)⟩
      case measure => simp [intOf]; omega
    · have HT := (hbuf.step (k := k) hk rfl (48 + q) (by simp [isDig]; omega)).text hk
      have HB := (hbuf.step (k := k) hk rfl (48 + q) (by simp [isDig]; omega)).below
      obtain ⟨s, hcv, hss, hdig⟩ := HT
      have HS : Hid (s.size = 20 - k) := hss
      clear hss
      have hsl := slice_buf w.heap.size k hk
      obtain ⟨f, hf1, hf2⟩ := hbuf.cells
      have hc := hf1 k hk
      have hz := hbuf.free k
      clear hf1 hf2
      go_wp2
      go_ret
      exact ⟨⟨s, rfl, by rw [HS.out]; omega, by rw [HS.out]; omega, hdig⟩, HB⟩
end Go.Proofs.Qxb6604081aMods.Dig
