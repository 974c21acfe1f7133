import Derived.Laws.World
namespace Go.Proofs.Qxb6000643aMods.Byt

/-- The walk over the characters from x on, up to e: 'f' bounds the steps. -/
def inner (wf : Int → Int) (e : Int) : Nat → Int → Int
  | 0, x => x
  | f + 1, x => if x < e then (if e < x + wf x then x else inner wf e f (x + wf x)) else x

/-- One block on. -/
def step (wf : Int → Int) (off b : Int) : Int := inner wf (b + 512) 512 (max b off)

/-- i blocks on. -/
def blockAt (wf : Int → Int) (off b : Int) : Nat → Int
  | 0 => b
  | i + 1 => step wf off (blockAt wf off b i)

/-- Each character takes one to four bytes. -/
def Widths (wf : Int → Int) : Prop := ∀ x, 1 ≤ wf x ∧ wf x ≤ 4

theorem inner_end {wf : Int → Int} {e x : Int} (f : Nat) (h : ¬ x < e) : inner wf e f x = x := by
  cases f with
  | zero => rfl
  | succ f => rw [inner, if_neg h]
theorem inner_break {wf : Int → Int} {e x : Int} (f : Nat) (h : e < x + wf x) : inner wf e f x = x := by
  cases f with
  | zero => rfl
  | succ f =>
    rw [inner]
    by_cases h1 : x < e
    · rw [if_pos h1, if_pos h]
    · rw [if_neg h1]
theorem inner_go {wf : Int → Int} {e x : Int} (f : Nat) (h1 : x < e) (h2 : ¬ e < x + wf x) : inner wf e (f + 1) x = inner wf e f (x + wf x) := by
  rw [inner, if_pos h1, if_neg h2]

theorem inner_ge {wf : Int → Int} (hw : Widths wf) {e : Int} : ∀ (f : Nat) (x : Int), x ≤ inner wf e f x
  | 0, x => Int.le_refl _
  | f + 1, x => by
    rw [inner]
    split
    · split
      · exact Int.le_refl _
      · have := inner_ge hw (e := e) f (x + wf x)
        have := (hw x).1
        omega
    · exact Int.le_refl _

theorem inner_le {wf : Int → Int} {e : Int} : ∀ (f : Nat) (x : Int), inner wf e f x ≤ max e x
  | 0, x => by simp only [inner]; omega
  | f + 1, x => by
    rw [inner]
    split
    · split
      · omega
      · have := inner_le (wf := wf) (e := e) f (x + wf x)
        omega
    · omega

theorem step_gt {wf : Int → Int} (hw : Widths wf) (off b : Int) : b < step wf off b := by
  unfold step
  by_cases h : b < off
  · have := inner_ge hw (e := b + 512) 512 (max b off)
    omega
  · have e : max b off = b := by omega
    rw [e]
    have h4 := (hw b).2
    have h1 := (hw b).1
    rw [inner_go 511 (by omega) (by omega)]
    have := inner_ge hw (e := b + 512) 511 (b + wf b)
    omega

theorem step_le (wf : Int → Int) (off b : Int) : step wf off b ≤ max (b + 512) off := by
  have := inner_le (wf := wf) (e := b + 512) 512 (max b off)
  unfold step
  omega

theorem blockAt_mono {wf : Int → Int} (hw : Widths wf) (off b : Int) (i : Nat) : ∀ d, blockAt wf off b i ≤ blockAt wf off b (i + d)
  | 0 => Int.le_refl _
  | d + 1 => by
    have h1 := blockAt_mono hw off b i d
    have h2 := step_gt hw off (blockAt wf off b (i + d))
    show blockAt wf off b i ≤ step wf off (blockAt wf off b (i + d))
    omega

/-- r is the block that nextBlock answers. -/
def IsBlock (wf : Int → Int) (off b p r : Int) : Prop := ∃ N : Nat, r = blockAt wf off b N ∧ (∀ i, i < N → blockAt wf off b i + 512 ≤ p) ∧ p < blockAt wf off b N + 512

theorem IsBlock.ge {wf : Int → Int} {off b p r : Int} (h : IsBlock wf off b p r) (hw : Widths wf) : b ≤ r := by
  obtain ⟨N, rfl, _, _⟩ := h
  have := blockAt_mono hw off b 0 N
  rw [Nat.zero_add] at this
  exact this

theorem IsBlock.lt {wf : Int → Int} {off b p r : Int} (h : IsBlock wf off b p r) : p < r + 512 := by
  obtain ⟨N, rfl, _, h2⟩ := h
  exact h2

theorem IsBlock.le {wf : Int → Int} {off b p r : Int} (h : IsBlock wf off b p r) (hb : b ≤ off) (hp : off ≤ p) : r ≤ p := by
  obtain ⟨N, rfl, h1, _⟩ := h
  cases N with
  | zero => show b ≤ p; omega
  | succ N =>
    have h2 := h1 N (by omega)
    have h3 := step_le wf off (blockAt wf off b N)
    show step wf off (blockAt wf off b N) ≤ p
    omega

/-- A shorter line never yields a later block. -/
theorem IsBlock.mono {wf : Int → Int} {off b p q r s : Int} (h : IsBlock wf off b p r) (k : IsBlock wf off b q s) (hw : Widths wf) (hpq : q ≤ p) : s ≤ r := by
  obtain ⟨N, rfl, _, h2⟩ := h
  obtain ⟨M, rfl, k1, _⟩ := k
  have hMN : M ≤ N := by
    by_cases hh : M ≤ N
    · exact hh
    · have := k1 N (by omega)
      omega
  have := blockAt_mono hw off b M (N - M)
  rw [show M + (N - M) = N by omega] at this
  exact this

theorem inner_ones {wf : Int → Int} (h1 : ∀ x, wf x = 1) {e : Int} : ∀ (f : Nat) (x : Int), x ≤ e → e - x ≤ f → inner wf e f x = e
  | 0, x, h2, h3 => by simp only [inner]; omega
  | f + 1, x, h2, h3 => by
    by_cases h : x < e
    · rw [inner_go f h (by rw [h1]; omega), h1]
      exact inner_ones h1 f (x + 1) (by omega) (by omega)
    · rw [inner_end _ h]; omega

/-- Over single bytes a block is 512 bytes. -/
theorem blockAt_ones {wf : Int → Int} (h1 : ∀ x, wf x = 1) {off b : Int} (hb : off - b < 512) : ∀ i : Nat, blockAt wf off b i = b + 512 * (i : Int)
  | 0 => by simp [blockAt]
  | i + 1 => by
    rw [blockAt, blockAt_ones h1 hb i, step, inner_ones h1 512 _ (by omega) (by omega)]
    omega

theorem IsBlock.ones {wf : Int → Int} {off b p r : Int} (h : IsBlock wf off b p r) (h1 : ∀ x, wf x = 1) (hb : off - b < 512) (hb2 : b ≤ p) : r = b + 512 * ((p - b) / 512) := by
  obtain ⟨N, rfl, k1, k2⟩ := h
  rw [blockAt_ones h1 hb] at k2 ⊢
  have : (p - b) / 512 = (N : Int) := by
    cases N with
    | zero => omega
    | succ N =>
      have k3 := k1 N (by omega)
      rw [blockAt_ones h1 hb] at k3
      omega
  rw [this]

end Go.Proofs.Qxb6000643aMods.Byt
