import GoSem.Op.String
namespace Go.Proofs.Qxb6604081aMods.Str

/-- The order of strings: byte by byte. -/
def le (a b : ByteArray) : Prop := a.toList ≤ b.toList

theorem le_refl (a : ByteArray) : le a a := List.le_refl _
theorem le_trans {a b c : ByteArray} (h : le a b) (k : le b c) : le a c := List.le_trans h k

/-- The model's '<' on strings is the order of the bytes' lists. -/
theorem less_iff (x : List UInt8) : ∀ y, Op.bytesLess x y = true ↔ x < y := by
  induction x with
  | nil => intro y; cases y <;> simp [Op.bytesLess]
  | cons a x ih =>
    intro y
    cases y with
    | nil => simp [Op.bytesLess]
    | cons b y => simp only [Op.bytesLess, Bool.or_eq_true, Bool.and_eq_true, decide_eq_true_eq, beq_iff_eq, ih, List.cons_lt_cons_iff]

theorem less_eq (x y : List UInt8) : Op.bytesLess x y = decide (x < y) := by
  rw [Bool.eq_iff_iff, less_iff, decide_eq_true_eq]

theorem le_of_lss {a b : ByteArray} (h : Op.bytesLess a.toList b.toList = true) : le a b := by
  rw [less_eq, decide_eq_true_eq] at h
  exact List.le_of_lt h
theorem le_of_not_lss {a b : ByteArray} (h : Op.bytesLess a.toList b.toList = false) : le b a := by
  rw [less_eq, decide_eq_false_iff_not] at h
  exact List.not_lt.1 h
theorem le_of_leq {a b : ByteArray} (h : (Op.bytesLess a.toList b.toList || a.toList == b.toList) = true) : le a b := by
  rw [Bool.or_eq_true] at h
  rcases h with h | h
  · exact le_of_lss h
  · have e : a.toList = b.toList := by simpa using h
    unfold le
    rw [e]
    exact List.le_refl _
theorem le_of_not_leq {a b : ByteArray} (h : (Op.bytesLess a.toList b.toList || a.toList == b.toList) = false) : le b a := by
  rw [Bool.or_eq_false_iff] at h
  exact le_of_not_lss h.1

/-- Strings that are in order come one before the other. -/
theorem not_lss_of_le {a b : ByteArray} (h : le b a) : Op.bytesLess a.toList b.toList = false := by
  rw [less_eq, decide_eq_false_iff_not]
  exact List.not_lt.2 h

/-- Runs of wd strings are in order. -/
def Runs (wd n : Nat) (A : Nat → ByteArray) : Prop := ∀ c p q, c * wd ≤ p → p ≤ q → q < c * wd + wd → q < n → le (A p) (A q)

/-- The same strings, up to order and number. -/
def Same (n : Nat) (A B : Nat → ByteArray) : Prop := (∀ p, p < n → ∃ q, q < n ∧ A p = B q) ∧ ∀ q, q < n → ∃ p, p < n ∧ A p = B q

theorem Same.refl (n : Nat) (A : Nat → ByteArray) : Same n A A := ⟨fun p hp => ⟨p, hp, rfl⟩, fun p hp => ⟨p, hp, rfl⟩⟩
theorem Same.trans {n : Nat} {A B C : Nat → ByteArray} (h : Same n A B) (k : Same n B C) : Same n A C := by
  refine ⟨fun p hp => ?_, fun r hr => ?_⟩
  · obtain ⟨q, hq, e⟩ := h.1 p hp
    obtain ⟨r, hr, e2⟩ := k.1 q hq
    exact ⟨r, hr, e.trans e2⟩
  · obtain ⟨q, hq, e⟩ := k.2 r hr
    obtain ⟨p, hp, e2⟩ := h.2 q hq
    exact ⟨p, hp, e2.trans e⟩

theorem runs_one (n : Nat) (A : Nat → ByteArray) : Runs 1 n A := by
  intro c p q h1 h2 h3 _
  have : p = q := by omega
  rw [this]
  exact le_refl _

/-- All strings are in order. -/
def Sorted (n : Nat) (A : Nat → ByteArray) : Prop := ∀ p q, p ≤ q → q < n → le (A p) (A q)

theorem sorted_of_runs {wd n : Nat} {A : Nat → ByteArray} (h : Runs wd n A) (hw : n ≤ wd) : Sorted n A := fun p q hp hq => h 0 p q (by omega) hp (by omega) hq

/-- A merge in the midst: the runs A[lo:mid], A[mid:hi] are merged into B[lo:hi]; i, j stand in them, k in B. -/
structure Mrg (A B : Nat → ByteArray) (lo mid hi i j k : Nat) : Prop where
  loi : lo ≤ i
  imid : i ≤ mid
  midj : mid ≤ j
  jhi : j ≤ hi
  cnt : k + mid = i + j
  sorted : ∀ p q, lo ≤ p → p ≤ q → q < k → le (B p) (B q)
  leI : ∀ p, lo ≤ p → p < k → i < mid → le (B p) (A i)
  leJ : ∀ p, lo ≤ p → p < k → j < hi → le (B p) (A j)
  src : ∀ p, lo ≤ p → p < k → ∃ q, lo ≤ q ∧ q < hi ∧ B p = A q
  toI : ∀ q, lo ≤ q → q < i → ∃ p, lo ≤ p ∧ p < k ∧ B p = A q
  toJ : ∀ q, mid ≤ q → q < j → ∃ p, lo ≤ p ∧ p < k ∧ B p = A q

theorem Mrg.start (A B : Nat → ByteArray) {lo mid hi : Nat} (h1 : lo ≤ mid) (h2 : mid ≤ hi) : Mrg A B lo mid hi lo mid lo :=
  ⟨Nat.le_refl _, h1, Nat.le_refl _, h2, by omega, fun p q _ _ _ => by omega, fun p _ _ => by omega, fun p _ _ => by omega, fun p _ _ => by omega, fun q _ _ => by omega, fun q _ _ => by omega⟩

/-- One string is taken from the left run. -/
theorem Mrg.takeI {A B : Nat → ByteArray} {lo mid hi i j k : Nat} (h : Mrg A B lo mid hi i j k) (hi' : i < mid) (hA : ∀ p q, lo ≤ p → p ≤ q → q < mid → le (A p) (A q)) (hij : j < hi → le (A i) (A j)) :
    Mrg A (fun p => if p = k then A i else B p) lo mid hi (i + 1) j (k + 1) := by
  obtain ⟨loi, imid, midj, jhi, cnt, srt, lI, lJ, src, tI, tJ⟩ := h
  have ek : ∀ p, p < k → (if p = k then A i else B p) = B p := fun p hp => if_neg (by omega)
  have ekk : (if k = k then A i else B k) = A i := if_pos rfl
  refine ⟨by omega, by omega, by omega, by omega, by omega, fun p q hp hpq hq => ?_, fun p hp hpk hlt => ?_, fun p hp hpk hlt => ?_, fun p hp hpk => ?_, fun q hq hqi => ?_, fun q hq hqj => ?_⟩
  · by_cases e : q = k
    · subst e
      rw [ekk]
      by_cases e2 : p = q
      · subst e2; rw [ekk]; exact le_refl _
      · rw [ek p (by omega)]; exact lI p hp (by omega) hi'
    · rw [ek q (by omega), ek p (by omega)]
      exact srt p q hp hpq (by omega)
  · by_cases e : p = k
    · subst e; rw [ekk]; exact hA i (i + 1) loi (by omega) hlt
    · rw [ek p (by omega)]
      exact le_trans (lI p hp (by omega) hi') (hA i (i + 1) loi (by omega) hlt)
  · by_cases e : p = k
    · subst e; rw [ekk]; exact hij hlt
    · rw [ek p (by omega)]
      exact lJ p hp (by omega) hlt
  · by_cases e : p = k
    · subst e; rw [ekk]; exact ⟨i, loi, by omega, rfl⟩
    · rw [ek p (by omega)]; exact src p hp (by omega)
  · by_cases e : q = i
    · subst e; exact ⟨k, by omega, by omega, if_pos rfl⟩
    · obtain ⟨p, hp, hpk, e2⟩ := tI q hq (by omega)
      exact ⟨p, hp, by omega, (ek p hpk).trans e2⟩
  · obtain ⟨p, hp, hpk, e2⟩ := tJ q hq hqj
    exact ⟨p, hp, by omega, (ek p hpk).trans e2⟩

/-- One string is taken from the right run. -/
theorem Mrg.takeJ {A B : Nat → ByteArray} {lo mid hi i j k : Nat} (h : Mrg A B lo mid hi i j k) (hj' : j < hi) (hA : ∀ p q, mid ≤ p → p ≤ q → q < hi → le (A p) (A q)) (hij : i < mid → le (A j) (A i)) :
    Mrg A (fun p => if p = k then A j else B p) lo mid hi i (j + 1) (k + 1) := by
  obtain ⟨loi, imid, midj, jhi, cnt, srt, lI, lJ, src, tI, tJ⟩ := h
  have ek : ∀ p, p < k → (if p = k then A j else B p) = B p := fun p hp => if_neg (by omega)
  have ekk : (if k = k then A j else B k) = A j := if_pos rfl
  refine ⟨by omega, by omega, by omega, by omega, by omega, fun p q hp hpq hq => ?_, fun p hp hpk hlt => ?_, fun p hp hpk hlt => ?_, fun p hp hpk => ?_, fun q hq hqi => ?_, fun q hq hqj => ?_⟩
  · by_cases e : q = k
    · subst e
      rw [ekk]
      by_cases e2 : p = q
      · subst e2; rw [ekk]; exact le_refl _
      · rw [ek p (by omega)]; exact lJ p hp (by omega) hj'
    · rw [ek q (by omega), ek p (by omega)]
      exact srt p q hp hpq (by omega)
  · by_cases e : p = k
    · subst e; rw [ekk]; exact hij hlt
    · rw [ek p (by omega)]
      exact lI p hp (by omega) hlt
  · by_cases e : p = k
    · subst e; rw [ekk]; exact hA j (j + 1) midj (by omega) hlt
    · rw [ek p (by omega)]
      exact le_trans (lJ p hp (by omega) hj') (hA j (j + 1) midj (by omega) hlt)
  · by_cases e : p = k
    · subst e; rw [ekk]; exact ⟨j, by omega, by omega, rfl⟩
    · rw [ek p (by omega)]; exact src p hp (by omega)
  · obtain ⟨p, hp, hpk, e2⟩ := tI q hq hqi
    exact ⟨p, hp, by omega, (ek p hpk).trans e2⟩
  · by_cases e : q = j
    · subst e; exact ⟨k, by omega, by omega, if_pos rfl⟩
    · obtain ⟨p, hp, hpk, e2⟩ := tJ q hq (by omega)
      exact ⟨p, hp, by omega, (ek p hpk).trans e2⟩

/-- A pass in the midst: the runs of 2 * wd below lo have been merged. -/
structure Pass (A B : Nat → ByteArray) (wd n lo : Nat) : Prop where
  sorted : ∀ c p q, c * (2 * wd) ≤ p → p ≤ q → q < c * (2 * wd) + 2 * wd → q < n → q < lo → le (B p) (B q)
  src : ∀ p, p < n → p < lo → ∃ q, q < n ∧ B p = A q
  dst : ∀ q, q < n → q < lo → ∃ p, p < n ∧ p < lo ∧ B p = A q

theorem Pass.start (A B : Nat → ByteArray) (wd n : Nat) : Pass A B wd n 0 :=
  ⟨fun c p q _ _ _ _ h => by omega, fun p _ h => by omega, fun q _ h => by omega⟩

/-- One pair of runs more. -/
theorem Pass.step {A B B' : Nat → ByteArray} {wd n c lo mid hi i j k : Nat} (h : Pass A B wd n lo) (hlo : lo = c * (2 * wd)) (hn : hi ≤ n) (h2 : hi = lo + 2 * wd ∨ (hi = n ∧ n ≤ lo + 2 * wd)) (hw : 1 ≤ wd)
    (hB : ∀ p, p < lo → B' p = B p) (hm : Mrg A B' lo mid hi i j k) (hk : hi ≤ k) (hmid : mid ≤ hi) : Pass A B' wd n (lo + 2 * wd) := by
  obtain ⟨loi, imid, midj, jhi, cnt, srt, lI, lJ, src, tI, tJ⟩ := hm
  have ei : i = mid := by omega
  have ej : j = hi := by omega
  subst ei ej
  refine ⟨fun d p q hp hpq hq hqn hqlo => ?_, fun p hp hplo => ?_, fun q hq hqlo => ?_⟩
  · by_cases e : q < lo
    · rw [hB p (by omega), hB q e]
      exact h.sorted d p q hp hpq hq hqn e
    · have h1 : c * (2 * wd) < (d + 1) * (2 * wd) := by rw [Nat.succ_mul d (2 * wd)]; omega
      have h3 : c < d + 1 := Nat.lt_of_mul_lt_mul_right h1
      have h4 : d * (2 * wd) < (c + 1) * (2 * wd) := by rw [Nat.succ_mul c (2 * wd)]; omega
      have h5 : d < c + 1 := Nat.lt_of_mul_lt_mul_right h4
      have h6 : d = c := by omega
      subst h6
      exact srt p q (by omega) hpq (by omega)
  · by_cases e : p < lo
    · rw [hB p e]; exact h.src p hp e
    · obtain ⟨q, _, hq, e2⟩ := src p (by omega) (by omega)
      exact ⟨q, by omega, e2⟩
  · by_cases e : q < lo
    · obtain ⟨p, hp, hpl, e2⟩ := h.dst q hq e
      exact ⟨p, hp, by omega, (hB p hpl).trans e2⟩
    · by_cases e2 : q < i
      · obtain ⟨p, hp, hpk, e3⟩ := tI q (by omega) e2
        exact ⟨p, by omega, by omega, e3⟩
      · obtain ⟨p, hp, hpk, e3⟩ := tJ q (by omega) (by omega)
        exact ⟨p, by omega, by omega, e3⟩

/-- A whole pass: the runs are twice as long. -/
theorem Pass.done {A B : Nat → ByteArray} {wd n lo : Nat} (h : Pass A B wd n lo) (hn : n ≤ lo) : Runs (wd * 2) n B ∧ Same n B A := by
  refine ⟨fun c p q hp hpq hq hqn => ?_, fun p hp => h.src p hp (by omega), fun q hq => ?_⟩
  · rw [Nat.mul_comm wd 2] at hp hq
    exact h.sorted c p q hp hpq hq hqn (by omega)
  · obtain ⟨p, hp, _, e⟩ := h.dst q hq (by omega)
    exact ⟨p, hp, e⟩

/-- The left run of a pair. -/
theorem Runs.left {wd n c lo mid : Nat} {A : Nat → ByteArray} (h : Runs wd n A) (hlo : lo = c * (2 * wd)) (hm : mid ≤ lo + wd) (hn : mid ≤ n) : ∀ p q, lo ≤ p → p ≤ q → q < mid → le (A p) (A q) := by
  intro p q hp hpq hq
  have e : (2 * c) * wd = c * (2 * wd) := by rw [Nat.mul_comm 2 c, Nat.mul_assoc]
  exact h (2 * c) p q (by omega) hpq (by omega) (by omega)

/-- The right run of a pair. -/
theorem Runs.right {wd n c lo mid hi : Nat} {A : Nat → ByteArray} (h : Runs wd n A) (hlo : lo = c * (2 * wd)) (hm : mid = lo + wd ∨ hi ≤ mid) (hh : hi ≤ lo + 2 * wd) (hn : hi ≤ n) : ∀ p q, mid ≤ p → p ≤ q → q < hi → le (A p) (A q) := by
  intro p q hp hpq hq
  have e : (2 * c + 1) * wd = c * (2 * wd) + wd := by rw [Nat.succ_mul, Nat.mul_comm 2 c, Nat.mul_assoc]
  exact h (2 * c + 1) p q (by omega) hpq (by omega) (by omega)

end Go.Proofs.Qxb6604081aMods.Str
