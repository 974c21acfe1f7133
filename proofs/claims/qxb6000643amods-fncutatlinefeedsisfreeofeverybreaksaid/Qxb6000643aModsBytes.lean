import Derived.Test.Qxb6000643aModsRows
import Derived.WalkKit
import Derived.WalkSpells
import Derived.WalkLawsBesides
import Derived.Deep.OwnRows
import Derived.Below
namespace Go.Proofs.Qxb6000643aMods.Byt
open Go.RowKit

/-- The slice of n bytes at address a holds L 0, .., L (n - 1). -/
def ByteAt (w : World) (a : Option Addr) (n : Nat) (L : Nat → Int) : Prop :=
  ∀ i, i < n → ∃ b off, a = some ⟨b, off, none⟩ ∧ w.cell? ⟨b, off + i, none⟩ = some (.int .u8 (L i))

/-- Each number is a byte. -/
def IsByte (L : Nat → Int) : Prop := ∀ i, 0 ≤ L i ∧ L i ≤ 255

theorem ByteAt.keep {w w' : World} {a : Option Addr} {n : Nat} {L : Nat → Int} (h : ByteAt w a n L) (hb : Below w.heap.size w w') : ByteAt w' a n L := by
  intro i hi
  obtain ⟨b, off, e, hc⟩ := h i hi
  exact ⟨b, off, e, (hb.cell (World.block_lt_of_cell? _ _ hc)).trans hc⟩

theorem ByteAt.drewN {w : World} {a : Option Addr} {n : Nat} {L : Nat → Int} (h : ByteAt w a n L) (m : Nat) : ByteAt (w.drewN m) a n L := h

theorem ByteAt.front {w : World} {a : Option Addr} {n m : Nat} {L : Nat → Int} (h : ByteAt w a n L) (hm : m ≤ n) : ByteAt w a m L := fun i hi => h i (by omega)

theorem ByteAt.of_row {w : World} {g n : Nat} {L : Nat → Int} (h : w.rowIs g 5 n (fun i => .int .u8 (L i))) : ByteAt w (some ⟨g, 0, none⟩) n L := by
  intro i hi
  refine ⟨g, 0, rfl, ?_⟩
  rw [Nat.zero_add]
  exact h.cell hi

theorem ret_bool {a b : Bool} (h : a = b) : Ending.returned (.bool a) = .returned (.bool b) := by rw [h]
theorem ret_int {k : IntKind} {a b : Int} (h : a = b) : Ending.returned (.int k a) = .returned (.int k b) := by rw [h]

/-- It returns a bool. -/
def IsBool (e : Ending) : Prop := ∃ b, e = .returned (.bool b)
theorem isBool (b : Bool) : IsBool (.returned (.bool b)) := ⟨b, rfl⟩

set_option maxHeartbeats 400000 in
theorem bytes17_any (x y z : Int) (a : Option Addr) (n cap : Nat) (w : World) (hn : n ≤ maxLen) :
    Calls Trym.prog 17 #[.int .i64 x, .int .i64 y, .slice a n cap, .int .i64 z] w fun e w' => IsBool e ∧ w' = w := by
  unfold maxLen at hn
  go_enter Trym.func17, Trym.ntmps17
  go_wp2
  all_goals (go_ret; exact ⟨isBool _, rfl⟩)

set_option maxHeartbeats 400000 in
theorem bytes18_any (x y : Int) (a : Option Addr) (n cap : Nat) (w : World) (hn : n ≤ maxLen) :
    Calls Trym.prog 18 #[.int .i64 x, .int .i64 y, .slice a n cap] w fun e w' => IsBool e ∧ w' = w := by
  unfold maxLen at hn
  go_enter Trym.func18, Trym.ntmps18
  go_wp2
  all_goals (go_ret; exact ⟨isBool _, rfl⟩)

set_option maxHeartbeats 400000 in
theorem bytes19_any (a : Option Addr) (n cap : Nat) (w : World) (hn : n ≤ maxLen) :
    Calls Trym.prog 19 #[.slice a n cap] w fun e w' => IsBool e ∧ w' = w := by
  unfold maxLen at hn
  go_enter Trym.func19, Trym.ntmps19
  go_wp2
  all_goals (go_ret; exact ⟨isBool _, rfl⟩)

theorem info5 : (Trym.prog.info? 5).map (fun i => (i.zero, i.size, i.bytes)) = some (some (.int .u8 0), 1, 1) := by kernel_rfl

/-- What a loop that fills a row has laid by its k-th round: the first k bytes of L, zeros behind. -/
def upto (k : Nat) (L : Nat → Int) : Nat → Value := fun j => .int .u8 (if j < k then L j else 0)

theorem upto_step {w : World} {g n k : Nat} {L : Nat → Int} (h : w.rowIs g 5 n (upto k L)) : (w.setCell ⟨g, k, none⟩ (.int .u8 (L k))).rowIs g 5 n (upto (k + 1) L) := by
  refine (h.set k (.int .u8 (L k))).congr fun j hj => ?_
  unfold upto
  by_cases e : j = k
  · subst e; simp
  · by_cases h2 : j < k
    · simp [e, h2, (by omega : j < k + 1)]
    · simp only [if_neg e, if_neg h2, if_neg (by omega : ¬ j < k + 1)]

theorem upto_all {w : World} {g n : Nat} {L : Nat → Int} (h : w.rowIs g 5 n (upto n L)) : w.rowIs g 5 n (fun i => .int .u8 (L i)) :=
  h.congr fun j hj => by simp [upto, hj]

theorem upto_made (w : World) (n : Nat) (L : Nat → Int) : (w.alloc (.cells (madeCells #[.int .u8 0] n) 5)).rowIs w.heap.size 5 n (upto 0 L) :=
  (World.rowIs_made w (.int .u8 0) n 5).congr fun j _ => by simp [upto]

/-- zzClone's answer: a slice of the same bytes. -/
def Cloned (n : Nat) (L : Nat → Int) (e : Ending) (w : World) : Prop := ∃ a, e = .returned (.slice a n n) ∧ ByteAt w a n L

set_option maxHeartbeats 400000 in
theorem clone_any (a : Option Addr) (n cap : Nat) (L : Nat → Int) (w : World) (hn : n ≤ 1048576) (hS : ByteAt w a n L) (h0 : a = none → n = 0) :
    Calls Trym.prog 14 #[.slice a n cap] w fun e w' => Cloned n L e w' ∧ Below w.heap.size w w' := by
  have hq := fun wx => Lib.run_eql_slice_nil (P := Trym.prog) wx 22 5 a n cap 0 0 Trym.underlying22
  cases a with
  | none =>
    have h0 := h0 rfl
    subst h0
    go_enter Trym.func14, Trym.ntmps14
    go_wp2
    go_ret
    exact ⟨⟨none, rfl, hS⟩, Below.refl _ _⟩
  | some ad =>
    clear h0
    have hmk := run_make_row' (P := Trym.prog) 22 5 (.int .u8 0) 1 Trym.underlying22 info5 rfl .i64 .i64 n (by omega) (by omega)
    go_enter Trym.func14, Trym.ntmps14
    go_wp2
    clear hq hmk
    go_loopw [4] (fun i wr => ∃ k : Nat, k ≤ n ∧ i = .int .i64 k ∧ wr.rowIs w.heap.size 5 n (upto k L) ∧ Below w.heap.size w wr) (fun i _ => n - (intOf i).toNat)
    case atStart => exact ⟨0, Nat.zero_le _, rfl, upto_made w n L, (Below.refl _ _).alloc (Nat.le_refl _) _⟩
    case round =>
      obtain ⟨k, hk, rfl, hrow, hbel⟩ := hrel
      by_cases hlt : k < n
      · obtain ⟨b, off, ha, hc0⟩ := (hS.keep hbel) k hlt
        injection ha with ha
        subst ha
        have hc1 := hrow.cell hlt
        have hf1 := hrow.frozen k
        have hstep := upto_step hrow
        have hbel2 := hbel.setCell (p := ⟨w.heap.size, k, none⟩) (Nat.le_refl _) (.int .u8 (L k))
        clear hS hrow
        unfold upto at hc1
        go_wp2
        go_roundw
        case rel => exact ⟨k + 1, by omega, by go_num, hstep, hbel2⟩
        case measure => simp [intOf]; omega
      · have e : k = n := by omega
        subst e
        clear hS
        go_wp2
        go_ret
        exact ⟨⟨_, rfl, ByteAt.of_row (upto_all hrow)⟩, hbel⟩

theorem none_zero {w : World} {a : Option Addr} {n : Nat} {L : Nat → Int} (hS : ByteAt w a n L) : a = none → n = 0 := by
  intro ha
  by_cases h : n = 0
  · exact h
  · obtain ⟨b, off, e, _⟩ := hS 0 (by omega)
    rw [ha] at e
    cases e

/-- 'line[:k]'. -/
theorem slice_front (a : Option Addr) (n k : Nat) (hk : k ≤ n) (wx : World) : (Instr.slice 22 (.slice a n n) none (some (.int .i64 (k : Int))) none).run Trym.prog wx = .ok (.slice a k n) wx := by
  have he : Trym.prog.elem 22 = 5 := by kernel_rfl
  have hu : Trym.prog.underlying 22 = some (.slice (Trym.prog.elem 22)) := by rw [he]; exact Trym.underlying22
  have hs : (sizeOf 5).run Trym.prog wx = .ok 1 wx := by simp [go_sem]
  rw [run_slice_h wx 22 a n n hu .i64 (k : Int) (by omega) (by omega), he, hs]
  cases a <;> simp [sliced, Result.andThen, Addr.add]

end Go.Proofs.Qxb6000643aMods.Byt
