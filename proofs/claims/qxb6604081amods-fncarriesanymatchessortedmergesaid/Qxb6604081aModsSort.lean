import Derived.Test.Qxb6604081aModsClone
import Derived.Test.Qxb6604081aModsMerge
import Derived.Deep.QuietTactic
import Derived.BigQuiet
import Derived.Deep.DeepCutAuto
namespace Go.Proofs.Qxb6604081aMods.Str
open Go.RowKit

/-- Strings as cells. -/
def cellsOf (A : Nat → ByteArray) : Nat → Value := fun i => .string (A i)

theorem cellsOf_set {w : World} {g n k : Nat} {B : Nat → ByteArray} {x : ByteArray} (h : w.rowIs g 9 n (cellsOf B)) : (w.setCell ⟨g, k, none⟩ (.string x)).rowIs g 9 n (cellsOf (fun p => if p = k then x else B p)) := by
  refine (h.set k (.string x)).congr fun j _ => ?_
  unfold cellsOf
  by_cases e : j = k
  · simp only [if_pos e]
  · simp only [if_neg e]

/-- The two rows of the sort: a at block ga, b at block gb. -/
structure Two (w0 w : World) (n : Nat) (ga gb : Nat) (A B : Nat → ByteArray) : Prop where
  ne : ga ≠ gb
  la : w0.heap.size ≤ ga
  lb : w0.heap.size ≤ gb
  ra : w.rowIs ga 9 n (cellsOf A)
  rb : w.rowIs gb 9 n (cellsOf B)
  below : Below w0.heap.size w0 w

/-- A string is stored into b. -/
theorem Two.put {w0 w : World} {n ga gb : Nat} {A B : Nat → ByteArray} (h : Two w0 w n ga gb A B) (k : Nat) (x : ByteArray) (m : Nat) :
    Two w0 ((w.drewN m).setCell ⟨gb, k, none⟩ (.string x)) n ga gb A (fun p => if p = k then x else B p) := by
  have hra : (w.drewN m).rowIs ga 9 n (cellsOf A) := h.ra
  have hrb : (w.drewN m).rowIs gb 9 n (cellsOf B) := h.rb
  exact ⟨h.ne, h.la, h.lb, hra.setOther (a := ⟨gb, k, none⟩) h.ne _, cellsOf_set hrb, (below_drewN h.below m).setCell (p := ⟨gb, k, none⟩) h.lb _⟩

theorem keep_put {lo q : Nat} {B B3 : Nat → ByteArray} {x : ByteArray} (h : ∀ p, p < lo → B3 p = B p) (hq : lo ≤ q) : ∀ p, p < lo → (fun p => if p = q then x else B3 p) p = B p := by
  intro p hp
  have e : ¬ p = q := by omega
  simp only [if_neg e]
  exact h p hp

/-- What b1SortedCopy hands back. -/
def SortedCopy (n : Nat) (S : Nat → ByteArray) (e : Ending) (w : World) : Prop :=
  ∃ a T, e = .returned (.slice a n n) ∧ StrAt w a n T ∧ Sorted n T ∧ Same n T S

set_option maxRecDepth 100000 in
set_option maxHeartbeats 2000000 in
theorem sortedCopy_any (a : Option Addr) (n cap : Nat) (S : Nat → ByteArray) (w : World) (hn : n ≤ 1048576) (hS : StrAt w a n S) :
    Calls Trym.prog 13 #[.slice a n cap] w fun e w' => SortedCopy n S e w' ∧ Below w.heap.size w w' := by
  have hmk := run_make_row' (P := Trym.prog) 22 9 (.string ByteArray.empty) 16 Trym.underlying22 info9 rfl .i64 .i64 n (by omega) (by omega)
  go_enter Trym.func13, Trym.ntmps13
  go_wp2
  go_loopw [5] (fun i wr => ∃ k : Nat, k ≤ n ∧ i = .int .i64 k ∧ wr.rowIs w.heap.size 9 n (upto k S) ∧ Below w.heap.size w wr) (fun i _ => n - (intOf i).toNat)
  case atStart => exact ⟨0, Nat.zero_le _, rfl, upto_made w n S, (Below.refl _ _).alloc (Nat.le_refl _) _⟩
  case round =>
    obtain ⟨k, hk, rfl, hrow, hbel⟩ := hrel
    by_cases hlt : k < n
    · obtain ⟨b, off, ha, hc0⟩ := (hS.keep hbel) k hlt
      subst ha
      have hc1 := hrow.cell hlt
      have hf1 := hrow.frozen k
      have hstep := upto_step hrow
      have hbel2 := hbel.setCell (p := ⟨w.heap.size, k, none⟩) (Nat.le_refl _) (.string (S k))
      clear hS hrow hmk
      go_wp2
      go_roundw
      case rel => exact ⟨k + 1, by omega, by go_num, hstep, hbel2⟩
      case measure => simp [intOf]; omega
    · have e : k = n := by omega
      subst e
      clear hS
      have hA0 : wr.rowIs w.heap.size 9 k (cellsOf S) := upto_all hrow
      clear hrow
      go_wp2
      clear hmk
      have hT : Two w (wr.alloc (Obj.cells (madeCells #[Value.string ByteArray.empty] k) 9)) k w.heap.size wr.heap.size S (fun _ => ByteArray.empty) :=
        ⟨Nat.ne_of_lt hA0.lt, Nat.le_refl _, hbel.size, hA0.alloc _, World.rowIs_made _ _ _ _, hbel.alloc hbel.size _⟩
      clear hA0 hbel
      go_loopw [4, 6, 7] (fun va vb vw wq => ∃ (ga gb wd : Nat) (A B : Nat → ByteArray), va = .slice (some ⟨ga, 0, none⟩) k k ∧ vb = .slice (some ⟨gb, 0, none⟩) k k ∧ vw = .int .i64 wd ∧ 1 ≤ wd ∧ wd ≤ 2097152 ∧
        Two w wq k ga gb A B ∧ Runs wd k A ∧ Same k A S) (fun _ _ vw _ => k - (intOf vw).toNat)
      case atStart => exact ⟨w.heap.size, wr.heap.size, 1, S, _, rfl, rfl, rfl, by omega, by omega, hT, runs_one _ _, Same.refl _ _⟩
      case round =>
        clear hT
        obtain ⟨ga, gb, wd, A, B, rfl, rfl, rfl, hw1, hw2, hT, hR, hSm⟩ := hrel
        by_cases hwd : wd < k
        · go_wp2
          go_loopw [8] (fun vl wq => ∃ (c lo : Nat) (B2 : Nat → ByteArray), vl = .int .i64 lo ∧ Hid (lo = c * (2 * wd)) ∧ lo ≤ k + 2 * wd ∧ Two w wq k ga gb A B2 ∧ Pass A B2 wd k lo) (fun vl _ => k - (intOf vl).toNat)
          case atStart => exact ⟨0, 0, B, rfl, (by omega : 0 = 0 * (2 * wd)), by omega, hT, Pass.start _ _ _ _⟩
          case round =>
            clear hT
            obtain ⟨c, lo, B2, rfl, HC, hlo, hT, hP⟩ := hrel
            by_cases hlk : lo < k
            · go_upto_if 49 with fail
              go_cut [9] (fun vm wx => wx = wr ∧ ∃ mid : Nat, vm = .int .i64 mid ∧ lo ≤ mid ∧ mid ≤ k ∧ mid ≤ lo + wd ∧ Hid (mid = lo + wd ∨ mid = k))
              case first =>
                by_cases hm : (k : Int) < (lo : Int) + (wd : Int)
                · go_wp2
                  go_meet
                  case rel => exact ⟨rfl, k, rfl, by omega, by omega, by omega, Or.inr rfl⟩
                · go_wp2
                  go_meet
                  case rel => exact ⟨rfl, lo + wd, by go_num, by omega, by omega, by omega, Or.inl rfl⟩
              case rest =>
                obtain ⟨rfl, mid, rfl, hm1, hm2, hm3, HM⟩ := hcut
                go_upto_if 57 with fail
                go_cut [10] (fun vh wx => wx = wc ∧ ∃ hi : Nat, vh = .int .i64 hi ∧ mid ≤ hi ∧ hi ≤ k ∧ hi ≤ lo + 2 * wd ∧ Hid (hi = lo + 2 * wd ∨ (hi = k ∧ k ≤ lo + 2 * wd)))
                case first =>
                  by_cases hm : (k : Int) < (lo : Int) + 2 * (wd : Int)
                  · go_wp2
                    go_meet
                    case rel => exact ⟨rfl, k, rfl, by omega, by omega, by omega, Or.inr ⟨rfl, by omega⟩⟩
                  · go_wp2
                    go_meet
                    case rel => exact ⟨rfl, lo + 2 * wd, by go_num, by omega, by omega, by omega, Or.inl rfl⟩
                case rest =>
                  obtain ⟨rfl, hi, rfl, hh1, hh2, hh3, HH⟩ := hcut
                  go_wp2
                  have hRl := hR.left HC.out hm3 hm2
                  have hRr := hR.right (mid := mid) (hi := hi) HC.out (by rcases HM.out with e | e <;> omega) hh3 hh2
                  have HRl : Hid (∀ p q, lo ≤ p → p ≤ q → q < mid → le (A p) (A q)) := hRl
                  have HRr : Hid (∀ p q, mid ≤ p → p ≤ q → q < hi → le (A p) (A q)) := hRr
                  have HRs : Hid (Runs wd k A) := hR
                  clear hRl hRr hR
                  go_loopw [11, 12, 13] (fun vi vj vk wq => ∃ (i j q : Nat) (B3 : Nat → ByteArray), vi = .int .i64 i ∧ vj = .int .i64 j ∧ vk = .int .i64 q ∧ Two w wq k ga gb A B3 ∧ Hid (∀ p, p < lo → B3 p = B2 p) ∧ Mrg A B3 lo mid hi i j q) (fun _ _ vk _ => hi - (intOf vk).toNat)
                  case atStart => exact ⟨lo, mid, lo, B2, rfl, rfl, rfl, hT, fun _ _ => rfl, Mrg.start A B2 hm1 hh1⟩
                  case round =>
                    clear hT
                    obtain ⟨i, j, q, B3, rfl, rfl, rfl, hT, HB, hM⟩ := hrel
                    have g1 := hM.loi
                    have g2 := hM.imid
                    have g3 := hM.midj
                    have g4 := hM.jhi
                    have HG : Hid (q + mid = i + j) := hM.cnt
                    have hlq : lo ≤ q := by have := HG.out; omega
                    by_cases hq : q < hi
                    · have hcb := hT.rb.cell (i := q) (by omega)
                      have hfb := hT.rb.frozen q
                      by_cases hi1 : i < mid
                      · have hca := hT.ra.cell (i := i) (by omega)
                        by_cases hj1 : j < hi
                        · have hcj := hT.ra.cell (i := j) (by omega)
                          have hik : (i : Int) < (k : Int) := by omega
                          have hjk : (j : Int) < (k : Int) := by omega
                          cases hle : (Op.bytesLess (A i).toList (A j).toList || (A i).toList == (A j).toList) with
                          | true =>
                            have HM2 := hM.takeI hi1 HRl.out (fun _ => le_of_leq hle)
                            have HT2 := hT.put q (A i)
                            unfold cellsOf at hcb hcj hca
                            clear hM hT
                            go_wp2
                            go_quiet (fail)
                            go_wp2
                            go_roundw
                            case rel => exact ⟨i + 1, j, q + 1, _, by go_num, rfl, by go_num, HT2 _, keep_put HB.out hlq, HM2⟩
                            case measure => simp [intOf]; omega
                          | false =>
                            have HM2 := hM.takeJ hj1 HRr.out (fun _ => le_of_not_leq hle)
                            have HT2 := hT.put q (A j)
                            unfold cellsOf at hcb hcj hca
                            clear hM hT
                            go_wp2
                            go_quiet (fail)
                            go_wp2
                            go_roundw
                            case rel => exact ⟨i, j + 1, q + 1, _, rfl, by go_num, by go_num, HT2 _, keep_put HB.out hlq, HM2⟩
                            case measure => simp [intOf]; omega
                        · have HM2 := hM.takeI hi1 HRl.out (fun h => absurd h hj1)
                          have HT2 := hT.put q (A i)
                          unfold cellsOf at hcb hca
                          clear hM hT
                          go_wp2
                          go_quiet (fail)
                          go_wp2
                          go_roundw
                          case rel => exact ⟨i + 1, j, q + 1, _, by go_num, rfl, by go_num, HT2 _, keep_put HB.out hlq, HM2⟩
                          case measure => simp [intOf]; omega
                      · have hd : decide ((i : Int) < (mid : Int)) = false := decide_eq_false (by omega)
                        have hj1 : j < hi := by have := HG.out; omega
                        have hcj := hT.ra.cell (i := j) (by omega)
                        have HM2 := hM.takeJ hj1 HRr.out (fun h => absurd h hi1)
                        have HT2 := hT.put q (A j)
                        unfold cellsOf at hcb hcj
                        clear hM hT
                        go_wp2
                        go_quiet (fail)
                        go_wp2
                        go_roundw
                        case rel => exact ⟨i, j + 1, q + 1, _, rfl, by go_num, by go_num, HT2 _, keep_put HB.out hlq, HM2⟩
                        case measure => simp [intOf]; omega
                    · have HPs := hP.step HC.out hh2 HH.out hw1 HB.out hM (by omega) hh1
                      have HC2 : Hid (lo + 2 * wd = (c + 1) * (2 * wd)) := by have := HC.out; show lo + 2 * wd = (c + 1) * (2 * wd); rw [Nat.succ_mul c (2 * wd)]; omega
                      clear hM hP
                      go_wp2
                      go_roundw
                      case rel => exact ⟨c + 1, lo + 2 * wd, B3, by go_num, HC2, by omega, hT, HPs⟩
                      case measure => simp [intOf]; omega
            · have hfin := hP.done (by omega)
              have hT2 : Two w _ k gb ga B2 A := ⟨hT.ne.symm, hT.lb, hT.la, hT.rb, hT.ra, hT.below⟩
              clear hT hP
              go_wp2
              go_roundw
              case rel => exact ⟨gb, ga, wd * 2, B2, A, rfl, rfl, by go_num, by omega, by omega, hT2, hfin.1, hfin.2.trans hSm⟩
              case measure => simp [intOf]; omega
        · have hfin : SortedCopy k S (.returned (.slice (some ⟨ga, 0, none⟩) k k)) _ := ⟨_, A, rfl, StrAt.of_row hT.ra, sorted_of_runs hR (by omega), hSm⟩
          have hbw := hT.below
          clear hT hR hSm
          go_wp2
          go_ret
          exact ⟨hfin, hbw⟩

end Go.Proofs.Qxb6604081aMods.Str
