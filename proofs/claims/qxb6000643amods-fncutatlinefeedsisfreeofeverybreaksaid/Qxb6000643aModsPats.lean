import Derived.Test.Qxb6000643aModsBytes
import Derived.Laws.IdiomStrings
import Derived.Lib.SlBytesConst
namespace Go.Proofs.Qxb6000643aMods.Byt
open Go.RowKit

/-- The five refused sequences: CR, NEL, LS, PS, BOM. -/
def pat : Nat → List Int
  | 0 => [13]
  | 1 => [194, 133]
  | 2 => [226, 128, 168]
  | 3 => [226, 128, 169]
  | _ => [239, 187, 191]

/-- The bytes of a literal. -/
theorem byteAt_lit (w : World) (zs : List Int) (fr : Nat × Nat) : ByteAt (w.alloc (.cells (zs.map (Value.int .u8)).toArray 5 fr)) (some ⟨w.heap.size, 0, none⟩) zs.length (fun i => zs.getD i 0) := by
  intro i hi
  refine ⟨w.heap.size, 0, rfl, ?_⟩
  rw [Nat.zero_add, World.cell?_alloc_mark]
  simp [hi]

/-- zzRefused's answer: the k-th sequence, in new memory. -/
def Refused (q : Nat) (e : Ending) (w : World) : Prop := ∃ a, e = .returned (.slice a (pat q).length (pat q).length) ∧ ByteAt w a (pat q).length (fun i => (pat q).getD i 0)

set_option maxHeartbeats 400000 in
theorem refused_any (q : Nat) (hq : q < 5) (w : World) :
    Calls Trym.prog 23 #[.int .i64 (q : Int)] w fun e w' => Refused q e w' ∧ Below w.heap.size w w' := by
  rcases (by omega : q = 0 ∨ q = 1 ∨ q = 2 ∨ q = 3 ∨ q = 4) with rfl | rfl | rfl | rfl | rfl
  · go_enter Trym.func23, Trym.ntmps23
    go_wp2
    go_ret
    exact ⟨⟨_, rfl, byteAt_lit w (pat 0) (0, 0)⟩, (Below.refl _ _).alloc (Nat.le_refl _) _⟩
  · go_enter Trym.func23, Trym.ntmps23
    go_wp2
    go_ret
    exact ⟨⟨_, rfl, byteAt_lit w (pat 1) (0, 0)⟩, (Below.refl _ _).alloc (Nat.le_refl _) _⟩
  · go_enter Trym.func23, Trym.ntmps23
    go_wp2
    go_ret
    exact ⟨⟨_, rfl, byteAt_lit w (pat 2) (0, 0)⟩, (Below.refl _ _).alloc (Nat.le_refl _) _⟩
  · go_enter Trym.func23, Trym.ntmps23
    go_wp2
    go_ret
    exact ⟨⟨_, rfl, byteAt_lit w (pat 3) (0, 0)⟩, (Below.refl _ _).alloc (Nat.le_refl _) _⟩
  · go_enter Trym.func23, Trym.ntmps23
    go_wp2
    go_ret
    exact ⟨⟨_, rfl, byteAt_lit w (pat 4) (0, 0)⟩, (Below.refl _ _).alloc (Nat.le_refl _) _⟩

/-- Are the first m numbers the same? -/
def eqB (m : Nat) (L Q : Nat → Int) : Bool := (List.range m).all (fun i => L i == Q i)

theorem eqB_iff {m : Nat} {L Q : Nat → Int} : eqB m L Q = true ↔ ∀ i, i < m → L i = Q i := by
  unfold eqB
  rw [List.all_eq_true]
  constructor
  · intro h i hi
    have := h i (List.mem_range.2 hi)
    simpa using this
  · intro h i hi
    have := h i (List.mem_range.1 hi)
    simpa using this

/-- The bytes as a string. -/
def txt (m : Nat) (L : Nat → Int) : ByteArray := ⟨((List.range m).map (fun i => UInt8.ofNat (L i).toNat)).toArray⟩

theorem byte_back {n : Int} (h0 : 0 ≤ n) (h1 : n ≤ 255) : ((UInt8.ofNat n.toNat).toNat : Int) = n := by
  rw [UInt8.toNat_ofNat']
  omega

theorem txt_eq {m : Nat} {L Q : Nat → Int} (hL : IsByte L) (hQ : IsByte Q) : ((txt m L).toList == (txt m Q).toList) = eqB m L Q := by
  rw [Bool.eq_iff_iff, eqB_iff, ByteArray.toList_eq, ByteArray.toList_eq, beq_iff_eq]
  show (((List.range m).map (fun i => UInt8.ofNat (L i).toNat)).toArray).toList = (((List.range m).map (fun i => UInt8.ofNat (Q i).toNat)).toArray).toList ↔ _
  simp only [List.map_inj_left, List.mem_range]
  constructor
  · intro h i hi
    have e := congrArg (fun u : UInt8 => (u.toNat : Int)) (h i hi)
    simp only [byte_back (hL i).1 (hL i).2, byte_back (hQ i).1 (hQ i).2] at e
    exact e
  · intro h i hi
    rw [h i hi]

theorem conv_bytes {w : World} {a : Option Addr} {m cap : Nat} {L : Nat → Int} (h : ByteAt w a m L) (hB : IsByte L) (hm : 0 < m) :
    (convert 22 9 (.slice a m cap)).run Trym.prog w = .ok (.string (txt m L)) w := by
  obtain ⟨b, off, rfl, _⟩ := h 0 hm
  have hl : ((List.range m).map (fun i => UInt8.ofNat (L i).toNat)).length = m := by simp
  have := run_convert_bytes_back (P := Trym.prog) w 22 9 5 ⟨b, off, none⟩ cap ((List.range m).map (fun i => UInt8.ofNat (L i).toNat)) Trym.underlying22 Trym.underlying5 Trym.underlying9 (fun j hj => by
    rw [hl] at hj
    obtain ⟨b2, off2, e, hc⟩ := h j hj
    injection e with e
    injection e with e1 e2
    subst e1 e2
    rw [Addr.add_lit, List.getElem_map, List.getElem_range, byte_back (hB j).1 (hB j).2]
    exact hc)
  rw [hl] at this
  exact this

set_option maxHeartbeats 400000 in
theorem equal_any (a a2 : Option Addr) (m c c2 : Nat) (L Q : Nat → Int) (w : World) (hm : 0 < m) (hL : ByteAt w a m L) (hQ : ByteAt w a2 m Q) (bL : IsByte L) (bQ : IsByte Q) :
    Calls Trym.prog 37 #[.slice a m c, .slice a2 m c2] w fun e w' => e = .returned (.bool (eqB m L Q)) ∧ w' = w := by
  have h1 := conv_bytes (cap := c) hL bL hm
  have h2 := conv_bytes (cap := c2) hQ bQ hm
  have HE : Hid (((txt m L).toList == (txt m Q).toList) = eqB m L Q) := txt_eq bL bQ
  clear hL hQ bL bQ
  go_enter Trym.func37, Trym.ntmps37
  go_wp2
  go_ret
  exact ⟨ret_bool HE.out, rfl⟩

/-- Does the text of n bytes begin with the m bytes Q? -/
def pre (n : Nat) (L : Nat → Int) (m : Nat) (Q : Nat → Int) : Bool := decide (m ≤ n) && eqB m L Q

set_option maxHeartbeats 400000 in
theorem hasPrefix_any (a a2 : Option Addr) (n m c2 : Nat) (L Q : Nat → Int) (w : World) (hm : 0 < m) (hL : ByteAt w a n L) (hQ : ByteAt w a2 m Q) (bL : IsByte L) (bQ : IsByte Q) :
    Calls Trym.prog 36 #[.slice a n n, .slice a2 m c2] w fun e w' => e = .returned (.bool (pre n L m Q)) ∧ w' = w := by
  by_cases hmn : m ≤ n
  · have HP : Hid (pre n L m Q = eqB m L Q) := by show pre n L m Q = eqB m L Q; simp [pre, hmn]
    have hsl := slice_front a n m hmn
    have HE := fun wx => equal_any a a2 m n c2 L Q wx hm
    have HL : Hid (ByteAt w a m L) := hL.front hmn
    have HQ : Hid (ByteAt w a2 m Q) := hQ
    have HbL : Hid (IsByte L) := bL
    have HbQ : Hid (IsByte Q) := bQ
    clear hL hQ bL bQ
    go_enter Trym.func36, Trym.ntmps36
    go_wp2_with (go_at_call 37; refine (HE _ HL.out HQ.out HbL.out HbQ.out).mono ?_; rintro e w' ⟨rfl, rfl⟩)
    go_ret
    exact ⟨ret_bool HP.out.symm, rfl⟩
  · have HP : Hid (pre n L m Q = false) := by show pre n L m Q = false; simp [pre, hmn]
    clear hL hQ bL bQ
    go_enter Trym.func36, Trym.ntmps36
    go_wp2
    go_ret
    exact ⟨ret_bool HP.out.symm, rfl⟩

end Go.Proofs.Qxb6000643aMods.Byt
