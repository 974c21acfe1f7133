import Derived.Test.Qxb6000643aModsBytes
import Derived.ProofKit
import Derived.OpenShut
namespace Go.Proofs.Qxb6000643aMods.Byt
open Go.ChangeShapes Go.WideShapes Go.ChangeAt Go.RowKit

/-- A slice of bytes that came in, as the walks want it. -/
theorem byteAt_of {w : World} {a : Option Addr} {len cap : Nat} {zs : List Int}
    (h : (a = none ∧ len = 0 ∧ cap = 0 ∧ zs = []) ∨ ∃ x, a = some x ∧ len ≤ cap ∧ cap ≤ maxLen ∧ zs.length = cap ∧ (∀ i, i < zs.length → w.cell? (x.add i) = some (.int .u8 (zs.getD i 0))) ∧ ∀ n ∈ zs, (Lit.int .u8 n).wf = true) :
    len ≤ maxLen ∧ ByteAt w a len (fun i => zs.getD i 0) ∧ IsByte (fun i => zs.getD i 0) := by
  rcases h with ⟨rfl, rfl, rfl, rfl⟩ | ⟨ad, rfl, hl, hm, hz, hcell, hwf⟩
  · exact ⟨by unfold maxLen; omega, fun i hi => absurd hi (by omega), fun i => by simp⟩
  · refine ⟨Nat.le_trans hl hm, fun i hi => ?_, fun i => ?_⟩
    · have hc := hcell i (by omega)
      obtain ⟨b, off, spot⟩ := ad
      have hs : spot = none := by simpa [Addr.add] using World.cell?_spot (hcell 0 (by omega))
      subst hs
      rw [add_plain] at hc
      exact ⟨b, off, rfl, hc⟩
    · have := range_u8 hwf i
      simpa using this

end Go.Proofs.Qxb6000643aMods.Byt
