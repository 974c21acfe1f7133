import Derived.Test.Qxb6604081aModsStrs
import Derived.ProofKit
import Derived.OpenShut
import Derived.ShutString
import Derived.ChangeOld
import Derived.SliceStrings
import Derived.Below
namespace Go.Proofs.Qxb6604081aMods.Str
open Go.ChangeShapes Go.WideShapes Go.ChangeAt Go.RowKit

/-- A slice of strings that came in, as the walks want it. -/
theorem open_strAt {H : Type} {enc : TypeId × Value → H} {W : World} {base : Nat} {held : Bool} {fuel : Nat} {a : Option Addr} {len cap : Nat} {x : DataW H × List MemPlace}
    (hf : DataW.trod enc Trym.prog W base (fun _ => true) held fuel 22 [.slice a len cap] = some x) : len ≤ maxLen ∧ ∃ S, StrAt W a len S := by
  rcases open_strings Trym.underlying22 Trym.underlying9 (by kernel_rfl) hf with ⟨hcs, _⟩ | ⟨ad, l, c, ss, hcs, _, hl, hm, hz, _, hcell, _⟩
  · simp at hcs
    obtain ⟨rfl, rfl, rfl⟩ := hcs
    exact ⟨by unfold maxLen; omega, fun _ => ByteArray.empty, fun i hi => absurd hi (by omega)⟩
  · simp at hcs
    obtain ⟨rfl, rfl, rfl⟩ := hcs
    refine ⟨Nat.le_trans hl hm, fun i => ss.getD i ByteArray.empty, fun i hi => ?_⟩
    simp only [if_true] at hz
    have hc := hcell i (by omega)
    obtain ⟨b, off, spot⟩ := ad
    have hs : spot = none := by simpa [Addr.add] using World.cell?_spot (hcell 0 (by omega))
    subst hs
    rw [add_plain] at hc
    exact ⟨b, off, rfl, hc⟩

end Go.Proofs.Qxb6604081aMods.Str
