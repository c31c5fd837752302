import Derived.Test.YbulkabweBuild
import Derived.ProofKit
import Derived.OpenShut
import Derived.SliceStrings
namespace Go.Proofs.Ybulkabwe
open Go.RowKit Go.ChangeShapes Go.WideShapes

theorem cells9 : Yba.prog.cellsOf 9 = 1 := by kernel_rfl

/-- A slice of strings among the arguments, opened. -/
theorem open_strsAt {H : Type} {enc : TypeId × Value → H} {W : World} {base : Nat} {spare : Nat → Bool} {held : Bool} {fuel : Nat} {a : Option Addr} {len cap : Nat} {x : DataW H × List MemPlace}
    (h : DataW.trod enc Yba.prog W base spare held fuel 22 [.slice a len cap] = some x) : len ≤ maxLen ∧ ∃ K, StrsAt W a len K := by
  rcases open_strings Yba.underlying22 Yba.underlying9 cells9 h with ⟨hcs, _⟩ | ⟨y, l, c, ss, hcs, _, hl, hm, hz, _, hcell, hws⟩
  · simp at hcs
    obtain ⟨rfl, rfl, rfl⟩ := hcs
    exact ⟨by simp [maxLen], fun _ => ByteArray.empty, fun h => by omega⟩
  · simp at hcs
    obtain ⟨rfl, rfl, rfl⟩ := hcs
    have hzl : len ≤ ss.length := by rw [hz]; split <;> omega
    refine ⟨by omega, fun i => ss.getD i ByteArray.empty, fun h0 => ?_⟩
    obtain ⟨yb, yo, spot⟩ := y
    have hspot : spot = none := by simpa [Addr.add] using World.cell?_spot (hcell 0 (by omega))
    subst hspot
    have hc : ∀ i, i < len → W.cell? ⟨yb, yo + i, none⟩ = some (.string (ss.getD i ByteArray.empty)) := fun i hi => by rw [← add_plain]; exact hcell i (by omega)
    refine ⟨yb, yo, rfl, World.block_lt_of_cell? W _ (hc 0 h0), fun i hi => ⟨hc i hi, hws _ ?_⟩⟩
    simp [List.getD, show i < ss.length by omega]

end Go.Proofs.Ybulkabwe
