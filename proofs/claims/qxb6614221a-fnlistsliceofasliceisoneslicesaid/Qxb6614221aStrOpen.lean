import Derived.Test.Qxb6614221aBounds
import Derived.SliceStrings
namespace Go.Proofs.Qxb6614221a
open Go.RowKit

/-- The cells of a slice of strings, as 'open_strings' gives them, up to its length. -/
theorem strArg_of {w : World} {a : Addr} {zs : List ByteArray} {n : Nat} (h : ∀ i, i < zs.length → w.cell? (a.add i) = some (.string (zs.getD i ByteArray.empty))) (hn : n ≤ zs.length) : StrArg w (some a) (zs.take n) := by
  intro i hi
  have hi' : i < n := by simp at hi; omega
  obtain ⟨b, off, spot⟩ := a
  have hspot : spot = none := by simpa [Addr.add] using World.cell?_spot (h 0 (by omega))
  subst hspot
  refine ⟨b, off, rfl, ?_⟩
  have h1 := h i (by omega)
  rw [Go.WideShapes.add_plain] at h1
  rw [h1]
  simp [List.getD, hi']

end Go.Proofs.Qxb6614221a
