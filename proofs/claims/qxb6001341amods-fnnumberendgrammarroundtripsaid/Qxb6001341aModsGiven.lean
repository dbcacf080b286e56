/-
  A slice of bytes that came in, as the row's frame opens it.
-/
import Derived.Test.Qxb6001341aModsBs
import Derived.OpenShut
namespace Go.Proofs.Qxb6001341aMods
open Go.RowKit

/-- A slice of bytes that came in, as the row opens it. -/
theorem bs_of_given {w : World} {a : Option Addr} {len cap : Nat} {zs : List Int}
    (h : (a = none ∧ len = 0 ∧ cap = 0 ∧ zs = []) ∨
      ∃ x, a = some x ∧ len ≤ cap ∧ cap ≤ maxLen ∧ zs.length = cap ∧ (∀ i, i < zs.length → w.cell? (x.add i) = some (.int .u8 (zs.getD i 0))) ∧ ∀ n ∈ zs, (Lit.int .u8 n).wf = true) :
    Bs w a len cap (zs.take len) := by
  rcases h with ⟨rfl, rfl, rfl, rfl⟩ | ⟨x, rfl, h1, h2, h3, h4, h5⟩
  · exact ⟨rfl, Nat.le_refl _, Nat.zero_le _, by simp, fun _ => ⟨rfl, rfl⟩, fun h => absurd h (by omega)⟩
  · refine ⟨by simp; omega, h1, h2, fun z hz => bounds_u8 (h5 z (List.mem_of_mem_take hz)), (fun h => by cases h), fun hl => ?_⟩
    obtain ⟨b, off, spot⟩ := x
    have hs : spot = none := by simpa [Addr.add] using World.cell?_spot (h4 0 (by omega))
    subst hs
    refine ⟨b, off, rfl, fun j hj => ?_⟩
    have e : (zs.take len).getD j 0 = zs.getD j 0 := by simp [List.getD, hj]
    rw [e, ← h4 j (by omega), Addr.add_lit]

end Go.Proofs.Qxb6001341aMods
