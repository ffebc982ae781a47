/-
  A SLICE OF INTEGERS AS IT CAME IN, told for the walks.
-/
import Derived.Test.Qxb6603978aMaps
import Derived.ProofKit
namespace Go.Proofs.Qxb6603978a
open Go.RowKit Go.Maps Go.ChangeShapes Go.WideShapes Go.ChangeAt

theorem row_open {w : World} {a : Option Addr} {len cap : Nat} {zs : List Int}
    (h : (a = none ∧ len = 0 ∧ cap = 0 ∧ zs = []) ∨ ∃ x, a = some x ∧ len ≤ cap ∧ cap ≤ maxLen ∧ zs.length = cap ∧ (∀ i, i < zs.length → w.cell? (x.add i) = some (.int .i64 (zs.getD i 0))) ∧ ∀ n ∈ zs, (Lit.int .i64 n).wf = true) :
    ∃ (b off : Nat) (K : Nat → Int), (0 < len → a = some ⟨b, off, none⟩) ∧ (a = none → len = 0) ∧ len ≤ maxLen ∧ (∀ j, j < len → w.cell? ⟨b, off + j, none⟩ = some (.int .i64 (K j))) ∧ ∀ j, (Lit.int .i64 (K j)).wf = true := by
  rcases h with ⟨rfl, rfl, rfl, rfl⟩ | ⟨x, rfl, h1, h2, h3, h4, h5⟩
  · exact ⟨0, 0, fun _ => 0, fun h => by omega, fun _ => rfl, Nat.zero_le _, fun j h => by omega, fun _ => by show (Lit.int .i64 0).wf = true; decide⟩
  · have hwf : ∀ j, (Lit.int .i64 (zs.getD j 0)).wf = true := fun j => by
      by_cases hj : j < zs.length
      · have : zs.getD j 0 = zs[j] := by simp [List.getD, hj]
        rw [this]
        exact h5 _ (List.getElem_mem hj)
      · have : zs.getD j 0 = 0 := by simp [List.getD, hj]
        rw [this]
        decide
    by_cases hz : 0 < len
    · obtain ⟨b, o, s⟩ := x
      have hs : s = none := by simpa [Addr.add] using World.cell?_spot (h4 0 (by omega))
      subst hs
      refine ⟨b, o, fun j => zs.getD j 0, fun _ => rfl, fun h => (by cases h), by omega, fun j hj => ?_, hwf⟩
      have h6 := h4 j (by omega)
      rw [add_plain] at h6
      exact h6
    · exact ⟨0, 0, fun j => zs.getD j 0, fun h => by omega, fun h => (by cases h), by omega, fun j hj => by omega, hwf⟩

end Go.Proofs.Qxb6603978a
