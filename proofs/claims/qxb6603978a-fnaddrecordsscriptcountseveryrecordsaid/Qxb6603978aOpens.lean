/-
  THE SLICES THAT CAME IN, told for the walks: integers, strings, bools.
-/
import Derived.Test.Qxb6603978aRowOpen
import Derived.SliceStrings
import Derived.Deep.Grids
import Derived.OpenShut
import Derived.ShutString
import Derived.ChangeOld
import Derived.Below
namespace Go.Proofs.Qxb6603978a
open Go.ChangeShapes Go.WideShapes Go.ChangeAt Go.RowKit
set_option linter.unusedVariables false

theorem laidOut : laidOutB Try.prog = true := by kernel_rfl
theorem ownK : ownKnob Try.prog.godebug = none := by kernel_rfl

section
variable {H : Type} {enc : TypeId × Value → H} {W : World} {a : Option Addr} {len cap : Nat} {d : DataW H} {p : List MemPlace}

theorem trod_below {t : TypeId} {v : Value} (h : DataW.Trod enc Try.prog W 0 (fun _ => true) true t v d p) : ∀ x ∈ p, x.block < W.heap.size := by
  obtain ⟨m, hm⟩ := h; exact DataW.trod_lt m _ _ _ hm

theorem sliceI {t e : TypeId} (ht : Try.prog.underlying t = some (.slice e)) (he : Try.prog.underlying e = some (.int .i64)) (hc : Try.prog.cellsOf e = 1) (h : DataW.Trod enc Try.prog W 0 (fun _ => true) true t (.slice a len cap) d p) :
    ∃ (b off : Nat) (K : Nat → Int), (0 < len → a = some ⟨b, off, none⟩) ∧ (a = none → len = 0) ∧ len ≤ maxLen ∧ (∀ j, j < len → W.cell? ⟨b, off + j, none⟩ = some (.int .i64 (K j))) ∧ ∀ j, (Lit.int .i64 (K j)).wf = true := by
  obtain ⟨fuel, hf⟩ := h
  rcases open_ints ht he hc hf with ⟨hcs, _⟩ | ⟨x, l, c, zs, hcs, _, hl, hm, hz, _, hcell, hwz⟩
  · simp [Value.cells] at hcs
    obtain ⟨rfl, rfl, rfl⟩ := hcs
    exact row_open (zs := []) (.inl ⟨rfl, rfl, rfl, rfl⟩)
  · simp [Value.cells] at hcs
    obtain ⟨rfl, rfl, rfl⟩ := hcs
    exact row_open (.inr ⟨_, rfl, hl, hm, by simpa using hz, hcell, hwz⟩)

theorem sliceS {t e : TypeId} (ht : Try.prog.underlying t = some (.slice e)) (he : Try.prog.underlying e = some .string) (hc : Try.prog.cellsOf e = 1) (h : DataW.Trod enc Try.prog W 0 (fun _ => true) true t (.slice a len cap) d p) :
    ∃ (b off : Nat) (K : Nat → ByteArray), (0 < len → a = some ⟨b, off, none⟩) ∧ (a = none → len = 0) ∧ len ≤ maxLen ∧ (∀ j, j < len → W.cell? ⟨b, off + j, none⟩ = some (.string (K j))) ∧ ∀ j, (K j).size ≤ maxLen := by
  obtain ⟨fuel, hf⟩ := h
  rcases open_strings ht he hc hf with ⟨hcs, _⟩ | ⟨x, l, c, ss, hcs, _, hl, hm, hz, _, hcell, hws⟩
  · simp [Value.cells] at hcs
    obtain ⟨rfl, rfl, rfl⟩ := hcs
    exact ⟨0, 0, fun _ => ByteArray.empty, fun h => by omega, fun _ => rfl, Nat.zero_le _, fun j h => by omega, fun _ => Nat.zero_le _⟩
  · simp [Value.cells] at hcs
    obtain ⟨rfl, rfl, rfl⟩ := hcs
    simp only [if_true] at hz
    have hwf : ∀ j, (ss.getD j ByteArray.empty).size ≤ maxLen := fun j => by
      by_cases hj : j < ss.length
      · have : ss.getD j ByteArray.empty = ss[j] := by simp [List.getD, hj]
        rw [this]
        exact hws _ (List.getElem_mem hj)
      · have : ss.getD j ByteArray.empty = ByteArray.empty := by simp [List.getD, hj]
        rw [this]
        exact Nat.zero_le _
    by_cases h0 : 0 < len
    · obtain ⟨b, o, s⟩ := x
      have hs : s = none := by simpa [Addr.add] using World.cell?_spot (hcell 0 (by omega))
      subst hs
      refine ⟨b, o, fun j => ss.getD j ByteArray.empty, fun _ => rfl, fun h => (by cases h), by omega, fun j hj => ?_, hwf⟩
      have h6 := hcell j (by omega)
      rw [add_plain] at h6
      exact h6
    · exact ⟨0, 0, fun j => ss.getD j ByteArray.empty, fun h => by omega, fun h => (by cases h), by omega, fun j hj => by omega, hwf⟩

theorem sliceB {t e : TypeId} (ht : Try.prog.underlying t = some (.slice e)) (he : Try.prog.underlying e = some .bool) (hc : Try.prog.cellsOf e = 1) (h : DataW.Trod enc Try.prog W 0 (fun _ => true) true t (.slice a len cap) d p) :
    ∃ (b off : Nat) (K : Nat → Bool), (0 < len → a = some ⟨b, off, none⟩) ∧ (a = none → len = 0) ∧ len ≤ maxLen ∧ (∀ j, j < len → W.cell? ⟨b, off + j, none⟩ = some (.bool (K j))) := by
  obtain ⟨fuel, hf⟩ := h
  rcases Deep.open_bools ht he hc hf with ⟨hcs, _⟩ | ⟨x, l, c, B, hcs, _, hl, hm, _, hcell⟩
  · simp [Value.cells] at hcs
    obtain ⟨rfl, rfl, rfl⟩ := hcs
    exact ⟨0, 0, fun _ => false, fun h => by omega, fun _ => rfl, Nat.zero_le _, fun j h => by omega⟩
  · simp [Value.cells] at hcs
    obtain ⟨rfl, rfl, rfl⟩ := hcs
    by_cases h0 : 0 < len
    · obtain ⟨b, o, s⟩ := x
      have hs : s = none := by simpa [Addr.add] using World.cell?_spot (hcell 0 (by omega))
      subst hs
      refine ⟨b, o, B, fun _ => rfl, fun h => (by cases h), by omega, fun j hj => ?_⟩
      have h6 := hcell j (by omega)
      rw [add_plain] at h6
      exact h6
    · exact ⟨0, 0, B, fun h => by omega, fun h => (by cases h), by omega, fun j hj => by omega⟩

end
end Go.Proofs.Qxb6603978a
