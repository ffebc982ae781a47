/-
  THE SLICE OF OPS THAT CAME IN, told for the walks.
-/
import Derived.Test.Qxb6605168aProg
import Derived.SliceStrings
import Derived.ProofKit
import Derived.Deep.Grids
import Derived.Deep.Slices
import Derived.ChangeSame
import Derived.OpenShut
import Derived.ShutString
import Derived.ChangeOld
import Derived.Below
namespace Go.Proofs.Qxb6605168a
open Go.ChangeShapes Go.WideShapes Go.ChangeAt Go.RowKit
set_option linter.unusedVariables false

theorem laidOut : laidOutB Try.prog = true := by kernel_rfl
theorem ownK : ownKnob Try.prog.godebug = none := by kernel_rfl

section
variable {H : Type} {enc : TypeId × Value → H} {W : World} {a : Option Addr} {len cap : Nat} {d : DataW H} {p : List MemPlace}

theorem trod_below {t : TypeId} {v : Value} (h : DataW.Trod enc Try.prog W 0 (fun _ => true) true t v d p) : ∀ x ∈ p, x.block < W.heap.size := by
  obtain ⟨m, hm⟩ := h; exact DataW.trod_lt m _ _ _ hm

/-- One op. -/
theorem op_open {n : Nat} {cs : List Value} {x : DataW H × List MemPlace} (h : DataW.trod enc Try.prog W 0 (fun _ => true) true n 52 cs = some x) :
    ∃ (o : Int) (s : ByteArray) (f : Bool), cs = [.int .i64 o, .string s, .bool f] ∧ (Lit.int .i64 o).wf = true ∧ s.size ≤ maxLen := by
  obtain ⟨xs, k, _, _, hl, hxl, hf⟩ := DataW.trod_struct Try.underlying52 h
  have hl' : cs.length = 3 := hl.trans (by kernel_rfl)
  match xs, hxl, cs, hl' with
  | [y0, y1, y2], _, [v0, v1, v2], _ =>
    have e0 := hf 0 _ rfl
    have e1 := hf 1 _ rfl
    have e2 := hf 2 _ rfl
    have c2 : Try.prog.cellsOf 2 = 1 := by kernel_rfl
    have c9 : Try.prog.cellsOf 9 = 1 := by kernel_rfl
    have c4 : Try.prog.cellsOf 4 = 1 := by kernel_rfl
    simp [c2, c9, c4] at e0 e1 e2
    obtain ⟨o, h0, _, w0⟩ := DataW.trod_int Try.underlying2 e0
    obtain ⟨t, h1, _, w1⟩ := DataW.trod_string Try.underlying9 e1
    obtain ⟨f, h2, _⟩ := DataW.trod_bool Try.underlying4 e2
    simp at h0 h1 h2
    subst h0 h1 h2
    exact ⟨o, t, f, rfl, w0, w1⟩

theorem sliceO (h : DataW.Trod enc Try.prog W 0 (fun _ => true) true 29 (.slice a len cap) d p) :
    ∃ (b off : Nat) (Ow : Nat → Int) (Pa : Nat → ByteArray) (Fl : Nat → Bool), (0 < len → a = some ⟨b, off, none⟩) ∧ (a = none → len = 0) ∧ len ≤ maxLen ∧ (∀ j, j < len → W.cell? ⟨b, off + j * 3, none⟩ = some (.int .i64 (Ow j))) ∧
      (∀ j, j < len → W.cell? ⟨b, off + j * 3 + 1, none⟩ = some (.string (Pa j))) ∧ (∀ j, j < len → W.cell? ⟨b, off + j * 3 + 2, none⟩ = some (.bool (Fl j))) ∧ (∀ j, (Lit.int .i64 (Ow j)).wf = true) ∧ ∀ j, (Pa j).size ≤ maxLen := by
  obtain ⟨fuel, hf⟩ := h
  rcases Deep.open_slice Try.underlying29 hf with ⟨hcs, _⟩ | ⟨x, l, c, m, n, D, Pl, hcs, _, hl, hm, hmm, _, hx⟩
  · simp [Value.cells] at hcs
    obtain ⟨rfl, rfl, rfl⟩ := hcs
    exact ⟨0, 0, fun _ => 0, fun _ => ByteArray.empty, fun _ => false, fun h => by omega, fun _ => rfl, Nat.zero_le _, fun j h => by omega, fun j h => by omega, fun j h => by omega, fun _ => rfl, fun _ => Nat.zero_le _⟩
  · simp [Value.cells] at hcs
    obtain ⟨rfl, rfl, rfl⟩ := hcs
    simp only [if_true] at hmm
    subst hmm
    have c52 : Try.prog.cellsOf 52 = 3 := by kernel_rfl
    have each : ∀ j, ∃ q : Int × ByteArray × Bool, (j < len → W.cell? (x.add (j * 3)) = some (.int .i64 q.1) ∧ W.cell? (x.add (j * 3 + 1)) = some (.string q.2.1) ∧ W.cell? (x.add (j * 3 + 2)) = some (.bool q.2.2)) ∧ (Lit.int .i64 q.1).wf = true ∧ q.2.1.size ≤ maxLen := fun j => by
      by_cases hj : j < len
      · obtain ⟨cs', h1, h2⟩ := hx j (by omega)
        rw [c52] at h1
        obtain ⟨_, hlen, hcell⟩ := World.cells?_some h1
        obtain ⟨o, s, f, rfl, w1, w2⟩ := op_open h2
        refine ⟨(o, s, f), fun _ => ⟨?_, ?_, ?_⟩, w1, w2⟩
        · have e := hcell 0 (by omega)
          rw [Deep.add_add] at e
          simpa using e
        · have e := hcell 1 (by omega)
          rw [Deep.add_add] at e
          simpa using e
        · have e := hcell 2 (by omega)
          rw [Deep.add_add] at e
          simpa using e
      · exact ⟨(0, ByteArray.empty, false), fun h => absurd h hj, rfl, Nat.zero_le _⟩
    obtain ⟨q, hq⟩ : ∃ q : Nat → Int × ByteArray × Bool, ∀ j, (j < len → W.cell? (x.add (j * 3)) = some (.int .i64 (q j).1) ∧ W.cell? (x.add (j * 3 + 1)) = some (.string (q j).2.1) ∧ W.cell? (x.add (j * 3 + 2)) = some (.bool (q j).2.2)) ∧ (Lit.int .i64 (q j).1).wf = true ∧ (q j).2.1.size ≤ maxLen :=
      ⟨fun j => Classical.choose (each j), fun j => Classical.choose_spec (each j)⟩
    by_cases h0 : 0 < len
    · obtain ⟨b, o, s⟩ := x
      have hs : s = none := by simpa [Addr.add] using World.cell?_spot ((hq 0).1 h0).1
      subst hs
      refine ⟨b, o, fun j => (q j).1, fun j => (q j).2.1, fun j => (q j).2.2, fun _ => rfl, fun h => (by cases h), by omega, fun j hj => ?_, fun j hj => ?_, fun j hj => ?_, fun j => (hq j).2.1, fun j => (hq j).2.2⟩
      · have h6 := ((hq j).1 hj).1
        rw [WideShapes.add_plain] at h6
        exact h6
      · have h6 := ((hq j).1 hj).2.1
        rw [WideShapes.add_plain] at h6
        exact h6
      · have h6 := ((hq j).1 hj).2.2
        rw [WideShapes.add_plain] at h6
        exact h6
    · exact ⟨0, 0, fun j => (q j).1, fun j => (q j).2.1, fun j => (q j).2.2, fun h => absurd h h0, fun h => (by cases h), by omega, fun j hj => by omega, fun j hj => by omega, fun j hj => by omega, fun j => (hq j).2.1, fun j => (hq j).2.2⟩
end
end Go.Proofs.Qxb6605168a
