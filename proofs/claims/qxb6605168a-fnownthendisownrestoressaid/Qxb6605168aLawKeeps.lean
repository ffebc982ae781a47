/-
  FnOwnKeepsEachSessionsOwnedSet: THE WALK.
-/
import Derived.Test.Qxb6605168aMatch
namespace Go.Proofs.Qxb6605168a
open Go.RowKit Go.Maps Go.WideMaps
set_option linter.unusedVariables false
set_option linter.unusedSimpArgs false

/-- The ops in block b. -/
def OpsAt (w : World) (b n : Nat) (Ow : Nat → Int) (Pa : Nat → ByteArray) (Fl : Nat → Bool) : Prop :=
  ∀ j, j < n → w.cell? ⟨b, 0 + j * 3, none⟩ = some (.int .i64 (Ow j)) ∧ w.cell? ⟨b, 0 + j * 3 + 1, none⟩ = some (.string (Pa j)) ∧ w.cell? ⟨b, 0 + j * 3 + 2, none⟩ = some (.bool (Fl j))
theorem OpsAt.of {w : World} {b n : Nat} {Ow : Nat → Int} {Pa : Nat → ByteArray} {Fl : Nat → Bool} (h : 0 < n → Row3 w b n n Ow Pa Fl) : OpsAt w b n Ow Pa Fl := fun j hj => by
  rw [Nat.zero_add]
  exact (h (by omega)).read hj
theorem OpsAt.below {w w' : World} {b n lo : Nat} {Ow : Nat → Int} {Pa : Nat → ByteArray} {Fl : Nat → Bool} (h : OpsAt w b n Ow Pa Fl) (hb : Below lo w w') (hl : 0 < n → b < lo) : OpsAt w' b n Ow Pa Fl := fun j hj => by
  rw [hb.cell (by exact hl (by omega)), hb.cell (by exact hl (by omega)), hb.cell (by exact hl (by omega))]
  exact h j hj
theorem Row3.lt {w : World} {b n k : Nat} {Ow : Nat → Int} {Pa : Nat → ByteArray} {Fl : Nat → Bool} (h : Row3 w b n k Ow Pa Fl) : b < w.heap.size := by
  obtain ⟨cur, h1, _⟩ := h
  exact (Array.getElem?_eq_some_iff.1 h1).1

set_option maxRecDepth 100000 in
set_option maxHeartbeats 2000000 in
theorem law5 (a0 : Option Addr) (b0 o0 n0 c0 : Nat) (Ow : Nat → Int) (Pa : Nat → ByteArray) (Fl : Nat → Bool) (w : World)
    (h0 : 0 < n0 → a0 = some ⟨b0, o0, none⟩) (z0 : a0 = none → n0 = 0) (hn0 : n0 ≤ maxLen)
    (g0 : ∀ j, j < n0 → w.cell? ⟨b0, o0 + j * 3, none⟩ = some (.int .i64 (Ow j))) (g1 : ∀ j, j < n0 → w.cell? ⟨b0, o0 + j * 3 + 1, none⟩ = some (.string (Pa j))) (g2 : ∀ j, j < n0 → w.cell? ⟨b0, o0 + j * 3 + 2, none⟩ = some (.bool (Fl j)))
    (k0 : ∀ j, (Lit.int .i64 (Ow j)).wf = true) (k1 : ∀ j, (Pa j).size ≤ maxLen) :
    Calls Try.prog 5 #[.slice a0 n0 c0] w fun e w' => e = .returned (.bool true) ∧ Below w.heap.size w w' := by
  have K1 : Hid (∀ j, (Pa j).size ≤ maxLen) := k1
  have K0 : Hid (∀ j, (Lit.int .i64 (Ow j)).wf = true) := k0
  go_enter Try.func5, Try.ntmps5
  go_wp2_with fail
  refine (bytes15 a0 n0 c0 b0 o0 Pa w hn0 h0 g1 k1).mono ?_
  rintro e w' ⟨⟨x, rfl⟩, rfl⟩
  cases x
  · go_wp2
    go_ret
    exact ⟨rfl, Below.refl _ _⟩
  unfold maxLen at hn0 k1
  by_cases s0 : n0 ≤ 4096
  case neg =>
    go_wp2
    all_goals (go_ret; exact ⟨rfl, Below.refl _ _⟩)
  have d0 : decide ((4096 : Int) < (n0 : Int)) = false := decide_eq_false (by omega)
  go_wp2_with fail
  refine (fits16 a0 n0 c0 b0 o0 Pa _ w s0 h0 g1 K1.out (by decide)).mono ?_
  rintro e w' ⟨⟨x, rfl⟩, rfl⟩
  cases x
  · go_wp2
    go_ret
    exact ⟨rfl, Below.refl _ _⟩
  go_wp2_with fail
  refine (clone17 a0 b0 o0 n0 c0 Ow Pa Fl w h0 z0 s0 g0 g1 g2).mono ?_
  rintro e w1 ⟨a', rfl, hrow, bel1⟩
  have hz' : 0 < n0 → a' = some ⟨w.heap.size, 0, none⟩ := fun h => (hrow h).1
  have O1 : OpsAt w1 w.heap.size n0 Ow Pa Fl := OpsAt.of (fun h => (hrow h).2)
  have l1 : 0 < n0 → w.heap.size < w1.heap.size := fun h => (hrow h).2.lt
  clear hrow g0 g1 g2 h0 z0
  go_wp2_with fail
  refine (empty18 w1).mono ?_
  rintro e w2 ⟨bt, B, rfl, hSt, bel2⟩
  have O2 := O1.below bel2 l1
  have HC := script19 a' n0 n0 w.heap.size 0 w1.heap.size bt B Ow Pa Fl w2 s0 l1 hz' (fun j hj => (O2 j hj).1) (fun j hj => (O2 j hj).2.1) (fun j hj => (O2 j hj).2.2) K0.out K1.out hSt
  clear hSt O1
  go_wp2_with fail
  refine HC.mono ?_
  rintro e w3 ⟨vO, vP, L, rfl, hS, hL, bel3⟩
  have O3 := O2.below bel3 l1
  clear HC O2
  obtain ⟨β, hOwn⟩ := hS.rw.own
  have HM := match20 a' n0 n0 w.heap.size 0 w1.heap.size bt B n0 Ow Pa β vO vP L w3 s0 (by omega) hz' (fun j hj => (O3 j hj).1) (fun j hj => (O3 j hj).2.1) K0.out K1.out hOwn hS.rw.vw hS.nd hS.wf
  have HB : Hid (Below w.heap.size w w3) := bel1.trans ((bel2.mono bel1.size).trans (bel3.mono bel1.size))
  clear hS hOwn O3 bel1 bel2 bel3 k0 k1 hz' l1
  go_wp2_with fail
  refine HM.mono ?_
  rintro e w4 ⟨rfl, q, rfl⟩
  clear HM
  go_wp2
  go_ret
  exact ⟨rfl, bdrew HB.out q⟩

end Go.Proofs.Qxb6605168a
