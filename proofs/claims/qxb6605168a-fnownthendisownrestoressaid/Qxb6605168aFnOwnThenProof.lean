/-
  Rows.FnOwnThenDisownRestoresSaid, PROVED: the frame after the guide's program; the walk: Qxb6605168aLawRestore.
-/
import Derived.Test.Qxb6605168aRows
import Derived.WalkKit
import Derived.ProofKit
import Derived.Test.Qxb6605168aOpens
import Derived.Test.Qxb6605168aLawRestore
namespace Go.Proofs.Qxb6605168a.fnOwnThenDisownRestores
open Go.ChangeShapes Go.WideShapes Go.ChangeAt Go.RowKit
open Go.ChangeMaps (open_string shut_string)
set_option linter.unusedVariables false

set_option maxRecDepth 100000 in
theorem lifted (os : Os) (started : os.Started) (H : Type) (enc : TypeId × Value → H) :
    ReturnsInHanded {} Try.checked os 6 .any (Rows.fnOwnThenDisownRestoresSpec.pre6 enc Try.prog Try.f6 Rows.fnOwnThenDisownRestoresRow.domain false) (Rows.fnOwnThenDisownRestoresSpec.post enc Try.prog Try.f6 false true false false) := by
  refine returnsInHanded_of_change (C := Try.checked) ownK started (by kernel_rfl) Try.func6
    (ChangeSpec.witness6 (enc := enc) (C := Try.checked) false ⟨#[], #[.slice none 0 0, .int .i64 0, .string ByteArray.empty], []⟩ 8 (by kernel_rfl) (by kernel_rfl) (by kernel_rfl) (by kernel_rfl)) ?_
  intro W base args ds gs before hval0 hW hcnd _
  have hval : ∀ (j : Nat) t v, Try.f6.params[j]? = some t → args[j]? = some v → Value.okWide Try.prog W .any base t v := hval0
  have hW' := hW
  obtain ⟨p, q, hA0, hV, rfl, hfz, hnd⟩ := hW
  have hA : DataW.TrodAll enc Try.prog W 0 (fun _ => true) true Try.f6.params.toList args.toList ds p := hA0
  rw [Try.params6] at hA hval
  obtain ⟨v0, vs0, d0, ds0, p0, q0, hargs, rfl, rfl, h0, r0⟩ := trodAll_cons hA
  obtain ⟨v1, vs1, d1, ds1, p1, q1, rfl, rfl, rfl, h1, r1⟩ := trodAll_cons r0
  obtain ⟨v2, vs2, d2, ds2, p2, q2, rfl, rfl, rfl, h2, r2⟩ := trodAll_cons r1
  obtain ⟨rfl, rfl, rfl⟩ := trodAll_nil r2
  obtain rfl : args = #[v0, v1, v2] := by cases args; simp_all
  obtain ⟨rfl, rfl⟩ := trodVars_none hV
  obtain ⟨a0, n0, c0, rfl⟩ := okWide_slice Try.underlying29 (hval 0 29 v0 rfl rfl)
  obtain ⟨b0, o0, O0, P0, F0, e0, z0, m0, ga0, gb0, gc0, k0, y0⟩ := sliceO h0
  obtain ⟨x1, rfl, rfl, rfl, k1⟩ := open_int Try.underlying2 (hval 1 2 v1 rfl rfl) h1
  obtain ⟨x2, rfl, rfl, rfl, k2⟩ := open_string Try.underlying9 (hval 2 9 v2 rfl rfl) h2
  clear hA0 hval0
  refine (law6 a0 b0 o0 n0 c0 O0 P0 F0 x1 x2 W e0 z0 m0 ga0 gb0 gc0 k0 y0 k1 k2).mono fun e W' ⟨he, bel⟩ => ?_
  subst he
  exact ⟨_, rfl, _, _, _, [], _, [], hW', trodAll_mk1 (shut_bool Try.underlying4 _), (trodAll_cons_mk (Below.trod laidOut (by kernel_rfl) (of_decide_eq_true (by kernel_rfl)) h0 bel (trod_below h0)) (trodAll_cons_mk (shut_int Try.underlying2 k1) (trodAll_cons_mk (shut_string Try.underlying9 k2) trodAll_mk0))), rfl, bel.frame _, fun h => by cases h⟩

theorem over : Rows.fnOwnThenDisownRestoresRow.holds Try.pinned (OpenSpec.ofChange Rows.fnOwnThenDisownRestoresSpec) :=
  OpenClaim.holds_of_wide 6 Try.f6 rfl rfl rfl rfl rfl rfl rfl ⟨rfl, rfl, rfl, rfl, rfl⟩ rfl rfl rfl rfl rfl (by kernel_rfl) Try.func6 (by kernel_rfl)
    (of_decide_eq_true (by kernel_rfl)) (by unfold Func.isWrapper; first | (rw [if_pos (by decide +kernel)]; kernel_rfl) | (rw [if_neg (by decide +kernel)]; exact ⟨rfl, rfl⟩))
    (fun os started H enc _ => lifted os started H enc)

theorem proved : Rows.FnOwnThenDisownRestoresSaid := over
#print axioms proved
end Go.Proofs.Qxb6605168a.fnOwnThenDisownRestores
