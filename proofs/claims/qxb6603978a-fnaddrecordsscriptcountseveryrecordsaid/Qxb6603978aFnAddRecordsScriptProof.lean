/-
  Rows.FnAddRecordsScriptCountsEveryRecordSaid, PROVED: the frame after the guide's program; the walk: Qxb6603978aLawScr.
-/
import Derived.Test.Qxb6603978aRows
import Derived.WalkKit
import Derived.ProofKit
import Derived.Test.Qxb6603978aOpens
import Derived.Test.Qxb6603978aLawScr
namespace Go.Proofs.Qxb6603978a.fnAddRecordsScriptCountsEveryRecord
open Go.ChangeShapes Go.WideShapes Go.ChangeAt Go.RowKit
open Go.ChangeMaps (open_string shut_string)
set_option linter.unusedVariables false

set_option maxRecDepth 100000 in
theorem lifted (os : Os) (started : os.Started) (H : Type) (enc : TypeId × Value → H) :
    ReturnsInHanded {} Try.checked os 8 .any (Rows.fnAddRecordsScriptCountsEveryRecordSpec.pre6 enc Try.prog Try.f8 Rows.fnAddRecordsScriptCountsEveryRecordRow.domain false) (Rows.fnAddRecordsScriptCountsEveryRecordSpec.post enc Try.prog Try.f8 false true false false) := by
  refine returnsInHanded_of_change (C := Try.checked) ownK started (by kernel_rfl) Try.func8
    (ChangeSpec.witness6 (enc := enc) (C := Try.checked) false ⟨#[], #[.slice none 0 0, .slice none 0 0, .slice none 0 0, .slice none 0 0], []⟩ 8 (by kernel_rfl) (by kernel_rfl) (by kernel_rfl) (by kernel_rfl)) ?_
  intro W base args ds gs before hval0 hW hcnd _
  have hval : ∀ (j : Nat) t v, Try.f8.params[j]? = some t → args[j]? = some v → Value.okWide Try.prog W .any base t v := hval0
  have hW' := hW
  obtain ⟨p, q, hA0, hV, rfl, hfz, hnd⟩ := hW
  have hA : DataW.TrodAll enc Try.prog W 0 (fun _ => true) true Try.f8.params.toList args.toList ds p := hA0
  rw [Try.params8] at hA hval
  obtain ⟨v0, vs0, d0, ds0, p0, q0, hargs, rfl, rfl, h0, r0⟩ := trodAll_cons hA
  obtain ⟨v1, vs1, d1, ds1, p1, q1, rfl, rfl, rfl, h1, r1⟩ := trodAll_cons r0
  obtain ⟨v2, vs2, d2, ds2, p2, q2, rfl, rfl, rfl, h2, r2⟩ := trodAll_cons r1
  obtain ⟨v3, vs3, d3, ds3, p3, q3, rfl, rfl, rfl, h3, r3⟩ := trodAll_cons r2
  obtain ⟨rfl, rfl, rfl⟩ := trodAll_nil r3
  obtain rfl : args = #[v0, v1, v2, v3] := by cases args; simp_all
  obtain ⟨rfl, rfl⟩ := trodVars_none hV
  obtain ⟨a0, n0, c0, rfl⟩ := okWide_slice Try.underlying22 (hval 0 22 v0 rfl rfl)
  obtain ⟨b0, o0, K0, e0, z0, m0, g0, k0⟩ := sliceI Try.underlying22 Try.underlying3 (by kernel_rfl) h0
  obtain ⟨a1, n1, c1, rfl⟩ := okWide_slice Try.underlying23 (hval 1 23 v1 rfl rfl)
  obtain ⟨b1, o1, K1, e1, z1, m1, g1, k1⟩ := sliceI Try.underlying23 Try.underlying2 (by kernel_rfl) h1
  obtain ⟨a2, n2, c2, rfl⟩ := okWide_slice Try.underlying48 (hval 2 48 v2 rfl rfl)
  obtain ⟨b2, o2, K2, e2, z2, m2, g2⟩ := sliceB Try.underlying48 Try.underlying4 (by kernel_rfl) h2
  obtain ⟨a3, n3, c3, rfl⟩ := okWide_slice Try.underlying38 (hval 3 38 v3 rfl rfl)
  obtain ⟨b3, o3, K3, e3, z3, m3, g3, k3⟩ := sliceS Try.underlying38 Try.underlying9 (by kernel_rfl) h3
  clear hA0 hval0
  refine (law8 a0 a1 a2 a3 b0 o0 b1 o1 b2 o2 b3 o3 n0 c0 n1 c1 n2 c2 n3 c3 K0 K1 K2 K3 W e0 e1 e2 e3 z0 z1 z2 z3 m0 m1 m2 m3 g0 g1 g2 g3 k0 k1 k3).mono fun e W' ⟨he, bel⟩ => ?_
  subst he
  exact ⟨_, rfl, _, _, _, [], _, [], hW', trodAll_mk1 (shut_bool Try.underlying4 _), (trodAll_cons_mk (Below.trod laidOut (by kernel_rfl) (of_decide_eq_true (by kernel_rfl)) h0 bel (trod_below h0)) (trodAll_cons_mk (Below.trod laidOut (by kernel_rfl) (of_decide_eq_true (by kernel_rfl)) h1 bel (trod_below h1)) (trodAll_cons_mk (Below.trod laidOut (by kernel_rfl) (of_decide_eq_true (by kernel_rfl)) h2 bel (trod_below h2)) (trodAll_cons_mk (Below.trod laidOut (by kernel_rfl) (of_decide_eq_true (by kernel_rfl)) h3 bel (trod_below h3)) trodAll_mk0)))), rfl, bel.frame _, fun h => by cases h⟩

theorem over : Rows.fnAddRecordsScriptCountsEveryRecordRow.holds Try.pinned (OpenSpec.ofChange Rows.fnAddRecordsScriptCountsEveryRecordSpec) :=
  OpenClaim.holds_of_wide 8 Try.f8 rfl rfl rfl rfl rfl rfl rfl ⟨rfl, rfl, rfl, rfl, rfl⟩ rfl rfl rfl rfl rfl (by kernel_rfl) Try.func8 (by kernel_rfl)
    (of_decide_eq_true (by kernel_rfl)) (by unfold Func.isWrapper; first | (rw [if_pos (by decide +kernel)]; kernel_rfl) | (rw [if_neg (by decide +kernel)]; exact ⟨rfl, rfl⟩))
    (fun os started H enc _ => lifted os started H enc)

theorem proved : Rows.FnAddRecordsScriptCountsEveryRecordSaid := over
#print axioms proved
end Go.Proofs.Qxb6603978a.fnAddRecordsScriptCountsEveryRecord
