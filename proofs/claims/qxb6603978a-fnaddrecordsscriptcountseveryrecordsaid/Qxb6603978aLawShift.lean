/-
  FnAddShiftsSumByN: THE WALK.
-/
import Derived.Test.Qxb6603978aRowOpen
namespace Go.Proofs.Qxb6603978a
open Go.RowKit Go.Maps
set_option linter.unusedVariables false
set_option linter.unusedSimpArgs false

/-- What stands at r in the pairs: an element x with what zaddO asks. -/
theorem at_pairs (ps : List (Int × Int)) (r : Int) : ∃ x, (r, x) ∈ ps ∨ (x = 0 ∧ ¬ ∃ p ∈ ps, p.1 = r) := by
  by_cases h : ∃ p ∈ ps, p.1 = r
  · obtain ⟨⟨p1, p2⟩, hp, rfl⟩ := h
    exact ⟨p2, .inl hp⟩
  · exact ⟨0, .inr ⟨rfl, h⟩⟩

/-- The sum behind an addition at r. -/
theorem sum_added (ps : List (Int × Int)) (r n x : Int) (hp : ps.Pairwise (fun p q => p.1 ≠ q.1)) (hx : (r, x) ∈ ps ∨ (x = 0 ∧ ¬ ∃ p ∈ ps, p.1 = r)) :
    wrap64 ((((ps.filter fun p => decide (p.1 ≠ r)) ++ [(r, wrap64 (x + n))]).map Prod.snd).sum) = wrap64 (wrap64 (ps.map Prod.snd).sum + n) := by
  have h1 : ((ps.filter (fun p => decide (p.1 ≠ r))).map Prod.snd).sum + x = (ps.map Prod.snd).sum := by
    have hs := Pl.sum_strike (f := fun k => ((ps.find? (fun p => decide (p.1 = k))).map Prod.snd).getD 0) r ps hp (fun p hp' => by
      cases hf : ps.find? (fun q => decide (q.1 = p.1)) with
      | none =>
        have := List.find?_eq_none.1 hf p hp'
        simp at this
      | some q =>
        have h2 := List.find?_some hf
        have h3 := List.mem_of_find?_eq_some hf
        simp only [decide_eq_true_iff] at h2
        obtain ⟨q1, q2⟩ := q
        obtain ⟨p1, p2⟩ := p
        simp only at h2
        subst h2
        simp only [Option.map_some, Option.getD_some]
        exact Pl.pair_unique hp hp' h3)
    rcases hx with hx | ⟨rfl, hx⟩
    · rw [if_pos ⟨_, hx, rfl⟩] at hs
      have h4 : ((ps.find? (fun p => decide (p.1 = r))).map Prod.snd).getD 0 = x := by
        cases hf : ps.find? (fun q => decide (q.1 = r)) with
        | none =>
          have := List.find?_eq_none.1 hf _ hx
          simp at this
        | some q =>
          have h2 := List.find?_some hf
          have h3 := List.mem_of_find?_eq_some hf
          simp only [decide_eq_true_iff] at h2
          obtain ⟨q1, q2⟩ := q
          simp only at h2
          subst h2
          simp only [Option.map_some, Option.getD_some]
          exact Pl.pair_unique hp h3 hx
      rw [h4] at hs
      exact hs
    · rw [if_neg hx] at hs
      exact hs
  rw [List.map_append, List.sum_append]
  simp only [List.map_cons, List.map_nil, List.sum_cons, List.sum_nil, Int.add_zero]
  rw [Pl.wrap_add_r, Pl.wrap_add_l, ← h1]
  congr 1
  omega

set_option maxHeartbeats 1000000 in
theorem law5 (a0 a1 : Option Addr) (b0 o0 b1 o1 n0 c0 n1 c1 : Nat) (K V : Nat → Int) (w : World)
    (h0 : 0 < n0 → a0 = some ⟨b0, o0, none⟩) (h1 : 0 < n1 → a1 = some ⟨b1, o1, none⟩) (z0 : a0 = none → n0 = 0) (z1 : a1 = none → n1 = 0) (hn0 : n0 ≤ maxLen) (hn1 : n1 ≤ maxLen)
    (g0 : ∀ j, j < n0 → w.cell? ⟨b0, o0 + j, none⟩ = some (.int .i64 (K j))) (g1 : ∀ j, j < n1 → w.cell? ⟨b1, o1 + j, none⟩ = some (.int .i64 (V j)))
    (k0 : ∀ j, (Lit.int .i64 (K j)).wf = true) (k1 : ∀ j, (Lit.int .i64 (V j)).wf = true) (r n : Int) (kr : (Lit.int .i64 r).wf = true) (kn : (Lit.int .i64 n).wf = true) :
    Calls Try.prog 5 #[.slice a0 n0 c0, .slice a1 n1 c1, .int .i64 r, .int .i64 n] w fun e w' => e = .returned (.bool true) ∧ Below w.heap.size w w' := by
  go_enter Try.func5, Try.ntmps5
  go_wp2_with fail
  refine (bytes19 a0 a1 n0 c0 n1 c1 r n w hn0 hn1).mono ?_
  rintro e w' ⟨⟨x, rfl⟩, rfl⟩
  cases x
  · go_wp2
    go_ret
    exact ⟨rfl, Below.refl _ _⟩
  unfold maxLen at hn0 hn1
  by_cases s0 : n0 ≤ 4096
  case neg =>
    go_wp2
    go_ret
    exact ⟨rfl, Below.refl _ _⟩
  by_cases s1 : n1 ≤ 4096
  case neg =>
    go_wp2
    go_ret
    exact ⟨rfl, Below.refl _ _⟩
  have d0 : decide ((4096 : Int) < (n0 : Int)) = false := decide_eq_false (by omega)
  have d1 : decide ((4096 : Int) < (n1 : Int)) = false := decide_eq_false (by omega)
  go_wp2_with fail
  refine (copy10 a0 b0 o0 n0 c0 K w h0 z0 s0 g0).mono ?_
  rintro e w1 ⟨a0', rfl, i0, h0', g2, bel1⟩
  go_wp2_with fail
  have g3 : ∀ j, j < n1 → w1.cell? ⟨b1, o1 + j, none⟩ = some (.int .i64 (V j)) := fun j hj => (bel1.cell (by exact World.block_lt_of_cell? _ _ (g1 j hj))).trans (g1 j hj)
  refine (copy11 a1 b1 o1 n1 c1 V w1 h1 z1 s1 g3).mono ?_
  rintro e w2 ⟨a1', rfl, i1, h1', g4, bel2⟩
  have z0' : a0' = none → n0 = 0 := fun h => z0 (by rw [h] at i0; exact Option.isNone_iff_eq_none.1 i0.symm)
  clear g0 g1 g3 h0 h1 z0 z1 i0 i1
  have g5 : ∀ j, j < n0 → w2.cell? ⟨w.heap.size, 0 + j, none⟩ = some (.int .i64 (K j)) := fun j hj => by rw [Nat.zero_add]; exact (bel2.cell (by exact World.block_lt_of_cell? _ _ (g2 j hj))).trans (g2 j hj)
  have g6 : ∀ j, j < n1 → w2.cell? ⟨w1.heap.size, 0 + j, none⟩ = some (.int .i64 (V j)) := fun j hj => by rw [Nat.zero_add]; exact g4 j hj
  have bel : Below w.heap.size w w2 := bel1.trans (bel2.mono bel1.size)
  clear g2 g4 bel1 bel2
  go_wp2_with fail
  refine (buildO a0' a1' w.heap.size 0 w1.heap.size 0 n0 n0 n1 n1 _ K V w2 h0' h1' z0' s0 s1 rfl g5 g6 k0 k1).mono ?_
  rintro e w3 ⟨o, rfl, _, hob, ht, bel3⟩
  have hs2 := bel.size
  have bel' : Below w.heap.size w w3 := bel.trans (bel3.mono bel.size)
  have hm : min n0 n1 < maxLen := by unfold maxLen; omega
  generalize Pl.mk (fun _ => true) K (min n0 n1) (Pl.lw (fun _ => true) K V 0 (min n0 n1)) = ps at ht
  generalize min n0 n1 = m at ht hm
  clear g5 g6 k0 k1 h0' h1' z0' bel bel3
  have hap : Hid (ps.Pairwise (fun p q => p.1 ≠ q.1)) := by
    rcases ht with ⟨_, rfl⟩ | ⟨b, _, h⟩
    · exact List.Pairwise.nil
    · exact h.apart
  obtain ⟨x, hx⟩ := at_pairs ps r
  have HX : Hid ((r, x) ∈ ps ∨ (x = 0 ∧ ¬ ∃ p ∈ ps, p.1 = r)) := hx
  have HO : Hid (∀ b, o = some b → w2.heap.size ≤ b ∧ b < w3.heap.size) := hob
  have HE : Hid (wrap64 ((((ps.filter fun p => decide (p.1 ≠ r)) ++ [(r, wrap64 (x + n))]).map Prod.snd).sum) = wrap64 (wrap64 (ps.map Prod.snd).sum + n)) := sum_added ps r n x hap.out hx
  clear hx hob
  go_wp2_with fail
  refine (sumO o m ps w3 ht).mono ?_
  rintro e w4 ⟨rfl, bel4⟩
  have ht4 := ht.below bel4 (fun b hb => (HO.out b hb).2)
  have bel5 : Below w.heap.size w w4 := bel'.trans (bel4.mono bel'.size)
  have HB4 : Hid (∀ b, o = some b → w.heap.size ≤ b) := fun b hb => by have := (HO.out b hb).1; omega
  clear bel4 bel' ht
  go_wp2_with fail
  refine (zaddO o m ps x r n w.heap.size w4 ht4 hm kr kn HX.out bel5.size HB4.out).mono ?_
  rintro e w5 ⟨b, rfl, _, hb, ht5, bel6⟩
  have bel7 := bel5.trans bel6
  clear bel5 bel6 ht4
  go_wp2_with fail
  refine (sum_any b (m + 1) _ w5 ht5).mono ?_
  rintro e w6 ⟨rfl, bel8⟩
  rw [HE.out]
  clear ht5
  go_wp2
  go_ret
  exact ⟨ret_bool (by simp), bel7.trans (bel8.mono bel7.size)⟩

end Go.Proofs.Qxb6603978a
