/-
  FnAddMatchesModel: THE WALK.
-/
import Derived.Test.Qxb6603978aOldPlus
import Derived.Test.Qxb6603978aLawShift
namespace Go.Proofs.Qxb6603978a
open Go.RowKit Go.Maps
set_option linter.unusedVariables false
set_option linter.unusedSimpArgs false

set_option maxRecDepth 100000 in
set_option maxHeartbeats 1000000 in
theorem law4 (a0 a1 : Option Addr) (b0 o0 b1 o1 n0 c0 n1 c1 : Nat) (K V : Nat → Int) (w : World)
    (h0 : 0 < n0 → a0 = some ⟨b0, o0, none⟩) (h1 : 0 < n1 → a1 = some ⟨b1, o1, none⟩) (z0 : a0 = none → n0 = 0) (z1 : a1 = none → n1 = 0) (hn0 : n0 ≤ maxLen) (hn1 : n1 ≤ maxLen)
    (g0 : ∀ j, j < n0 → w.cell? ⟨b0, o0 + j, none⟩ = some (.int .i64 (K j))) (g1 : ∀ j, j < n1 → w.cell? ⟨b1, o1 + j, none⟩ = some (.int .i64 (V j)))
    (k0 : ∀ j, (Lit.int .i64 (K j)).wf = true) (k1 : ∀ j, (Lit.int .i64 (V j)).wf = true) (r n : Int) (kr : (Lit.int .i64 r).wf = true) (kn : (Lit.int .i64 n).wf = true) :
    Calls Try.prog 4 #[.slice a0 n0 c0, .slice a1 n1 c1, .int .i64 r, .int .i64 n] w fun e w' => e = .returned (.bool true) ∧ Below w.heap.size w w' := by
  go_enter Try.func4, Try.ntmps4
  go_wp2_with fail
  refine (bytes16 a0 a1 n0 c0 n1 c1 r n w hn0 hn1).mono ?_
  rintro e w' ⟨⟨x, rfl⟩, rfl⟩
  cases x
  · go_wp2
    go_ret
    exact ⟨rfl, Below.refl _ _⟩
  unfold maxLen at hn0 hn1
  by_cases s0 : n0 ≤ 4096
  case neg =>
    go_wp2
    go_ret
    exact ⟨rfl, Below.refl _ _⟩
  by_cases s1 : n1 ≤ 4096
  case neg =>
    go_wp2
    go_ret
    exact ⟨rfl, Below.refl _ _⟩
  have d0 : decide ((4096 : Int) < (n0 : Int)) = false := decide_eq_false (by omega)
  have d1 : decide ((4096 : Int) < (n1 : Int)) = false := decide_eq_false (by omega)
  go_wp2_with fail
  refine (copy10 a0 b0 o0 n0 c0 K w h0 z0 s0 g0).mono ?_
  rintro e w1 ⟨a0', rfl, i0, h0', g2, bel1⟩
  go_wp2_with fail
  have g3 : ∀ j, j < n1 → w1.cell? ⟨b1, o1 + j, none⟩ = some (.int .i64 (V j)) := fun j hj => (bel1.cell (by exact World.block_lt_of_cell? _ _ (g1 j hj))).trans (g1 j hj)
  refine (copy11 a1 b1 o1 n1 c1 V w1 h1 z1 s1 g3).mono ?_
  rintro e w2 ⟨a1', rfl, i1, h1', g4, bel2⟩
  have z0' : a0' = none → n0 = 0 := fun h => z0 (by rw [h] at i0; exact Option.isNone_iff_eq_none.1 i0.symm)
  clear g0 g1 g3 h0 h1 z0 z1 i0 i1
  go_wp2_with fail
  refine (min_any n0 n1 w2).mono ?_
  rintro e w3 ⟨rfl, rfl⟩
  obtain ⟨m, hm⟩ : ∃ m, m = min n0 n1 := ⟨_, rfl⟩
  rw [← hm]
  have g5 : ∀ j, j < n0 → w2.cell? ⟨w.heap.size, 0 + j, none⟩ = some (.int .i64 (K j)) := fun j hj => by rw [Nat.zero_add]; exact (bel2.cell (by exact World.block_lt_of_cell? _ _ (g2 j hj))).trans (g2 j hj)
  have g6 : ∀ j, j < n1 → w2.cell? ⟨w1.heap.size, 0 + j, none⟩ = some (.int .i64 (V j)) := fun j hj => by rw [Nat.zero_add]; exact g4 j hj
  have hm0 : m ≤ n0 := by omega
  have hm1 : m ≤ n1 := by omega
  have HM : Hid (m = min n0 n1) := hm
  have bel : Below w.heap.size w w2 := bel1.trans (bel2.mono bel1.size)
  clear hm g2 g4 bel1 bel2
  go_wp2_with fail
  refine (buildO a0' a1' w.heap.size 0 w1.heap.size 0 n0 n0 n1 n1 m K V w2 h0' h1' z0' s0 s1 HM.out g5 g6 k0 k1).mono ?_
  rintro e w3 ⟨o, rfl, hoi, hob, ht, bel3⟩
  clear hoi
  have hq : ∀ (w : World) (r : Option Nat), (binOp .eql 29 (.map r) (.map none)).run Try.prog w = .ok (.bool r.isNone) w := fun w r => run_eql_map_nil w _ _ _ r Try.underlying29
  obtain ⟨x, hx⟩ := at_pairs (Pl.mk (fun _ => true) K m (Pl.lw (fun _ => true) K V 0 m)) r
  have HX : Hid ((r, x) ∈ Pl.mk (fun _ => true) K m (Pl.lw (fun _ => true) K V 0 m) ∨ (x = 0 ∧ ¬ ∃ p ∈ Pl.mk (fun _ => true) K m (Pl.lw (fun _ => true) K V 0 m), p.1 = r)) := hx
  have HO : Hid (∀ b, o = some b → w2.heap.size ≤ b) := fun b hb => (hob b hb).1
  have HP := oldPlus_added K V m r n x kn hx
  have HPs : Hid (OldPlus (((Pl.mk (fun _ => true) K m (Pl.lw (fun _ => true) K V 0 m)).filter fun p => decide (p.1 ≠ r)) ++ [(r, wrap64 (x + n))]) K V m r n) := HP
  have g7 : ∀ j, j < n0 → w3.cell? ⟨w.heap.size, 0 + j, none⟩ = some (.int .i64 (K j)) := fun j hj => (bel3.cell (by exact World.block_lt_of_cell? _ _ (g5 j hj))).trans (g5 j hj)
  have g8 : ∀ j, j < n1 → w3.cell? ⟨w1.heap.size, 0 + j, none⟩ = some (.int .i64 (V j)) := fun j hj => (bel3.cell (by exact World.block_lt_of_cell? _ _ (g6 j hj))).trans (g6 j hj)
  have l0 : ∀ j, j < n0 → w.heap.size < w2.heap.size := fun j hj => World.block_lt_of_cell? _ _ (g5 j hj)
  have l1 : ∀ j, j < n1 → w1.heap.size < w2.heap.size := fun j hj => World.block_lt_of_cell? _ _ (g6 j hj)
  have bel' : Below w.heap.size w w3 := bel.trans (bel3.mono bel.size)
  have hs23 := bel3.size
  have hs02 := bel.size
  clear g5 g6 bel bel3 hob hx HP k1 z0'
  go_wp2_with fail
  refine (zaddO o m _ x r n w2.heap.size w3 ht (by unfold maxLen; omega) kr kn HX.out hs23 HO.out).mono ?_
  rintro e w4 ⟨b, rfl, hbo, hb, ht5, bel6⟩
  have g9 : ∀ j, j < n0 → w4.cell? ⟨w.heap.size, 0 + j, none⟩ = some (.int .i64 (K j)) := fun j hj => (bel6.cell (by exact l0 j hj)).trans (g7 j hj)
  have g10 : ∀ j, j < n1 → w4.cell? ⟨w1.heap.size, 0 + j, none⟩ = some (.int .i64 (V j)) := fun j hj => (bel6.cell (by exact l1 j hj)).trans (g8 j hj)
  have HB : Hid (Below w.heap.size w w4) := bel'.trans (bel6.mono hs02)
  have HM6 : Hid ((r, wrap64 (x + n)) ∈ ((Pl.mk (fun _ => true) K m (Pl.lw (fun _ => true) K V 0 m)).filter fun p => decide (p.1 ≠ r)) ++ [(r, wrap64 (x + n))]) := by
    show _ ∈ _
    exact List.mem_append.2 (.inr (by simp))
  generalize ((Pl.mk (fun _ => true) K m (Pl.lw (fun _ => true) K V 0 m)).filter fun p => decide (p.1 ≠ r)) ++ [(r, wrap64 (x + n))] = ps at ht5 HPs HM6
  have HBO : Hid (∀ b', o = some b' → b = b') := hbo
  clear ht bel' bel6 g7 g8 l0 l1 HX HO hbo
  go_wp2_with fail
  refine (old_plus b (m + 1) ps a0' a1' w.heap.size 0 w1.heap.size 0 n0 n0 n1 n1 m K V r n w4 ht5 HPs.out h0' h1' s0 s1 hm0 hm1 g9 g10 k0 kr).mono ?_
  rintro e w5 ⟨rfl, q, rfl⟩
  clear g9 g10 h0' h1' k0
  cases o with
  | none =>
    go_wp2
    go_ret
    exact ⟨rfl, bdrew HB.out q⟩
  | some b' =>
    obtain rfl := HBO.out b' rfl
    have hL1 := (Tal.look (w := w4.drewN q) ht5 kr HM6.out true).1
    have hL2 := (Tal.look (w := w4.drewN q) ht5 kr HM6.out false).1
    go_wp2_with (at_len; refine wpList_len_tal _ rfl _ rfl b (m + 1) ps rfl ht5 ?_)
    go_ret
    exact ⟨rfl, bdrew HB.out q⟩

end Go.Proofs.Qxb6603978a
