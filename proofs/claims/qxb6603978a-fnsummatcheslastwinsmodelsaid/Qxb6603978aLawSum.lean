/-
  FnSumMatchesLastWinsModel: THE WALK.
-/
import Derived.Test.Qxb6603978aRowOpen
namespace Go.Proofs.Qxb6603978a
open Go.RowKit Go.Maps
set_option linter.unusedVariables false
set_option linter.unusedSimpArgs false

set_option maxHeartbeats 1000000 in
theorem law3 (a0 a1 : Option Addr) (b0 o0 b1 o1 n0 c0 n1 c1 : Nat) (K V : Nat → Int) (w : World)
    (h0 : 0 < n0 → a0 = some ⟨b0, o0, none⟩) (h1 : 0 < n1 → a1 = some ⟨b1, o1, none⟩) (z0 : a0 = none → n0 = 0) (z1 : a1 = none → n1 = 0) (hn0 : n0 ≤ maxLen) (hn1 : n1 ≤ maxLen)
    (g0 : ∀ j, j < n0 → w.cell? ⟨b0, o0 + j, none⟩ = some (.int .i64 (K j))) (g1 : ∀ j, j < n1 → w.cell? ⟨b1, o1 + j, none⟩ = some (.int .i64 (V j)))
    (k0 : ∀ j, (Lit.int .i64 (K j)).wf = true) (k1 : ∀ j, (Lit.int .i64 (V j)).wf = true) :
    Calls Try.prog 3 #[.slice a0 n0 c0, .slice a1 n1 c1] w fun e w' => e = .returned (.bool true) ∧ Below w.heap.size w w' := by
  go_enter Try.func3, Try.ntmps3
  go_wp2_with fail
  refine (bytes9 a0 a1 n0 c0 n1 c1 w hn0 hn1).mono ?_
  rintro e w' ⟨⟨x, rfl⟩, rfl⟩
  cases x
  · go_wp2
    go_ret
    exact ⟨rfl, Below.refl _ _⟩
  unfold maxLen at hn0 hn1
  by_cases s0 : n0 ≤ 4096
  case neg =>
    go_wp2
    go_ret
    exact ⟨rfl, Below.refl _ _⟩
  by_cases s1 : n1 ≤ 4096
  case neg =>
    go_wp2
    go_ret
    exact ⟨rfl, Below.refl _ _⟩
  have d0 : decide ((4096 : Int) < (n0 : Int)) = false := decide_eq_false (by omega)
  have d1 : decide ((4096 : Int) < (n1 : Int)) = false := decide_eq_false (by omega)
  go_wp2_with fail
  refine (copy10 a0 b0 o0 n0 c0 K w h0 z0 s0 g0).mono ?_
  rintro e w1 ⟨a0', rfl, i0, h0', g2, bel1⟩
  go_wp2_with fail
  have g3 : ∀ j, j < n1 → w1.cell? ⟨b1, o1 + j, none⟩ = some (.int .i64 (V j)) := fun j hj => (bel1.cell (by exact World.block_lt_of_cell? _ _ (g1 j hj))).trans (g1 j hj)
  refine (copy11 a1 b1 o1 n1 c1 V w1 h1 z1 s1 g3).mono ?_
  rintro e w2 ⟨a1', rfl, i1, h1', g4, bel2⟩
  have z0' : a0' = none → n0 = 0 := fun h => z0 (by rw [h] at i0; exact Option.isNone_iff_eq_none.1 i0.symm)
  clear g0 g1 g3 h0 h1 z0 z1 i0 i1
  go_wp2_with fail
  refine (min_any n0 n1 w2).mono ?_
  rintro e w3 ⟨rfl, rfl⟩
  obtain ⟨m, hm⟩ : ∃ m, m = min n0 n1 := ⟨_, rfl⟩
  rw [← hm]
  have g5 : ∀ j, j < n0 → w2.cell? ⟨w.heap.size, 0 + j, none⟩ = some (.int .i64 (K j)) := fun j hj => by rw [Nat.zero_add]; exact (bel2.cell (by exact World.block_lt_of_cell? _ _ (g2 j hj))).trans (g2 j hj)
  have g6 : ∀ j, j < n1 → w2.cell? ⟨w1.heap.size, 0 + j, none⟩ = some (.int .i64 (V j)) := fun j hj => by rw [Nat.zero_add]; exact g4 j hj
  have hm0 : m ≤ n0 := by omega
  have hm1 : m ≤ n1 := by omega
  have HM : Hid (m = min n0 n1) := hm
  have bel : Below w.heap.size w w2 := bel1.trans (bel2.mono bel1.size)
  clear hm g2 g4 bel1 bel2
  go_wp2_with fail
  refine (buildO a0' a1' w.heap.size 0 w1.heap.size 0 n0 n0 n1 n1 m K V w2 h0' h1' z0' s0 s1 HM.out g5 g6 k0 k1).mono ?_
  rintro e w3 ⟨o, rfl, _, hob, ht, bel3⟩
  go_wp2_with fail
  have g7 : ∀ j, j < n0 → w3.cell? ⟨w.heap.size, 0 + j, none⟩ = some (.int .i64 (K j)) := fun j hj => (bel3.cell (by exact World.block_lt_of_cell? _ _ (g5 j hj))).trans (g5 j hj)
  have g8 : ∀ j, j < n1 → w3.cell? ⟨w1.heap.size, j, none⟩ = some (.int .i64 (V j)) := fun j hj => by
    have h := g6 j hj
    rw [Nat.zero_add] at h
    exact (bel3.cell (by exact World.block_lt_of_cell? _ _ h)).trans h
  have HT : Hid (TalO w3 o m (Pl.mk (fun _ => true) K m (Pl.lw (fun _ => true) K V 0 m))) := ht
  have HB : Hid (Below w.heap.size w w3) := bel.trans (bel3.mono bel.size)
  have hs := HB.out.size
  clear g5 g6 ht bel bel3 z0' hob k0
  go_loopw [7, 8] (fun u v wr => ∃ k : Nat, k ≤ m ∧ v = .int .i64 k ∧ u = .int .i64 (wrap64 (Pl.sm (Pl.lastB (fun _ => true) K m) V k)) ∧ ∃ q, wr = w3.drewN q) (fun _ v _ => m - (intOf v).toNat)
  case atStart => exact ⟨0, Nat.zero_le _, rfl, by rw [Pl.sm, Pl.wrap_zero], 0, rfl⟩
  case round =>
    obtain ⟨k, hk, rfl, rfl, q, rfl⟩ := hrel
    by_cases hlt : k < m
    · obtain rfl := h0' (by omega)
      obtain rfl := h1' (by omega)
      have e1 := g8 k (by omega)
      have i1 : (k : Int) < (n1 : Int) := by omega
      go_wp2_with fail
      refine (last_any w.heap.size 0 n0 n0 K k m (w3.drewN q) hlt hm0 s0 (fun j hj => g7 j hj)).mono ?_
      rintro e w4 ⟨rfl, q', rfl⟩
      have HS : Hid (Pl.sm (Pl.lastB (fun _ => true) K m) V (k + 1) = Pl.sm (Pl.lastB (fun _ => true) K m) V k + if Pl.lastB (fun _ => true) K m k then V k else 0) := rfl
      cases hl : Pl.lastB (fun _ => true) K m k
      · rw [hl] at HS
        clear hl g7 g8
        go_wp2
        go_roundw
        case rel => exact ⟨k + 1, by omega, by go_num, by rw [HS.out]; simp, _, rfl⟩
        case measure => simp [intOf]; omega
      · rw [hl] at HS
        clear hl g7 g8
        go_wp2
        go_roundw
        case rel => exact ⟨k + 1, by omega, by go_num, by rw [HS.out]; simp [Pl.wrap_add_l], _, rfl⟩
        case measure => simp [intOf]; omega
    · have hkm : k = m := by omega
      subst hkm
      go_wp2_with fail
      have hsum : ((Pl.mk (fun _ => true) K k (Pl.lw (fun _ => true) K V 0 k)).map Prod.snd).sum = Pl.sm (Pl.lastB (fun _ => true) K k) V k := by
        rw [Pl.mk_snd_sum]
        exact Pl.sm_congr k (fun _ _ => rfl) (fun i hi hl => Pl.lw_last hi hl)
      refine (sumO o k _ (w3.drewN q) HT.out).mono ?_
      rintro e w5 ⟨rfl, bel5⟩
      rw [hsum]
      clear hsum
      go_wp2
      go_ret
      exact ⟨ret_bool (by simp), (bdrew HB.out q).trans (bel5.mono HB.out.size)⟩

end Go.Proofs.Qxb6603978a
