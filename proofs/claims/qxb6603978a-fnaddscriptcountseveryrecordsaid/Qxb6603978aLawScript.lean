/-
  FnAddScriptCountsEveryRecord: THE WALK.
-/
import Derived.Test.Qxb6603978aRowOpen
import Derived.Deep.RegionWith
namespace Go.Proofs.Qxb6603978a
open Go.RowKit Go.Maps
set_option linter.unusedVariables false
set_option linter.unusedSimpArgs false

set_option maxRecDepth 100000 in
set_option maxHeartbeats 2000000 in
theorem law6 (a0 a1 : Option Addr) (b0 o0 b1 o1 n0 c0 n1 c1 : Nat) (K V : Nat → Int) (w : World)
    (h0 : 0 < n0 → a0 = some ⟨b0, o0, none⟩) (h1 : 0 < n1 → a1 = some ⟨b1, o1, none⟩) (z0 : a0 = none → n0 = 0) (z1 : a1 = none → n1 = 0) (hn0 : n0 ≤ maxLen) (hn1 : n1 ≤ maxLen)
    (g0 : ∀ j, j < n0 → w.cell? ⟨b0, o0 + j, none⟩ = some (.int .i64 (K j))) (g1 : ∀ j, j < n1 → w.cell? ⟨b1, o1 + j, none⟩ = some (.int .i64 (V j)))
    (k0 : ∀ j, (Lit.int .i64 (K j)).wf = true) (k1 : ∀ j, (Lit.int .i64 (V j)).wf = true) :
    Calls Try.prog 6 #[.slice a0 n0 c0, .slice a1 n1 c1] w fun e w' => e = .returned (.bool true) ∧ Below w.heap.size w w' := by
  go_enter Try.func6, Try.ntmps6
  go_wp2_with fail
  refine (bytes20 a0 a1 n0 c0 n1 c1 w hn0 hn1).mono ?_
  rintro e w' ⟨⟨x, rfl⟩, rfl⟩
  cases x
  · go_wp2
    go_ret
    exact ⟨rfl, Below.refl _ _⟩
  unfold maxLen at hn0 hn1
  by_cases s0 : n0 ≤ 4096
  case neg =>
    go_wp2
    go_ret
    exact ⟨rfl, Below.refl _ _⟩
  by_cases s1 : n1 ≤ 4096
  case neg =>
    go_wp2
    go_ret
    exact ⟨rfl, Below.refl _ _⟩
  have d0 : decide ((4096 : Int) < (n0 : Int)) = false := decide_eq_false (by omega)
  have d1 : decide ((4096 : Int) < (n1 : Int)) = false := decide_eq_false (by omega)
  go_wp2_with fail
  refine (copy10 a0 b0 o0 n0 c0 K w h0 z0 s0 g0).mono ?_
  rintro e w1 ⟨a0', rfl, i0, h0', g2, bel1⟩
  go_wp2_with fail
  have g3 : ∀ j, j < n1 → w1.cell? ⟨b1, o1 + j, none⟩ = some (.int .i64 (V j)) := fun j hj => (bel1.cell (by exact World.block_lt_of_cell? _ _ (g1 j hj))).trans (g1 j hj)
  refine (copy11 a1 b1 o1 n1 c1 V w1 h1 z1 s1 g3).mono ?_
  rintro e w2 ⟨a1', rfl, i1, h1', g4, bel2⟩
  have z0' : a0' = none → n0 = 0 := fun h => z0 (by rw [h] at i0; exact Option.isNone_iff_eq_none.1 i0.symm)
  clear g0 g1 g3 h0 h1 z0 z1 i0 i1
  go_wp2_with fail
  refine (min_any n0 n1 w2).mono ?_
  rintro e w3 ⟨rfl, rfl⟩
  obtain ⟨m, hm⟩ : ∃ m, m = min n0 n1 := ⟨_, rfl⟩
  rw [← hm]
  have g5 : ∀ j, j < n0 → w2.cell? ⟨w.heap.size, 0 + j, none⟩ = some (.int .i64 (K j)) := fun j hj => by rw [Nat.zero_add]; exact (bel2.cell (by exact World.block_lt_of_cell? _ _ (g2 j hj))).trans (g2 j hj)
  have g6 : ∀ j, j < n1 → w2.cell? ⟨w1.heap.size, 0 + j, none⟩ = some (.int .i64 (V j)) := fun j hj => by rw [Nat.zero_add]; exact g4 j hj
  have hm0 : m ≤ n0 := by omega
  have hm1 : m ≤ n1 := by omega
  have HM : Hid (m = min n0 n1) := hm
  have bel : Below w.heap.size w w2 := bel1.trans (bel2.mono bel1.size)
  have g7 : ∀ j, j < n1 → w2.cell? ⟨w1.heap.size, j, none⟩ = some (.int .i64 (V j)) := g4
  have g8 : ∀ j, j < n0 → w2.cell? ⟨w.heap.size, j, none⟩ = some (.int .i64 (K j)) := fun j hj => by have h := g5 j hj; rwa [Nat.zero_add] at h
  clear hm g2 g4 g6 bel1 bel2
  have hq : ∀ (w : World) (r : Option Nat), (binOp .eql 29 (.map r) (.map none)).run Try.prog w = .ok (.bool r.isNone) w := fun w r => run_eql_map_nil w _ _ _ r Try.underlying29
  go_wp2_with fail
  go_loopw [6, 7] (fun t v wr => ∃ (k : Nat) (o : Option Nat), k ≤ m ∧ v = .int .i64 k ∧ t = .map o ∧ TalO wr o k (Pl.acc (fun _ => true) K V k) ∧ (o = none ↔ k = 0) ∧ (∀ b, o = some b → w2.heap.size ≤ b ∧ b < wr.heap.size) ∧ Below w2.heap.size w2 wr) (fun _ v _ => m - (intOf v).toNat)
  case atStart => exact ⟨0, none, Nat.zero_le _, rfl, rfl, .inl ⟨rfl, rfl⟩, by simp, fun b hb => (by cases hb), Below.refl _ _⟩
  case round =>
    obtain ⟨k, o, hk, rfl, rfl, ht, hok, hob, hbel⟩ := hrel
    by_cases hlt : k < m
    · obtain rfl := h0' (by omega)
      obtain rfl := h1' (by omega)
      have e0 : wr.cell? ⟨w.heap.size, k, none⟩ = some (.int .i64 (K k)) := (hbel.cell (by exact World.block_lt_of_cell? _ _ (g8 k (by omega)))).trans (g8 k (by omega))
      have e1 : wr.cell? ⟨w1.heap.size, k, none⟩ = some (.int .i64 (V k)) := (hbel.cell (by exact World.block_lt_of_cell? _ _ (g7 k (by omega)))).trans (g7 k (by omega))
      have i0 : (k : Int) < (n0 : Int) := by omega
      have i1 : (k : Int) < (n1 : Int) := by omega
      have HC : Hid (Calls Try.prog 17 #[.map o, .int .i64 (K k), .int .i64 (V k)] wr.drew fun e w' => ∃ b, e = .returned (.map (some b)) ∧ (w2.heap.size ≤ b ∧ b < w'.heap.size) ∧ TalO w' (some b) (k + 1) (Pl.acc (fun _ => true) K V (k + 1)) ∧ Below w2.heap.size w2 w') := by
        refine (zaddO o k _ _ (K k) (V k) w2.heap.size wr.drew ht (by unfold maxLen; omega) (k0 k) (k1 k) (Pl.acc_at (K k)) hbel.size (fun b hb => (hob b hb).1)).mono ?_
        rintro e w' ⟨b, rfl, _, hb, ht', hb'⟩
        refine ⟨b, rfl, ⟨hb, ht'.lt⟩, .inr ⟨b, rfl, ?_⟩, hbel.drew.trans hb'⟩
        rw [Pl.acc_step rfl]
        exact ht'
      clear ht hob hbel g7 g8 g5 k0 k1 h0' h1' z0' hok hq
      go_wp2
      go_region_with (go_at_call 17; refine (HC.out).mono ?_; rintro e w' ⟨b, rfl, hb, ht', hb'⟩)
      all_goals
        go_wp2
        go_roundw
        case rel => exact ⟨k + 1, some b, by omega, by go_num, rfl, ht', by simp, fun b' hb'' => (by cases hb''; exact hb), hb'⟩
        case measure => simp [intOf]; omega
    · have hkm : k = m := by omega
      subst hkm
      by_cases hz : k = 0
      · obtain rfl := hok.2 hz
        subst hz
        clear ht hob g7 g8 g5 k0 k1 h0' h1' z0' hok
        go_wp2
        go_ret
        exact ⟨rfl, bel.trans (hbel.mono bel.size)⟩
      · obtain ⟨b, rfl⟩ : ∃ b, o = some b := by
          cases o with
          | none => exact absurd (hok.1 rfl) hz
          | some b => exact ⟨b, rfl⟩
        obtain ⟨b', hb', ht⟩ : ∃ b', some b = some b' ∧ Tal wr b' k (Pl.acc (fun _ => true) K V k) := by
          rcases ht with ⟨h, _⟩ | h
          · cases h
          · exact h
        cases hb'
        obtain rfl := h0' (by omega)
        obtain rfl := h1' (by omega)
        have hz' : ((k : Int) == 0) = false := beq_eq_false_iff_ne.2 (by omega)
        have e0 : ∀ j, j < n0 → wr.cell? ⟨w.heap.size, j, none⟩ = some (.int .i64 (K j)) := fun j hj => (hbel.cell (by exact World.block_lt_of_cell? _ _ (g8 j hj))).trans (g8 j hj)
        have e1 : ∀ j, j < n1 → wr.cell? ⟨w1.heap.size, j, none⟩ = some (.int .i64 (V j)) := fun j hj => (hbel.cell (by exact World.block_lt_of_cell? _ _ (g7 j hj))).trans (g7 j hj)
        have HB : Hid (Below w.heap.size w wr) := bel.trans (hbel.mono bel.size)
        clear hob g7 g8 g5 k1 h0' h1' z0' hok hbel bel
        go_wp2
        clear hq
        go_loopw [8, 9, 10] (fun s d v wx => ∃ i : Nat, i ≤ k ∧ v = .int .i64 i ∧ d = .int .i64 (Pl.cnt (Pl.lastB (fun _ => true) K k) i : Nat) ∧ s = .int .i64 (wrap64 (Pl.sm (fun _ => true) V i)) ∧ ∃ q, wx = wr.drewN q) (fun _ _ v _ => k - (intOf v).toNat)
        case atStart => exact ⟨0, Nat.zero_le _, rfl, rfl, by rw [Pl.sm, Pl.wrap_zero], 0, rfl⟩
        case round =>
          obtain ⟨i, hi, rfl, rfl, rfl, q, rfl⟩ := hrel
          have hcl := Pl.cnt_le (Pl.lastB (fun _ => true) K k) i
          by_cases hik : i < k
          · have f0 := e0 i (by omega)
            have f1 := e1 i (by omega)
            have i0 : (i : Int) < (n0 : Int) := by omega
            have i1 : (i : Int) < (n1 : Int) := by omega
            have HS : Hid (wrap64 (Pl.sm (fun _ => true) V (i + 1)) = wrap64 (wrap64 (Pl.sm (fun _ => true) V i) + V i)) := by
              show _ = _
              rw [Pl.wrap_add_l]; simp [Pl.sm]
            have HN : Hid (Pl.cnt (Pl.lastB (fun _ => true) K k) (i + 1) = Pl.cnt (Pl.lastB (fun _ => true) K k) i + if Pl.lastB (fun _ => true) K k i then 1 else 0) := rfl
            go_wp2_with fail
            refine (last_any w.heap.size 0 n0 n0 K i k (wr.drewN q) hik hm0 s0 (fun j hj => by rw [Nat.zero_add]; exact e0 j hj)).mono ?_
            rintro e w4 ⟨rfl, q', rfl⟩
            cases hl : Pl.lastB (fun _ => true) K k i
            · rw [hl] at HN
              clear hl e0 e1
              go_wp2
              go_roundw
              case rel => exact ⟨i + 1, by omega, by go_num, by rw [HN.out]; simp, by rw [HS.out], _, rfl⟩
              case measure => simp [intOf]; omega
            · rw [hl] at HN
              clear hl
              have HL : Hid (∀ q, (Instr.lookup 29 (.map (some b)) (.int .i64 (K i)) true).run Try.prog (wr.drewN q) = .ok (.tuple #[.int .i64 (wrap64 (Pl.grp (fun _ => true) K V k (K i))), .bool true]) (wr.drewN q)) := fun q =>
                (Tal.look (w := wr.drewN q) ht (k0 i) (Pl.acc_mem hik rfl) true).1
              clear k0
              go_wp2
              go_loopw [11, 12] (fun s v wx => ∃ j : Nat, j ≤ k ∧ v = .int .i64 j ∧ s = .int .i64 (wrap64 (Pl.grp (fun _ => true) K V j (K i))) ∧ ∃ q, wx = wr.drewN q) (fun _ v _ => k - (intOf v).toNat)
              case atStart => exact ⟨0, Nat.zero_le _, rfl, by rw [Pl.grp, Pl.sm, Pl.wrap_zero], _, rfl⟩
              case round =>
                obtain ⟨j, hj, rfl, rfl, q2, rfl⟩ := hrel
                by_cases hjk : j < k
                · have f2 := e0 j (by omega)
                  have f3 := e1 j (by omega)
                  have i2 : (j : Int) < (n0 : Int) := by omega
                  have i3 : (j : Int) < (n1 : Int) := by omega
                  by_cases he : K j = K i
                  · have hb : (K j == K i) = true := by simp [he]
                    have HG : Hid (wrap64 (Pl.grp (fun _ => true) K V (j + 1) (K i)) = wrap64 (wrap64 (Pl.grp (fun _ => true) K V j (K i)) + V j)) := by
                      show _ = _
                      rw [← he, Pl.grp_hit rfl, Pl.wrap_add_l]
                    clear he e0 e1
                    go_wp2
                    go_quiet (fail)
                    go_wp2
                    go_roundw
                    case rel => exact ⟨j + 1, by omega, by go_num, by rw [HG.out], _, rfl⟩
                    case measure => simp [intOf]; omega
                  · have hb : (K j == K i) = false := by simp [he]
                    have HG : Hid (Pl.grp (fun _ => true) K V (j + 1) (K i) = Pl.grp (fun _ => true) K V j (K i)) := Pl.grp_other (Ne.symm he)
                    clear he e0 e1
                    go_wp2
                    go_quiet (fail)
                    go_wp2
                    go_roundw
                    case rel => exact ⟨j + 1, by omega, by go_num, by rw [HG.out], _, rfl⟩
                    case measure => simp [intOf]; omega
                · have hjk' : j = k := by omega
                  subst hjk'
                  have hl := HL.out q2
                  clear e0 e1
                  go_wp2
                  go_roundw
                  case rel => exact ⟨i + 1, by omega, by go_num, by rw [HN.out]; simp, by rw [HS.out], _, rfl⟩
                  case measure => simp [intOf]; omega
          · have hik' : i = k := by omega
            subst hik'
            have HL : Hid (((Pl.acc (fun _ => true) K V i).length : Int) = (Pl.cnt (Pl.lastB (fun _ => true) K i) i : Nat)) := by
              show _ = _
              rw [Pl.acc_length]
            have HS : Hid (wrap64 (((Pl.acc (fun _ => true) K V i).map Prod.snd).sum) = wrap64 (Pl.sm (fun _ => true) V i)) := Pl.acc_sum
            clear e0 e1
            go_wp2_with (first
              | (at_len; refine wpList_len_tal _ rfl _ rfl b i _ rfl ht ?_; rw [HL.out])
              | (go_at_call 15; refine (sum_any b i _ (wr.drewN q) ht).mono ?_; rintro e w5 ⟨rfl, bel5⟩; rw [HS.out]))
            go_ret
            exact ⟨ret_bool (by simp), (bdrew HB.out q).trans (bel5.mono HB.out.size)⟩

end Go.Proofs.Qxb6603978a
