/-
  FnAddRecordsScriptCountsEveryRecord: THE WALK.
-/
import Derived.Test.Qxb6603978aScriptLaw
import Derived.Test.Qxb6603978aBytes
import Derived.Test.Qxb6603978aLawRec
import Derived.Test.Qxb6603978aLawScrB
import Derived.Deep.RegionWith
namespace Go.Proofs.Qxb6603978a
open Go.RowKit Go.Maps
set_option linter.unusedVariables false
set_option linter.unusedSimpArgs false

set_option maxRecDepth 1000000 in
set_option maxHeartbeats 8000000 in
theorem law8 (a0 a1 a2 a3 : Option Addr) (b0 o0 b1 o1 b2 o2 b3 o3 n0 c0 n1 c1 n2 c2 n3 c3 : Nat) (K V : Nat → Int) (S : Nat → Bool) (Nm : Nat → ByteArray) (w : World)
    (h0 : 0 < n0 → a0 = some ⟨b0, o0, none⟩) (h1 : 0 < n1 → a1 = some ⟨b1, o1, none⟩) (h2 : 0 < n2 → a2 = some ⟨b2, o2, none⟩) (h3 : 0 < n3 → a3 = some ⟨b3, o3, none⟩)
    (z0 : a0 = none → n0 = 0) (z1 : a1 = none → n1 = 0) (z2 : a2 = none → n2 = 0) (z3 : a3 = none → n3 = 0)
    (hn0 : n0 ≤ maxLen) (hn1 : n1 ≤ maxLen) (hn2 : n2 ≤ maxLen) (hn3 : n3 ≤ maxLen)
    (g0 : ∀ j, j < n0 → w.cell? ⟨b0, o0 + j, none⟩ = some (.int .i64 (K j))) (g1 : ∀ j, j < n1 → w.cell? ⟨b1, o1 + j, none⟩ = some (.int .i64 (V j))) (g2 : ∀ j, j < n2 → w.cell? ⟨b2, o2 + j, none⟩ = some (.bool (S j)))
    (g3 : ∀ j, j < n3 → w.cell? ⟨b3, o3 + j, none⟩ = some (.string (Nm j)))
    (k0 : ∀ j, (Lit.int .i64 (K j)).wf = true) (k1 : ∀ j, (Lit.int .i64 (V j)).wf = true) (k3 : ∀ j, (Nm j).size ≤ maxLen) :
    Calls Try.prog 8 #[.slice a0 n0 c0, .slice a1 n1 c1, .slice a2 n2 c2, .slice a3 n3 c3] w fun e w' => e = .returned (.bool true) ∧ Below w.heap.size w w' := by
  go_enter Try.func8, Try.ntmps8
  go_wp2_with fail
  refine (bytes26 a0 a1 a2 a3 n0 c0 n1 c1 n2 c2 n3 c3 b3 o3 Nm w hn0 hn1 hn2 hn3 h3 g3 k3).mono ?_
  rintro e w' ⟨⟨x, rfl⟩, rfl⟩
  cases x
  · go_wp2
    go_ret
    exact ⟨rfl, Below.refl _ _⟩
  have HK3 : Hid (∀ j, (Nm j).size ≤ maxLen) := k3
  have HK0 : Hid (∀ j, (Lit.int .i64 (K j)).wf = true) := k0
  have HK1 : Hid (∀ j, (Lit.int .i64 (V j)).wf = true) := k1
  unfold maxLen at hn0 hn1 hn2 hn3
  clear k0 k1 k3
  by_cases s0 : n0 ≤ 4096 ∧ n1 ≤ 4096 ∧ n2 ≤ 4096 ∧ n3 ≤ 4096
  case neg =>
    go_wp2
    all_goals (go_ret; exact ⟨rfl, Below.refl _ _⟩)
  obtain ⟨s0, s1, s2, s3⟩ := s0
  have d0 : decide ((4096 : Int) < (n0 : Int)) = false := decide_eq_false (by omega)
  have d1 : decide ((4096 : Int) < (n1 : Int)) = false := decide_eq_false (by omega)
  have d2 : decide ((4096 : Int) < (n2 : Int)) = false := decide_eq_false (by omega)
  have d3 : decide ((4096 : Int) < (n3 : Int)) = false := decide_eq_false (by omega)
  go_wp2
  clear d0 d1 d2 d3
  go_loop [9, 10] (fun z v => ∃ (k : Nat) (x : Int), k ≤ n3 ∧ v = .int .i64 k ∧ z = .int .i64 x) (fun _ v => n3 - (intOf v).toNat)
  case atStart => exact ⟨0, _, Nat.zero_le _, rfl, rfl⟩
  case round =>
    obtain ⟨k, x, hk, rfl, rfl⟩ := hrel
    by_cases hlt : k < n3
    · obtain rfl := h3 (by omega)
      have e3 := g3 k hlt
      have i3 : (k : Int) < (n3 : Int) := by omega
      clear h0 h1 h2 h3 z0 z1 z2 z3 g0 g1 g2 g3
      go_wp2
      · go_ret
        exact ⟨rfl, Below.refl _ _⟩
      · go_round
        case rel => exact ⟨k + 1, _, by omega, by go_num, rfl⟩
        case measure => simp [intOf]; omega
    by_cases hx : 1048576 < x
    · clear h0 h1 h2 h3 z0 z1 z2 z3 g0 g1 g2 g3
      go_wp2
      go_ret
      exact ⟨rfl, Below.refl _ _⟩
    go_wp2_with fail
    clear hk hlt hx
    refine (copy10 a0 b0 o0 n0 c0 K w h0 z0 s0 g0).mono ?_
    rintro e w1 ⟨a0', rfl, i0, h0', q0, bel1⟩
    replace g1 := later bel1 g1
    replace g2 := later bel1 g2
    replace g3 := later bel1 g3
    clear h0 g0 i0
    go_wp2_with fail
    refine (copy11 a1 b1 o1 n1 c1 V w1 h1 z1 s1 g1).mono ?_
    rintro e w2 ⟨a1', rfl, i1, h1', q1, bel2⟩
    replace g2 := later bel2 g2
    replace g3 := later bel2 g3
    replace q0 := later bel2 (from0 q0)
    clear h1 g1 i1
    go_wp2_with fail
    refine (copy27 a2 b2 o2 n2 c2 S w2 h2 z2 s2 g2).mono ?_
    rintro e w3 ⟨a2', rfl, i2, h2', q2, bel3⟩
    replace g3 := later bel3 g3
    replace q0 := later bel3 q0
    replace q1 := later bel3 (from0 q1)
    clear h2 g2 i2
    go_wp2_with fail
    refine (copy22 a3 b3 o3 n3 c3 Nm w3 h3 z3 s3 g3).mono ?_
    rintro e w4 ⟨a3', rfl, i3, h3', q3, bel4⟩
    replace q0 := later bel4 q0
    replace q1 := later bel4 q1
    replace q2 := later bel4 (from0 q2)
    replace q3 := from0 q3
    have HB4 : Hid (Below w.heap.size w w4) := ((bel1.trans (bel2.mono bel1.size)).trans (bel3.mono (Nat.le_trans bel1.size bel2.size))).trans (bel4.mono (Nat.le_trans bel1.size (Nat.le_trans bel2.size bel3.size)))
    clear h3 g3 i3 z0 z1 z2 z3 bel1 bel2 bel3 bel4
    go_wp2_with fail
    refine (min_any n0 n1 w4).mono ?_
    rintro e wx ⟨rfl, rfl⟩
    go_wp2_with fail
    refine (min_any n2 n3 w4).mono ?_
    rintro e wx ⟨rfl, rfl⟩
    go_wp2_with fail
    refine (min_any (min n0 n1) (min n2 n3) w4).mono ?_
    rintro e wx ⟨rfl, rfl⟩
    obtain ⟨m, hm⟩ : ∃ m, m = min (min n0 n1) (min n2 n3) := ⟨_, rfl⟩
    rw [← hm]
    have m0 : m ≤ n0 := by omega
    have m1 : m ≤ n1 := by omega
    have m2 : m ≤ n2 := by omega
    have m3 : m ≤ n3 := by omega
    clear hm
    -- the names of the four rows
    obtain ⟨L0, hL0⟩ : ∃ L0, L0 = w.heap.size := ⟨_, rfl⟩
    obtain ⟨L1, hL1⟩ : ∃ L1, L1 = w1.heap.size := ⟨_, rfl⟩
    obtain ⟨L2, hL2⟩ : ∃ L2, L2 = w2.heap.size := ⟨_, rfl⟩
    obtain ⟨L3, hL3⟩ : ∃ L3, L3 = w3.heap.size := ⟨_, rfl⟩
    rw [← hL0] at h0' q0
    rw [← hL1] at h1' q1
    rw [← hL2] at h2' q2
    rw [← hL3] at h3' q3
    clear hL0 hL1 hL2 hL3
    go_wp2
    have hq0 : (w4.alloc (.cells #[.map none] 29)).alloc (.cells #[.map none] 41) = (w4.alloc (.cells #[.map none] 29)).alloc (.cells #[.map none] 41) := rfl
    clear hq0
    have bel5 : Below w4.heap.size w4 ((w4.alloc (.cells #[.map none] 29)).alloc (.cells #[.map none] 41)) := ((Below.refl _ _).alloc (Nat.le_refl _) _).alloc (by simp) _
    have HQ0 : Hid (∀ j, j < n0 → w4.cell? ⟨L0, 0 + j, none⟩ = some (.int .i64 (K j))) := q0
    have HQ1 : Hid (∀ j, j < n1 → w4.cell? ⟨L1, 0 + j, none⟩ = some (.int .i64 (V j))) := q1
    have HQ2 : Hid (∀ j, j < n2 → w4.cell? ⟨L2, 0 + j, none⟩ = some (.bool (S j))) := q2
    have HQ3 : Hid (∀ j, j < n3 → w4.cell? ⟨L3, 0 + j, none⟩ = some (.string (Nm j))) := q3
    clear q0 q1 q2 q3
    go_loopw [14] (fun v wr => ∃ (k : Nat) (ot oc : Option Nat) (β : ByteArray → Nat), k ≤ m ∧ v = .int .i64 k ∧ Scr wr w4.heap.size w4.heap.size (w4.heap.size + 1) ot oc S Nm K V k β ∧ Below w4.heap.size w4 wr) (fun v _ => m - (intOf v).toNat)
    case atStart => exact ⟨0, none, none, _, Nat.zero_le _, rfl, Scr.start w4 S Nm K V, bel5⟩
    case round =>
      obtain ⟨k, ot, oc, β, hk, rfl, hR, hbel⟩ := hrel
      clear bel5
      have q0 := later hbel HQ0.out
      have q1 := later hbel HQ1.out
      have q2 := later hbel HQ2.out
      have q3 := later hbel HQ3.out
      simp only [Nat.zero_add] at q0 q1 q2 q3
      by_cases hlt : k < m
      · obtain rfl := h0' (by omega)
        obtain rfl := h1' (by omega)
        obtain rfl := h2' (by omega)
        obtain rfl := h3' (by omega)
        have e0 := q0 k (by omega)
        have e1 := q1 k (by omega)
        have e2 := q2 k (by omega)
        have e3 := q3 k (by omega)
        have i0 : (k : Int) < (n0 : Int) := by omega
        have i1 : (k : Int) < (n1 : Int) := by omega
        have i2 : (k : Int) < (n2 : Int) := by omega
        have i3 : (k : Int) < (n3 : Int) := by omega
        clear q0 q1 q2 q3 h0' h1' h2' h3'
        cases hs : S k
        · rw [hs] at e2
          have HC : Hid (Calls Try.prog 24 #[.pointer (some ⟨w4.heap.size, 0, none⟩), .pointer (some ⟨w4.heap.size + 1, 0, none⟩), .pointer none, .int .i64 (K k), .int .i64 (V k)] wr.drew _) := Scr.plain (w := wr.drew) hR.drew (by omega) hs (HK0.out k) (HK1.out k)
          have HB : Hid (Below w4.heap.size w4 wr) := hbel
          clear hR hbel hs
          go_wp2
          go_region_with (go_at_call 24; refine HC.out.mono ?_; rintro e w' ⟨rfl, ⟨b, hR'⟩, hb'⟩)
          all_goals
            go_wp2
            go_roundw
            case rel => exact ⟨k + 1, _, _, _, by omega, by go_num, hR', HB.out.drew.trans hb'⟩
            case measure => simp [intOf]; omega
        · rw [hs] at e2
          have esz : wr.heap.size = wr.heap.size := rfl
          have hbx := (box_new wr (.string (Nm k)) 9).1
          have HC : Hid (Calls Try.prog 24 #[.pointer (some ⟨w4.heap.size, 0, none⟩), .pointer (some ⟨w4.heap.size + 1, 0, none⟩), .pointer (some ⟨wr.heap.size, 0, none⟩), .int .i64 (K k), .int .i64 (V k)] (wr.alloc (.cells #[.string (Nm k)] 9)).drew _) := Scr.within (w := (wr.alloc (.cells #[.string (Nm k)] 9)).drew) (hR.alloc _).drew (by omega) hs (HK3.out k) (HK0.out k) (HK1.out k) hbx
          have HB : Hid (Below w4.heap.size w4 (wr.alloc (.cells #[.string (Nm k)] 9))) := hbel.alloc hbel.size _
          have e0' : (wr.alloc (.cells #[.string (Nm k)] 9)).cell? ⟨L0, k, none⟩ = some (.int .i64 (K k)) := cell_grown (World.grownBy_alloc wr _ none) e0 (by simp)
          have e1' : (wr.alloc (.cells #[.string (Nm k)] 9)).cell? ⟨L1, k, none⟩ = some (.int .i64 (V k)) := cell_grown (World.grownBy_alloc wr _ none) e1 (by simp)
          clear hR hbel hs esz hbx e0 e1
          go_wp2
          go_region_with (go_at_call 24; refine HC.out.mono ?_; rintro e w' ⟨rfl, ⟨b, B, β', hR'⟩, hb'⟩)
          all_goals
            go_wp2
            go_roundw
            case rel => exact ⟨k + 1, _, _, _, by omega, by go_num, hR', HB.out.drew.trans hb'⟩
            case measure => simp [intOf]; omega
      · have hkm : k = m := by omega
        subst hkm
        have HB5 : Hid (Below w.heap.size w wr) := HB4.out.trans (hbel.mono HB4.out.size)
        have hqe : ∀ (w : World) (r : Option Nat), (binOp .eql 29 (.map r) (.map none)).run Try.prog w = .ok (.bool r.isNone) w := fun w r => run_eql_map_nil w _ _ _ r Try.underlying29
        have hqn : ∀ (w : World) (r : Option Nat), (binOp .neq 29 (.map r) (.map none)).run Try.prog w = .ok (.bool r.isSome) w := fun w r => by
          have := run_neq_map_nil (P := Try.prog) w 29 _ _ r Try.underlying29
          cases r <;> simpa using this
        have hqs : ∀ (w : World) (r : Option Nat), (binOp .eql 41 (.map r) (.map none)).run Try.prog w = .ok (.bool r.isNone) w := fun w r => run_eql_map_nil w _ _ _ r Try.underlying41
        clear hk hlt HB4 hbel
        by_cases hz : k = 0
        · skip
          subst hz
          obtain rfl := hR.tot.2 rfl
          obtain rfl : oc = none := hR.out.2 (fun i hi => absurd hi (Nat.not_lt_zero _))
          have c1 := hR.rc.ct
          have c2 := hR.rc.cc
          have hmk := run_make_row' (P := Try.prog) 48 4 (.bool false) 1 Try.underlying48 info4 rfl .i64 .i64 0 (by omega) (by omega)
          have hmk' := fun w => hmk w
          simp only [Int.natCast_zero, madeCells] at hmk'
          have c3 : (wr.alloc (.cells #[] 4)).cell? ⟨w4.heap.size + 1, 0, none⟩ = some (.map none) := cell_grown (World.grownBy_alloc wr _ none) c2 (by simp)
          clear hR hmk
          go_wp2
          refine wp_loop_rounds 1 ?_
          rw [rounds_succ]
          go_wp2
          go_ret
          exact ⟨rfl, HB5.out.alloc HB5.out.size _⟩
        · have hz' : ((k : Int) == 0) = false := beq_eq_false_iff_ne.2 (by omega)
          obtain ⟨b, rfl⟩ : ∃ b, ot = some b := by
            cases ot with
            | none => exact absurd (hR.tot.1 rfl) hz
            | some b => exact ⟨b, rfl⟩
          obtain rfl := h0' (by omega)
          obtain rfl := h1' (by omega)
          obtain rfl := h2' (by omega)
          obtain rfl := h3' (by omega)
          have ht := hR.rc.tal
          have c1 := hR.rc.ct
          have HR : Hid (Scr wr w4.heap.size w4.heap.size (w4.heap.size + 1) (some b) oc S Nm K V k β) := hR
          clear hR h0' h1' h2' h3' hqn
          go_wp2
          go_loopw [17, 18, 19] (fun s d v wx => ∃ i : Nat, i ≤ k ∧ v = .int .i64 i ∧ d = .int .i64 (Pl.cnt (Pl.lastB (fun _ => true) K k) i : Nat) ∧ s = .int .i64 (wrap64 (Pl.sm (fun _ => true) V i)) ∧ ∃ q, wx = wr.drewN q) (fun _ _ v _ => k - (intOf v).toNat)
          case atStart => exact ⟨0, Nat.zero_le _, rfl, rfl, by rw [Pl.sm, Pl.wrap_zero], 0, rfl⟩
          case round =>
            obtain ⟨i, hi, rfl, rfl, rfl, q, rfl⟩ := hrel
            have hcl := Pl.cnt_le (Pl.lastB (fun _ => true) K k) i
            by_cases hik : i < k
            · have f0 := q0 i (by omega)
              have f1 := q1 i (by omega)
              have i0 : (i : Int) < (n0 : Int) := by omega
              have i1 : (i : Int) < (n1 : Int) := by omega
              have HS : Hid (wrap64 (Pl.sm (fun _ => true) V (i + 1)) = wrap64 (wrap64 (Pl.sm (fun _ => true) V i) + V i)) := by
                show _ = _
                rw [Pl.wrap_add_l]; simp [Pl.sm]
              have HN : Hid (Pl.cnt (Pl.lastB (fun _ => true) K k) (i + 1) = Pl.cnt (Pl.lastB (fun _ => true) K k) i + if Pl.lastB (fun _ => true) K k i then 1 else 0) := rfl
              have HC : Hid (Calls Try.prog 14 #[.slice (some ⟨L0, 0, none⟩) n0 n0, .int .i64 i, .int .i64 k] (wr.drewN q) fun e w' => e = .returned (.bool (Pl.lastB (fun _ => true) K k i)) ∧ ∃ q', w' = (wr.drewN q).drewN q') := last_any L0 0 n0 n0 K i k (wr.drewN q) hik m0 s0 (fun j hj => by rw [Nat.zero_add]; exact q0 j hj)
              have HE0 : Hid (∀ j, j < n0 → wr.cell? ⟨L0, j, none⟩ = some (.int .i64 (K j))) := q0
              have HE1 : Hid (∀ j, j < n1 → wr.cell? ⟨L1, j, none⟩ = some (.int .i64 (V j))) := q1
              clear q0 q1 q2 q3
              go_wp2_with fail
              refine HC.out.mono ?_
              rintro e w5 ⟨rfl, q', rfl⟩
              clear HC
              cases hl : Pl.lastB (fun _ => true) K k i
              · rw [hl] at HN
                clear hl
                go_wp2
                go_roundw
                case rel => exact ⟨i + 1, by omega, by go_num, by rw [HN.out]; simp, by rw [HS.out], _, rfl⟩
                case measure => simp [intOf]; omega
              · rw [hl] at HN
                clear hl
                have HL : Hid (∀ q, (Instr.lookup 29 (.map (some b)) (.int .i64 (K i)) true).run Try.prog (wr.drewN q) = .ok (.tuple #[.int .i64 (wrap64 (Pl.grp (fun _ => true) K V k (K i))), .bool true]) (wr.drewN q)) := fun q =>
                  (Tal.look (w := wr.drewN q) ht (HK0.out i) (Pl.acc_mem hik rfl) true).1
                go_wp2
                go_loopw [20, 21] (fun s v wx => ∃ j : Nat, j ≤ k ∧ v = .int .i64 j ∧ s = .int .i64 (wrap64 (Pl.grp (fun _ => true) K V j (K i))) ∧ ∃ q, wx = wr.drewN q) (fun _ v _ => k - (intOf v).toNat)
                case atStart => exact ⟨0, Nat.zero_le _, rfl, by rw [Pl.grp, Pl.sm, Pl.wrap_zero], _, rfl⟩
                case round =>
                  obtain ⟨j, hj, rfl, rfl, q2, rfl⟩ := hrel
                  by_cases hjk : j < k
                  · have f2 := HE0.out j (by omega)
                    have f3 := HE1.out j (by omega)
                    have i2 : (j : Int) < (n0 : Int) := by omega
                    have i3 : (j : Int) < (n1 : Int) := by omega
                    by_cases he : K j = K i
                    · have hb : (K j == K i) = true := by simp [he]
                      have HG : Hid (wrap64 (Pl.grp (fun _ => true) K V (j + 1) (K i)) = wrap64 (wrap64 (Pl.grp (fun _ => true) K V j (K i)) + V j)) := by
                        show _ = _
                        rw [← he, Pl.grp_hit rfl, Pl.wrap_add_l]
                      clear he
                      go_wp2
                      go_quiet (fail)
                      go_wp2
                      go_roundw
                      case rel => exact ⟨j + 1, by omega, by go_num, by rw [HG.out], _, rfl⟩
                      case measure => simp [intOf]; omega
                    · have hb : (K j == K i) = false := by simp [he]
                      have HG : Hid (Pl.grp (fun _ => true) K V (j + 1) (K i) = Pl.grp (fun _ => true) K V j (K i)) := Pl.grp_other (Ne.symm he)
                      clear he
                      go_wp2
                      go_quiet (fail)
                      go_wp2
                      go_roundw
                      case rel => exact ⟨j + 1, by omega, by go_num, by rw [HG.out], _, rfl⟩
                      case measure => simp [intOf]; omega
                  · have hjk' : j = k := by omega
                    subst hjk'
                    have hl := HL.out
                    go_wp2
                    go_quiet (fail)
                    go_wp2
                    go_roundw
                    case rel => exact ⟨i + 1, by omega, by go_num, by rw [HN.out]; simp, by rw [HS.out], _, rfl⟩
                    case measure => simp [intOf]; omega
            · have hik' : i = k := by omega
              subst hik'
              have HLn : Hid (((Pl.acc (fun _ => true) K V i).length : Int) = (Pl.cnt (Pl.lastB (fun _ => true) K i) i : Nat)) := by
                show _ = _
                rw [Pl.acc_length]
              have HS : Hid (wrap64 (((Pl.acc (fun _ => true) K V i).map Prod.snd).sum) = wrap64 (Pl.sm (fun _ => true) V i)) := Pl.acc_sum
              have HE0 : Hid (∀ j, j < n0 → wr.cell? ⟨L0, j, none⟩ = some (.int .i64 (K j))) := q0
              have HE1 : Hid (∀ j, j < n1 → wr.cell? ⟨L1, j, none⟩ = some (.int .i64 (V j))) := q1
              have HE2 : Hid (∀ j, j < n2 → wr.cell? ⟨L2, j, none⟩ = some (.bool (S j))) := q2
              have HE3 : Hid (∀ j, j < n3 → wr.cell? ⟨L3, j, none⟩ = some (.string (Nm j))) := q3
              clear q0 q1 q2 q3
              go_wp2_with (at_len; refine wpList_len_tal _ rfl _ rfl b i _ rfl ht ?_; rw [HLn.out])
              refine (sum_any b i _ (wr.drewN q) ht).mono ?_
              rintro e w5 ⟨rfl, bel5⟩
              rw [HS.out]
              have HB6 : Hid (Below w.heap.size w w5) := (bdrew HB5.out q).trans (bel5.mono HB5.out.size)
              have hR5 := (HR.out.drewN q).below bel5
              have q0 : ∀ j, j < n0 → w5.cell? ⟨L0, j, none⟩ = some (.int .i64 (K j)) := fun j hj => (bel5.cell (by exact World.block_lt_of_cell? _ _ (HE0.out j hj))).trans (HE0.out j hj)
              have q1 : ∀ j, j < n1 → w5.cell? ⟨L1, j, none⟩ = some (.int .i64 (V j)) := fun j hj => (bel5.cell (by exact World.block_lt_of_cell? _ _ (HE1.out j hj))).trans (HE1.out j hj)
              have q2 : ∀ j, j < n2 → w5.cell? ⟨L2, j, none⟩ = some (.bool (S j)) := fun j hj => (bel5.cell (by exact World.block_lt_of_cell? _ _ (HE2.out j hj))).trans (HE2.out j hj)
              have q3 : ∀ j, j < n3 → w5.cell? ⟨L3, j, none⟩ = some (.string (Nm j)) := fun j hj => (bel5.cell (by exact World.block_lt_of_cell? _ _ (HE3.out j hj))).trans (HE3.out j hj)
              clear HE0 HE1 HE2 HE3 bel5 HB5 HR ht c1 HLn HS hz hz' hi hik hcl
              have HR : Hid (Scr w5 w4.heap.size w4.heap.size (w4.heap.size + 1) (some b) oc S Nm K V i β) := hR5
              clear hR5
              have hmk := run_make_row' (P := Try.prog) 48 4 (.bool false) 1 Try.underlying48 info4 rfl .i64 .i64 i (by omega) (by omega)
              go_upto_region 53 with fail
              rename_i hKK
              have HKK : Hid _ := hKK
              clear hKK
              go_wp2
              refine HKK.out _ _ ?_
              exact law8B L0 L1 L2 L3 n0 n1 n2 n3 i w4.heap.size b oc K V S Nm β w w5 s0 s1 s2 s3 m0 m1 m2 m3 HK3 HK0 HR HB6 q0 q1 q2 q3 _ _ _ _ _ _ _ _ _ _ _ _ _ _ _ _ _ _ _ _ _ _ _ _ _ _ _ _ _ _ _ _ _ _ _ _ _ _ _ _ _ _ _ _ _ _ _ _ _ _ _ _ _ _ _ _ _ _ _ _ _ _ _ _ _ _ _ _ _ _ _ _ _ _ _ _ _ _ _ _ _ _ _ _ _ _ _ _ _ _ _ _ _ _ _ _ _ _ _ _ _ _ _ _ _ _ _ _ _ _ _ _ _ _ _ _ _ _ _ _ _ _ _ _ _ _ _ _ _ _ _ _ _ _ _ _ _ _ _ _ _ _ _ _ _ _ _ _ _ _ _ _ _ _ _ _ _ _ _ _ _ _ _ _ _ _ _ _ _ _ _ _ _ _ _ _ _ _ _ _ _ _ _ _ _ _ _ _ _ _ _ _ _ _ _ _ _ _ _ _ _ _ _ _ _ _ _ _ _ _ _ _ _ _ _ _ _ _ _ _ _ _ _ _ _ _ _ _ _ _ _ _ _ _ _ _ _ _ _ _ _ _ _ _ _ _ _ _ _ _ _ _ _ _ _ _ _ _ _ _ _ _ _ _ _ _ _ _ _ _ _ _ _ _ _ _ _ _ _ _ _ _ _ _ _ _ _ _ _ _ _ _ _ _ _ _ _ _ _ _ _ _ _ _ _ _ _ _ _ _ _ _ _ _ _ _ _ _ _ _ _ _ _ _ _ _ _ _ _ _ _ _ _ _ _ _ _ _ _ _ _ _ _ _ _ _ _ _ _ _ _ _ _ _ _ _ _ _ _ _ _ _ _ _ _ _ _ _

end Go.Proofs.Qxb6603978a
