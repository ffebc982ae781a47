/-
  zzBuildScopes: its contract.
-/
import Derived.Test.Qxb6603978aScopes
namespace Go.Proofs.Qxb6603978a
open Go.RowKit Go.Maps
set_option linter.unusedVariables false
set_option linter.unusedSimpArgs false

/-- WHAT THE TALLY OF NAME s HOLDS, k rounds done: last wins. -/
def bT (Nm : Nat → ByteArray) (K V : Nat → Int) (k : Nat) (s : ByteArray) : List (Int × Int) :=
  Pl.mk (fun j => decide (Nm j = s)) K k (Pl.lw (fun j => decide (Nm j = s)) K V 0 k)

theorem bT_hit (Nm : Nat → ByteArray) (K V : Nat → Int) (k : Nat) : bT Nm K V (k + 1) (Nm k) = (bT Nm K V k (Nm k)).filter (fun p => decide (p.1 ≠ K k)) ++ [(K k, V k)] := by
  unfold bT
  rw [Pl.mk_succ (f := Pl.lw (fun j => decide (Nm j = Nm k)) K V 0 k) (by simp) (fun x hx => by simp [Pl.lw, Ne.symm hx])]
  have : Pl.lw (fun j => decide (Nm j = Nm k)) K V 0 (k + 1) (K k) = V k := by simp [Pl.lw]
  rw [this]
theorem bT_other (Nm : Nat → ByteArray) (K V : Nat → Int) (k : Nat) {s : ByteArray} (h : s ≠ Nm k) : bT Nm K V (k + 1) s = bT Nm K V k s := by
  unfold bT
  rw [Pl.mk_skip (by simp [Ne.symm h])]
  exact Pl.mk_congr (fun _ _ => rfl) (fun _ _ => rfl) (fun i _ _ => by simp [Pl.lw, Ne.symm h])
theorem bT_none (Nm : Nat → ByteArray) (K V : Nat → Int) (k : Nat) {s : ByteArray} (h : ¬ Met (fun _ => true) Nm k s) : bT Nm K V k s = [] := by
  rw [List.eq_nil_iff_forall_not_mem]
  intro p hp
  obtain ⟨⟨i, hi, hs, _⟩, _⟩ := Pl.mem_mk.1 hp
  exact h ⟨i, hi, rfl, by simpa using hs⟩

theorem Scp.congrT {w : World} {lo n k : Nat} {oc : Option Nat} {S : Nat → Bool} {Nm : Nat → ByteArray} {β : ByteArray → Nat} {T T' : ByteArray → List (Int × Int)} (h : Scp w lo oc n S Nm k β T) (hT : ∀ i, i < k → S i = true → T (Nm i) = T' (Nm i)) : Scp w lo oc n S Nm k β T' :=
  ⟨h.out, fun i hi hs => ⟨(h.inn i hi hs).1, (h.inn i hi hs).2.1, by rw [← hT i hi hs]; exact (h.inn i hi hs).2.2⟩, h.dis⟩

theorem buildS_nil (n c : Nat) (v1 v2 : Value) (w : World) : Calls Try.prog 23 #[.slice none n c, v1, v2] w fun e w' => e = .returned (.map none) ∧ w = w' := by
  have hq : ∀ w a n c, (binOp .eql 38 (.slice a n c) (.slice none 0 0)).run Try.prog w = .ok (.bool a.isNone) w := fun w a n c => Lib.run_eql_slice_nil w _ _ a n c 0 0 Try.underlying38
  go_enter Try.func23, Try.ntmps23
  go_wp2
  go_ret
  exact ⟨rfl, rfl⟩

set_option maxRecDepth 100000 in
set_option maxHeartbeats 1000000 in
theorem buildS_any (x : Addr) (a1 a2 : Option Addr) (b0 o0 b1 o1 b2 o2 n0 c0 n1 c1 n2 c2 m : Nat) (Nm : Nat → ByteArray) (K V : Nat → Int) (w : World)
    (h0 : 0 < n0 → x = ⟨b0, o0, none⟩) (h1 : 0 < n1 → a1 = some ⟨b1, o1, none⟩) (h2 : 0 < n2 → a2 = some ⟨b2, o2, none⟩) (hn0 : n0 ≤ 4096) (hn1 : n1 ≤ 4096) (hn2 : n2 ≤ 4096) (hm : m = min (min n0 n1) n2)
    (g0 : ∀ j, j < n0 → w.cell? ⟨b0, o0 + j, none⟩ = some (.string (Nm j))) (g1 : ∀ j, j < n1 → w.cell? ⟨b1, o1 + j, none⟩ = some (.int .i64 (K j))) (g2 : ∀ j, j < n2 → w.cell? ⟨b2, o2 + j, none⟩ = some (.int .i64 (V j)))
    (k0 : ∀ j, (Nm j).size ≤ maxLen) (k1 : ∀ j, (Lit.int .i64 (K j)).wf = true) (k2 : ∀ j, (Lit.int .i64 (V j)).wf = true) :
    Calls Try.prog 23 #[.slice (some x) n0 c0, .slice a1 n1 c1, .slice a2 n2 c2] w fun e w' => e = .returned (.map (some w.heap.size)) ∧
      (∃ β, Scp w' w.heap.size (some w.heap.size) (2 * m) (fun _ => true) Nm m β (bT Nm K V m)) ∧ Below w.heap.size w w' := by
  have hq : ∀ w a n c, (binOp .eql 38 (.slice a n c) (.slice none 0 0)).run Try.prog w = .ok (.bool a.isNone) w := fun w a n c => Lib.run_eql_slice_nil w _ _ a n c 0 0 Try.underlying38
  have hq2 : ∀ (w : World) (r : Option Nat), (binOp .eql 29 (.map r) (.map none)).run Try.prog w = .ok (.bool r.isNone) w := fun w r => run_eql_map_nil w _ _ _ r Try.underlying29
  have hmm := @run_makeMap Try.prog
  have hm0 : m ≤ n0 := by omega
  have hm1 : m ≤ n1 := by omega
  have hm2 : m ≤ n2 := by omega
  have HM : Hid (min (min n0 n1) n2 = m) := hm.symm
  clear hm
  go_enter Try.func23, Try.ntmps23
  go_wp2_with fail
  refine (min_any n0 n1 w).mono ?_
  rintro e w' ⟨rfl, rfl⟩
  go_wp2_with fail
  refine (min_any (min n0 n1) n2 w).mono ?_
  rintro e w' ⟨rfl, rfl⟩
  rw [HM.out]
  go_wp2
  go_loopw [9] (fun v wr => ∃ k : Nat, k ≤ m ∧ v = .int .i64 k ∧ (∃ β, Scp wr w.heap.size (some w.heap.size) (2 * k) (fun _ => true) Nm k β (bT Nm K V k)) ∧ Below w.heap.size w wr) (fun v _ => m - (intOf v).toNat)
  case atStart => exact ⟨0, Nat.zero_le _, rfl, ⟨fun _ => 0, Scp.made w _ (Nat.le_refl _) _ _ _ _ _ (fun i hi => absurd hi (Nat.not_lt_zero _))⟩, (Below.refl _ _).alloc (Nat.le_refl _) _⟩
  case round =>
    obtain ⟨k, hk, rfl, ⟨β, hS⟩, hbel⟩ := hrel
    clear hq
    by_cases hlt : k < m
    · obtain rfl := h0 (by omega)
      obtain rfl := h1 (by omega)
      obtain rfl := h2 (by omega)
      have hb0 : b0 < w.heap.size := World.block_lt_of_cell? _ _ (g0 k (by omega))
      have hb1 : b1 < w.heap.size := World.block_lt_of_cell? _ _ (g1 k (by omega))
      have hb2 : b2 < w.heap.size := World.block_lt_of_cell? _ _ (g2 k (by omega))
      have i0 : (k : Int) < (n0 : Int) := by omega
      have i1 : (k : Int) < (n1 : Int) := by omega
      have i2 : (k : Int) < (n2 : Int) := by omega
      have hsw := hbel.size
      by_cases hmet : Met (fun _ => true) Nm k (Nm k)
      · have e0 : wr.cell? ⟨b0, o0 + k, none⟩ = some (.string (Nm k)) := (hbel.cell (by exact hb0)).trans (g0 k (by omega))
        have e1 : wr.cell? ⟨b1, o1 + k, none⟩ = some (.int .i64 (K k)) := (hbel.cell (by exact hb1)).trans (g1 k (by omega))
        have e2 : wr.cell? ⟨b2, o2 + k, none⟩ = some (.int .i64 (V k)) := (hbel.cell (by exact hb2)).trans (g2 k (by omega))
        have hl := hS.look (k0 k) hmet false
        obtain ⟨i, hi, hsi, hni⟩ := hmet
        have hin := hS.inn i hi hsi
        rw [hni] at hin
        obtain ⟨w1, hst, ht1, hg⟩ := Tal.store (w := wr.drew) hin.2.2 (by unfold maxLen; omega) (k1 k) (k2 k)
        have HT : Hid (Scp w1 w.heap.size (some w.heap.size) (2 * (k + 1)) (fun _ => true) Nm (k + 1) β (bT Nm K V (k + 1))) := by
          have hm' : Met (fun _ => true) Nm k (Nm k) := ⟨i, hi, hsi, hni⟩
          have s1 : Scp w1 w.heap.size (some w.heap.size) (2 * k + 1) (fun _ => true) Nm k β _ := Scp.touch (w := wr.drew) hS.drew hm' hg ht1 (Nat.le_succ _)
          refine ((s1.again rfl hm').mono (by omega)).congrT (fun j hj _ => ?_)
          show (if Nm j = Nm k then _ else bT Nm K V k (Nm j)) = _
          by_cases e : Nm j = Nm k
          · rw [if_pos e, e, bT_hit]
          · rw [if_neg e, bT_other _ _ _ _ e]
        have HB : Hid (Below w.heap.size w w1) := hbel.drew.grown hg hbel.size (fun j hj => by cases hj; exact hin.1)
        clear hS ht1 hg h0 h1 h2 k0 k1 k2 g0 g1 g2 hbel hin hmm
        go_wp2
        go_region
        all_goals
          go_wp2
          go_roundw
          case rel => exact ⟨k + 1, by omega, by go_num, ⟨β, HT.out⟩, HB.out⟩
          case measure => simp [intOf]; omega
      · have hl := hS.miss (k0 k) hmet
        have hSa := hS.maps (MapsKept.alloc wr (.map #[] 0))
        have hlts := hS.lts
        obtain ⟨w1, hst1, hg1, hS1⟩ := hSa.new (by unfold maxLen; omega) (k := k) rfl (k0 k) hmet (b := wr.heap.size) hsw (fun e => by have := hlts.1 _ rfl; omega) (fun i hi hs e => by have := hlts.2 i hi hs; omega) ((Tal.made wr).mono (Nat.zero_le _))
        have hz1 : w1.heap.size = wr.heap.size + 1 ∨ True := .inr trivial
        have hs1 := hg1.size
        simp at hs1
        have ea : Below w.heap.size w (wr.alloc (.map #[] 0)) := hbel.alloc hsw _
        have eb : Below w.heap.size w w1 := ea.grown hg1 (by simp; omega) (fun j hj => by cases hj; exact Nat.le_refl _)
        have e0 : wr.cell? ⟨b0, o0 + k, none⟩ = some (.string (Nm k)) := (hbel.cell (by exact hb0)).trans (g0 k (by omega))
        have e0' : (wr.alloc (.map #[] 0)).cell? ⟨b0, o0 + k, none⟩ = some (.string (Nm k)) := (ea.cell (by exact hb0)).trans (g0 k (by omega))
        have e1 : w1.cell? ⟨b1, o1 + k, none⟩ = some (.int .i64 (K k)) := (eb.cell (by exact hb1)).trans (g1 k (by omega))
        have e2 : w1.cell? ⟨b2, o2 + k, none⟩ = some (.int .i64 (V k)) := (eb.cell (by exact hb2)).trans (g2 k (by omega))
        have hin := hS1.inn k (Nat.lt_succ_self _) rfl
        simp only [if_true] at hin
        obtain ⟨w2, hst2, ht2, hg2⟩ := Tal.store (w := w1.drew) hin.2.2 (by unfold maxLen; omega) (k1 k) (k2 k)
        have HT : Hid (Scp w2 w.heap.size (some w.heap.size) (2 * (k + 1)) (fun _ => true) Nm (k + 1) (fun x => if x = Nm k then wr.heap.size else β x) (bT Nm K V (k + 1))) := by
          have hm' : Met (fun _ => true) Nm (k + 1) (Nm k) := ⟨k, Nat.lt_succ_self _, rfl, rfl⟩
          refine (Scp.touch (w := w1.drew) (s := Nm k) hS1.drew hm' (by simp only [if_true]; exact hg2) (by simp only [if_true]; exact ht2) (by omega)).congrT (fun j hj _ => ?_)
          show (if Nm j = Nm k then _ else if Nm j = Nm k then _ else bT Nm K V k (Nm j)) = _
          by_cases e : Nm j = Nm k
          · rw [if_pos e, e, bT_hit, bT_none _ _ _ _ hmet]
          · rw [if_neg e, if_neg e, bT_other _ _ _ _ e]
        have HB : Hid (Below w.heap.size w w2) := eb.drew.grown hg2 (by show w.heap.size ≤ w1.heap.size; omega) (fun j hj => by cases hj; exact hsw)
        clear hS hSa hS1 ht2 hg2 hg1 h0 h1 h2 k0 k1 k2 g0 g1 g2 hbel hin ea eb hmet hlts hz1 hs1 hsw
        go_wp2
        go_region
        all_goals
          go_wp2
          go_roundw
          case rel => exact ⟨k + 1, by omega, by go_num, ⟨_, HT.out⟩, HB.out⟩
          case measure => simp [intOf]; omega
    · have hkm : k = m := by omega
      subst hkm
      clear h0 h1 h2 k0 k1 k2 g0 g1 g2
      go_wp2
      go_ret
      exact ⟨rfl, ⟨β, hS⟩, hbel⟩

end Go.Proofs.Qxb6603978a
