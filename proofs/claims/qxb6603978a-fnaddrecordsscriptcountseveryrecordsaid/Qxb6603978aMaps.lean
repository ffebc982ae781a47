/-
  TALLIES: Sum, add, zzBuild: their contracts.
-/
import Derived.Test.Qxb6603978aTally
import Derived.BigRegion
namespace Go.Proofs.Qxb6603978a
open Go.RowKit Go.Maps
set_option linter.unusedVariables false
set_option linter.unusedSimpArgs false

theorem Tal.kept {w w' : World} {b n : Nat} {ps : List (Int × Int)} {row : Option Nat} (h : Tal w b n ps) (hg : w.grownBy w' row) (hne : some b ≠ row) : Tal w' b n ps := by
  obtain ⟨D, h1, h2⟩ := h
  exact ⟨D, h1.kept hg hne, h2⟩
theorem Tal.lt {w : World} {b n : Nat} {ps : List (Int × Int)} (h : Tal w b n ps) : b < w.heap.size := by
  obtain ⟨D, h1, _⟩ := h
  exact h1.lt
theorem Tal.below {w w' : World} {b n B : Nat} {ps : List (Int × Int)} (h : Tal w b n ps) (hb : Below B w w') (hB : b < B) : Tal w' b n ps := by
  obtain ⟨D, ⟨es, clock, h0, h1⟩, h2⟩ := h
  exact ⟨D, ⟨es, clock, (hb.block b hB).trans h0, h1⟩, h2⟩

/-- 'v, ok := t[k]' and 't[k]', of a key that is there. -/
theorem Tal.look {w : World} {b n : Nat} {ps : List (Int × Int)} (h : Tal w b n ps) {k v : Int} (hw : (Lit.int .i64 k).wf = true) (hm : (k, v) ∈ ps) (c : Bool) :
    (Instr.lookup 29 (.map (some b)) (.int .i64 k) c).run Try.prog w = .ok (if c then .tuple #[.int .i64 v, .bool true] else .int .i64 v) w ∧ (Lit.int .i64 v).wf = true := by
  obtain ⟨D, h1, h2⟩ := h
  have hk := keyOf_int_mk (P := Try.prog) (k := 35) Try.underlying35 hw
  have hz : plainElem (H := Unit) Try.prog 2 (.int .i64 0) = some (.lit (.int .i64 0), []) := plainElem_int Try.underlying2 (by decide)
  have ha : D.atKey (.int .i64 k) (.lit (.int .i64 0)) = iV v := h2.at encI hm _
  have hh : Maps.has D (.int .i64 k) = true := (h2.has encI k).2 ⟨_, hm, rfl⟩
  cases c
  · obtain ⟨v', ps', hrun, hv⟩ := h1.lookup law35 Try.underlying29 (zero2 w) hz hk
    obtain ⟨x, rfl, hx, hwx⟩ := plainElem_int_inv Try.underlying2 hv
    have : iV v = .lit (.int .i64 x) := by rw [← ha]; exact congrArg Prod.fst hx
    simp [iV] at this
    subst this
    exact ⟨hrun, hwx⟩
  · obtain ⟨v', ps', hrun, hv⟩ := h1.look_ok law35 Try.underlying29 (zero2 w) hz hk
    obtain ⟨x, rfl, hx, hwx⟩ := plainElem_int_inv Try.underlying2 hv
    have : iV v = .lit (.int .i64 x) := by rw [← ha]; exact congrArg Prod.fst hx
    simp [iV] at this
    subst this
    rw [hh] at hrun
    exact ⟨hrun, hwx⟩

/-- .. of a key that is not. -/
theorem Tal.miss {w : World} {b n : Nat} {ps : List (Int × Int)} (h : Tal w b n ps) {k : Int} (hw : (Lit.int .i64 k).wf = true) (hm : ¬ ∃ p ∈ ps, p.1 = k) :
    (Instr.lookup 29 (.map (some b)) (.int .i64 k) false).run Try.prog w = .ok (.int .i64 0) w := by
  obtain ⟨D, h1, h2⟩ := h
  have hk := keyOf_int_mk (P := Try.prog) (k := 35) Try.underlying35 hw
  have hz : plainElem (H := Unit) Try.prog 2 (.int .i64 0) = some (.lit (.int .i64 0), []) := plainElem_int Try.underlying2 (by decide)
  have ha : D.atKey (.int .i64 k) (.lit (.int .i64 0)) = iV 0 := h2.at_none encI hm _
  obtain ⟨v', ps', hrun, hv⟩ := h1.lookup law35 Try.underlying29 (zero2 w) hz hk
  obtain ⟨x, rfl, hx, hwx⟩ := plainElem_int_inv Try.underlying2 hv
  have : iV 0 = .lit (.int .i64 x) := by rw [← ha]; exact congrArg Prod.fst hx
  simp [iV] at this
  subst this
  exact hrun

/-- 't[k] = v'. -/
theorem Tal.store {w : World} {b n : Nat} {ps : List (Int × Int)} (h : Tal w b n ps) (hn : n < maxLen) {k v : Int} (hk : (Lit.int .i64 k).wf = true) (hv : (Lit.int .i64 v).wf = true) :
    ∃ w', (Instr.mapUpdate 29 (.map (some b)) (.int .i64 k) (.int .i64 v)).run Try.prog w = .ok () w' ∧ Tal w' b (n + 1) ((ps.filter fun p => decide (p.1 ≠ k)) ++ [(k, v)]) ∧ w.grownBy w' (some b) := by
  obtain ⟨D, h1, h2⟩ := h
  obtain ⟨w', hrun, ho, hg⟩ := h1.update law35 Try.underlying29 hn (keyOf_int_mk Try.underlying35 hk) (plainElem_int Try.underlying2 hv)
  exact ⟨w', hrun, ⟨_, ho, h2.put encI k v⟩, hg⟩

theorem Tal.made (w : World) : Tal (w.alloc (.map #[] 0)) w.heap.size 0 [] := ⟨.map [], World.ownsMap_made _ _ _ _, Pl.rep_empty _ _⟩

/-- 'len(t)'. -/
theorem Tal.size {w : World} {b n : Nat} {ps : List (Int × Int)} (h : Tal w b n ps) : ps.length ≤ n := by
  obtain ⟨D, h1, h2⟩ := h
  rw [← h2.size]
  exact h1.size_le

theorem Tal.len {w : World} {b n : Nat} {ps : List (Int × Int)} (h : Tal w b n ps) (t : TypeId) : (Builtin.len_ #[29] t #[.map (some b)]).run Try.prog w = .ok (.int .i64 ps.length) w := by
  obtain ⟨D, h1, h2⟩ := h
  rw [← h2.size]
  exact h1.len Try.underlying29 t

/-- 'len(t)' at the operation. -/
theorem wpList_len_tal (w : World) {ops : Array Oper} {rest : List Oper} {o : Oper} {a : Act} {Q : Exit → Act → World → Prop} (hg : o.guard = none) (m : Operand) (hop : o.op = Op.call { callee := Callee.builtin Builtin.len, args := #[m], argTypes := #[29] })
    (b n : Nat) (ps : List (Int × Int)) (hm : a.eval m = .map (some b)) (h : Tal w b n ps) (hK : wpList Try.prog ops Q rest (a.put o.dst (.int .i64 ps.length)) w) : wpList Try.prog ops Q (o :: rest) a w := by
  obtain ⟨D, h1, h2⟩ := h
  refine wpList_len_own w hg m 29 hop 35 2 Try.underlying29 _ b n D hm h1 ?_
  rw [h2.size]
  exact hK

theorem Tal.apart {w : World} {b n : Nat} {ps : List (Int × Int)} (h : Tal w b n ps) : ps.Pairwise (fun p q => p.1 ≠ q.1) := by
  obtain ⟨D, _, _, _, _, h3⟩ := h
  exact h3

theorem sum_nil (w : World) : Calls Try.prog 15 #[.map none] w fun e w' => e = .returned (.int .i64 0) ∧ Below w.heap.size w w' := by
  have hrg := run_range_nilMap (P := Try.prog) w 29 35 2 Try.underlying29
  have hnx : ∀ ty, (Instr.next (.pointer (some ⟨w.heap.size, 0, none⟩)) false ty).run Try.prog (w.alloc (.mapIter none 0 #[] 0)) = _ := fun ty => run_next_nilMap w ty 0 0 #[]
  go_enter Try.func15, Try.ntmps15
  go_wp2
  refine wp_loop_rounds 1 ?_
  rw [rounds_succ]
  go_wp2
  go_ret
  exact ⟨rfl, (Below.refl _ _).alloc (Nat.le_refl _) _⟩

set_option maxHeartbeats 400000 in
theorem sum_any (b n : Nat) (ps : List (Int × Int)) (w : World) (h : Tal w b n ps) :
    Calls Try.prog 15 #[.map (some b)] w fun e w' => e = .returned (.int .i64 (wrap64 (ps.map Prod.snd).sum)) ∧ Below w.heap.size w w' := by
  have hap := h.apart
  obtain ⟨D, hown, hrep⟩ := h
  have HP : Hid (ps.Pairwise (fun p q => p.1 ≠ q.1)) := hap
  have HD : Hid (Pl.Rep iK iV D ps) := hrep
  clear hap hrep
  go_enter Try.func15, Try.ntmps15
  go_wp2_with (first
    | (at_range; refine wpList_range_own _ rfl _ 29 rfl 35 2 law35 Try.underlying29 _ b n _ rfl hown ?_; intro w0 hrg0 hg0 hs0)
    | go_in)
  go_frame
  go_loopw [3] (fun v wr => ∃ (left : Lit → Bool) (cnt : Nat), v = .int .i64 (wrap64 (Pl.came iK left ps)) ∧ wr.ranges Try.prog 35 (plainElem Try.prog 2) b w.heap.size n D left cnt ∧ Below w.heap.size w wr) (fun _ wr => wr.rangeLeft b w.heap.size)
  case atStart => exact ⟨_, _, by rw [Pl.came_none (fun p hp => (HD.out.has encI p.1).2 ⟨p, hp, rfl⟩), Pl.wrap_zero], hrg0, (Below.refl _ _).grown hg0 (Nat.le_refl _) (fun k hk => by cases hk)⟩
  case round =>
    obtain ⟨left, cnt, rfl, hrg, hbel⟩ := hrel
    go_wp2_with (first
      | (at_next; refine wpList_next_ranges_ii _ rfl _ rfl 35 2 .i64 .i64 law35 Try.underlying35 Try.underlying2 b w.heap.size n _ _ _ rfl hrg ?_ ?_)
      | go_in)
    · intro _ hl0
      go_wp2
      go_ret
      exact ⟨by rw [Pl.came_all hl0]; rfl, hbel⟩
    · intro x c w1 cnt1 hwx hwc hlx hat hrg1 hlt hg1 hs1 hen
      have hmem : Hid ((x, c) ∈ ps) := by
        have hh : Maps.has D (iK x) = true := Maps.has_true_of_atKey hat
        obtain ⟨p, hp, hpx⟩ := (HD.out.has encI x).1 hh
        obtain ⟨p1, p2⟩ := p
        simp only at hpx
        subst hpx
        have e1 := HD.out.at encI hp .nil
        have e2 : iV p2 = .lit (.int .i64 c) := e1.symm.trans (hat .nil)
        simp [iV] at e2
        subst e2
        exact hp
      have HL : Hid (left (iK x) = true) := hlx
      clear hat hlx
      go_wp2
      go_roundw
      case rel =>
        refine ⟨_, cnt1, ?_, hrg1, hbel.grown hg1 hbel.size (fun k hk => by cases hk; exact Nat.le_refl _)⟩
        have e := Pl.came_step encI HL.out HP.out hmem.out
        show Value.int .i64 _ = .int .i64 (wrap64 (Pl.came iK (fun z => left z && !z.sameKey (iK x)) ps))
        rw [e, Pl.wrap_add_l]
      case measure => rw [hrg1.left_eq, hrg.left_eq]; exact hlt

set_option maxHeartbeats 400000 in
theorem add_nil (r n : Int) (w : World) (hr : (Lit.int .i64 r).wf = true) (hn : (Lit.int .i64 n).wf = true) :
    Calls Try.prog 30 #[.map none, .int .i64 r, .int .i64 n] w fun e w' => e = .returned (.map (some w.heap.size)) ∧ Tal w' w.heap.size 1 [(r, n)] ∧ Below w.heap.size w w' := by
  have hmm := @run_makeMap Try.prog
  have hq : ∀ (w : World) (r : Option Nat), (binOp .eql 29 (.map r) (.map none)).run Try.prog w = .ok (.bool r.isNone) w := fun w r => run_eql_map_nil w _ _ _ r Try.underlying29
  have h0 := Tal.made w
  have hl := h0.miss hr (by simp)
  have hnb := Pl.wf_bounds hn
  obtain ⟨w1, hst, h1, hg⟩ := h0.store (by unfold maxLen; omega) hr hn
  go_enter Try.func30, Try.ntmps30
  go_wp2
  go_ret
  exact ⟨rfl, by simpa using h1, ((Below.refl _ _).alloc (Nat.le_refl _) _).grown hg (by simp) (fun j hj => by cases hj; exact Nat.le_refl _)⟩

set_option maxHeartbeats 400000 in
theorem add_some (b m : Nat) (ps : List (Int × Int)) (x r n : Int) (w : World) (h : Tal w b m ps) (hm : m < maxLen) (hr : (Lit.int .i64 r).wf = true) (hx : (r, x) ∈ ps ∨ (x = 0 ∧ ¬ ∃ p ∈ ps, p.1 = r)) :
    Calls Try.prog 30 #[.map (some b), .int .i64 r, .int .i64 n] w fun e w' => e = .returned (.map (some b)) ∧ Tal w' b (m + 1) ((ps.filter fun p => decide (p.1 ≠ r)) ++ [(r, wrap64 (x + n))]) ∧ w.grownBy w' (some b) := by
  have hq : ∀ (w : World) (r : Option Nat), (binOp .eql 29 (.map r) (.map none)).run Try.prog w = .ok (.bool r.isNone) w := fun w r => run_eql_map_nil w _ _ _ r Try.underlying29
  have hl : (Instr.lookup 29 (.map (some b)) (.int .i64 r) false).run Try.prog w = .ok (.int .i64 x) w := by
    rcases hx with hx | ⟨rfl, hx⟩
    · exact (h.look hr hx false).1
    · exact h.miss hr hx
  obtain ⟨w1, hst, h1, hg⟩ := h.store hm hr (wrap64_wf (x + n))
  clear hx hm
  go_enter Try.func30, Try.ntmps30
  go_wp2
  go_ret
  exact ⟨rfl, h1, hg⟩

theorem zadd_nil (r n : Int) (w : World) (hr : (Lit.int .i64 r).wf = true) (hn : (Lit.int .i64 n).wf = true) :
    Calls Try.prog 17 #[.map none, .int .i64 r, .int .i64 n] w fun e w' => e = .returned (.map (some w.heap.size)) ∧ Tal w' w.heap.size 1 [(r, n)] ∧ Below w.heap.size w w' := by
  go_enter Try.func17, Try.ntmps17
  go_wp2_with fail
  refine (add_nil r n w hr hn).mono ?_
  rintro e w' ⟨rfl, h1, h2⟩
  go_wp2
  go_ret
  exact ⟨rfl, h1, h2⟩

theorem zadd_some (b m : Nat) (ps : List (Int × Int)) (x r n : Int) (w : World) (h : Tal w b m ps) (hm : m < maxLen) (hr : (Lit.int .i64 r).wf = true) (hx : (r, x) ∈ ps ∨ (x = 0 ∧ ¬ ∃ p ∈ ps, p.1 = r)) :
    Calls Try.prog 17 #[.map (some b), .int .i64 r, .int .i64 n] w fun e w' => e = .returned (.map (some b)) ∧ Tal w' b (m + 1) ((ps.filter fun p => decide (p.1 ≠ r)) ++ [(r, wrap64 (x + n))]) ∧ w.grownBy w' (some b) := by
  go_enter Try.func17, Try.ntmps17
  go_wp2_with fail
  refine (add_some b m ps x r n w h hm hr hx).mono ?_
  rintro e w' ⟨rfl, h1, h2⟩
  go_wp2
  go_ret
  exact ⟨rfl, h1, h2⟩

set_option maxHeartbeats 400000 in
theorem build_nil (n c : Nat) (v1 : Value) (w : World) : Calls Try.prog 13 #[.slice none n c, v1] w fun e w' => e = .returned (.map none) ∧ w = w' := by
  have hq : ∀ w a n c, (binOp .eql 22 (.slice a n c) (.slice none 0 0)).run Try.prog w = .ok (.bool a.isNone) w := fun w a n c => Lib.run_eql_slice_nil w _ _ a n c 0 0 Try.underlying22
  go_enter Try.func13, Try.ntmps13
  go_wp2
  go_ret
  exact ⟨rfl, rfl⟩

set_option maxHeartbeats 800000 in
theorem build_any (x : Addr) (a1 : Option Addr) (b0 o0 b1 o1 n0 c0 n1 c1 : Nat) (K V : Nat → Int) (w : World)
    (h0 : 0 < n0 → x = ⟨b0, o0, none⟩) (h1 : 0 < n1 → a1 = some ⟨b1, o1, none⟩) (hn0 : n0 ≤ 4096) (hn1 : n1 ≤ 4096)
    (g0 : ∀ j, j < n0 → w.cell? ⟨b0, o0 + j, none⟩ = some (.int .i64 (K j))) (g1 : ∀ j, j < n1 → w.cell? ⟨b1, o1 + j, none⟩ = some (.int .i64 (V j)))
    (k0 : ∀ j, (Lit.int .i64 (K j)).wf = true) (k1 : ∀ j, (Lit.int .i64 (V j)).wf = true) :
    Calls Try.prog 13 #[.slice (some x) n0 c0, .slice a1 n1 c1] w fun e w' => e = .returned (.map (some w.heap.size)) ∧
      Tal w' w.heap.size (min n0 n1) (Pl.mk (fun _ => true) K (min n0 n1) (Pl.lw (fun _ => true) K V 0 (min n0 n1))) ∧ Below w.heap.size w w' := by
  have hq : ∀ w a n c, (binOp .eql 22 (.slice a n c) (.slice none 0 0)).run Try.prog w = .ok (.bool a.isNone) w := fun w a n c => Lib.run_eql_slice_nil w _ _ a n c 0 0 Try.underlying22
  have hmm := @run_makeMap Try.prog
  generalize hm : min n0 n1 = m
  have hm0 : m ≤ n0 := by omega
  have hm1 : m ≤ n1 := by omega
  have HM : Hid (min n0 n1 = m) := hm
  clear hm
  go_enter Try.func13, Try.ntmps13
  go_wp2_with (go_at_call 12; refine (min_any _ _ _).mono ?_; rintro e w' ⟨rfl, rfl⟩; rw [HM.out])
  go_loopw [7] (fun v wr => ∃ k : Nat, k ≤ m ∧ v = .int .i64 k ∧ Tal wr w.heap.size k (Pl.mk (fun _ => true) K k (Pl.lw (fun _ => true) K V 0 k)) ∧ Below w.heap.size w wr) (fun v _ => m - (intOf v).toNat)
  case atStart => exact ⟨0, Nat.zero_le _, rfl, Tal.made w, (Below.refl _ _).alloc (Nat.le_refl _) _⟩
  case round =>
    obtain ⟨k, hk, rfl, ht, hbel⟩ := hrel
    clear hq hmm
    by_cases hlt : k < m
    · obtain rfl := h0 (by omega)
      obtain rfl := h1 (by omega)
      have hb0 : b0 < w.heap.size := World.block_lt_of_cell? _ _ (g0 k (by omega))
      have hb1 : b1 < w.heap.size := World.block_lt_of_cell? _ _ (g1 k (by omega))
      have e0 : wr.cell? ⟨b0, o0 + k, none⟩ = some (.int .i64 (K k)) := (hbel.cell (by exact hb0)).trans (g0 k (by omega))
      have e1 : wr.cell? ⟨b1, o1 + k, none⟩ = some (.int .i64 (V k)) := (hbel.cell (by exact hb1)).trans (g1 k (by omega))
      have i0 : (k : Int) < (n0 : Int) := by omega
      have i1 : (k : Int) < (n1 : Int) := by omega
      obtain ⟨w1, hst, ht1, hg⟩ := Tal.store (w := wr.drew) ht (by unfold maxLen; omega) (k0 k) (k1 k)
      have HT : Hid (Tal w1 w.heap.size (k + 1) (Pl.mk (fun _ => true) K (k + 1) (Pl.lw (fun _ => true) K V 0 (k + 1)))) := by
        rw [Pl.mk_succ (f := Pl.lw (fun _ => true) K V 0 k) rfl (fun k' hk' => by simp [Pl.lw, Ne.symm hk'])]
        have : Pl.lw (fun _ => true) K V 0 (k + 1) (K k) = V k := by simp [Pl.lw]
        rw [this]
        exact ht1
      have HB : Hid (Below w.heap.size w w1) := hbel.drew.grown hg hbel.size (fun j hj => by cases hj; exact Nat.le_refl _)
      clear ht ht1 hg h0 h1 k0 k1 g0 g1 hbel
      go_wp2
      go_region
      all_goals
        go_wp2
        go_roundw
        case rel => exact ⟨k + 1, by omega, by go_num, HT.out, HB.out⟩
        case measure => simp [intOf]; omega
    · have hkn : k = m := by omega
      subst hkn
      clear h0 h1 k0 k1 g0 g1
      go_wp2
      go_ret
      exact ⟨rfl, ht, hbel⟩

/-- A TALLY THAT MAY BE nil. -/
def TalO (w : World) (o : Option Nat) (n : Nat) (ps : List (Int × Int)) : Prop := (o = none ∧ ps = []) ∨ ∃ b, o = some b ∧ Tal w b n ps

theorem TalO.below {w w' : World} {n B : Nat} {o : Option Nat} {ps : List (Int × Int)} (h : TalO w o n ps) (hb : Below B w w') (hB : ∀ b, o = some b → b < B) : TalO w' o n ps := by
  rcases h with h | ⟨b, rfl, h⟩
  · exact .inl h
  · exact .inr ⟨b, rfl, h.below hb (hB b rfl)⟩

theorem buildO (a0 a1 : Option Addr) (b0 o0 b1 o1 n0 c0 n1 c1 m : Nat) (K V : Nat → Int) (w : World)
    (h0 : 0 < n0 → a0 = some ⟨b0, o0, none⟩) (h1 : 0 < n1 → a1 = some ⟨b1, o1, none⟩) (z0 : a0 = none → n0 = 0) (hn0 : n0 ≤ 4096) (hn1 : n1 ≤ 4096) (hm : m = min n0 n1)
    (g0 : ∀ j, j < n0 → w.cell? ⟨b0, o0 + j, none⟩ = some (.int .i64 (K j))) (g1 : ∀ j, j < n1 → w.cell? ⟨b1, o1 + j, none⟩ = some (.int .i64 (V j)))
    (k0 : ∀ j, (Lit.int .i64 (K j)).wf = true) (k1 : ∀ j, (Lit.int .i64 (V j)).wf = true) :
    Calls Try.prog 13 #[.slice a0 n0 c0, .slice a1 n1 c1] w fun e w' => ∃ o, e = .returned (.map o) ∧ o.isNone = a0.isNone ∧ (∀ b, o = some b → w.heap.size ≤ b ∧ b < w'.heap.size) ∧
      TalO w' o m (Pl.mk (fun _ => true) K m (Pl.lw (fun _ => true) K V 0 m)) ∧ Below w.heap.size w w' := by
  subst hm
  rcases a0 with _ | x
  · obtain rfl := z0 rfl
    refine (build_nil _ _ _ w).mono ?_
    rintro e w' ⟨rfl, rfl⟩
    exact ⟨none, rfl, rfl, fun b hb => (by cases hb), .inl ⟨rfl, by simp [Pl.mk_zero]⟩, Below.refl _ _⟩
  · refine (build_any x a1 b0 o0 b1 o1 n0 c0 n1 c1 K V w (fun h => Option.some.inj (h0 h)) h1 hn0 hn1 g0 g1 k0 k1).mono ?_
    rintro e w' ⟨rfl, h2, h3⟩
    exact ⟨some w.heap.size, rfl, rfl, fun b hb => (by cases hb; exact ⟨Nat.le_refl _, h2.lt⟩), .inr ⟨_, rfl, h2⟩, h3⟩

theorem sumO (o : Option Nat) (n : Nat) (ps : List (Int × Int)) (w : World) (h : TalO w o n ps) :
    Calls Try.prog 15 #[.map o] w fun e w' => e = .returned (.int .i64 (wrap64 (ps.map Prod.snd).sum)) ∧ Below w.heap.size w w' := by
  rcases h with ⟨rfl, rfl⟩ | ⟨b, rfl, h⟩
  · simp only [List.map_nil, List.sum_nil, Pl.wrap_zero]
    exact sum_nil w
  · exact sum_any b n ps w h

theorem zaddO (o : Option Nat) (m : Nat) (ps : List (Int × Int)) (x r n : Int) (B : Nat) (w : World) (h : TalO w o m ps) (hm : m < maxLen) (hr : (Lit.int .i64 r).wf = true) (hn : (Lit.int .i64 n).wf = true)
    (hx : (r, x) ∈ ps ∨ (x = 0 ∧ ¬ ∃ p ∈ ps, p.1 = r)) (hB : B ≤ w.heap.size) (hB' : ∀ b, o = some b → B ≤ b) :
    Calls Try.prog 17 #[.map o, .int .i64 r, .int .i64 n] w fun e w' => ∃ b, e = .returned (.map (some b)) ∧ (∀ b', o = some b' → b = b') ∧ B ≤ b ∧ Tal w' b (m + 1) ((ps.filter fun p => decide (p.1 ≠ r)) ++ [(r, wrap64 (x + n))]) ∧ Below B w w' := by
  rcases h with ⟨rfl, rfl⟩ | ⟨b, rfl, h⟩
  · have hx0 : x = 0 := by
      rcases hx with hx | hx
      · simp at hx
      · exact hx.1
    subst hx0
    refine (zadd_nil r n w hr hn).mono ?_
    rintro e w' ⟨rfl, ⟨D, h1, h3⟩, h2⟩
    refine ⟨_, rfl, fun b' hb' => (by cases hb'), hB, ⟨D, h1.mono (by omega), ?_⟩, h2.mono hB⟩
    rw [Int.zero_add, Pl.wrap_of_wf hn]
    exact h3
  · refine (zadd_some b m ps x r n w h hm hr hx).mono ?_
    rintro e w' ⟨rfl, h1, h2⟩
    exact ⟨b, rfl, fun b' hb' => (by cases hb'; rfl), hB' b rfl, h1, (Below.refl _ _).grown h2 hB (fun k hk => by cases hk; exact hB' b rfl)⟩

end Go.Proofs.Qxb6603978a
