/-
  FnAddRecordsMatchesModel: THE WALK.
-/
import Derived.Test.Qxb6603978aScopesLaw
import Derived.Test.Qxb6603978aBytes
import Derived.Test.Qxb6603978aAddRec
import Derived.Test.Qxb6603978aLawAdd
namespace Go.Proofs.Qxb6603978a
open Go.RowKit Go.Maps
set_option linter.unusedVariables false
set_option linter.unusedSimpArgs false

/-- Cells, in a later world. -/
theorem later {w w' : World} {b o n : Nat} {V : Nat → Value} (hb : Below w.heap.size w w') (g : ∀ j, j < n → w.cell? ⟨b, o + j, none⟩ = some (V j)) : ∀ j, j < n → w'.cell? ⟨b, o + j, none⟩ = some (V j) := fun j hj =>
  (hb.cell (by exact World.block_lt_of_cell? _ _ (g j hj))).trans (g j hj)
theorem from0 {w : World} {b n : Nat} {V : Nat → Value} (g : ∀ j, j < n → w.cell? ⟨b, j, none⟩ = some (V j)) : ∀ j, j < n → w.cell? ⟨b, 0 + j, none⟩ = some (V j) := fun j hj => by rw [Nat.zero_add]; exact g j hj
/-- .. below a block from which alone there is writing. -/
theorem later_lo {w w' : World} {lo b o n : Nat} {V : Nat → Value} (hb : Below lo w w') (hl : 0 < n → b < lo) (g : ∀ j, j < n → w.cell? ⟨b, o + j, none⟩ = some (V j)) : ∀ j, j < n → w'.cell? ⟨b, o + j, none⟩ = some (V j) := fun j hj =>
  (hb.cell (by exact hl (by omega))).trans (g j hj)
theorem nil_of {a a' : Option Addr} {n : Nat} (i : a'.isNone = a.isNone) (z : a = none → n = 0) : a' = none → n = 0 := fun h => z (by rw [h] at i; exact Option.isNone_iff_eq_none.1 i.symm)

theorem box_new (w : World) (v : Value) (t : TypeId) : (w.alloc (.cells #[v] t)).cell? ⟨w.heap.size, 0, none⟩ = some v ∧ (w.alloc (.cells #[v] t)).frozen? ⟨w.heap.size, 0, none⟩ = false := by
  have h := World.rowIs_alloc w #[v] t (fun _ => v) (by intro i hi; simp at hi; subst hi; rfl)
  exact ⟨h.cell (by simp), h.frozen 0⟩

theorem Rc.alloc {w : World} {lo pt pc : Nat} {ot oc : Option Nat} {m n : Nat} {ps : List (Int × Int)} {S : Nat → Bool} {Nm : Nat → ByteArray} {k : Nat} {β : ByteArray → Nat} {T : ByteArray → List (Int × Int)}
    (h : Rc w lo pt pc ot oc m n ps S Nm k β T) (o : Obj) : Rc (w.alloc o) lo pt pc ot oc m n ps S Nm k β T := by
  have hg : w.grownBy (w.alloc o) none := World.grownBy_alloc w _ none
  exact ⟨cell_grown hg h.ct (by simp), frozen_grown hg h.ct h.ft (by simp), cell_grown hg h.cc (by simp), frozen_grown hg h.cc h.fc (by simp), h.ne, h.lot, h.loc, h.tot.maps (MapsKept.alloc w o), h.tlo, h.scp.maps (MapsKept.alloc w o)⟩

/-- The two variables as the law lays them. -/
theorem Rc.start {w6 w8 : World} {lo : Nat} {ot oc : Option Nat} {m n k : Nat} {ps : List (Int × Int)} {Nm : Nat → ByteArray} {S : Nat → Bool} {β : ByteArray → Nat} {T : ByteArray → List (Int × Int)} (hlo : lo ≤ w6.heap.size) (ht : TalO w6 ot m ps) (hob : ∀ b, ot = some b → lo ≤ b ∧ b < w6.heap.size)
    (hb : Below (w6.heap.size + 1) (w6.alloc (.cells #[.map ot] 29)) w8) (hS : Scp w8 (w6.heap.size + 1) oc n S Nm k β T) :
    Rc (w8.alloc (.cells #[.map oc] 41)) lo w6.heap.size w8.heap.size ot oc m n ps S Nm k β T ∧ Below w6.heap.size w6 (w8.alloc (.cells #[.map oc] 41)) := by
  obtain ⟨c7, f7⟩ := box_new w6 (.map ot) 29
  obtain ⟨c9, f9⟩ := box_new w8 (.map oc) 41
  have hs8 := hb.size
  simp at hs8
  have c8 : w8.cell? ⟨w6.heap.size, 0, none⟩ = some (.map ot) := (hb.cell (by show w6.heap.size < w6.heap.size + 1; omega)).trans c7
  have f8 : w8.frozen? ⟨w6.heap.size, 0, none⟩ = false := (hb.frozen (by show w6.heap.size < w6.heap.size + 1; omega)).trans f7
  have hg : w8.grownBy (w8.alloc (.cells #[.map oc] 41)) none := World.grownBy_alloc w8 _ none
  have b68 : Below w6.heap.size w6 w8 := ((Below.refl _ _).alloc (Nat.le_refl _) _).trans (hb.mono (Nat.le_succ _))
  refine ⟨⟨cell_grown hg c8 (by simp), frozen_grown hg c8 f8 (by simp), c9, f9, by omega, hlo, by omega, (ht.below b68 (fun b hb' => (hob b hb').2)).maps (MapsKept.alloc w8 _), fun b hb' => ?_, (hS.lower (by omega)).maps (MapsKept.alloc w8 _)⟩, b68.alloc (by omega) _⟩
  obtain ⟨q1, q2⟩ := hob b hb'
  refine ⟨q1, fun e => ?_, fun i hi hs e => ?_⟩
  · rcases hS.out with ⟨e', _⟩ | ⟨B, D, e', hl, _⟩
    · rw [e'] at e; cases e
    · rw [e'] at e; cases e; omega
  · have := (hS.inn i hi hs).1
    omega

set_option maxRecDepth 1000000 in
set_option maxHeartbeats 4000000 in
theorem law7 (a0 a1 a2 a3 a4 : Option Addr) (b0 o0 b1 o1 b2 o2 b3 o3 b4 o4 n0 c0 n1 c1 n2 c2 n3 c3 n4 c4 : Nat) (Kt Vt : Nat → Int) (Nm : Nat → ByteArray) (K V : Nat → Int) (hs : Bool) (sc : ByteArray) (r n : Int) (w : World)
    (h0 : 0 < n0 → a0 = some ⟨b0, o0, none⟩) (h1 : 0 < n1 → a1 = some ⟨b1, o1, none⟩) (h2 : 0 < n2 → a2 = some ⟨b2, o2, none⟩) (h3 : 0 < n3 → a3 = some ⟨b3, o3, none⟩) (h4 : 0 < n4 → a4 = some ⟨b4, o4, none⟩)
    (z0 : a0 = none → n0 = 0) (z1 : a1 = none → n1 = 0) (z2 : a2 = none → n2 = 0) (z3 : a3 = none → n3 = 0) (z4 : a4 = none → n4 = 0)
    (hn0 : n0 ≤ maxLen) (hn1 : n1 ≤ maxLen) (hn2 : n2 ≤ maxLen) (hn3 : n3 ≤ maxLen) (hn4 : n4 ≤ maxLen)
    (g0 : ∀ j, j < n0 → w.cell? ⟨b0, o0 + j, none⟩ = some (.int .i64 (Kt j))) (g1 : ∀ j, j < n1 → w.cell? ⟨b1, o1 + j, none⟩ = some (.int .i64 (Vt j))) (g2 : ∀ j, j < n2 → w.cell? ⟨b2, o2 + j, none⟩ = some (.string (Nm j)))
    (g3 : ∀ j, j < n3 → w.cell? ⟨b3, o3 + j, none⟩ = some (.int .i64 (K j))) (g4 : ∀ j, j < n4 → w.cell? ⟨b4, o4 + j, none⟩ = some (.int .i64 (V j)))
    (k0 : ∀ j, (Lit.int .i64 (Kt j)).wf = true) (k1 : ∀ j, (Lit.int .i64 (Vt j)).wf = true) (k2 : ∀ j, (Nm j).size ≤ maxLen) (k3 : ∀ j, (Lit.int .i64 (K j)).wf = true) (k4 : ∀ j, (Lit.int .i64 (V j)).wf = true)
    (ks : sc.size ≤ maxLen) (kr : (Lit.int .i64 r).wf = true) (kn : (Lit.int .i64 n).wf = true) :
    Calls Try.prog 7 #[.slice a0 n0 c0, .slice a1 n1 c1, .slice a2 n2 c2, .slice a3 n3 c3, .slice a4 n4 c4, .bool hs, .string sc, .int .i64 r, .int .i64 n] w fun e w' => e = .returned (.bool true) ∧ Below w.heap.size w w' := by
  go_enter Try.func7, Try.ntmps7
  go_wp2_with fail
  refine (bytes21 a0 a1 a2 a3 a4 n0 c0 n1 c1 n2 c2 n3 c3 n4 c4 b2 o2 Nm hs sc r n w hn0 hn1 hn2 hn3 hn4 h2 g2 k2 ks).mono ?_
  rintro e w' ⟨⟨x, rfl⟩, rfl⟩
  cases x
  · go_wp2
    go_ret
    exact ⟨rfl, Below.refl _ _⟩
  have HS2 : Hid (∀ j, (Nm j).size ≤ maxLen) := k2
  have HSc : Hid (sc.size ≤ maxLen) := ks
  unfold maxLen at hn0 hn1 hn2 hn3 hn4 k2 ks
  by_cases s0 : n0 ≤ 4096 ∧ n1 ≤ 4096 ∧ n2 ≤ 4096 ∧ n3 ≤ 4096 ∧ n4 ≤ 4096 ∧ sc.size ≤ 1048576
  case neg =>
    go_wp2
    all_goals (go_ret; exact ⟨rfl, Below.refl _ _⟩)
  obtain ⟨s0, s1, s2, s3, s4, s5⟩ := s0
  have d0 : decide ((4096 : Int) < (n0 : Int)) = false := decide_eq_false (by omega)
  have d1 : decide ((4096 : Int) < (n1 : Int)) = false := decide_eq_false (by omega)
  have d2 : decide ((4096 : Int) < (n2 : Int)) = false := decide_eq_false (by omega)
  have d3 : decide ((4096 : Int) < (n3 : Int)) = false := decide_eq_false (by omega)
  have d4 : decide ((4096 : Int) < (n4 : Int)) = false := decide_eq_false (by omega)
  have d5 : decide ((1048576 : Int) < (sc.size : Int)) = false := decide_eq_false (by omega)
  go_wp2
  clear d0 d1 d2 d3 d4 d5
  go_loop [19, 20] (fun z v => ∃ (k : Nat) (x : Int), k ≤ n2 ∧ v = .int .i64 k ∧ z = .int .i64 x) (fun _ v => n2 - (intOf v).toNat)
  case atStart => exact ⟨0, _, Nat.zero_le _, rfl, rfl⟩
  case round =>
    obtain ⟨k, x, hk, rfl, rfl⟩ := hrel
    by_cases hlt : k < n2
    · obtain rfl := h2 (by omega)
      have e3 := g2 k hlt
      have i3 : (k : Int) < (n2 : Int) := by omega
      clear h0 h1 h2 h3 h4 z0 z1 z2 z3 z4 g0 g1 g2 g3 g4 k0 k1 k2 k3 k4
      go_wp2
      · go_ret
        exact ⟨rfl, Below.refl _ _⟩
      · go_round
        case rel => exact ⟨k + 1, _, by omega, by go_num, rfl⟩
        case measure => simp [intOf]; omega
    by_cases hx : 1048576 < x
    · clear h0 h1 h2 h3 h4 z0 z1 z2 z3 z4 g0 g1 g2 g3 g4 k0 k1 k2 k3 k4
      go_wp2
      go_ret
      exact ⟨rfl, Below.refl _ _⟩
    clear k2 ks
    have HK0 : Hid (∀ j, (Lit.int .i64 (Kt j)).wf = true) := k0
    have HK1 : Hid (∀ j, (Lit.int .i64 (Vt j)).wf = true) := k1
    have HK3 : Hid (∀ j, (Lit.int .i64 (K j)).wf = true) := k3
    have HK4 : Hid (∀ j, (Lit.int .i64 (V j)).wf = true) := k4
    clear k0 k1 k3 k4
    go_wp2_with fail
    clear hk hlt hx
    refine (copy10 a0 b0 o0 n0 c0 Kt w h0 z0 s0 g0).mono ?_
    rintro e w1 ⟨a0', rfl, i0, h0', q0, bel1⟩
    have g1 := later bel1 g1
    have g2 := later bel1 g2
    have g3 := later bel1 g3
    have g4 := later bel1 g4
    clear h0 g0
    go_wp2_with fail
    refine (copy11 a1 b1 o1 n1 c1 Vt w1 h1 z1 s1 g1).mono ?_
    rintro e w2 ⟨a1', rfl, i1, h1', q1, bel2⟩
    have g2 := later bel2 g2
    have g3 := later bel2 g3
    have g4 := later bel2 g4
    have q0 := later bel2 (from0 q0)
    clear h1 g1
    go_wp2_with fail
    refine (copy22 a2 b2 o2 n2 c2 Nm w2 h2 z2 s2 g2).mono ?_
    rintro e w3 ⟨a2', rfl, i2, h2', q2, bel3⟩
    have g3 := later bel3 g3
    have g4 := later bel3 g4
    have q0 := later bel3 q0
    have q1 := later bel3 (from0 q1)
    clear h2 g2
    go_wp2_with fail
    refine (copy10 a3 b3 o3 n3 c3 K w3 h3 z3 s3 g3).mono ?_
    rintro e w4 ⟨a3', rfl, i3, h3', q3, bel4⟩
    have g4 := later bel4 g4
    have q0 := later bel4 q0
    have q1 := later bel4 q1
    have q2 := later bel4 (from0 q2)
    clear h3 g3
    go_wp2_with fail
    refine (copy11 a4 b4 o4 n4 c4 V w4 h4 z4 s4 g4).mono ?_
    rintro e w5 ⟨a4', rfl, i4, h4', q4, bel5⟩
    have q0 := later bel5 q0
    have q1 := later bel5 q1
    have q2 := later bel5 q2
    have q3 := later bel5 (from0 q3)
    have q4 := from0 q4
    have z0' := nil_of i0 z0
    have z2' := nil_of i2 z2
    have bel : Below w.heap.size w w5 := ((((bel1.trans (bel2.mono bel1.size)).trans (bel3.mono (Nat.le_trans bel1.size bel2.size))).trans (bel4.mono (Nat.le_trans bel1.size (Nat.le_trans bel2.size bel3.size))))).trans (bel5.mono (Nat.le_trans bel1.size (Nat.le_trans bel2.size (Nat.le_trans bel3.size bel4.size))))
    clear h4 g4 z0 z1 z2 z3 z4 i0 i1 i2 i3 i4
    clear bel1 bel2 bel3 bel4 bel5
    have l0 : 0 < n0 → w.heap.size < w5.heap.size := fun h => World.block_lt_of_cell? _ _ (q0 0 h)
    have l1 : 0 < n1 → w1.heap.size < w5.heap.size := fun h => World.block_lt_of_cell? _ _ (q1 0 h)
    have l2 : 0 < n2 → w2.heap.size < w5.heap.size := fun h => World.block_lt_of_cell? _ _ (q2 0 h)
    have l3 : 0 < n3 → w3.heap.size < w5.heap.size := fun h => World.block_lt_of_cell? _ _ (q3 0 h)
    have l4 : 0 < n4 → w4.heap.size < w5.heap.size := fun h => World.block_lt_of_cell? _ _ (q4 0 h)
    go_wp2_with fail
    refine (min_any n0 n1 w5).mono ?_
    rintro e wx ⟨rfl, rfl⟩
    obtain ⟨mt, hmt⟩ : ∃ mt, mt = min n0 n1 := ⟨_, rfl⟩
    rw [← hmt]
    have HMT : Hid (mt = min n0 n1) := hmt
    have mt0 : mt ≤ n0 := by omega
    have mt1 : mt ≤ n1 := by omega
    clear hmt
    go_wp2_with fail
    refine (min_any n2 n3 w5).mono ?_
    rintro e wx ⟨rfl, rfl⟩
    go_wp2_with fail
    refine (min_any (min n2 n3) n4 w5).mono ?_
    rintro e wx ⟨rfl, rfl⟩
    obtain ⟨ms, hms⟩ : ∃ ms, ms = min (min n2 n3) n4 := ⟨_, rfl⟩
    rw [← hms]
    have HMS : Hid (ms = min (min n2 n3) n4) := hms
    have ms2 : ms ≤ n2 := by omega
    have ms3 : ms ≤ n3 := by omega
    have ms4 : ms ≤ n4 := by omega
    clear hms
    go_wp2_with fail
    refine (buildO a0' a1' w.heap.size 0 w1.heap.size 0 n0 n0 n1 n1 mt Kt Vt w5 h0' h1' z0' s0 s1 HMT.out q0 q1 HK0.out HK1.out).mono ?_
    rintro e w6 ⟨ot, rfl, hoi, hob, ht, bel6⟩
    clear hoi
    have HQ0 : Hid (∀ j, j < n0 → w6.cell? ⟨w.heap.size, 0 + j, none⟩ = some (.int .i64 (Kt j))) := later bel6 q0
    have HQ1 : Hid (∀ j, j < n1 → w6.cell? ⟨w1.heap.size, 0 + j, none⟩ = some (.int .i64 (Vt j))) := later bel6 q1
    have HQ2 : Hid (∀ j, j < n2 → w6.cell? ⟨w2.heap.size, 0 + j, none⟩ = some (.string (Nm j))) := later bel6 q2
    have HQ3 : Hid (∀ j, j < n3 → w6.cell? ⟨w3.heap.size, 0 + j, none⟩ = some (.int .i64 (K j))) := later bel6 q3
    have HQ4 : Hid (∀ j, j < n4 → w6.cell? ⟨w4.heap.size, 0 + j, none⟩ = some (.int .i64 (V j))) := later bel6 q4
    clear q0 q1 q2 q3 q4
    have HT : Hid (TalO w6 ot mt (Pl.mk (fun _ => true) Kt mt (Pl.lw (fun _ => true) Kt Vt 0 mt))) := ht
    have HOB : Hid (∀ b, ot = some b → w5.heap.size ≤ b ∧ b < w6.heap.size) := hob
    have HB6 : Hid (Below w5.heap.size w5 w6) := bel6
    have HB5 : Hid (Below w.heap.size w w5) := bel
    have hs56 := bel6.size
    clear ht hob bel6 bel
    go_wp2_with fail
    have bel7 : Below w6.heap.size w6 (w6.alloc (.cells #[.map ot] 29)) := (Below.refl _ _).alloc (Nat.le_refl _) _
    refine (buildSO a2' a3' a4' w2.heap.size 0 w3.heap.size 0 w4.heap.size 0 n2 n2 n3 n3 n4 n4 ms Nm K V (w6.alloc (.cells #[.map ot] 29)) h2' h3' h4' z2' s2 s3 s4 HMS.out (later bel7 HQ2.out) (later bel7 HQ3.out) (later bel7 HQ4.out) HS2.out HK3.out HK4.out).mono ?_
    rintro e w8 ⟨oc, rfl, hoc, ⟨β, hS⟩, bel8⟩
    have esz : (w6.alloc (.cells #[.map ot] 29)).heap.size = w6.heap.size + 1 := by simp
    rw [esz] at hS bel8
    obtain ⟨N', hN, hNm⟩ : ∃ N' : Nat → ByteArray, (∀ i, i < ms → N' i = Nm i) ∧ N' ms = sc := ⟨fun i => if i = ms then sc else Nm i, fun i hi => if_neg (by omega), if_pos rfl⟩
    obtain ⟨hRc, bel9⟩ := Rc.start (m := mt) (ps := Pl.mk (fun _ => true) Kt mt (Pl.lw (fun _ => true) Kt Vt 0 mt)) hs56 HT.out HOB.out bel8 (hS.congrN hN)
    obtain ⟨x0, hx0⟩ := at_pairs (Pl.mk (fun _ => true) Kt mt (Pl.lw (fun _ => true) Kt Vt 0 mt)) r
    have HP : Hid (OldPlus (((Pl.mk (fun _ => true) Kt mt (Pl.lw (fun _ => true) Kt Vt 0 mt)).filter fun p => decide (p.1 ≠ r)) ++ [(r, wrap64 (x0 + n))]) Kt Vt mt r n) := oldPlus_added Kt Vt mt r n x0 kn hx0
    have HX0 : Hid ((r, x0) ∈ Pl.mk (fun _ => true) Kt mt (Pl.lw (fun _ => true) Kt Vt 0 mt) ∨ (x0 = 0 ∧ ¬ ∃ p ∈ Pl.mk (fun _ => true) Kt mt (Pl.lw (fun _ => true) Kt Vt 0 mt), p.1 = r)) := hx0
    have HRc : Hid (Rc (w8.alloc (.cells #[.map oc] 41)) w5.heap.size w6.heap.size w8.heap.size ot oc mt (2 * ms) (Pl.mk (fun _ => true) Kt mt (Pl.lw (fun _ => true) Kt Vt 0 mt)) (fun _ => true) N' ms β (bT Nm K V ms)) := hRc
    have HB9 : Hid (Below w6.heap.size w6 (w8.alloc (.cells #[.map oc] 41))) := bel9
    have HOC : Hid (oc.isNone = a2'.isNone) := hoc
    have HNI : Hid (∀ i, i < ms → N' i = Nm i) := hN
    have HNM : Hid (N' ms = sc) := hNm
    clear hRc hx0 bel9 hS bel8 esz bel7 hoc hN hNm HT HOB
    cases hs
    · go_wp2_with fail
      refine (zaddRec_none HRc.out (by unfold maxLen; omega) kr kn HX0.out).mono ?_
      rintro e w10 ⟨rfl, ⟨b, hR10⟩, bel10⟩
      have c1 := hR10.ct
      have c2 := hR10.cc
      have hT10 : Tal w10 b (mt + 1) (((Pl.mk (fun _ => true) Kt mt (Pl.lw (fun _ => true) Kt Vt 0 mt)).filter fun p => decide (p.1 ≠ r)) ++ [(r, wrap64 (x0 + n))]) := by
        rcases hR10.tot with ⟨e, _⟩ | ⟨b', e, h⟩
        · cases e
        · cases e; exact h
      have q0 := later_lo bel10 l0 (later HB9.out HQ0.out)
      have q1 := later_lo bel10 l1 (later HB9.out HQ1.out)
      have HQ2' : Hid (∀ j, j < n2 → w10.cell? ⟨w2.heap.size, 0 + j, none⟩ = some (.string (Nm j))) := later_lo bel10 l2 (later HB9.out HQ2.out)
      have HQ3' : Hid (∀ j, j < n3 → w10.cell? ⟨w3.heap.size, 0 + j, none⟩ = some (.int .i64 (K j))) := later_lo bel10 l3 (later HB9.out HQ3.out)
      have HQ4' : Hid (∀ j, j < n4 → w10.cell? ⟨w4.heap.size, 0 + j, none⟩ = some (.int .i64 (V j))) := later_lo bel10 l4 (later HB9.out HQ4.out)
      have HB10 : Hid (Below w.heap.size w w10) := ((HB5.out.trans (HB6.out.mono HB5.out.size)).trans ((HB9.out).mono (Nat.le_trans HB5.out.size HB6.out.size))).trans (bel10.mono HB5.out.size)
      have HS10 : Hid (Scp w10 w5.heap.size oc (2 * ms) (fun _ => true) N' ms β (bT Nm K V ms)) := hR10.scp
      clear hR10 bel10 HQ0 HQ1 HQ2 HQ3 HQ4
      go_wp2_with fail
      refine (old_plus b (mt + 1) _ a0' a1' w.heap.size 0 w1.heap.size 0 n0 n0 n1 n1 mt Kt Vt r n w10 hT10 HP.out h0' h1' s0 s1 mt0 mt1 q0 q1 HK0.out kr).mono ?_
      rintro e w11 ⟨rfl, q, rfl⟩
      clear q0 q1 hT10 c1
      have hq1 : ∀ (w : World) (r : Option Nat), (binOp .eql 41 (.map r) (.map none)).run Try.prog w = .ok (.bool r.isNone) w := fun w r => run_eql_map_nil w _ _ _ r Try.underlying41
      have hq2 : ∀ w a n c, (binOp .eql 38 (.slice a n c) (.slice none 0 0)).run Try.prog w = .ok (.bool a.isNone) w := fun w a n c => Lib.run_eql_slice_nil w _ _ a n c 0 0 Try.underlying38
      cases a2' with
      | none =>
        obtain rfl : oc = none := Option.isNone_iff_eq_none.1 HOC.out
        go_wp2
        go_ret
        exact ⟨rfl, bdrew HB10.out q⟩
      | some x2 =>
        obtain ⟨B, rfl⟩ : ∃ B, oc = some B := by
          cases oc with
          | none => exact absurd HOC.out (by simp)
          | some B => exact ⟨B, rfl⟩
        have HO := sok_old Nm K V ms N' HNI.out sc r n
        have HOk : Hid (SOk (Met (fun _ => true) N' ms) (bT Nm K V ms) (Pl.cnt (Pl.lastB (fun _ => true) N' ms) ms) Nm K V ms false sc r n) := HO
        clear HO
        go_wp2_with fail
        refine (scopes_are B (some x2) a3' a4' w2.heap.size 0 w3.heap.size 0 w4.heap.size 0 n2 n2 n3 n3 n4 n4 ms Nm K V false sc r n (w10.drewN q) (HS10.out.drewN q) HOk.out h2' h3' h4' s2 s3 s4 ms2 ms3 ms4 (fun j hj => HQ2'.out j hj) (fun j hj => HQ3'.out j hj) (fun j hj => HQ4'.out j hj) HS2.out HK3.out HSc.out kr).mono ?_
        rintro e w12 ⟨rfl, bel12⟩
        go_wp2
        go_ret
        exact ⟨rfl, (bdrew HB10.out q).trans (bel12.mono HB10.out.size)⟩
    · obtain ⟨y, hy⟩ := at_pairs (bT Nm K V ms (N' ms)) r
      have esz9 : (w8.alloc (.cells #[.map oc] 41)).heap.size = w8.heap.size + 1 := by simp
      have hbx := (box_new (w8.alloc (.cells #[.map oc] 41)) (.string sc) 9).1
      rw [esz9, ← HNM.out] at hbx
      have hT0 : ¬ Met (fun _ => true) N' ms (N' ms) → bT Nm K V ms (N' ms) = [] := fun hno => bT_none Nm K V ms (fun ⟨i, hi, hs, e⟩ => hno ⟨i, hi, rfl, by rw [HNI.out i hi]; exact e⟩)
      have bel9' : Below w6.heap.size w6 ((w8.alloc (.cells #[.map oc] 41)).alloc (.cells #[.string sc] 9)) := HB9.out.alloc HB9.out.size _
      have HC := zaddRec_some (x := x0) (y := y) (psc := w8.heap.size + 1) (HRc.out.alloc (.cells #[.string (N' ms)] 9)) (by unfold maxLen; omega) (by unfold maxLen; omega) kr kn HX0.out rfl (by rw [HNM.out]; exact HSc.out) hT0 hy hbx
      rw [HNM.out] at HC hy
      have HCh : Hid (Calls Try.prog 24 _ ((w8.alloc (.cells #[.map oc] 41)).alloc (.cells #[.string sc] 9)) _) := HC
      have HY : Hid ((r, y) ∈ bT Nm K V ms sc ∨ (y = 0 ∧ ¬ ∃ p ∈ bT Nm K V ms sc, p.1 = r)) := hy
      have HB9' : Hid (Below w6.heap.size w6 ((w8.alloc (.cells #[.map oc] 41)).alloc (.cells #[.string sc] 9))) := bel9'
      clear HC hy hT0 hbx esz9 bel9'
      go_wp2_with fail
      refine HCh.out.mono ?_
      rintro e w10 ⟨rfl, ⟨b, B, β', hR10⟩, bel10⟩
      clear HCh
      have c1 := hR10.ct
      have c2 := hR10.cc
      have hT10 : Tal w10 b (mt + 1) (((Pl.mk (fun _ => true) Kt mt (Pl.lw (fun _ => true) Kt Vt 0 mt)).filter fun p => decide (p.1 ≠ r)) ++ [(r, wrap64 (x0 + n))]) := by
        rcases hR10.tot with ⟨e, _⟩ | ⟨b', e, h⟩
        · cases e
        · cases e; exact h
      have q0 := later_lo bel10 l0 (later HB9'.out HQ0.out)
      have q1 := later_lo bel10 l1 (later HB9'.out HQ1.out)
      have HQ2' : Hid (∀ j, j < n2 → w10.cell? ⟨w2.heap.size, 0 + j, none⟩ = some (.string (Nm j))) := later_lo bel10 l2 (later HB9'.out HQ2.out)
      have HQ3' : Hid (∀ j, j < n3 → w10.cell? ⟨w3.heap.size, 0 + j, none⟩ = some (.int .i64 (K j))) := later_lo bel10 l3 (later HB9'.out HQ3.out)
      have HQ4' : Hid (∀ j, j < n4 → w10.cell? ⟨w4.heap.size, 0 + j, none⟩ = some (.int .i64 (V j))) := later_lo bel10 l4 (later HB9'.out HQ4.out)
      have HB10 : Hid (Below w.heap.size w w10) := ((HB5.out.trans (HB6.out.mono HB5.out.size)).trans ((HB9'.out).mono (Nat.le_trans HB5.out.size HB6.out.size))).trans (bel10.mono HB5.out.size)
      have HS10 : Hid (Scp w10 w5.heap.size (some B) (2 * ms + 2) (fun _ => true) N' (ms + 1) β' (fun z => if z = sc then ((bT Nm K V ms sc).filter fun p => decide (p.1 ≠ r)) ++ [(r, wrap64 (y + n))] else bT Nm K V ms z)) := hR10.scp
      clear hR10 bel10 HQ0 HQ1 HQ2 HQ3 HQ4
      go_wp2_with fail
      refine (old_plus b (mt + 1) _ a0' a1' w.heap.size 0 w1.heap.size 0 n0 n0 n1 n1 mt Kt Vt r n w10 hT10 HP.out h0' h1' s0 s1 mt0 mt1 q0 q1 HK0.out kr).mono ?_
      rintro e w11 ⟨rfl, q, rfl⟩
      clear q0 q1 hT10 c1
      have HOk : Hid (SOk (Met (fun _ => true) N' (ms + 1)) (fun z => if z = sc then ((bT Nm K V ms sc).filter fun p => decide (p.1 ≠ r)) ++ [(r, wrap64 (y + n))] else bT Nm K V ms z) (Pl.cnt (Pl.lastB (fun _ => true) N' (ms + 1)) (ms + 1)) Nm K V ms true sc r n) := sok_new Nm K V ms N' sc HNI.out HNM.out r n y kn HY.out
      go_wp2_with fail
      refine (scopes_are B a2' a3' a4' w2.heap.size 0 w3.heap.size 0 w4.heap.size 0 n2 n2 n3 n3 n4 n4 ms Nm K V true sc r n (w10.drewN q) (HS10.out.drewN q) HOk.out h2' h3' h4' s2 s3 s4 ms2 ms3 ms4 (fun j hj => HQ2'.out j hj) (fun j hj => HQ3'.out j hj) (fun j hj => HQ4'.out j hj) HS2.out HK3.out HSc.out kr).mono ?_
      rintro e w12 ⟨rfl, bel12⟩
      go_wp2
      go_ret
      exact ⟨rfl, (bdrew HB10.out q).trans (bel12.mono HB10.out.size)⟩

end Go.Proofs.Qxb6603978a
