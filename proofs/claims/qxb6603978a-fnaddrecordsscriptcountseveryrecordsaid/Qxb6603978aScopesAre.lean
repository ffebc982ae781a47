/-
  zzScopesAre: its contract.
-/
import Derived.Test.Qxb6603978aRecs
namespace Go.Proofs.Qxb6603978a
open Go.RowKit Go.Maps
set_option linter.unusedVariables false
set_option linter.unusedSimpArgs false

/-- No later pair below m is pair i. -/
def lpB (Nm : Nat → ByteArray) (K : Nat → Int) (m i : Nat) : Bool := Pl.lastB (fun _ => true) (fun j => (Nm j, K j)) m i

/-- WHAT zzScopesAre ASKS. -/
structure SOk (M : ByteArray → Prop) (T : ByteArray → List (Int × Int)) (cn : Nat) (Nm : Nat → ByteArray) (K V : Nat → Int) (m : Nat) (add : Bool) (sc : ByteArray) (r n : Int) : Prop where
  met : ∀ i, i < m → M (Nm i)
  plus : ∀ i, i < m → lpB Nm K m i = true → add = true → Nm i = sc → K i = r → (K i, wrap64 (V i + n)) ∈ T (Nm i)
  old : ∀ i, i < m → lpB Nm K m i = true → ¬ (add = true ∧ Nm i = sc ∧ K i = r) → (K i, V i) ∈ T (Nm i)
  len : ∀ i, i < m → ((T (Nm i)).length : Int) = (Pl.cnt (fun j => lpB Nm K m j && decide (Nm j = Nm i)) m : Nat) + if (add = true ∧ Nm i = sc ∧ ¬ ∃ j, j < m ∧ Nm j = sc ∧ K j = r) then 1 else 0
  new : add = true → (¬ ∃ j, j < m ∧ Nm j = sc ∧ K j = r) → M sc ∧ (r, n) ∈ T sc
  one : add = true → (¬ ∃ j, j < m ∧ Nm j = sc) → M sc ∧ (T sc).length = 1
  size : (cn : Int) = (Pl.cnt (Pl.lastB (fun _ => true) Nm m) m : Nat) + if (add = true ∧ ¬ ∃ j, j < m ∧ Nm j = sc) then 1 else 0

theorem Scp.below {w w' : World} {lo n k : Nat} {oc : Option Nat} {S : Nat → Bool} {Nm : Nat → ByteArray} {β : ByteArray → Nat} {T : ByteArray → List (Int × Int)} (h : Scp w lo oc n S Nm k β T) (hb : Below w.heap.size w w') : Scp w' lo oc n S Nm k β T :=
  h.kept (grown_none hb) (.inl rfl) (fun _ _ _ e => by cases e)

theorem Scp.tal {w : World} {lo n k : Nat} {oc : Option Nat} {S : Nat → Bool} {Nm : Nat → ByteArray} {β : ByteArray → Nat} {T : ByteArray → List (Int × Int)} {s : ByteArray} (h : Scp w lo oc n S Nm k β T) (hm : Met S Nm k s) : Tal w (β s) n (T s) := by
  obtain ⟨i, hi, hs, rfl⟩ := hm
  exact (h.inn i hi hs).2.2

theorem ex_succ_no {P : Nat → Prop} {k : Nat} (h : ¬ P k) : (∃ j, j < k + 1 ∧ P j) ↔ ∃ j, j < k ∧ P j := by
  constructor
  · rintro ⟨j, hj, hp⟩
    by_cases e : j = k
    · subst e; exact absurd hp h
    · exact ⟨j, by omega, hp⟩
  · rintro ⟨j, hj, hp⟩; exact ⟨j, by omega, hp⟩

set_option maxRecDepth 1000000 in
set_option maxHeartbeats 4000000 in
theorem scopes_are {lo N kx : Nat} {Sx : Nat → Bool} {Nx : Nat → ByteArray} {β : ByteArray → Nat} {T : ByteArray → List (Int × Int)} (B : Nat) (a0 a1 a2 : Option Addr) (b0 o0 b1 o1 b2 o2 n0 c0 n1 c1 n2 c2 m : Nat) (Nm : Nat → ByteArray) (K V : Nat → Int) (add : Bool) (sc : ByteArray) (r n : Int) (w : World)
    (hS : Scp w lo (some B) N Sx Nx kx β T) (hO : SOk (Met Sx Nx kx) T (Pl.cnt (Pl.lastB Sx Nx kx) kx) Nm K V m add sc r n)
    (h0 : 0 < n0 → a0 = some ⟨b0, o0, none⟩) (h1 : 0 < n1 → a1 = some ⟨b1, o1, none⟩) (h2 : 0 < n2 → a2 = some ⟨b2, o2, none⟩) (hn0 : n0 ≤ 4096) (hn1 : n1 ≤ 4096) (hn2 : n2 ≤ 4096) (hm0 : m ≤ n0) (hm1 : m ≤ n1) (hm2 : m ≤ n2)
    (g0 : ∀ j, j < n0 → w.cell? ⟨b0, o0 + j, none⟩ = some (.string (Nm j))) (g1 : ∀ j, j < n1 → w.cell? ⟨b1, o1 + j, none⟩ = some (.int .i64 (K j))) (g2 : ∀ j, j < n2 → w.cell? ⟨b2, o2 + j, none⟩ = some (.int .i64 (V j)))
    (k0 : ∀ j, (Nm j).size ≤ maxLen) (k1 : ∀ j, (Lit.int .i64 (K j)).wf = true) (ks : sc.size ≤ maxLen) (kr : (Lit.int .i64 r).wf = true) :
    Calls Try.prog 25 #[.map (some B), .slice a0 n0 c0, .slice a1 n1 c1, .slice a2 n2 c2, .int .i64 m, .bool add, .string sc, .int .i64 r, .int .i64 n] w fun e w' => e = .returned (.bool true) ∧ Below w.heap.size w w' := by
  have hq : ∀ (w : World) (r : Option Nat), (binOp .eql 41 (.map r) (.map none)).run Try.prog w = .ok (.bool r.isNone) w := fun w r => run_eql_map_nil w _ _ _ r Try.underlying41
  have hmk := run_make_row' (P := Try.prog) 48 4 (.bool false) 1 Try.underlying48 info4 rfl .i64 .i64 m (by omega) (by omega)
  have HS : Hid (Scp w lo (some B) N Sx Nx kx β T) := hS
  have HO : Hid (SOk (Met Sx Nx kx) T (Pl.cnt (Pl.lastB Sx Nx kx) kx) Nm K V m add sc r n) := hO
  clear hS hO
  go_enter Try.func25, Try.ntmps25
  go_wp2
  clear hq hmk
  go_loopw [20, 21, 22] (fun p q v wr => ∃ k : Nat, k ≤ m ∧ v = .int .i64 k ∧ p = .bool (decide (∃ j, j < k ∧ Nm j = sc ∧ K j = r)) ∧ q = .bool (decide (∃ j, j < k ∧ Nm j = sc)) ∧ wr.rowIs w.heap.size 4 m (fun j => if j < k then .bool (lpB Nm K m j) else .bool false) ∧ Below w.heap.size w wr) (fun _ _ v _ => m - (intOf v).toNat)
  case atStart => exact ⟨0, Nat.zero_le _, rfl, by simp, by simp, (World.rowIs_made w _ m 4).congr (fun j _ => by simp), (Below.refl _ _).alloc (Nat.le_refl _) _⟩
  case round =>
    obtain ⟨k, hk, rfl, rfl, rfl, hrow, hbel⟩ := hrel
    have HR : Hid (wr.rowIs w.heap.size 4 m (fun j => if j < k then .bool (lpB Nm K m j) else .bool false)) := hrow
    by_cases hlt : k < m
    · obtain rfl := h0 (by omega)
      obtain rfl := h1 (by omega)
      have hb0 : b0 < w.heap.size := World.block_lt_of_cell? _ _ (g0 k (by omega))
      have hb1 : b1 < w.heap.size := World.block_lt_of_cell? _ _ (g1 k (by omega))
      have e0 : ∀ j, j < n0 → wr.cell? ⟨b0, o0 + j, none⟩ = some (.string (Nm j)) := fun j hj => (hbel.cell (by exact hb0)).trans (g0 j hj)
      have e1 : ∀ j, j < n1 → wr.cell? ⟨b1, o1 + j, none⟩ = some (.int .i64 (K j)) := fun j hj => (hbel.cell (by exact hb1)).trans (g1 j hj)
      have i0 : (k : Int) < (n0 : Int) := by omega
      have i1 : (k : Int) < (n1 : Int) := by omega
      have i3 : (k : Int) < (m : Int) := by omega
      have q1 : ∃ v, wr.cell? ⟨w.heap.size, k, none⟩ = some v := ⟨_, hrow.cell hlt⟩
      obtain ⟨v1, q1⟩ := q1
      have q2 := hrow.frozen k
      clear hrow h0 h1 h2 g0 g1 g2 k0 k1
      have HC : Hid (Calls Try.prog 33 #[.slice (some ⟨b0, o0, none⟩) n0 c0, .slice (some ⟨b1, o1, none⟩) n1 c1, .int .i64 k, .int .i64 m] wr fun e w' => e = .returned (.bool (lpB Nm K m k)) ∧ ∃ q, w' = wr.drewN q) := last33 b0 o0 n0 c0 Nm b1 o1 n1 c1 K k m wr hlt hm0 hn0 e0 hm1 hn1 e1
      have f0 := e0 k (by omega)
      have f1 := e1 k (by omega)
      have HB : Hid (Below w.heap.size w wr) := hbel
      clear e0 e1 hbel
      go_wp2_with fail
      refine HC.out.mono ?_
      rintro e w4 ⟨rfl, q, rfl⟩
      clear HC
      have HR' : Hid (((wr.drewN q).setCell ⟨w.heap.size, k, none⟩ (.bool (lpB Nm K m k))).rowIs w.heap.size 4 m (fun j => if j < k + 1 then .bool (lpB Nm K m j) else .bool false)) :=
        ((show (wr.drewN q).rowIs w.heap.size 4 m _ from HR.out).set k _).congr (fun j _ => fill_step (fun j => .bool (lpB Nm K m j)) _ k j)
      have HB' : Hid (Below w.heap.size w ((wr.drewN q).setCell ⟨w.heap.size, k, none⟩ (.bool (lpB Nm K m k)))) := (bdrew HB.out q).setCell (Nat.le_refl _) _
      clear HR HB
      by_cases he : Nm k = sc
      · have hb := streq_t he
        by_cases he2 : K k = r
        · have hb2 : (K k == r) = true := by simp [he2]
          have HP : Hid (decide (∃ j, j < k + 1 ∧ Nm j = sc ∧ K j = r) = true) := decide_eq_true ⟨k, by omega, he, he2⟩
          have HQ : Hid (decide (∃ j, j < k + 1 ∧ Nm j = sc) = true) := decide_eq_true ⟨k, by omega, he⟩
          clear he he2
          go_wp2
          go_roundw
          case rel => exact ⟨k + 1, by omega, by go_num, by rw [HP.out], by rw [HQ.out], HR'.out, HB'.out⟩
          case measure => simp [intOf]; omega
        · have hb2 : (K k == r) = false := by simp [he2]
          have HP : Hid ((∃ j, j < k + 1 ∧ Nm j = sc ∧ K j = r) ↔ ∃ j, j < k ∧ Nm j = sc ∧ K j = r) := ex_succ_no (P := fun j => Nm j = sc ∧ K j = r) (fun h => he2 h.2)
          have HQ : Hid (decide (∃ j, j < k + 1 ∧ Nm j = sc) = true) := decide_eq_true ⟨k, by omega, he⟩
          clear he he2
          go_wp2
          go_roundw
          case rel => exact ⟨k + 1, by omega, by go_num, by simp only [HP.out], by rw [HQ.out], HR'.out, HB'.out⟩
          case measure => simp [intOf]; omega
      · have hb := streq_f he
        have HP : Hid ((∃ j, j < k + 1 ∧ Nm j = sc ∧ K j = r) ↔ ∃ j, j < k ∧ Nm j = sc ∧ K j = r) := ex_succ_no (P := fun j => Nm j = sc ∧ K j = r) (fun h => he h.1)
        have HQ : Hid ((∃ j, j < k + 1 ∧ Nm j = sc) ↔ ∃ j, j < k ∧ Nm j = sc) := ex_succ_no (P := fun j => Nm j = sc) he
        clear he
        go_wp2
        go_roundw
        case rel => exact ⟨k + 1, by omega, by go_num, by simp only [HP.out], by simp only [HQ.out], HR'.out, HB'.out⟩
        case measure => simp [intOf]; omega
    · have hkm : k = m := by omega
      subst hkm
      have g3 : ∀ j, j < k → wr.cell? ⟨w.heap.size, j, none⟩ = some (.bool (lpB Nm K k j)) := fun j hj => by rw [hrow.cell hj]; simp [hj]
      have e0 : ∀ j, j < n0 → wr.cell? ⟨b0, o0 + j, none⟩ = some (.string (Nm j)) := fun j hj => (hbel.cell (by exact World.block_lt_of_cell? _ _ (g0 j hj))).trans (g0 j hj)
      have e1 : ∀ j, j < n1 → wr.cell? ⟨b1, o1 + j, none⟩ = some (.int .i64 (K j)) := fun j hj => (hbel.cell (by exact World.block_lt_of_cell? _ _ (g1 j hj))).trans (g1 j hj)
      have e2 : ∀ j, j < n2 → wr.cell? ⟨b2, o2 + j, none⟩ = some (.int .i64 (V j)) := fun j hj => (hbel.cell (by exact World.block_lt_of_cell? _ _ (g2 j hj))).trans (g2 j hj)
      have HS1 : Hid (Scp wr lo (some B) N Sx Nx kx β T) := HS.out.below hbel
      have HB : Hid (Below w.heap.size w wr) := hbel
      have HK0 : Hid (∀ j, (Nm j).size ≤ maxLen) := k0
      have HK1 : Hid (∀ j, (Lit.int .i64 (K j)).wf = true) := k1
      clear hrow HR g0 g1 g2 hbel HS k0 k1 hlt hk
      generalize hpI : decide (∃ j, j < k ∧ Nm j = sc ∧ K j = r) = pI
      generalize hnI : decide (∃ j, j < k ∧ Nm j = sc) = nI
      have HPI : Hid (decide (∃ j, j < k ∧ Nm j = sc ∧ K j = r) = pI) := hpI
      have HNI : Hid (decide (∃ j, j < k ∧ Nm j = sc) = nI) := hnI
      clear hpI hnI
      go_wp2
      go_loopw [23] (fun v wx => ∃ i : Nat, i ≤ k ∧ v = .int .i64 i ∧ ∃ q, wx = wr.drewN q) (fun v _ => k - (intOf v).toNat)
      case atStart => exact ⟨0, Nat.zero_le _, rfl, 0, rfl⟩
      case round =>
        obtain ⟨i, hi, rfl, q, rfl⟩ := hrel
        by_cases hik : i < k
        · obtain rfl := h0 (by omega)
          obtain rfl := h1 (by omega)
          obtain rfl := h2 (by omega)
          have f0 := e0 i (by omega)
          have f1 := e1 i (by omega)
          have f2 := e2 i (by omega)
          have f3 := g3 i (by omega)
          have i0 : (i : Int) < (n0 : Int) := by omega
          have i1 : (i : Int) < (n1 : Int) := by omega
          have i2 : (i : Int) < (n2 : Int) := by omega
          have i3 : (i : Int) < (k : Int) := by omega
          clear e0 e1 e2 g3 h0 h1 h2
          cases hl : lpB Nm K k i
          · rw [hl] at f3
            clear hl
            go_wp2
            go_roundw
            case rel => exact ⟨i + 1, by omega, by go_num, _, rfl⟩
            case measure => simp [intOf]; omega
          · rw [hl] at f3
            have hmet := HO.out.met i hik
            have hL1 := Scp.look (w := wr.drewN q) (HS1.out.drewN q) (HK0.out i) hmet true
            have hT1 := Scp.tal (w := wr.drewN q) (HS1.out.drewN q) hmet
            by_cases hcase : add = true ∧ Nm i = sc ∧ K i = r
            · have hL2 := (hT1.look (HK1.out i) (HO.out.plus i hik hl hcase.1 hcase.2.1 hcase.2.2) true).1
              obtain ⟨rfl, hc2, hc3⟩ := hcase
              have hb := streq_t hc2
              have hb2 : (K i == r) = true := by simp [hc3]
              clear hc2 hc3 hl hT1 hmet
              go_wp2
              go_roundw
              case rel => exact ⟨i + 1, by omega, by go_num, _, rfl⟩
              case measure => simp [intOf]; omega
            · have hL2 := (hT1.look (HK1.out i) (HO.out.old i hik hl hcase) true).1
              cases add
              · clear hcase hl hT1 hmet
                go_wp2
                go_roundw
                case rel => exact ⟨i + 1, by omega, by go_num, _, rfl⟩
                case measure => simp [intOf]; omega
              · by_cases he : Nm i = sc
                · have hb := streq_t he
                  have hb2 : (K i == r) = false := beq_eq_false_iff_ne.2 (fun e => hcase ⟨rfl, he, e⟩)
                  clear he hcase hl hT1 hmet
                  go_wp2
                  go_roundw
                  case rel => exact ⟨i + 1, by omega, by go_num, _, rfl⟩
                  case measure => simp [intOf]; omega
                · have hb := streq_f he
                  clear he hcase hl hT1 hmet
                  go_wp2
                  go_roundw
                  case rel => exact ⟨i + 1, by omega, by go_num, _, rfl⟩
                  case measure => simp [intOf]; omega
        · go_wp2
          clear hi hik
          go_loopw [29, 30] (fun d v wx => ∃ i : Nat, i ≤ k ∧ v = .int .i64 i ∧ d = .int .i64 (Pl.cnt (Pl.lastB (fun _ => true) Nm k) i : Nat) ∧ ∃ q, wx = wr.drewN q) (fun _ v _ => k - (intOf v).toNat)
          case atStart => exact ⟨0, Nat.zero_le _, rfl, rfl, _, rfl⟩
          case round =>
            obtain ⟨i, hi, rfl, rfl, q, rfl⟩ := hrel
            have hcl := Pl.cnt_le (Pl.lastB (fun _ => true) Nm k) i
            by_cases hik : i < k
            · obtain rfl := h0 (by omega)
              obtain rfl := h1 (by omega)
              obtain rfl := h2 (by omega)
              have i0 : (i : Int) < (n0 : Int) := by omega
              have f0 := e0 i (by omega)
              have HN : Hid (Pl.cnt (Pl.lastB (fun _ => true) Nm k) (i + 1) = Pl.cnt (Pl.lastB (fun _ => true) Nm k) i + if Pl.lastB (fun _ => true) Nm k i then 1 else 0) := rfl
              have HC : Hid (Calls Try.prog 34 #[.slice (some ⟨b0, o0, none⟩) n0 c0, .int .i64 i, .int .i64 k] (wr.drewN q) fun e w' => e = .returned (.bool (Pl.lastB (fun _ => true) Nm k i)) ∧ ∃ q', w' = (wr.drewN q).drewN q') := last34 b0 o0 n0 c0 Nm i k (wr.drewN q) hik hm0 hn0 (fun j hj => e0 j hj)
              clear h0 h1 h2
              go_wp2_with fail
              refine HC.out.mono ?_
              rintro e w4 ⟨rfl, q', rfl⟩
              clear HC
              cases hl : Pl.lastB (fun _ => true) Nm k i
              · rw [hl] at HN
                clear hl e0 e1 e2 g3
                go_wp2
                go_roundw
                case rel => exact ⟨i + 1, by omega, by go_num, by rw [HN.out]; simp, _, rfl⟩
                case measure => simp [intOf]; omega
              · rw [hl] at HN
                clear hl
                have HE0 : Hid (∀ j, j < n0 → wr.cell? ⟨b0, o0 + j, none⟩ = some (.string (Nm j))) := e0
                have HG3 : Hid (∀ j, j < k → wr.cell? ⟨w.heap.size, j, none⟩ = some (.bool (lpB Nm K k j))) := g3
                clear e0 e1 e2 g3
                go_wp2
                go_loopw [31, 32] (fun c v wx => ∃ j : Nat, j ≤ k ∧ v = .int .i64 j ∧ c = .int .i64 (Pl.cnt (fun j => lpB Nm K k j && decide (Nm j = Nm i)) j : Nat) ∧ ∃ q, wx = wr.drewN q) (fun _ v _ => k - (intOf v).toNat)
                case atStart => exact ⟨0, Nat.zero_le _, rfl, rfl, _, rfl⟩
                case round =>
                  obtain ⟨j, hj, rfl, rfl, q2, rfl⟩ := hrel
                  have hcl2 := Pl.cnt_le (fun j => lpB Nm K k j && decide (Nm j = Nm i)) j
                  by_cases hjk : j < k
                  · have f4 := HE0.out j (by omega)
                    have f5 := HG3.out j hjk
                    have i4 : (j : Int) < (n0 : Int) := by omega
                    have i5 : (j : Int) < (k : Int) := by omega
                    have HN2 : Hid (Pl.cnt (fun j => lpB Nm K k j && decide (Nm j = Nm i)) (j + 1) = Pl.cnt (fun j => lpB Nm K k j && decide (Nm j = Nm i)) j + if (lpB Nm K k j && decide (Nm j = Nm i)) then 1 else 0) := rfl
                    cases hlj : lpB Nm K k j
                    · rw [hlj] at f5 HN2
                      clear hlj
                      go_wp2
                      go_quiet (fail)
                      go_wp2
                      go_roundw
                      case rel => exact ⟨j + 1, by omega, by go_num, by rw [HN2.out]; simp, _, rfl⟩
                      case measure => simp [intOf]; omega
                    · rw [hlj] at f5 HN2
                      clear hlj
                      by_cases he : Nm j = Nm i
                      · have hb := streq_t he
                        rw [decide_eq_true he] at HN2
                        clear he
                        go_wp2
                        go_quiet (fail)
                        go_wp2
                        go_roundw
                        case rel => exact ⟨j + 1, by omega, by go_num, by rw [HN2.out]; simp, _, rfl⟩
                        case measure => simp [intOf]; omega
                      · have hb := streq_f he
                        rw [decide_eq_false he] at HN2
                        clear he
                        go_wp2
                        go_quiet (fail)
                        go_wp2
                        go_roundw
                        case rel => exact ⟨j + 1, by omega, by go_num, by rw [HN2.out]; simp, _, rfl⟩
                        case measure => simp [intOf]; omega
                  · have hjk' : j = k := by omega
                    subst hjk'
                    have hmet := HO.out.met i hik
                    have hL1 := Scp.look (w := wr.drewN q2) (HS1.out.drewN q2) (HK0.out i) hmet false
                    have hT1 := Scp.tal (w := wr.drewN q2) (HS1.out.drewN q2) hmet
                    have hlen := HO.out.len i hik
                    have HLn : Hid (((T (Nm i)).length : Int) = (Pl.cnt (fun x => lpB Nm K j x && decide (Nm x = Nm i)) j : Nat) + if (add = true ∧ Nm i = sc ∧ ¬ ∃ x, x < j ∧ Nm x = sc ∧ K x = r) then 1 else 0) := hlen
                    clear hlen hmet
                    cases add
                    · have HL : Hid (((T (Nm i)).length : Int) = (Pl.cnt (fun x => lpB Nm K j x && decide (Nm x = Nm i)) j : Nat)) := by
                        have := HLn.out
                        rw [if_neg (fun h => (by cases h.1)), Int.add_zero] at this
                        exact this
                      clear HLn
                      go_wp2_with (at_len; refine wpList_len_tal _ rfl _ rfl (β (Nm i)) N (T (Nm i)) rfl hT1 ?_; rw [HL.out])
                      go_roundw
                      case rel => exact ⟨i + 1, by omega, by go_num, by rw [HN.out]; simp, _, rfl⟩
                      case measure => simp [intOf]; omega
                    by_cases he : Nm i = sc
                    case neg =>
                      have HL : Hid (((T (Nm i)).length : Int) = (Pl.cnt (fun x => lpB Nm K j x && decide (Nm x = Nm i)) j : Nat)) := by
                        have := HLn.out
                        rw [if_neg (fun h => he h.2.1), Int.add_zero] at this
                        exact this
                      have hb := streq_f he
                      clear HLn he
                      go_wp2_with (at_len; refine wpList_len_tal _ rfl _ rfl (β (Nm i)) N (T (Nm i)) rfl hT1 ?_; rw [HL.out])
                      go_roundw
                      case rel => exact ⟨i + 1, by omega, by go_num, by rw [HN.out]; simp, _, rfl⟩
                      case measure => simp [intOf]; omega
                    have hb := streq_t he
                    cases pI
                    · have HL : Hid (((T (Nm i)).length : Int) = (Pl.cnt (fun x => lpB Nm K j x && decide (Nm x = Nm i)) j : Nat) + 1) := by
                        have := HLn.out
                        rw [if_pos ⟨rfl, he, of_decide_eq_false HPI.out⟩] at this
                        exact this
                      clear HLn he
                      go_wp2_with (at_len; refine wpList_len_tal _ rfl _ rfl (β (Nm i)) N (T (Nm i)) rfl hT1 ?_; rw [HL.out])
                      go_roundw
                      case rel => exact ⟨i + 1, by omega, by go_num, by rw [HN.out]; simp, _, rfl⟩
                      case measure => simp [intOf]; omega
                    · have HL : Hid (((T (Nm i)).length : Int) = (Pl.cnt (fun x => lpB Nm K j x && decide (Nm x = Nm i)) j : Nat)) := by
                        have := HLn.out
                        rw [if_neg (fun h => h.2.2 (of_decide_eq_true HPI.out)), Int.add_zero] at this
                        exact this
                      clear HLn he
                      go_wp2_with (at_len; refine wpList_len_tal _ rfl _ rfl (β (Nm i)) N (T (Nm i)) rfl hT1 ?_; rw [HL.out])
                      go_roundw
                      case rel => exact ⟨i + 1, by omega, by go_num, by rw [HN.out]; simp, _, rfl⟩
                      case measure => simp [intOf]; omega
            · have hik' : i = k := by omega
              subst hik'
              clear h0 h1 h2 e0 e1 e2 g3 hi hik
              have HSq := HS1.out.drewN q
              have HSz : Hid ((Pl.cnt (Pl.lastB Sx Nx kx) kx : Int) = (Pl.cnt (Pl.lastB (fun _ => true) Nm i) i : Nat) + if (add = true ∧ ¬ ∃ x, x < i ∧ Nm x = sc) then 1 else 0) := HO.out.size
              cases add
              · have HZ : Hid ((Pl.cnt (Pl.lastB Sx Nx kx) kx : Int) = (Pl.cnt (Pl.lastB (fun _ => true) Nm i) i : Nat)) := by
                  have := HSz.out
                  rw [if_neg (fun h => (by cases h.1)), Int.add_zero] at this
                  exact this
                clear HSz
                go_wp2_with (at_len; refine wpList_len_scp _ rfl _ rfl B rfl HSq ?_; rw [HZ.out])
                go_ret
                exact ⟨ret_bool (by simp), bdrew HB.out q⟩
              cases pI
              case true =>
                have hnI : nI = true := by
                  obtain ⟨x, hx, hx2, _⟩ := of_decide_eq_true HPI.out
                  rw [← HNI.out]
                  exact decide_eq_true ⟨x, hx, hx2⟩
                have HZ : Hid ((Pl.cnt (Pl.lastB Sx Nx kx) kx : Int) = (Pl.cnt (Pl.lastB (fun _ => true) Nm i) i : Nat)) := by
                  have := HSz.out
                  rw [if_neg (fun h => h.2 (of_decide_eq_true (HNI.out.trans hnI))), Int.add_zero] at this
                  exact this
                subst hnI
                clear HSz
                go_wp2_with (at_len; refine wpList_len_scp _ rfl _ rfl B rfl HSq ?_; rw [HZ.out])
                go_ret
                exact ⟨ret_bool (by simp), bdrew HB.out q⟩
              obtain ⟨hmet, hnew⟩ := HO.out.new rfl (of_decide_eq_false HPI.out)
              have hL1 := Scp.look (w := wr.drewN q) HSq ks hmet true
              have hT1 := Scp.tal (w := wr.drewN q) HSq hmet
              have hL2 := (hT1.look kr hnew true).1
              have hL3 := Scp.look (w := wr.drewN q) HSq ks hmet false
              clear hnew hmet
              cases nI
              · have HZ : Hid ((Pl.cnt (Pl.lastB Sx Nx kx) kx : Int) = (Pl.cnt (Pl.lastB (fun _ => true) Nm i) i : Nat) + 1) := by
                  have := HSz.out
                  rw [if_pos ⟨rfl, of_decide_eq_false HNI.out⟩] at this
                  exact this
                have HL : Hid (((T sc).length : Int) = 1) := by
                  show _ = _
                  rw [(HO.out.one rfl (of_decide_eq_false HNI.out)).2]
                  rfl
                clear HSz
                go_wp2_with (first
                  | (at_len; refine wpList_len_scp _ rfl _ rfl B rfl HSq ?_; rw [HZ.out])
                  | (at_len; refine wpList_len_tal _ rfl _ rfl (β sc) N (T sc) rfl hT1 ?_; rw [HL.out]))
                go_ret
                exact ⟨ret_bool (by simp), bdrew HB.out q⟩
              · have HZ : Hid ((Pl.cnt (Pl.lastB Sx Nx kx) kx : Int) = (Pl.cnt (Pl.lastB (fun _ => true) Nm i) i : Nat)) := by
                  have := HSz.out
                  rw [if_neg (fun h => h.2 (of_decide_eq_true HNI.out)), Int.add_zero] at this
                  exact this
                clear HSz
                go_wp2_with (at_len; refine wpList_len_scp _ rfl _ rfl B rfl HSq ?_; rw [HZ.out])
                go_ret
                exact ⟨ret_bool (by simp), bdrew HB.out q⟩

end Go.Proofs.Qxb6603978a
