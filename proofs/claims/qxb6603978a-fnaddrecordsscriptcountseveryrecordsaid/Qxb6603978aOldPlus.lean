/-
  zzIsOldPlus: its contract; and the plain law that pays it.
-/
import Derived.Test.Qxb6603978aRowOpen
namespace Go.Proofs.Qxb6603978a
open Go.RowKit Go.Maps
set_option linter.unusedVariables false
set_option linter.unusedSimpArgs false

/-- WHAT zzIsOldPlus ASKS OF THE PAIRS. -/
structure OldPlus (ps : List (Int × Int)) (K V : Nat → Int) (m : Nat) (r n : Int) : Prop where
  old : ∀ i, i < m → Pl.lastB (fun _ => true) K m i = true → K i ≠ r → (K i, V i) ∈ ps
  hit : ∀ i, i < m → Pl.lastB (fun _ => true) K m i = true → K i = r → (K i, wrap64 (V i + n)) ∈ ps
  new : (¬ ∃ j, j < m ∧ K j = r) → (r, n) ∈ ps
  len : (ps.length : Int) = (Pl.cnt (Pl.lastB (fun _ => true) K m) m : Nat) + if (∃ j, j < m ∧ K j = r) then 0 else 1

set_option maxRecDepth 100000 in
set_option maxHeartbeats 1000000 in
theorem old_plus (b N : Nat) (ps : List (Int × Int)) (a0 a1 : Option Addr) (b0 o0 b1 o1 n0 c0 n1 c1 m : Nat) (K V : Nat → Int) (r n : Int) (w : World) (ht : Tal w b N ps) (hP : OldPlus ps K V m r n)
    (h0 : 0 < n0 → a0 = some ⟨b0, o0, none⟩) (h1 : 0 < n1 → a1 = some ⟨b1, o1, none⟩) (hn0 : n0 ≤ 4096) (hn1 : n1 ≤ 4096) (hm0 : m ≤ n0) (hm1 : m ≤ n1)
    (g0 : ∀ j, j < n0 → w.cell? ⟨b0, o0 + j, none⟩ = some (.int .i64 (K j))) (g1 : ∀ j, j < n1 → w.cell? ⟨b1, o1 + j, none⟩ = some (.int .i64 (V j)))
    (k0 : ∀ j, (Lit.int .i64 (K j)).wf = true) (kr : (Lit.int .i64 r).wf = true) :
    Calls Try.prog 18 #[.map (some b), .slice a0 n0 c0, .slice a1 n1 c1, .int .i64 m, .int .i64 r, .int .i64 n] w fun e w' => e = .returned (.bool true) ∧ ∃ q, w' = w.drewN q := by
  have hq : ∀ (w : World) (r : Option Nat), (binOp .eql 29 (.map r) (.map none)).run Try.prog w = .ok (.bool r.isNone) w := fun w r => run_eql_map_nil w _ _ _ r Try.underlying29
  have HP : Hid (OldPlus ps K V m r n) := hP
  clear hP
  go_enter Try.func18, Try.ntmps18
  go_wp2
  clear hq
  go_loopw [13, 14] (fun d v wx => ∃ i : Nat, i ≤ m ∧ v = .int .i64 i ∧ d = .int .i64 (Pl.cnt (Pl.lastB (fun _ => true) K m) i : Nat) ∧ ∃ q, wx = w.drewN q) (fun _ v _ => m - (intOf v).toNat)
  case atStart => exact ⟨0, Nat.zero_le _, rfl, rfl, 0, rfl⟩
  case round =>
    obtain ⟨i, hi, rfl, rfl, q, rfl⟩ := hrel
    have hcl := Pl.cnt_le (Pl.lastB (fun _ => true) K m) i
    by_cases him : i < m
    · obtain rfl := h0 (by omega)
      obtain rfl := h1 (by omega)
      have f0 := g0 i (by omega)
      have f1 := g1 i (by omega)
      have i0 : (i : Int) < (n0 : Int) := by omega
      have i1 : (i : Int) < (n1 : Int) := by omega
      have HN : Hid (Pl.cnt (Pl.lastB (fun _ => true) K m) (i + 1) = Pl.cnt (Pl.lastB (fun _ => true) K m) i + if Pl.lastB (fun _ => true) K m i then 1 else 0) := rfl
      go_wp2_with fail
      refine (last_any b0 o0 n0 c0 K i m (w.drewN q) him hm0 hn0 (fun j hj => g0 j hj)).mono ?_
      rintro e w4 ⟨rfl, q', rfl⟩
      clear h0 h1
      cases hl : Pl.lastB (fun _ => true) K m i
      · rw [hl] at HN
        clear hl g0 g1 k0
        go_wp2
        go_roundw
        case rel => exact ⟨i + 1, by omega, by go_num, by rw [HN.out]; simp, _, rfl⟩
        case measure => simp [intOf]; omega
      · rw [hl] at HN
        by_cases he : K i = r
        · have hb : (K i == r) = true := by simp [he]
          have HL := (Tal.look (w := w.drewN (q + q')) ht (k0 i) (HP.out.hit i him hl he) true).1
          clear he hl g0 g1 k0
          go_wp2
          go_roundw
          case rel => exact ⟨i + 1, by omega, by go_num, by rw [HN.out]; simp, _, rfl⟩
          case measure => simp [intOf]; omega
        · have hb : (K i == r) = false := by simp [he]
          have HL := (Tal.look (w := w.drewN (q + q')) ht (k0 i) (HP.out.old i him hl he) true).1
          clear he hl g0 g1 k0
          go_wp2
          go_roundw
          case rel => exact ⟨i + 1, by omega, by go_num, by rw [HN.out]; simp, _, rfl⟩
          case measure => simp [intOf]; omega
    · have him' : i = m := by omega
      subst him'
      go_wp2_with fail
      refine (has_any a0 b0 o0 n0 c0 K r i (w.drewN q) h0 hm0 hn0 (fun j hj => g0 j hj)).mono ?_
      rintro e w4 ⟨rfl, q', rfl⟩
      clear h0 h1 g0 g1 k0
      by_cases hx : ∃ j, j < i ∧ K j = r
      · have HLn : Hid ((ps.length : Int) = (Pl.cnt (Pl.lastB (fun _ => true) K i) i : Nat)) := by
          have := HP.out.len
          rw [if_pos hx, Int.add_zero] at this
          exact this
        rw [decide_eq_true hx]
        clear hx
        go_wp2_with (at_len; refine wpList_len_tal _ rfl _ rfl b N ps rfl ht ?_; rw [HLn.out])
        go_ret
        exact ⟨ret_bool (by simp), _, rfl⟩
      · have HLn : Hid ((ps.length : Int) = (Pl.cnt (Pl.lastB (fun _ => true) K i) i : Nat) + 1) := by
          have := HP.out.len
          rw [if_neg hx] at this
          exact this
        have HL := (Tal.look (w := w.drewN (q + q')) ht kr (HP.out.new hx) true).1
        rw [decide_eq_false hx]
        clear hx
        go_wp2_with (at_len; refine wpList_len_tal _ rfl _ rfl b N ps rfl ht ?_; rw [HLn.out])
        go_ret
        exact ⟨ret_bool (by simp), _, rfl⟩

/-- THE PLAIN LAW: what an addition at r leaves of the last-wins pairs meets it. -/
theorem oldPlus_added (K V : Nat → Int) (m : Nat) (r n x : Int) (kn : (Lit.int .i64 n).wf = true)
    (hx : (r, x) ∈ Pl.mk (fun _ => true) K m (Pl.lw (fun _ => true) K V 0 m) ∨ (x = 0 ∧ ¬ ∃ p ∈ Pl.mk (fun _ => true) K m (Pl.lw (fun _ => true) K V 0 m), p.1 = r)) :
    OldPlus (((Pl.mk (fun _ => true) K m (Pl.lw (fun _ => true) K V 0 m)).filter fun p => decide (p.1 ≠ r)) ++ [(r, wrap64 (x + n))]) K V m r n := by
  have met : ∀ k, (∃ p ∈ Pl.mk (fun _ => true) K m (Pl.lw (fun _ => true) K V 0 m), p.1 = k) ↔ ∃ j, j < m ∧ K j = k := by
    intro k
    constructor
    · rintro ⟨p, hp, rfl⟩
      obtain ⟨⟨j, hj, _, hk⟩, _⟩ := Pl.mem_mk.1 hp
      exact ⟨j, hj, hk⟩
    · rintro ⟨j, hj, rfl⟩
      exact ⟨(K j, Pl.lw (fun _ => true) K V 0 m (K j)), Pl.mem_mk.2 ⟨⟨j, hj, rfl, rfl⟩, rfl⟩, rfl⟩
  have inPs : ∀ i, i < m → Pl.lastB (fun _ => true) K m i = true → (K i, V i) ∈ Pl.mk (fun _ => true) K m (Pl.lw (fun _ => true) K V 0 m) := fun i hi hl =>
    Pl.mem_mk.2 ⟨⟨i, hi, rfl, rfl⟩, (Pl.lw_last hi hl).symm⟩
  refine ⟨fun i hi hl hne => ?_, fun i hi hl he => ?_, fun hno => ?_, ?_⟩
  · exact List.mem_append.2 (.inl (List.mem_filter.2 ⟨inPs i hi hl, by simpa using hne⟩))
  · have h1 := inPs i hi hl
    have hxe : x = V i := by
      rcases hx with hx | ⟨_, hx⟩
      · rw [he] at h1
        exact Pl.pair_unique Pl.mk_apart hx h1
      · exact absurd ((met r).2 ⟨i, hi, he⟩) hx
    rw [he, ← hxe]
    exact List.mem_append.2 (.inr (by simp))
  · have hx0 : x = 0 := by
      rcases hx with hx | hx
      · exact absurd ((met r).1 ⟨_, hx, rfl⟩) hno
      · exact hx.1
    subst hx0
    rw [Int.zero_add, Pl.wrap_of_wf kn]
    exact List.mem_append.2 (.inr (by simp))
  · rw [← Pl.mk_length_cnt (β := Int) (f := Pl.lw (fun _ => true) K V 0 m)]
    have hlen : ∀ (l : List (Int × Int)), l.Pairwise (fun p q => p.1 ≠ q.1) → ((l.filter fun p => decide (p.1 ≠ r)).length : Int) + (if (∃ p ∈ l, p.1 = r) then 1 else 0) = l.length := by
      intro l
      induction l with
      | nil => simp
      | cons p l ih =>
        intro hp
        obtain ⟨h1, h2⟩ := List.pairwise_cons.1 hp
        have := ih h2
        by_cases e : p.1 = r
        · have hno : ¬ ∃ q ∈ l, q.1 = r := fun ⟨q, hq, hqk⟩ => h1 q hq (e.trans hqk.symm)
          rw [if_neg hno] at this
          rw [if_pos ⟨p, by simp, e⟩]
          simp only [List.filter_cons, e, ne_eq, not_true_eq_false, decide_false, Bool.false_eq_true, if_false, List.length_cons]
          simp only [ne_eq] at this
          omega
        · have hiff : (∃ q ∈ p :: l, q.1 = r) ↔ ∃ q ∈ l, q.1 = r := by
            constructor
            · rintro ⟨q, hq, hqk⟩
              rcases List.mem_cons.1 hq with rfl | hq
              · exact absurd hqk e
              · exact ⟨q, hq, hqk⟩
            · rintro ⟨q, hq, hqk⟩; exact ⟨q, by simp [hq], hqk⟩
          simp only [hiff]
          simp only [List.filter_cons, e, ne_eq, not_false_eq_true, decide_true, if_true, List.length_cons]
          simp only [ne_eq] at this
          omega
    have h2 := hlen _ (Pl.mk_apart (S := fun _ => true) (K := K) (m := m) (f := Pl.lw (fun _ => true) K V 0 m))
    simp only [met] at h2
    rw [List.length_append]
    simp only [List.length_cons, List.length_nil]
    by_cases hh : ∃ j, j < m ∧ K j = r
    · rw [if_pos hh] at h2 ⊢; omega
    · rw [if_neg hh] at h2 ⊢; omega

end Go.Proofs.Qxb6603978a
