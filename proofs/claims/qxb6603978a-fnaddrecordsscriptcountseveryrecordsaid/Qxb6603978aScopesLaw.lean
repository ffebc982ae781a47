/-
  THE PLAIN LAW: what zzBuildScopes and one addRecords leave meets what zzScopesAre asks.
-/
import Derived.Test.Qxb6603978aScopesAre
namespace Go.Proofs.Qxb6603978a
open Go.RowKit Go.Maps
set_option linter.unusedVariables false
set_option linter.unusedSimpArgs false

theorem len_strike {α β : Type} [DecidableEq α] (r : α) : ∀ (l : List (α × β)), l.Pairwise (fun p q => p.1 ≠ q.1) → ((l.filter fun p => decide (p.1 ≠ r)).length : Int) + (if (∃ p ∈ l, p.1 = r) then 1 else 0) = l.length := by
  intro l
  induction l with
  | nil => simp
  | cons p l ih =>
    intro hp
    obtain ⟨h1, h2⟩ := List.pairwise_cons.1 hp
    have := ih h2
    by_cases e : p.1 = r
    · have hno : ¬ ∃ q ∈ l, q.1 = r := fun ⟨q, hq, hqk⟩ => h1 q hq (e.trans hqk.symm)
      rw [if_neg hno] at this
      rw [if_pos ⟨p, by simp, e⟩]
      simp only [List.filter_cons, e, ne_eq, not_true_eq_false, decide_false, Bool.false_eq_true, if_false, List.length_cons]
      simp only [ne_eq] at this
      omega
    · have hiff : (∃ q ∈ p :: l, q.1 = r) ↔ ∃ q ∈ l, q.1 = r := by
        constructor
        · rintro ⟨q, hq, hqk⟩
          rcases List.mem_cons.1 hq with rfl | hq
          · exact absurd hqk e
          · exact ⟨q, hq, hqk⟩
        · rintro ⟨q, hq, hqk⟩; exact ⟨q, by simp [hq], hqk⟩
      simp only [hiff]
      simp only [List.filter_cons, e, ne_eq, not_false_eq_true, decide_true, if_true, List.length_cons]
      simp only [ne_eq] at this
      omega

section
variable (Nm : Nat → ByteArray) (K V : Nat → Int) (m : Nat)

theorem lp_split (s : ByteArray) (j : Nat) (hj : j < m) : Pl.lastB (fun i => decide (Nm i = s)) K m j = (lpB Nm K m j && decide (Nm j = s)) := by
  rw [Bool.eq_iff_iff, Bool.and_eq_true]
  unfold lpB
  rw [Pl.lastB_iff, Pl.lastB_iff, decide_eq_true_iff]
  constructor
  · rintro ⟨h1, h2⟩
    refine ⟨⟨rfl, fun i hi hji _ e => ?_⟩, h1⟩
    have e1 : Nm i = Nm j := congrArg Prod.fst e
    have e2 : K i = K j := congrArg Prod.snd e
    exact h2 i hi hji (by rw [decide_eq_true_iff, e1]; exact h1) e2
  · rintro ⟨⟨_, h2⟩, h1⟩
    refine ⟨h1, fun i hi hji hs e => h2 i hi hji rfl ?_⟩
    rw [decide_eq_true_iff] at hs
    show (Nm i, K i) = (Nm j, K j)
    rw [hs, h1, e]

theorem bT_len (s : ByteArray) : (bT Nm K V m s).length = Pl.cnt (fun j => lpB Nm K m j && decide (Nm j = s)) m := by
  unfold bT
  rw [Pl.mk_length_cnt]
  exact Pl.cnt_congr m (fun j hj => lp_split Nm K m s j hj)

theorem bT_mem {i : Nat} (hi : i < m) (hl : lpB Nm K m i = true) : (K i, V i) ∈ bT Nm K V m (Nm i) := by
  refine Pl.mem_mk.2 ⟨⟨i, hi, by simp, rfl⟩, ?_⟩
  have hl' : Pl.lastB (fun j => decide (Nm j = Nm i)) K m i = true := by rw [lp_split Nm K m (Nm i) i hi, hl]; simp
  exact (Pl.lw_last hi hl').symm

theorem bT_apart (s : ByteArray) : (bT Nm K V m s).Pairwise (fun p q => p.1 ≠ q.1) := Pl.mk_apart

theorem bT_met (s : ByteArray) (r : Int) : (∃ p ∈ bT Nm K V m s, p.1 = r) ↔ ∃ j, j < m ∧ Nm j = s ∧ K j = r := by
  constructor
  · rintro ⟨p, hp, rfl⟩
    obtain ⟨⟨j, hj, hs, hk⟩, _⟩ := Pl.mem_mk.1 hp
    exact ⟨j, hj, by simpa using hs, hk⟩
  · rintro ⟨j, hj, hs, rfl⟩
    exact ⟨(K j, Pl.lw (fun i => decide (Nm i = s)) K V 0 m (K j)), Pl.mem_mk.2 ⟨⟨j, hj, by simpa using hs, rfl⟩, rfl⟩, rfl⟩

/-- Without an addition. -/
theorem sok_old (N' : Nat → ByteArray) (hN : ∀ i, i < m → N' i = Nm i) (sc : ByteArray) (r n : Int) :
    SOk (Met (fun _ => true) N' m) (bT Nm K V m) (Pl.cnt (Pl.lastB (fun _ => true) N' m) m) Nm K V m false sc r n := by
  refine ⟨fun i hi => ⟨i, hi, rfl, hN i hi⟩, fun i _ _ h => (by cases h), fun i hi hl _ => bT_mem Nm K V m hi hl, fun i hi => ?_, fun h => (by cases h), fun h => (by cases h), ?_⟩
  · rw [if_neg (fun h => (by cases h.1)), bT_len]; omega
  · rw [if_neg (fun h => (by cases h.1)), Pl.cnt_congr (q := Pl.lastB (fun _ => true) Nm m) m (fun i hi => Pl.lastB_congr hi (fun _ _ => rfl) hN)]; omega

/-- With one. -/
theorem sok_new (N' : Nat → ByteArray) (sc : ByteArray) (hN : ∀ i, i < m → N' i = Nm i) (hm : N' m = sc) (r n y : Int) (kn : (Lit.int .i64 n).wf = true)
    (hy : (r, y) ∈ bT Nm K V m sc ∨ (y = 0 ∧ ¬ ∃ p ∈ bT Nm K V m sc, p.1 = r)) :
    SOk (Met (fun _ => true) N' (m + 1)) (fun z => if z = sc then ((bT Nm K V m sc).filter fun p => decide (p.1 ≠ r)) ++ [(r, wrap64 (y + n))] else bT Nm K V m z) (Pl.cnt (Pl.lastB (fun _ => true) N' (m + 1)) (m + 1)) Nm K V m true sc r n := by
  refine ⟨fun i hi => ⟨i, by omega, rfl, hN i hi⟩, fun i hi hl _ hs hk => ?_, fun i hi hl hno => ?_, fun i hi => ?_, fun _ hno => ?_, fun _ hno => ?_, ?_⟩
  · rw [if_pos hs]
    have h1 := bT_mem Nm K V m hi hl
    rw [hs, hk] at h1
    have hye : y = V i := by
      rcases hy with hy | ⟨_, hy⟩
      · exact Pl.pair_unique (bT_apart Nm K V m sc) hy h1
      · exact absurd ⟨_, h1, rfl⟩ hy
    rw [hk, hye]
    exact List.mem_append.2 (.inr (by simp))
  · by_cases hs : Nm i = sc
    · rw [if_pos hs]
      have h1 := bT_mem Nm K V m hi hl
      rw [hs] at h1
      exact List.mem_append.2 (.inl (List.mem_filter.2 ⟨h1, by simpa using fun e => hno ⟨rfl, hs, e⟩⟩))
    · rw [if_neg hs]
      exact bT_mem Nm K V m hi hl
  · by_cases hs : Nm i = sc
    · have h2 := len_strike r (bT Nm K V m sc) (bT_apart Nm K V m sc)
      simp only [bT_met, bT_len] at h2
      simp only [if_pos hs, List.length_append, List.length_cons, List.length_nil]
      rw [hs]
      by_cases hp : ∃ j, j < m ∧ Nm j = sc ∧ K j = r
      · rw [if_pos hp] at h2
        rw [if_neg (fun h => h.2.2 hp)]
        omega
      · rw [if_neg hp] at h2
        rw [if_pos (by simpa using hp)]
        omega
    · simp only [if_neg hs]
      rw [if_neg (fun h => hs h.2.1), bT_len]
      omega
  · refine ⟨⟨m, by omega, rfl, hm⟩, ?_⟩
    have hy0 : y = 0 := by
      rcases hy with hy | hy
      · exact absurd ((bT_met Nm K V m sc r).1 ⟨_, hy, rfl⟩) hno
      · exact hy.1
    subst hy0
    rw [if_pos rfl, Int.zero_add, Pl.wrap_of_wf kn]
    exact List.mem_append.2 (.inr (by simp))
  · refine ⟨⟨m, by omega, rfl, hm⟩, ?_⟩
    have h0 : bT Nm K V m sc = [] := bT_none Nm K V m (fun ⟨i, hi, _, hs⟩ => hno ⟨i, hi, hs⟩)
    rw [if_pos rfl, h0]
    rfl
  · rw [← Pl.mk_length_cnt (f := fun _ => (0 : Nat)), Pl.mk_succ (f := fun _ => (0 : Nat)) rfl (fun _ _ => rfl)]
    have h2 := len_strike (N' m) (Pl.mk (fun _ => true) N' m (fun _ => (0 : Nat))) Pl.mk_apart
    have hmet : (∃ p ∈ Pl.mk (fun _ => true) N' m (fun _ => (0 : Nat)), p.1 = N' m) ↔ ∃ j, j < m ∧ Nm j = sc := by
      rw [mk_met]
      constructor
      · rintro ⟨j, hj, _, e⟩; exact ⟨j, hj, by rw [← hN j hj, e, hm]⟩
      · rintro ⟨j, hj, e⟩; exact ⟨j, hj, rfl, by rw [hN j hj, e, hm]⟩
    rw [Pl.mk_length_cnt, Pl.cnt_congr (q := Pl.lastB (fun _ => true) Nm m) m (fun i hi => Pl.lastB_congr hi (fun _ _ => rfl) hN)] at h2
    simp only [hmet] at h2
    simp only [List.length_append, List.length_cons, List.length_nil]
    by_cases hp : ∃ j, j < m ∧ Nm j = sc
    · rw [if_pos hp] at h2
      rw [if_neg (fun h => h.2 hp)]
      omega
    · rw [if_neg hp] at h2
      rw [if_pos (by simpa using hp)]
      omega

end

section
variable {w w' : World} {lo lo' n k : Nat} {oc : Option Nat} {S : Nat → Bool} {Nm N' : Nat → ByteArray} {β : ByteArray → Nat} {T : ByteArray → List (Int × Int)}

theorem Scp.lower (h : Scp w lo' oc n S Nm k β T) (hl : lo ≤ lo') : Scp w lo oc n S Nm k β T := by
  refine ⟨?_, fun i hi hs => ⟨Nat.le_trans hl (h.inn i hi hs).1, (h.inn i hi hs).2⟩, h.dis⟩
  rcases h.out with h1 | ⟨B, D, e, h1, h2⟩
  · exact .inl h1
  · exact .inr ⟨B, D, e, Nat.le_trans hl h1, h2⟩

theorem Scp.congrN (h : Scp w lo oc n S Nm k β T) (hN : ∀ i, i < k → N' i = Nm i) : Scp w lo oc n S N' k β T := by
  refine ⟨?_, fun i hi hs => by rw [hN i hi]; exact h.inn i hi hs, fun i j hi hj hs hs' => by rw [hN i hi, hN j hj]; exact h.dis i j hi hj hs hs'⟩
  rcases h.out with h1 | ⟨B, D, e, h1, h2, h3⟩
  · exact .inl h1
  · exact .inr ⟨B, D, e, h1, h2, by rw [Pl.mk_congr (S' := S) (K' := Nm) (f' := β) (fun _ _ => rfl) hN (fun _ _ _ => rfl)]; exact h3⟩

/-- zzBuildScopes, nil or not. -/
theorem buildSO (a0 a1 a2 : Option Addr) (b0 o0 b1 o1 b2 o2 n0 c0 n1 c1 n2 c2 m : Nat) (Nm : Nat → ByteArray) (K V : Nat → Int) (w : World)
    (h0 : 0 < n0 → a0 = some ⟨b0, o0, none⟩) (h1 : 0 < n1 → a1 = some ⟨b1, o1, none⟩) (h2 : 0 < n2 → a2 = some ⟨b2, o2, none⟩) (z0 : a0 = none → n0 = 0) (hn0 : n0 ≤ 4096) (hn1 : n1 ≤ 4096) (hn2 : n2 ≤ 4096) (hm : m = min (min n0 n1) n2)
    (g0 : ∀ j, j < n0 → w.cell? ⟨b0, o0 + j, none⟩ = some (.string (Nm j))) (g1 : ∀ j, j < n1 → w.cell? ⟨b1, o1 + j, none⟩ = some (.int .i64 (K j))) (g2 : ∀ j, j < n2 → w.cell? ⟨b2, o2 + j, none⟩ = some (.int .i64 (V j)))
    (k0 : ∀ j, (Nm j).size ≤ maxLen) (k1 : ∀ j, (Lit.int .i64 (K j)).wf = true) (k2 : ∀ j, (Lit.int .i64 (V j)).wf = true) :
    Calls Try.prog 23 #[.slice a0 n0 c0, .slice a1 n1 c1, .slice a2 n2 c2] w fun e w' => ∃ oc, e = .returned (.map oc) ∧ oc.isNone = a0.isNone ∧
      (∃ β, Scp w' w.heap.size oc (2 * m) (fun _ => true) Nm m β (bT Nm K V m)) ∧ Below w.heap.size w w' := by
  rcases a0 with _ | x
  · obtain rfl := z0 rfl
    have hm0 : m = 0 := by omega
    subst hm0
    refine (buildS_nil _ _ _ _ w).mono ?_
    rintro e w' ⟨rfl, rfl⟩
    exact ⟨none, rfl, rfl, ⟨fun _ => 0, Scp.nil _ _ _ _ _ _ _ _ (fun i hi => absurd hi (Nat.not_lt_zero _))⟩, Below.refl _ _⟩
  · refine (buildS_any x a1 a2 b0 o0 b1 o1 b2 o2 n0 c0 n1 c1 n2 c2 m Nm K V w (fun h => Option.some.inj (h0 h)) h1 h2 hn0 hn1 hn2 hm g0 g1 g2 k0 k1 k2).mono ?_
    rintro e w' ⟨rfl, h3, h4⟩
    exact ⟨some w.heap.size, rfl, rfl, h3, h4⟩

end
end Go.Proofs.Qxb6603978a
