/-
  PLAIN MATHEMATICS OF THE SEAT: no Go in sight. Indices below m, a key K i each, a filter S: the LAST index of each key; sums and counts over them; wrapping sums.
-/
import Derived.Below
namespace Go.Proofs.Qxb6605168a.Pl
open Go.RowKit

/-! ### wrapping -/
theorem wrap_add_l (a b : Int) : wrap64 (wrap64 a + b) = wrap64 (a + b) := by unfold wrap64; omega
theorem wrap_add_r (a b : Int) : wrap64 (a + wrap64 b) = wrap64 (a + b) := by unfold wrap64; omega
theorem wrap_zero : wrap64 0 = 0 := by unfold wrap64; omega
theorem wrap_wrap (a : Int) : wrap64 (wrap64 a) = wrap64 a := by unfold wrap64; omega
theorem wf_bounds {v : Int} (h : (Lit.int .i64 v).wf = true) : -9223372036854775808 ≤ v ∧ v ≤ 9223372036854775807 := by
  simp [Lit.wf, IntKind.min, IntKind.max, IntKind.signed, IntKind.bits] at h
  omega
theorem wrap_of_wf {v : Int} (h : (Lit.int .i64 v).wf = true) : wrap64 v = v := by
  have h' := wf_bounds h
  unfold wrap64; omega
theorem wrap_sum_map {α : Type} (g : α → Int) : ∀ l : List α, wrap64 ((l.map fun x => wrap64 (g x)).sum) = wrap64 ((l.map g).sum)
  | [] => rfl
  | x :: l => by
    simp only [List.map_cons, List.sum_cons]
    rw [wrap_add_l, ← wrap_add_r, wrap_sum_map g l, wrap_add_r]

/-! ### counting and summing below k -/
def cnt (p : Nat → Bool) : Nat → Nat
  | 0 => 0
  | k + 1 => cnt p k + if p k then 1 else 0
def sm (p : Nat → Bool) (g : Nat → Int) : Nat → Int
  | 0 => 0
  | k + 1 => sm p g k + if p k then g k else 0

theorem cnt_eq (p : Nat → Bool) : ∀ k, cnt p k = ((List.range k).filter p).length
  | 0 => rfl
  | k + 1 => by
    rw [cnt, cnt_eq p k, List.range_succ, List.filter_append, List.length_append]
    cases h : p k <;> simp [h]
theorem sm_eq (p : Nat → Bool) (g : Nat → Int) : ∀ k, sm p g k = (((List.range k).filter p).map g).sum
  | 0 => rfl
  | k + 1 => by
    rw [sm, sm_eq p g k, List.range_succ, List.filter_append, List.map_append, List.sum_append]
    cases h : p k <;> simp [h]
theorem cnt_le (p : Nat → Bool) : ∀ k, cnt p k ≤ k
  | 0 => Nat.le_refl _
  | k + 1 => by have := cnt_le p k; unfold cnt; split <;> omega
theorem cnt_congr {p q : Nat → Bool} : ∀ k, (∀ i, i < k → p i = q i) → cnt p k = cnt q k
  | 0, _ => rfl
  | k + 1, h => by rw [cnt, cnt, cnt_congr k (fun i hi => h i (by omega)), h k (by omega)]
theorem sm_congr {p q : Nat → Bool} {g g' : Nat → Int} : ∀ k, (∀ i, i < k → p i = q i) → (∀ i, i < k → p i = true → g i = g' i) → sm p g k = sm q g' k
  | 0, _, _ => rfl
  | k + 1, h, hg => by
    rw [sm, sm, sm_congr k (fun i hi => h i (by omega)) (fun i hi => hg i (by omega)), ← h k (by omega)]
    cases hp : p k
    · simp
    · simp [hg k (by omega) hp]
theorem sm_zero (g : Nat → Int) : ∀ k {p : Nat → Bool}, (∀ i, i < k → p i = false) → sm p g k = 0
  | 0, _, _ => rfl
  | k + 1, p, h => by rw [sm, sm_zero g k (fun i hi => h i (by omega)), h k (by omega)]; rfl

/-! ### last indices -/
section
variable {α : Type} [DecidableEq α]

/-- i is in S, and no later index below m that is in S bears its key. -/
def lastB (S : Nat → Bool) (K : Nat → α) (m i : Nat) : Bool := S i && decide (∀ j, j < m → i < j → S j = true → K j ≠ K i)
def lasts (S : Nat → Bool) (K : Nat → α) (m : Nat) : List Nat := (List.range m).filter (lastB S K m)

variable {S : Nat → Bool} {K : Nat → α} {m : Nat}

theorem lastB_iff {i : Nat} : lastB S K m i = true ↔ S i = true ∧ ∀ j, j < m → i < j → S j = true → K j ≠ K i := by simp [lastB]

theorem lastB_congr {S' : Nat → Bool} {K' : Nat → α} {i : Nat} (hi : i < m) (hS : ∀ j, j < m → S j = S' j) (hK : ∀ j, j < m → K j = K' j) : lastB S K m i = lastB S' K' m i := by
  rw [Bool.eq_iff_iff, lastB_iff, lastB_iff, hS i hi, hK i hi]
  constructor
  · rintro ⟨h1, h2⟩; exact ⟨h1, fun j hj hij hs => by rw [← hK j hj]; exact h2 j hj hij (by rw [hS j hj]; exact hs)⟩
  · rintro ⟨h1, h2⟩; exact ⟨h1, fun j hj hij hs => by rw [hK j hj]; exact h2 j hj hij (by rw [← hS j hj]; exact hs)⟩

theorem lasts_congr {S' : Nat → Bool} {K' : Nat → α} (hS : ∀ j, j < m → S j = S' j) (hK : ∀ j, j < m → K j = K' j) : lasts S K m = lasts S' K' m :=
  List.filter_congr fun _ hi => lastB_congr (List.mem_range.1 hi) hS hK

theorem lasts_succ (h : S m = true) : lasts S K (m + 1) = (lasts S K m).filter (fun i => decide (K i ≠ K m)) ++ [m] := by
  unfold lasts
  rw [List.range_succ, List.filter_append, List.filter_filter]
  congr 1
  · refine List.filter_congr fun i hi => ?_
    have hi' := List.mem_range.1 hi
    rw [Bool.eq_iff_iff, Bool.and_eq_true, lastB_iff, lastB_iff, decide_eq_true_iff]
    constructor
    · rintro ⟨h1, h2⟩
      exact ⟨fun e => h2 m (by omega) hi' h e.symm, h1, fun j hj => h2 j (by omega)⟩
    · rintro ⟨h0, h1, h2⟩
      refine ⟨h1, fun j hj hij hs => ?_⟩
      by_cases e : j = m
      · subst e; exact fun e => h0 e.symm
      · exact h2 j (by omega) hij hs
  · have : lastB S K (m + 1) m = true := lastB_iff.2 ⟨h, fun j hj hij => by omega⟩
    simp [this]

theorem lasts_skip (h : S m = false) : lasts S K (m + 1) = lasts S K m := by
  unfold lasts
  rw [List.range_succ, List.filter_append]
  have e1 : lastB S K (m + 1) m = false := by simp [lastB, h]
  have e2 : (List.range m).filter (lastB S K (m + 1)) = (List.range m).filter (lastB S K m) := by
    refine List.filter_congr fun i hi => ?_
    rw [Bool.eq_iff_iff, lastB_iff, lastB_iff]
    constructor
    · rintro ⟨h1, h2⟩; exact ⟨h1, fun j hj => h2 j (by omega)⟩
    · rintro ⟨h1, h2⟩
      refine ⟨h1, fun j hj hij hs => ?_⟩
      by_cases e : j = m
      · subst e; rw [h] at hs; cases hs
      · exact h2 j (by omega) hij hs
  rw [e2]
  simp [e1]

theorem mem_lasts {i : Nat} : i ∈ lasts S K m ↔ i < m ∧ lastB S K m i = true := by simp [lasts]

/-- Each key that is met has a last index. -/
theorem last_exists {k : α} : ∀ m, (∃ i, i < m ∧ S i = true ∧ K i = k) → ∃ i, i ∈ lasts S K m ∧ K i = k
  | 0, ⟨i, hi, _⟩ => absurd hi (Nat.not_lt_zero _)
  | m + 1, ⟨i, hi, hs, hk⟩ => by
    cases hm : S m
    · rw [lasts_skip hm]
      refine last_exists m ⟨i, ?_, hs, hk⟩
      by_cases e : i = m
      · subst e; rw [hm] at hs; cases hs
      · omega
    · rw [lasts_succ hm]
      by_cases e : K m = k
      · exact ⟨m, by simp, e⟩
      · have him : i ≠ m := fun e' => e (e' ▸ hk)
        obtain ⟨j, hj, hjk⟩ := last_exists m ⟨i, by omega, hs, hk⟩
        exact ⟨j, by simp only [List.mem_append, List.mem_filter, decide_eq_true_iff]; exact Or.inl ⟨hj, fun e' => e (e'.symm.trans hjk)⟩, hjk⟩

/-- Two last indices of one key are one. -/
theorem last_unique {i j : Nat} (hi : i ∈ lasts S K m) (hj : j ∈ lasts S K m) (h : K i = K j) : i = j := by
  obtain ⟨a1, a2⟩ := mem_lasts.1 hi
  obtain ⟨b1, b2⟩ := mem_lasts.1 hj
  obtain ⟨a3, a4⟩ := lastB_iff.1 a2
  obtain ⟨b3, b4⟩ := lastB_iff.1 b2
  rcases Nat.lt_trichotomy i j with h1 | h1 | h1
  · exact absurd h.symm (a4 j b1 h1 b3)
  · exact h1
  · exact absurd h (b4 i a1 h1 a3)

/-! ### the pairs that a map holds: a value f k for each key that is met -/
def mk {β : Type} (S : Nat → Bool) (K : Nat → α) (m : Nat) (f : α → β) : List (α × β) := (lasts S K m).map fun i => (K i, f (K i))

variable {β : Type} {f f' : α → β}

theorem mk_zero : mk S K 0 f = [] := rfl
theorem mk_length : (mk S K m f).length = (lasts S K m).length := by simp [mk]
theorem mk_length_cnt : (mk S K m f).length = cnt (lastB S K m) m := by rw [mk_length, cnt_eq]; rfl
theorem lasts_length_cnt : (lasts S K m).length = cnt (lastB S K m) m := by rw [cnt_eq]; rfl

theorem mk_succ (h : S m = true) (hf : ∀ k, k ≠ K m → f' k = f k) : mk S K (m + 1) f' = (mk S K m f).filter (fun p => decide (p.1 ≠ K m)) ++ [(K m, f' (K m))] := by
  unfold mk
  rw [lasts_succ h, List.map_append, List.filter_map]
  congr 1
  refine List.map_congr_left fun i hi => ?_
  rw [hf]
  simpa using (List.mem_filter.1 hi).2

theorem mk_skip (h : S m = false) : mk S K (m + 1) f = mk S K m f := by unfold mk; rw [lasts_skip h]

theorem mk_congr {S' : Nat → Bool} {K' : Nat → α} (hS : ∀ j, j < m → S j = S' j) (hK : ∀ j, j < m → K j = K' j) (hf : ∀ i, i < m → S i = true → f (K i) = f' (K i)) : mk S K m f = mk S' K' m f' := by
  unfold mk
  rw [lasts_congr hS hK]
  refine List.map_congr_left fun i hi => ?_
  obtain ⟨h1, h2⟩ := mem_lasts.1 hi
  have h3 := (lastB_iff.1 h2).1
  rw [← hK i h1, hf i h1 (by rw [hS i h1]; exact h3)]

theorem mem_mk {p : α × β} : p ∈ mk S K m f ↔ (∃ i, i < m ∧ S i = true ∧ K i = p.1) ∧ p.2 = f p.1 := by
  unfold mk
  rw [List.mem_map]
  constructor
  · rintro ⟨i, hi, rfl⟩
    obtain ⟨h1, h2⟩ := mem_lasts.1 hi
    exact ⟨⟨i, h1, (lastB_iff.1 h2).1, rfl⟩, rfl⟩
  · rintro ⟨h1, h2⟩
    obtain ⟨i, hi, hk⟩ := last_exists m h1
    exact ⟨i, hi, by rw [hk, ← h2]⟩

/-- what was laid last at k (z where k has not been met) -/
def lw (S : Nat → Bool) (K : Nat → α) (V : Nat → β) (z : β) : Nat → α → β
  | 0, _ => z
  | m + 1, k => if S m = true ∧ K m = k then V m else lw S K V z m k

theorem lw_last {V : Nat → β} {z : β} : ∀ {m i : Nat}, i < m → lastB S K m i = true → lw S K V z m (K i) = V i
  | 0, _, hi, _ => absurd hi (Nat.not_lt_zero _)
  | m + 1, i, hi, h => by
    obtain ⟨h1, h2⟩ := lastB_iff.1 h
    unfold lw
    by_cases e : i = m
    · subst e; rw [if_pos ⟨h1, rfl⟩]
    · rw [if_neg (fun hc => h2 m (by omega) (by omega) hc.1 hc.2)]
      exact lw_last (by omega) (lastB_iff.2 ⟨h1, fun j hj => h2 j (by omega)⟩)

/-- The sum over all pairs is the sum over those at other keys, and what stands at k. -/
theorem sum_strike {f : α → Int} (k : α) : ∀ (l : List (α × Int)), l.Pairwise (fun p q => p.1 ≠ q.1) → (∀ p ∈ l, p.2 = f p.1) →
    ((l.filter (fun p => decide (p.1 ≠ k))).map Prod.snd).sum + (if (∃ p ∈ l, p.1 = k) then f k else 0) = (l.map Prod.snd).sum
  | [], _, _ => by simp
  | p :: l, hp, hf => by
    obtain ⟨h1, h2⟩ := List.pairwise_cons.1 hp
    have ih := sum_strike k l h2 (fun q hq => hf q (by simp [hq]))
    by_cases e : p.1 = k
    · have hno : ¬ ∃ q ∈ l, q.1 = k := fun ⟨q, hq, hqk⟩ => h1 q hq (e.trans hqk.symm)
      rw [if_neg hno] at ih
      rw [if_pos ⟨p, by simp, e⟩]
      simp only [List.filter_cons, e, ne_eq, not_true_eq_false, decide_false, Bool.false_eq_true, if_false, List.map_cons, List.sum_cons]
      have hpf := hf p (by simp)
      rw [e] at hpf
      simp only [ne_eq] at ih
      omega
    · have hiff : (∃ q ∈ p :: l, q.1 = k) ↔ ∃ q ∈ l, q.1 = k := by
        constructor
        · rintro ⟨q, hq, hqk⟩
          rcases List.mem_cons.1 hq with rfl | hq
          · exact absurd hqk e
          · exact ⟨q, hq, hqk⟩
        · rintro ⟨q, hq, hqk⟩; exact ⟨q, by simp [hq], hqk⟩
      simp only [hiff]
      simp only [List.filter_cons, e, ne_eq, not_false_eq_true, decide_true, if_true, List.map_cons, List.sum_cons]
      simp only [ne_eq] at ih
      omega

theorem mk_apart : (mk S K m f).Pairwise (fun p q => p.1 ≠ q.1) := by
  unfold mk
  rw [List.pairwise_map]
  have hn : (lasts S K m).Pairwise (· ≠ ·) := (List.nodup_range.filter _)
  have : ∀ (l : List Nat), (∀ i ∈ l, i ∈ lasts S K m) → l.Pairwise (· ≠ ·) → l.Pairwise (fun i j => K i ≠ K j) := by
    intro l hl hp
    induction l with
    | nil => exact List.Pairwise.nil
    | cons x l ih =>
      obtain ⟨h1, h2⟩ := List.pairwise_cons.1 hp
      exact List.pairwise_cons.2 ⟨fun y hy e => h1 y hy (last_unique (hl x (by simp)) (hl y (by simp [hy])) e), ih (fun i hi => hl i (by simp [hi])) h2⟩
  exact this _ (fun _ h => h) hn

/-- THE GRAND SUM: over the keys, of the sum at each key: the sum of all. -/
theorem sum_groups (S : Nat → Bool) (K : Nat → α) (V : Nat → Int) : ∀ m, ((mk S K m (fun k => sm (fun j => S j && decide (K j = k)) V m)).map Prod.snd).sum = sm S V m
  | 0 => rfl
  | m + 1 => by
    cases hm : S m
    · rw [mk_skip hm, sm, hm]
      have : mk S K m (fun k => sm (fun j => S j && decide (K j = k)) V (m + 1)) = mk S K m (fun k => sm (fun j => S j && decide (K j = k)) V m) :=
        mk_congr (fun _ _ => rfl) (fun _ _ => rfl) (fun i _ _ => by simp [sm, hm])
      rw [this, sum_groups S K V m]
      simp
    · rw [mk_succ (f := fun k => sm (fun j => S j && decide (K j = k)) V m) hm (fun k hk => by simp [sm, hm, Ne.symm hk])]
      have h1 := sum_strike (f := fun k => sm (fun j => S j && decide (K j = k)) V m) (K m) (mk S K m (fun k => sm (fun j => S j && decide (K j = k)) V m)) mk_apart (fun p hp => (mem_mk.1 hp).2)
      rw [sum_groups S K V m] at h1
      have h2 : sm (fun j => S j && decide (K j = K m)) V (m + 1) = sm (fun j => S j && decide (K j = K m)) V m + V m := by simp [sm, hm]
      have h4 : sm S V (m + 1) = sm S V m + V m := by simp [sm, hm]
      rw [List.map_append, List.sum_append, h4]
      simp only [List.map_cons, List.map_nil, List.sum_cons, List.sum_nil]
      rw [h2]
      by_cases hx : ∃ p ∈ mk S K m (fun k => sm (fun j => S j && decide (K j = k)) V m), p.1 = K m
      · rw [if_pos hx] at h1; omega
      · rw [if_neg hx] at h1
        have h3 : sm (fun j => S j && decide (K j = K m)) V m = 0 := sm_zero V m (fun i hi => by
          cases hs : S i
          · simp
          · simp only [Bool.true_and, decide_eq_false_iff_not]
            intro e
            exact hx ⟨(K m, sm (fun j => S j && decide (K j = K m)) V m), mem_mk.2 ⟨⟨i, hi, hs, e⟩, rfl⟩, rfl⟩)
        omega

/-- what has been added at k -/
def grp (S : Nat → Bool) (K : Nat → α) (V : Nat → Int) (m : Nat) (k : α) : Int := sm (fun j => S j && decide (K j = k)) V m

theorem grp_hit {V : Nat → Int} (h : S m = true) : grp S K V (m + 1) (K m) = grp S K V m (K m) + V m := by simp [grp, sm, h]
theorem grp_other {V : Nat → Int} {k : α} (h : k ≠ K m) : grp S K V (m + 1) k = grp S K V m k := by simp [grp, sm, Ne.symm h]
theorem grp_skip {V : Nat → Int} {k : α} (h : S m = false) : grp S K V (m + 1) k = grp S K V m k := by simp [grp, sm, h]
theorem grp_none {V : Nat → Int} {k : α} (h : ¬ ∃ i, i < m ∧ S i = true ∧ K i = k) : grp S K V m k = 0 := sm_zero V m (fun i hi => by
  cases hs : S i
  · simp
  · simp only [Bool.true_and, decide_eq_false_iff_not]
    exact fun e => h ⟨i, hi, hs, e⟩)

/-- THE TALLY OF A SCRIPT OF ADDITIONS, m rounds done. -/
def acc (S : Nat → Bool) (K : Nat → α) (V : Nat → Int) (m : Nat) : List (α × Int) := mk S K m (fun k => wrap64 (grp S K V m k))

theorem acc_zero {V : Nat → Int} : acc S K V 0 = [] := rfl
theorem acc_step {V : Nat → Int} (h : S m = true) : acc S K V (m + 1) = (acc S K V m).filter (fun p => decide (p.1 ≠ K m)) ++ [(K m, wrap64 (wrap64 (grp S K V m (K m)) + V m))] := by
  unfold acc
  rw [mk_succ (f := fun k => wrap64 (grp S K V m k)) h (fun k hk => by rw [grp_other hk]), grp_hit h, wrap_add_l]
theorem acc_skip {V : Nat → Int} (h : S m = false) : acc S K V (m + 1) = acc S K V m := by
  unfold acc
  rw [mk_skip h]
  exact mk_congr (fun _ _ => rfl) (fun _ _ => rfl) (fun i _ _ => by rw [grp_skip h])
theorem acc_at {V : Nat → Int} (k : α) : (k, wrap64 (grp S K V m k)) ∈ acc S K V m ∨ (wrap64 (grp S K V m k) = 0 ∧ ¬ ∃ p ∈ acc S K V m, p.1 = k) := by
  by_cases h : ∃ i, i < m ∧ S i = true ∧ K i = k
  · exact .inl (mem_mk.2 ⟨h, rfl⟩)
  · refine .inr ⟨by rw [grp_none h, wrap_zero], ?_⟩
    rintro ⟨p, hp, rfl⟩
    exact h (mem_mk.1 hp).1
theorem acc_mem {V : Nat → Int} {i : Nat} (hi : i < m) (hs : S i = true) : (K i, wrap64 (grp S K V m (K i))) ∈ acc S K V m := mem_mk.2 ⟨⟨i, hi, hs, rfl⟩, rfl⟩
theorem acc_length {V : Nat → Int} : (acc S K V m).length = cnt (lastB S K m) m := mk_length_cnt
theorem acc_sum {V : Nat → Int} : wrap64 (((acc S K V m).map Prod.snd).sum) = wrap64 (sm S V m) := by
  rw [← sum_groups S K V m]
  unfold acc mk
  rw [List.map_map, List.map_map]
  exact wrap_sum_map (fun i => grp S K V m (K i)) _

theorem mk_snd_sum {f : α → Int} : ((mk S K m f).map Prod.snd).sum = sm (lastB S K m) (fun i => f (K i)) m := by
  rw [sm_eq, mk, List.map_map]; rfl

end
end Go.Proofs.Qxb6605168a.Pl
