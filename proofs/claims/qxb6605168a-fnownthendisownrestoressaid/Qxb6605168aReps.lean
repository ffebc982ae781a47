/-
  A MAP AS READ, TOLD BY A PLAIN LIST OF PAIRS, NO KEY TWICE: 'Rep ek ev D ps'. What put, has, atKey, size come to there. Over whatever encoding of keys and elements.
-/
import Derived.Maps.OwnSet
import Derived.Test.Qxb6605168aPlain
namespace Go.Proofs.Qxb6605168a.Pl
open Go.WideShapes

section
variable {H α β : Type}

structure KeyEnc (ek : α → Lit) : Prop where
  inj : ∀ a b, ek a = ek b → a = b
  key : ∀ a, WideAt.IsKeyLit (ek a)

/-- D holds just the pairs ps; no key stands twice. -/
def Rep (ek : α → Lit) (ev : β → DataW H) (D : DataW H) (ps : List (α × β)) : Prop :=
  ∃ es, D = .map es ∧ es.Perm (ps.map fun p => (ek p.1, ev p.2)) ∧ ps.Pairwise (fun p q => p.1 ≠ q.1)

variable {ek : α → Lit} {ev : β → DataW H} {D : DataW H} {ps : List (α × β)}

theorem rep_empty (ek : α → Lit) (ev : β → DataW H) : Rep ek ev (.map []) ([] : List (α × β)) := ⟨[], rfl, List.Perm.nil, List.Pairwise.nil⟩

theorem Rep.size (h : Rep ek ev D ps) : Maps.size D = ps.length := by
  obtain ⟨es, rfl, hp, _⟩ := h
  rw [Maps.size_eq, hp.length_eq, List.length_map]

theorem pair_unique {a : α} {b b' : β} : ∀ {l : List (α × β)}, l.Pairwise (fun p q => p.1 ≠ q.1) → (a, b) ∈ l → (a, b') ∈ l → b = b'
  | [], _, h, _ => by simp at h
  | p :: l, hp, h, h' => by
    obtain ⟨h1, h2⟩ := List.pairwise_cons.1 hp
    rcases List.mem_cons.1 h with e | h
    · rcases List.mem_cons.1 h' with e' | h'
      · rw [← e] at e'; exact (congrArg Prod.snd e').symm
      · exact absurd (by rw [← e]) (h1 _ h')
    · rcases List.mem_cons.1 h' with e' | h'
      · exact absurd (by rw [← e']) (h1 _ h)
      · exact pair_unique h2 h h'

/-! ### a range over the map: the sum of what has come -/
/-- The sum of those that are no longer to come. -/
def came (ek : α → Lit) (left : Lit → Bool) (ps : List (α × Int)) : Int := ((ps.filter fun p => !left (ek p.1)).map Prod.snd).sum

theorem came_all {left : Lit → Bool} {ps : List (α × Int)} (h : ∀ kl, left kl = false) : came ek left ps = (ps.map Prod.snd).sum := by
  unfold came
  rw [List.filter_eq_self.2 (fun p _ => by rw [h]; rfl)]

theorem came_none {left : Lit → Bool} {ps : List (α × Int)} (h : ∀ p ∈ ps, left (ek p.1) = true) : came ek left ps = 0 := by
  unfold came
  rw [List.filter_eq_nil_iff.2 (fun p hp => by rw [h p hp]; simp)]
  rfl

theorem came_cons (left : Lit → Bool) (p : α × Int) (l : List (α × Int)) : came ek left (p :: l) = (if left (ek p.1) then 0 else p.2) + came ek left l := by
  unfold came
  cases h : left (ek p.1) <;> simp [h]

variable [DecidableEq α]

theorem KeyEnc.same (E : KeyEnc ek) (a b : α) : (ek a).sameKey (ek b) = decide (a = b) := by
  rw [Bool.eq_iff_iff, decide_eq_true_iff]
  constructor
  · exact fun h => E.inj a b (WideAt.sameKey_eq h)
  · rintro rfl; exact WideAt.sameKey_self (E.key a)

theorem strike_enc (E : KeyEnc ek) (a : α) (ps : List (α × β)) : (ps.map fun p => (ek p.1, ev p.2)).filter (fun p => !p.1.sameKey (ek a)) = (ps.filter fun p => decide (p.1 ≠ a)).map fun p => (ek p.1, ev p.2) := by
  rw [List.filter_map]
  congr 1
  refine List.filter_congr fun p _ => ?_
  show (!(ek p.1).sameKey (ek a)) = _
  rw [E.same]
  by_cases h : p.1 = a <;> simp [h]

theorem Rep.put (E : KeyEnc ek) (h : Rep ek ev D ps) (a : α) (b : β) : Rep ek ev (D.put (ek a) (ev b)) ((ps.filter fun p => decide (p.1 ≠ a)) ++ [(a, b)]) := by
  obtain ⟨es, rfl, hp, hn⟩ := h
  refine ⟨DataW.insert (ek a, ev b) (es.filter fun p => !p.1.sameKey (ek a)), rfl, ?_, ?_⟩
  · rw [List.map_append]
    refine (insert_perm _ _).trans (List.Perm.trans ?_ List.perm_append_comm)
    refine List.Perm.cons _ ?_
    rw [← strike_enc E]
    exact hp.filter _
  · rw [List.pairwise_append]
    refine ⟨hn.filter _, by simp, fun p hp' q hq => ?_⟩
    have h1 := (List.mem_filter.1 hp').2
    simp at hq h1
    rw [hq]
    exact h1

theorem Rep.del (E : KeyEnc ek) (h : Rep ek ev D ps) (a : α) : Rep ek ev (D.del (ek a)) (ps.filter fun p => decide (p.1 ≠ a)) := by
  obtain ⟨es, rfl, hp, hn⟩ := h
  refine ⟨es.filter fun p => !p.1.sameKey (ek a), rfl, ?_, hn.filter _⟩
  rw [← strike_enc E]
  exact hp.filter _

theorem Rep.has (E : KeyEnc ek) (h : Rep ek ev D ps) (a : α) : Maps.has D (ek a) = true ↔ ∃ p ∈ ps, p.1 = a := by
  obtain ⟨es, rfl, hp, _⟩ := h
  rw [Maps.has_eq, List.any_eq_true]
  constructor
  · rintro ⟨x, hx, hs⟩
    obtain ⟨p, hp', rfl⟩ := List.mem_map.1 (hp.mem_iff.1 hx)
    simp only [E.same, decide_eq_true_iff] at hs
    exact ⟨p, hp', hs⟩
  · rintro ⟨p, hp', rfl⟩
    exact ⟨_, hp.mem_iff.2 (List.mem_map.2 ⟨p, hp', rfl⟩), by simp [E.same]⟩

theorem Rep.at (E : KeyEnc ek) (h : Rep ek ev D ps) {a : α} {b : β} (hm : (a, b) ∈ ps) (z : DataW H) : D.atKey (ek a) z = ev b := by
  obtain ⟨es, rfl, hp, hn⟩ := h
  show (match es.find? (fun p => p.1.sameKey (ek a)) with | some p => p.2 | none => z) = ev b
  cases hf : es.find? (fun p => p.1.sameKey (ek a)) with
  | none =>
    have := List.find?_eq_none.1 hf (ek a, ev b) (hp.mem_iff.2 (List.mem_map.2 ⟨(a, b), hm, rfl⟩))
    simp [E.same] at this
  | some x =>
    have h1 := List.find?_some hf
    obtain ⟨q, hq, rfl⟩ := List.mem_map.1 (hp.mem_iff.1 (List.mem_of_find?_eq_some hf))
    simp only [E.same, decide_eq_true_iff] at h1
    obtain ⟨qa, qb⟩ := q
    simp only at h1
    subst h1
    show ev qb = ev b
    rw [pair_unique hn hq hm]

theorem Rep.at_none (E : KeyEnc ek) (h : Rep ek ev D ps) {a : α} (hm : ¬ ∃ p ∈ ps, p.1 = a) (z : DataW H) : D.atKey (ek a) z = z :=
  Maps.atKey_of_not_has (by cases hh : Maps.has D (ek a); exact rfl; exact absurd ((h.has E a).1 hh) hm) z

theorem Rep.has_false (E : KeyEnc ek) (h : Rep ek ev D ps) {a : α} (hm : ¬ ∃ p ∈ ps, p.1 = a) : Maps.has D (ek a) = false := by
  cases hh : Maps.has D (ek a)
  · rfl
  · exact absurd ((h.has E a).1 hh) hm

theorem came_step (E : KeyEnc ek) {left : Lit → Bool} {a : α} {c : Int} (hl : left (ek a) = true) : ∀ {ps : List (α × Int)}, ps.Pairwise (fun p q => p.1 ≠ q.1) → (a, c) ∈ ps →
    came ek (fun z => left z && !z.sameKey (ek a)) ps = came ek left ps + c
  | [], _, h => by simp at h
  | p :: l, hp, h => by
    obtain ⟨h1, h2⟩ := List.pairwise_cons.1 hp
    rw [came_cons, came_cons, E.same]
    rcases List.mem_cons.1 h with e | h
    · subst e
      have hsame : came ek (fun z => left z && !z.sameKey (ek a)) l = came ek left l := by
        unfold came
        rw [List.filter_congr (q := fun p => !left (ek p.1)) (fun q hq => ?_)]
        show (!(left (ek q.1) && !(ek q.1).sameKey (ek a))) = _
        rw [E.same]
        simp [Ne.symm (h1 q hq)]
      rw [hsame]
      simp [hl]
      omega
    · have ih := came_step E hl h2 h
      have hne : p.1 ≠ a := fun e => by subst e; exact h1 _ h rfl
      rw [ih]
      simp [hne]
      omega

end
end Go.Proofs.Qxb6605168a.Pl
