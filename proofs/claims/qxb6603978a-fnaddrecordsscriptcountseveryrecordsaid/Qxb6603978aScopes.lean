/-
  A MAP OF TALLIES BY NAME: 'Scp'.
-/
import Derived.Test.Qxb6603978aStrs
namespace Go.Proofs.Qxb6603978a
open Go.RowKit Go.Maps Go.WideMaps
set_option linter.unusedVariables false
set_option linter.unusedSimpArgs false

theorem law9 : Keyed Try.prog 9 := string_keyed Try.underlying9
theorem zero29 (w : World) : (zeroValue 29).run Try.prog w = .ok (.map none) w := by kernel_rfl

/-- How an element of the outer map reads here: the number of its block. -/
def refElem : Value → Option (DataW Unit × List MemPlace)
  | .map (some b) => some (.lit (.int .i64 (b : Int)), [])
  | .map none => some (.nil, [])
  | _ => none
def sK (s : ByteArray) : Lit := .string s.data.toList
def bV (b : Nat) : DataW Unit := .lit (.int .i64 (b : Int))
theorem encS : Pl.KeyEnc sK := ⟨fun a b h => WideShapes.bytes_inj (by simpa [sK] using h), fun _ => trivial⟩
theorem refElem_mk (b : Nat) : refElem (.map (some b)) = some (bV b, []) := rfl
theorem refElem_inv {v : Value} {b : Nat} {ps : List MemPlace} (h : refElem v = some (bV b, ps)) : v = .map (some b) := by
  unfold refElem at h
  split at h
  · simp [bV] at h
    have e := Int.ofNat.inj h.1
    rw [e]
  · simp [bV] at h
  · cases h
theorem refElem_nil {v : Value} {ps : List MemPlace} (h : refElem v = some (.nil, ps)) : v = .map none := by
  unfold refElem at h
  split at h
  · simp at h
  · rfl
  · cases h

theorem nodup_of_apart {α β : Type} : ∀ {l : List (α × β)}, l.Pairwise (fun p q => p.1 ≠ q.1) → l.Nodup
  | [], _ => List.nodup_nil
  | p :: l, h => by
    obtain ⟨h1, h2⟩ := List.pairwise_cons.1 h
    exact List.nodup_cons.2 ⟨fun hm => h1 p hm rfl, nodup_of_apart h2⟩
theorem rep_congr {H α β : Type} {ek : α → Lit} {ev : β → DataW H} {D : DataW H} {ps qs : List (α × β)} (h : Pl.Rep ek ev D ps) (hq : qs.Pairwise (fun p q => p.1 ≠ q.1)) (hm : ∀ p, p ∈ ps ↔ p ∈ qs) : Pl.Rep ek ev D qs := by
  obtain ⟨es, rfl, hp, hn⟩ := h
  refine ⟨es, rfl, hp.trans (List.Perm.map _ ?_), hq⟩
  exact (List.perm_ext_iff_of_nodup (nodup_of_apart hn) (nodup_of_apart hq)).2 hm

/-- THE OUTER MAP (nil, or block B: at most n entries) HOLDS JUST THE NAMES MET BELOW k AMONG S; each leads to a tally of its own, block 'β name', that holds 'T name'. All blocks from lo on. -/
structure Scp (w : World) (lo : Nat) (oc : Option Nat) (n : Nat) (S : Nat → Bool) (Nm : Nat → ByteArray) (k : Nat) (β : ByteArray → Nat) (T : ByteArray → List (Int × Int)) : Prop where
  out : (oc = none ∧ ∀ i, i < k → S i = false) ∨ ∃ B D, oc = some B ∧ lo ≤ B ∧ w.ownsMap Try.prog 9 refElem B n D ∧ Pl.Rep sK bV D (Pl.mk S Nm k β)
  inn : ∀ i, i < k → S i = true → lo ≤ β (Nm i) ∧ oc ≠ some (β (Nm i)) ∧ Tal w (β (Nm i)) n (T (Nm i))
  dis : ∀ i j, i < k → j < k → S i = true → S j = true → Nm i ≠ Nm j → β (Nm i) ≠ β (Nm j)

/-- Met below k. -/
def Met (S : Nat → Bool) (Nm : Nat → ByteArray) (k : Nat) (s : ByteArray) : Prop := ∃ i, i < k ∧ S i = true ∧ Nm i = s

/-- The maps that there are stay as they are. -/
def MapsKept (w w' : World) : Prop := ∀ (i : Nat) (es : Array MapEntry) (c : Nat), w.heap[i]? = some (Obj.map es c) → w'.heap[i]? = some (Obj.map es c)
theorem MapsKept.alloc (w : World) (o : Obj) : MapsKept w (w.alloc o) := fun i es c h => by
  have hlt := (Array.getElem?_eq_some_iff.1 h).1
  rw [Below.heap_alloc w o i hlt]; exact h
theorem MapsKept.setCell (w : World) (p : Addr) (v u : Value) (hc : w.cell? p = some v) : MapsKept w (w.setCell p u) := fun i es c h => by
  have hne : i ≠ p.block := fun e => by subst e; simp [World.cell?, h] at hc
  rw [Below.heap_setCell _ _ _ _ hne]; exact h
theorem MapsKept.trans {a b c : World} (h : MapsKept a b) (k : MapsKept b c) : MapsKept a c := fun i es cl h0 => k i es cl (h i es cl h0)

theorem ownsMap_maps {H : Type} {P : Program} {k : TypeId} {R : Value → Option (DataW H × List MemPlace)} {w w' : World} {b n : Nat} {D : DataW H} (h : w.ownsMap P k R b n D) (hm : MapsKept w w') : w'.ownsMap P k R b n D := by
  obtain ⟨es, c, hb, r⟩ := h
  exact ⟨es, c, hm b es c hb, r⟩
theorem Tal.maps {w w' : World} {b n : Nat} {ps : List (Int × Int)} (h : Tal w b n ps) (hm : MapsKept w w') : Tal w' b n ps := by
  obtain ⟨D, h1, h2⟩ := h
  exact ⟨D, ownsMap_maps h1 hm, h2⟩
theorem TalO.maps {w w' : World} {o : Option Nat} {n : Nat} {ps : List (Int × Int)} (h : TalO w o n ps) (hm : MapsKept w w') : TalO w' o n ps := by
  rcases h with h | ⟨b, e, h⟩
  · exact .inl h
  · exact .inr ⟨b, e, h.maps hm⟩
theorem Tal.mono {w : World} {b n n' : Nat} {ps : List (Int × Int)} (h : Tal w b n ps) (hn : n ≤ n') : Tal w b n' ps := by
  obtain ⟨D, h1, h2⟩ := h
  exact ⟨D, h1.mono hn, h2⟩

section
variable {w w' : World} {lo n n' k : Nat} {oc : Option Nat} {S : Nat → Bool} {Nm : Nat → ByteArray} {β : ByteArray → Nat} {T : ByteArray → List (Int × Int)} {s : ByteArray}

theorem Scp.maps (h : Scp w lo oc n S Nm k β T) (hm : MapsKept w w') : Scp w' lo oc n S Nm k β T := by
  refine ⟨?_, fun i hi hs => ⟨(h.inn i hi hs).1, (h.inn i hi hs).2.1, (h.inn i hi hs).2.2.maps hm⟩, h.dis⟩
  rcases h.out with h1 | ⟨B, D, e, hl, h1, h2⟩
  · exact .inl h1
  · exact .inr ⟨B, D, e, hl, ownsMap_maps h1 hm, h2⟩

theorem Scp.drew (h : Scp w lo oc n S Nm k β T) : Scp w.drew lo oc n S Nm k β T := ⟨h.out, h.inn, h.dis⟩
theorem Scp.drewN (h : Scp w lo oc n S Nm k β T) (q : Nat) : Scp (w.drewN q) lo oc n S Nm k β T := ⟨h.out, h.inn, h.dis⟩

theorem Scp.mono (h : Scp w lo oc n S Nm k β T) (hn : n ≤ n') : Scp w lo oc n' S Nm k β T := by
  refine ⟨?_, fun i hi hs => ⟨(h.inn i hi hs).1, (h.inn i hi hs).2.1, (h.inn i hi hs).2.2.mono hn⟩, h.dis⟩
  rcases h.out with h1 | ⟨B, D, e, hl, h1, h2⟩
  · exact .inl h1
  · exact .inr ⟨B, D, e, hl, h1.mono hn, h2⟩

/-- Nothing of hers is written. -/
theorem Scp.kept {row : Option Nat} (h : Scp w lo oc n S Nm k β T) (hg : w.grownBy w' row) (h1 : row = none ∨ row ≠ oc) (h2 : ∀ i, i < k → S i = true → row ≠ some (β (Nm i))) : Scp w' lo oc n S Nm k β T := by
  refine ⟨?_, fun i hi hs => ⟨(h.inn i hi hs).1, (h.inn i hi hs).2.1, (h.inn i hi hs).2.2.kept hg (fun e => h2 i hi hs e.symm)⟩, h.dis⟩
  rcases h.out with h3 | ⟨B, D, e, hl, h3, h4⟩
  · exact .inl h3
  · refine .inr ⟨B, D, e, hl, h3.kept hg (fun e' => ?_), h4⟩
    rcases h1 with h1 | h1
    · rw [h1] at e'; cases e'
    · exact h1 (e'.symm.trans e.symm)

theorem Scp.lts (h : Scp w lo oc n S Nm k β T) : (∀ B, oc = some B → B < w.heap.size) ∧ ∀ i, i < k → S i = true → β (Nm i) < w.heap.size := by
  refine ⟨fun B hB => ?_, fun i hi hs => (h.inn i hi hs).2.2.lt⟩
  rcases h.out with ⟨e, _⟩ | ⟨B', D, e, _, h3, _⟩
  · rw [e] at hB; cases hB
  · rw [e] at hB; cases hB; exact h3.lt

theorem mk_met (f : ByteArray → Nat) : (∃ p ∈ Pl.mk S Nm k f, p.1 = s) ↔ Met S Nm k s := by
  constructor
  · rintro ⟨p, hp, rfl⟩; exact (Pl.mem_mk.1 hp).1
  · intro h; exact ⟨(s, f s), Pl.mem_mk.2 ⟨h, rfl⟩, rfl⟩

/-- 's[name]', met. -/
theorem Scp.look {B : Nat} (h : Scp w lo (some B) n S Nm k β T) (hs : s.size ≤ maxLen) (hm : Met S Nm k s) (c : Bool) :
    (Instr.lookup 41 (.map (some B)) (.string s) c).run Try.prog w = .ok (if c then .tuple #[.map (some (β s)), .bool true] else .map (some (β s))) w := by
  rcases h.out with ⟨e, _⟩ | ⟨B', D, e, _, h1, h2⟩
  · cases e
  cases e
  have hk := keyOf_string_mk (P := Try.prog) (k := 9) Try.underlying9 hs
  have hz : refElem (.map none) = some (.nil, []) := rfl
  have ha : D.atKey (sK s) .nil = bV (β s) := h2.at encS (Pl.mem_mk.2 ⟨hm, rfl⟩) _
  have hh : Maps.has D (sK s) = true := (h2.has encS s).2 ((mk_met β).2 hm)
  cases c
  · obtain ⟨v', ps', hrun, hv⟩ := h1.lookup law9 Try.underlying41 (zero29 w) hz hk
    have hv' : refElem v' = some (bV (β s), ps') := by rw [hv]; exact congrArg (fun x => some (x, ps')) ha
    obtain rfl := refElem_inv hv'
    exact hrun
  · obtain ⟨v', ps', hrun, hv⟩ := h1.look_ok law9 Try.underlying41 (zero29 w) hz hk
    have hv' : refElem v' = some (bV (β s), ps') := by rw [hv]; exact congrArg (fun x => some (x, ps')) ha
    obtain rfl := refElem_inv hv'
    have hh' : Maps.has D (Lit.string s.data.toList) = true := hh
    rw [hh'] at hrun
    exact hrun

/-- 's[name]', not met. -/
theorem Scp.miss {B : Nat} (h : Scp w lo (some B) n S Nm k β T) (hs : s.size ≤ maxLen) (hm : ¬ Met S Nm k s) :
    (Instr.lookup 41 (.map (some B)) (.string s) false).run Try.prog w = .ok (.map none) w := by
  rcases h.out with ⟨e, _⟩ | ⟨B', D, e, _, h1, h2⟩
  · cases e
  cases e
  have hk := keyOf_string_mk (P := Try.prog) (k := 9) Try.underlying9 hs
  have hz : refElem (.map none) = some (.nil, []) := rfl
  have ha : D.atKey (sK s) .nil = .nil := h2.at_none encS (fun h => hm ((mk_met β).1 h)) _
  obtain ⟨v', ps', hrun, hv⟩ := h1.lookup law9 Try.underlying41 (zero29 w) hz hk
  have hv' : refElem v' = some (.nil, ps') := by rw [hv]; exact congrArg (fun x => some (x, ps')) ha
  obtain rfl := refElem_nil hv'
  exact hrun

/-- Name k is none of S. -/
theorem Scp.skip (h : Scp w lo oc n S Nm k β T) (hk : S k = false) : Scp w lo oc n S Nm (k + 1) β T := by
  have red : ∀ i, i < k + 1 → S i = true → i < k := fun i hi hs => by
    by_cases e : i = k
    · subst e; rw [hk] at hs; cases hs
    · omega
  refine ⟨?_, fun i hi hs => h.inn i (red i hi hs) hs, fun i j hi hj hs hs' => h.dis i j (red i hi hs) (red j hj hs') hs hs'⟩
  rcases h.out with ⟨e, h1⟩ | ⟨B, D, e, hl, h1, h2⟩
  · refine .inl ⟨e, fun i hi => ?_⟩
    by_cases e : i = k
    · subst e; exact hk
    · exact h1 i (by omega)
  · exact .inr ⟨B, D, e, hl, h1, by rw [Pl.mk_skip hk]; exact h2⟩

/-- Name k has been met before. -/
theorem Scp.again {B : Nat} (h : Scp w lo (some B) n S Nm k β T) (hk : S k = true) (hm : Met S Nm k (Nm k)) : Scp w lo (some B) n S Nm (k + 1) β T := by
  have red : ∀ i, i < k + 1 → S i = true → ∃ j, j < k ∧ S j = true ∧ Nm j = Nm i := fun i hi hs => by
    by_cases e : i = k
    · subst e; exact hm
    · exact ⟨i, by omega, hs, rfl⟩
  refine ⟨?_, fun i hi hs => ?_, fun i j hi hj hs hs' hne => ?_⟩
  · rcases h.out with ⟨e, _⟩ | ⟨B', D, e, hl, h1, h2⟩
    · cases e
    · refine .inr ⟨B', D, e, hl, h1, rep_congr h2 Pl.mk_apart (fun p => ?_)⟩
      rw [Pl.mem_mk, Pl.mem_mk]
      constructor
      · rintro ⟨⟨i, hi, hs, hn⟩, hp⟩; exact ⟨⟨i, by omega, hs, hn⟩, hp⟩
      · rintro ⟨⟨i, hi, hs, hn⟩, hp⟩
        obtain ⟨j, hj, hs', hn'⟩ := red i hi hs
        exact ⟨⟨j, hj, hs', hn'.trans hn⟩, hp⟩
  · obtain ⟨j, hj, hs', hn'⟩ := red i hi hs
    rw [← hn']
    exact h.inn j hj hs'
  · obtain ⟨i', hi', hs1, hn1⟩ := red i hi hs
    obtain ⟨j', hj', hs2, hn2⟩ := red j hj hs'
    rw [← hn1, ← hn2]
    exact h.dis i' j' hi' hj' hs1 hs2 (by rw [hn1, hn2]; exact hne)

/-- A tally of hers is written. -/
theorem Scp.touch {ps : List (Int × Int)} (h : Scp w lo oc n S Nm k β T) (hm : Met S Nm k s) (hg : w.grownBy w' (some (β s))) (ht : Tal w' (β s) n' ps) (hn : n ≤ n') :
    Scp w' lo oc n' S Nm k β (fun x => if x = s then ps else T x) := by
  obtain ⟨i0, hi0, hs0, rfl⟩ := hm
  refine ⟨?_, fun i hi hs => ⟨(h.inn i hi hs).1, (h.inn i hi hs).2.1, ?_⟩, h.dis⟩
  · rcases h.out with h3 | ⟨B, D, e, hl, h3, h4⟩
    · exact .inl h3
    · refine .inr ⟨B, D, e, hl, (h3.kept hg (fun e' => (h.inn i0 hi0 hs0).2.1 (e.trans e'))).mono hn, h4⟩
  · by_cases e : Nm i = Nm i0
    · rw [if_pos e, e]; exact ht
    · rw [if_neg e]
      exact ((h.inn i hi hs).2.2.kept hg (fun e' => h.dis i i0 hi hi0 hs hs0 e (Option.some.inj e'))).mono hn

/-- 's[name] = t': a new name, a tally of its own. -/
theorem Scp.new {B b : Nat} {ps : List (Int × Int)} (h : Scp w lo (some B) n S Nm k β T) (hn : n < maxLen) (hk : S k = true) (hsz : (Nm k).size ≤ maxLen) (hm : ¬ Met S Nm k (Nm k)) (hb : lo ≤ b) (hbB : b ≠ B) (hbi : ∀ i, i < k → S i = true → b ≠ β (Nm i)) (ht : Tal w b (n + 1) ps) :
    ∃ w', (Instr.mapUpdate 41 (.map (some B)) (.string (Nm k)) (.map (some b))).run Try.prog w = .ok () w' ∧ w.grownBy w' (some B) ∧
      Scp w' lo (some B) (n + 1) S Nm (k + 1) (fun x => if x = Nm k then b else β x) (fun x => if x = Nm k then ps else T x) := by
  rcases h.out with ⟨e, _⟩ | ⟨B', D, e, hl, h1, h2⟩
  · cases e
  cases e
  obtain ⟨w1, hrun, ho, hg⟩ := h1.update law9 Try.underlying41 hn (keyOf_string_mk Try.underlying9 hsz) (refElem_mk b)
  have other : ∀ i, i < k → S i = true → Nm i ≠ Nm k := fun i hi hs e => hm ⟨i, hi, hs, e⟩
  have red : ∀ i, i < k + 1 → i ≠ k → i < k := fun i hi hne => by omega
  refine ⟨w1, hrun, hg, ?_, fun i hi hs => ?_, fun i j hi hj hs hs' hne => ?_⟩
  · refine .inr ⟨B, _, rfl, hl, ho, ?_⟩
    rw [Pl.mk_succ (f := β) hk (fun x hx => by simp [hx])]
    simp only [if_true]
    exact h2.put encS (Nm k) b
  · by_cases e : i = k
    · subst e
      simp only [if_true]
      exact ⟨hb, fun e => hbB (Option.some.inj e).symm, ht.kept hg (fun e => hbB (Option.some.inj e))⟩
    · have hik := red i hi e
      simp only [if_neg (other i hik hs)]
      obtain ⟨q1, q2, q3⟩ := h.inn i hik hs
      exact ⟨q1, q2, (q3.kept hg (fun e => q2 e.symm)).mono (Nat.le_succ _)⟩
  · by_cases ei : i = k
    · by_cases ej : j = k
      · exact absurd (by rw [ei, ej]) hne
      · have hjk := red j hj ej
        subst ei
        simp only [if_true, if_neg (other j hjk hs')]
        exact hbi j hjk hs'
    · have hik := red i hi ei
      by_cases ej : j = k
      · subst ej
        simp only [if_true, if_neg (other i hik hs)]
        exact (hbi i hik hs).symm
      · have hjk := red j hj ej
        simp only [if_neg (other i hik hs), if_neg (other j hjk hs')]
        exact h.dis i j hik hjk hs hs' hne

/-- 's[name] = t': a name that is there, the tally that is there. -/
theorem Scp.same {B : Nat} (h : Scp w lo (some B) n S Nm k β T) (hn : n < maxLen) (hk : S k = true) (hsz : (Nm k).size ≤ maxLen) (hm : Met S Nm k (Nm k)) :
    ∃ w', (Instr.mapUpdate 41 (.map (some B)) (.string (Nm k)) (.map (some (β (Nm k))))).run Try.prog w = .ok () w' ∧ w.grownBy w' (some B) ∧ Scp w' lo (some B) (n + 1) S Nm (k + 1) β T := by
  have h' := h.again hk hm
  rcases h.out with ⟨e, _⟩ | ⟨B', D, e, hl, h1, h2⟩
  · cases e
  cases e
  obtain ⟨w1, hrun, ho, hg⟩ := h1.update law9 Try.underlying41 hn (keyOf_string_mk Try.underlying9 hsz) (refElem_mk (β (Nm k)))
  refine ⟨w1, hrun, hg, .inr ⟨B, _, rfl, hl, ho, ?_⟩, fun i hi hs => ?_, h'.dis⟩
  · rw [Pl.mk_succ (f := β) hk (fun x hx => rfl)]
    exact h2.put encS (Nm k) (β (Nm k))
  · obtain ⟨q1, q2, q3⟩ := h'.inn i hi hs
    exact ⟨q1, q2, (q3.kept hg (fun e => q2 e.symm)).mono (Nat.le_succ _)⟩

theorem Scp.made (w : World) (lo : Nat) (hlo : lo ≤ w.heap.size) (S : Nat → Bool) (Nm : Nat → ByteArray) (k : Nat) (β : ByteArray → Nat) (T : ByteArray → List (Int × Int)) (hno : ∀ i, i < k → S i = false) : Scp (w.alloc (.map #[] 0)) lo (some w.heap.size) 0 S Nm k β T := by
  refine ⟨.inr ⟨_, .map [], rfl, hlo, World.ownsMap_made _ _ _ _, ?_⟩, fun i hi hs => ?_, fun i j hi hj hs => ?_⟩
  · have : Pl.mk S Nm k β = [] := by
      rw [List.eq_nil_iff_forall_not_mem]
      intro p hp
      obtain ⟨⟨i, hi, hs, _⟩, _⟩ := Pl.mem_mk.1 hp
      rw [hno i hi] at hs
      cases hs
    rw [this]
    exact Pl.rep_empty _ _
  · rw [hno i hi] at hs; cases hs
  · rw [hno i hi] at hs; cases hs

theorem Scp.nil (w : World) (lo n : Nat) (S : Nat → Bool) (Nm : Nat → ByteArray) (k : Nat) (β : ByteArray → Nat) (T : ByteArray → List (Int × Int)) (hno : ∀ i, i < k → S i = false) : Scp w lo none n S Nm k β T :=
  ⟨.inl ⟨rfl, hno⟩, fun i hi hs => (by rw [hno i hi] at hs; cases hs), fun i j hi hj hs => (by rw [hno i hi] at hs; cases hs)⟩

/-- 'len(s)' at the operation. -/
theorem wpList_len_scp (w : World) {ops : Array Oper} {rest : List Oper} {o : Oper} {a : Act} {Q : Exit → Act → World → Prop} (hg : o.guard = none) (m : Operand) (hop : o.op = Op.call { callee := Callee.builtin Builtin.len, args := #[m], argTypes := #[41] })
    (B : Nat) (hm : a.eval m = .map (some B)) (h : Scp w lo (some B) n S Nm k β T) (hK : wpList Try.prog ops Q rest (a.put o.dst (.int .i64 (Pl.cnt (Pl.lastB S Nm k) k : Nat))) w) : wpList Try.prog ops Q (o :: rest) a w := by
  rcases h.out with ⟨e, _⟩ | ⟨B', D, e, hl, h1, h2⟩
  · cases e
  cases e
  refine wpList_len_own w hg m 41 hop 9 29 Try.underlying41 _ B n D hm h1 ?_
  rw [h2.size, Pl.mk_length_cnt]
  exact hK

end
end Go.Proofs.Qxb6603978a
