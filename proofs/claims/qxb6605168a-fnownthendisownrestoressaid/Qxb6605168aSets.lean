/-
  A SESSION'S SET OF PATHS, THE MAP OF SESSIONS, THE RECORD: 'Set1', 'Set2', 'Own'.
-/
import Derived.Test.Qxb6605168aLeaf
import Derived.Maps.RangeWalk
import Derived.Deep.OwnRows
import Derived.RegionTactic
import Derived.BigRegion
import Derived.Lib.SliceRun
import Derived.Deep.Cut
namespace Go.Proofs.Qxb6605168a
open Go.RowKit Go.Maps Go.WideMaps
set_option linter.unusedVariables false
set_option linter.unusedSimpArgs false

theorem law9 : Keyed Try.prog 9 := string_keyed Try.underlying9
theorem law2 : Keyed Try.prog 2 := int_keyed Try.underlying2
theorem zero58 (w : World) : (zeroValue 58).run Try.prog w = .ok (.map none) w := by kernel_rfl
theorem zero4 (w : World) : (zeroValue 4).run Try.prog w = .ok (.bool false) w := by kernel_rfl

/-- How an element of the outer map reads here: the number of its block. -/
def refElem : Value → Option (DataW Unit × List MemPlace)
  | .map (some b) => some (.lit (.int .i64 (b : Int)), [])
  | .map none => some (.nil, [])
  | _ => none
def boolElem : Value → Option (DataW Unit × List MemPlace)
  | .bool b => some (.lit (.bool b), [])
  | _ => none
def sK (s : ByteArray) : Lit := .string s.data.toList
def iK (k : Int) : Lit := .int .i64 k
def bV (b : Nat) : DataW Unit := .lit (.int .i64 (b : Int))
def tV (b : Bool) : DataW Unit := .lit (.bool b)
theorem encS : Pl.KeyEnc sK := ⟨fun a b h => WideShapes.bytes_inj (by simpa [sK] using h), fun _ => trivial⟩
theorem encI : Pl.KeyEnc iK := ⟨fun a b h => by simpa [iK] using h, fun _ => trivial⟩
theorem refElem_mk (b : Nat) : refElem (.map (some b)) = some (bV b, []) := rfl
theorem refElem_inv {v : Value} {b : Nat} {ps : List MemPlace} (h : refElem v = some (bV b, ps)) : v = .map (some b) := by
  unfold refElem at h
  split at h
  · simp [bV] at h
    have e := Int.ofNat.inj h.1
    rw [e]
  · simp [bV] at h
  · cases h
theorem refElem_nil {v : Value} {ps : List MemPlace} (h : refElem v = some (.nil, ps)) : v = .map none := by
  unfold refElem at h
  split at h
  · simp at h
  · rfl
  · cases h
theorem boolElem_mk (b : Bool) : boolElem (.bool b) = some (tV b, []) := rfl
theorem boolElem_inv {v : Value} {b : Bool} {ps : List MemPlace} (h : boolElem v = some (tV b, ps)) : v = .bool b := by
  unfold boolElem at h
  split at h
  · simp [tV] at h
    rw [h.1]
  · cases h

/-- The maps that there are stay as they are. -/
def MapsKept (w w' : World) : Prop := ∀ (i : Nat) (es : Array MapEntry) (c : Nat), w.heap[i]? = some (Obj.map es c) → w'.heap[i]? = some (Obj.map es c)
/-- The cells that there are stay as they are. -/
def CellsKept (w w' : World) : Prop := ∀ (i : Nat) (cs : Array Value) (e : TypeId) (f : Nat × Nat), w.heap[i]? = some (Obj.cells cs e f) → w'.heap[i]? = some (Obj.cells cs e f)
theorem MapsKept.refl (w : World) : MapsKept w w := fun _ _ _ h => h
theorem CellsKept.refl (w : World) : CellsKept w w := fun _ _ _ _ h => h
theorem MapsKept.trans {a b c : World} (h : MapsKept a b) (k : MapsKept b c) : MapsKept a c := fun i es cl h0 => k i es cl (h i es cl h0)
theorem CellsKept.trans {a b c : World} (h : CellsKept a b) (k : CellsKept b c) : CellsKept a c := fun i es cl f h0 => k i es cl f (h i es cl f h0)
theorem MapsKept.alloc (w : World) (o : Obj) : MapsKept w (w.alloc o) := fun i es c h => by
  have hlt := (Array.getElem?_eq_some_iff.1 h).1
  rw [Below.heap_alloc w o i hlt]; exact h
theorem CellsKept.alloc (w : World) (o : Obj) : CellsKept w (w.alloc o) := fun i es c f h => by
  have hlt := (Array.getElem?_eq_some_iff.1 h).1
  rw [Below.heap_alloc w o i hlt]; exact h
theorem CellsKept.drew (w : World) : CellsKept w w.drew := fun _ _ _ _ h => h
theorem MapsKept.drew (w : World) : MapsKept w w.drew := fun _ _ _ h => h
theorem MapsKept.setCell (w : World) (p : Addr) (v u : Value) (hc : w.cell? p = some v) : MapsKept w (w.setCell p u) := fun i es c h => by
  have hne : i ≠ p.block := fun e => by subst e; simp [World.cell?, h] at hc
  rw [Below.heap_setCell _ _ _ _ hne]; exact h
theorem CellsKept.turned {w w' : World} {b : Nat} (h : w.mapTurned w' b) : CellsKept w w' := fun i cs e f hi => by
  have hg := h.grown
  obtain ⟨es, c, es', c', hb, _⟩ := h
  rw [hg.block i (Array.getElem?_eq_some_iff.1 hi).1 (fun e1 => by cases e1; rw [hb] at hi; cases hi)]
  exact hi
theorem CellsKept.cell {w w' : World} (h : CellsKept w w') {a : Addr} {v : Value} (hc : w.cell? a = some v) : w'.cell? a = some v := by
  cases hb : w.heap[a.block]? with
  | none => simp [World.cell?, hb] at hc
  | some o =>
    cases o with
    | cells cs e f => exact (World.cell?_of_block ((h _ _ _ _ hb).trans hb.symm)).trans hc
    | _ => simp [World.cell?, hb] at hc
theorem CellsKept.row {w w' : World} (h : CellsKept w w') {base : Nat} {e : TypeId} {size : Nat} {v : Value} {n : Nat} {xs : List Value} (hr : w.ownsRow base e size v n xs) : w'.ownsRow base e size v n xs := by
  refine ⟨hr.1, ?_⟩
  rcases hr.2 with hn | ⟨g, cap, cur, rfl, hb, hgg, rest⟩
  · exact .inl hn
  · exact .inr ⟨g, cap, cur, rfl, hb, h _ _ _ _ hgg, rest⟩

theorem ownsMap_maps {H : Type} {P : Program} {k : TypeId} {R : Value → Option (DataW H × List MemPlace)} {w w' : World} {b n : Nat} {D : DataW H} (h : w.ownsMap P k R b n D) (hm : MapsKept w w') : w'.ownsMap P k R b n D := by
  obtain ⟨es, c, hb, r⟩ := h
  exact ⟨es, c, hm b es c hb, r⟩

theorem pairs_len {α β : Type} [DecidableEq α] {qs : List (α × β)} {l : List α} (hq : qs.Pairwise (fun p q => p.1 ≠ q.1)) (hl : l.Nodup) (h : ∀ a, a ∈ l ↔ ∃ b, (a, b) ∈ qs) : qs.length = l.length := by
  have h1 : (qs.map Prod.fst).Nodup := by
    rw [List.nodup_iff_pairwise_ne, List.pairwise_map]
    exact hq
  have h2 : (qs.map Prod.fst).Perm l := (List.perm_ext_iff_of_nodup h1 hl).2 (fun a => by
    rw [h a]
    constructor
    · intro hm
      obtain ⟨p, hp, rfl⟩ := List.mem_map.1 hm
      exact ⟨p.2, hp⟩
    · rintro ⟨b, hb⟩
      exact List.mem_map.2 ⟨_, hb, rfl⟩)
  rw [← h2.length_eq, List.length_map]

/-- BLOCK b IS THE SET S OF PATHS: at most n of them. -/
def Set1 (w : World) (b n : Nat) (S : ByteArray → Prop) : Prop :=
  ∃ (D : DataW Unit) (qs : List (ByteArray × Bool)), w.ownsMap Try.prog 9 boolElem b n D ∧ Pl.Rep sK tV D qs ∧ ∀ s x, (s, x) ∈ qs ↔ S s ∧ x = true
/-- BLOCK B LEADS FROM THE SESSIONS A, each to its block. -/
def Set2 (w : World) (B n : Nat) (A : Int → Prop) (β : Int → Nat) : Prop :=
  ∃ (D : DataW Unit) (qs : List (Int × Nat)), w.ownsMap Try.prog 2 refElem B n D ∧ Pl.Rep iK bV D qs ∧ ∀ a x, (a, x) ∈ qs ↔ A a ∧ x = β a

section
variable {w w' : World} {b n n' : Nat} {S S' : ByteArray → Prop} {A A' : Int → Prop} {β β' : Int → Nat} {s : ByteArray} {o : Int}

theorem Set1.maps (h : Set1 w b n S) (hm : MapsKept w w') : Set1 w' b n S := by
  obtain ⟨D, qs, h1, h2⟩ := h
  exact ⟨D, qs, ownsMap_maps h1 hm, h2⟩
theorem Set2.maps (h : Set2 w b n A β) (hm : MapsKept w w') : Set2 w' b n A β := by
  obtain ⟨D, qs, h1, h2⟩ := h
  exact ⟨D, qs, ownsMap_maps h1 hm, h2⟩
theorem Set1.kept {row : Option Nat} (h : Set1 w b n S) (hg : w.grownBy w' row) (hne : some b ≠ row) : Set1 w' b n S := by
  obtain ⟨D, qs, h1, h2⟩ := h
  exact ⟨D, qs, h1.kept hg hne, h2⟩
theorem Set2.kept {row : Option Nat} (h : Set2 w b n A β) (hg : w.grownBy w' row) (hne : some b ≠ row) : Set2 w' b n A β := by
  obtain ⟨D, qs, h1, h2⟩ := h
  exact ⟨D, qs, h1.kept hg hne, h2⟩
theorem Set1.mono (h : Set1 w b n S) (hn : n ≤ n') : Set1 w b n' S := by
  obtain ⟨D, qs, h1, h2⟩ := h
  exact ⟨D, qs, h1.mono hn, h2⟩
theorem Set2.mono (h : Set2 w b n A β) (hn : n ≤ n') : Set2 w b n' A β := by
  obtain ⟨D, qs, h1, h2⟩ := h
  exact ⟨D, qs, h1.mono hn, h2⟩
theorem Set1.congr (h : Set1 w b n S) (he : ∀ s, S s ↔ S' s) : Set1 w b n S' := by
  obtain ⟨D, qs, h1, h2, h3⟩ := h
  exact ⟨D, qs, h1, h2, fun s x => by rw [h3, he]⟩
theorem Set2.congr (h : Set2 w b n A β) (he : ∀ a, A a ↔ A' a) (hb : ∀ a, A a → β a = β' a) : Set2 w b n A' β' := by
  obtain ⟨D, qs, h1, h2, h3⟩ := h
  refine ⟨D, qs, h1, h2, fun a x => ?_⟩
  rw [h3]
  constructor
  · rintro ⟨p, rfl⟩; exact ⟨(he a).1 p, hb a p⟩
  · rintro ⟨p, rfl⟩; exact ⟨(he a).2 p, (hb a ((he a).2 p)).symm⟩
theorem Set1.lt (h : Set1 w b n S) : b < w.heap.size := by
  obtain ⟨D, qs, h1, _⟩ := h
  exact h1.lt
theorem Set2.lt (h : Set2 w b n A β) : b < w.heap.size := by
  obtain ⟨D, qs, h1, _⟩ := h
  exact h1.lt

/-- 'm[path]', there. -/
theorem Set1.look (h : Set1 w b n S) (hs : s.size ≤ maxLen) (hm : S s) : (Instr.lookup 58 (.map (some b)) (.string s) false).run Try.prog w = .ok (.bool true) w := by
  obtain ⟨D, qs, h1, h2, h3⟩ := h
  have hk := keyOf_string_mk (P := Try.prog) (k := 9) Try.underlying9 hs
  have ha : D.atKey (sK s) (tV false) = tV true := h2.at encS ((h3 s true).2 ⟨hm, rfl⟩) _
  obtain ⟨v', ps', hrun, hv⟩ := h1.lookup law9 Try.underlying58 (zero4 w) (boolElem_mk false) hk
  have hv' : boolElem v' = some (tV true, ps') := by rw [hv]; exact congrArg (fun x => some (x, ps')) ha
  obtain rfl := boolElem_inv hv'
  exact hrun
/-- 'm[path]', not there. -/
theorem Set1.miss (h : Set1 w b n S) (hs : s.size ≤ maxLen) (hm : ¬ S s) : (Instr.lookup 58 (.map (some b)) (.string s) false).run Try.prog w = .ok (.bool false) w := by
  obtain ⟨D, qs, h1, h2, h3⟩ := h
  have hk := keyOf_string_mk (P := Try.prog) (k := 9) Try.underlying9 hs
  have ha : D.atKey (sK s) (tV false) = tV false := h2.at_none encS (fun ⟨p, hp, e⟩ => hm (e ▸ ((h3 p.1 p.2).1 hp).1)) _
  obtain ⟨v', ps', hrun, hv⟩ := h1.lookup law9 Try.underlying58 (zero4 w) (boolElem_mk false) hk
  have hv' : boolElem v' = some (tV false, ps') := by rw [hv]; exact congrArg (fun x => some (x, ps')) ha
  obtain rfl := boolElem_inv hv'
  exact hrun
theorem Set2.look (h : Set2 w b n A β) (ho : (Lit.int .i64 o).wf = true) (hm : A o) : (Instr.lookup 46 (.map (some b)) (.int .i64 o) false).run Try.prog w = .ok (.map (some (β o))) w := by
  obtain ⟨D, qs, h1, h2, h3⟩ := h
  have hk := keyOf_int_mk (P := Try.prog) (k := 2) Try.underlying2 ho
  have hz : refElem (.map none) = some (.nil, []) := rfl
  have ha : D.atKey (iK o) .nil = bV (β o) := h2.at encI ((h3 o _).2 ⟨hm, rfl⟩) _
  obtain ⟨v', ps', hrun, hv⟩ := h1.lookup law2 Try.underlying46 (zero58 w) hz hk
  have hv' : refElem v' = some (bV (β o), ps') := by rw [hv]; exact congrArg (fun x => some (x, ps')) ha
  obtain rfl := refElem_inv hv'
  exact hrun
theorem Set2.miss (h : Set2 w b n A β) (ho : (Lit.int .i64 o).wf = true) (hm : ¬ A o) : (Instr.lookup 46 (.map (some b)) (.int .i64 o) false).run Try.prog w = .ok (.map none) w := by
  obtain ⟨D, qs, h1, h2, h3⟩ := h
  have hk := keyOf_int_mk (P := Try.prog) (k := 2) Try.underlying2 ho
  have hz : refElem (.map none) = some (.nil, []) := rfl
  have ha : D.atKey (iK o) .nil = .nil := h2.at_none encI (fun ⟨p, hp, e⟩ => hm (e ▸ ((h3 p.1 p.2).1 hp).1)) _
  obtain ⟨v', ps', hrun, hv⟩ := h1.lookup law2 Try.underlying46 (zero58 w) hz hk
  have hv' : refElem v' = some (.nil, ps') := by rw [hv]; exact congrArg (fun x => some (x, ps')) ha
  obtain rfl := refElem_nil hv'
  exact hrun
theorem look_nil58 (w : World) (hs : s.size ≤ maxLen) : (Instr.lookup 58 (.map none) (.string s) false).run Try.prog w = .ok (.bool false) w :=
  Maps.look_nil (w := w) false law9 Try.underlying58 (zero4 w) (keyOf_string_mk Try.underlying9 hs)

theorem Set1.len (h : Set1 w b n S) {l : List ByteArray} (hl : l.Nodup) (hm : ∀ s, s ∈ l ↔ S s) (t : TypeId) : (Builtin.len_ #[58] t #[.map (some b)]).run Try.prog w = .ok (.int .i64 l.length) w := by
  obtain ⟨D, qs, h1, h2, h3⟩ := h
  have e : Maps.size D = l.length := by
    rw [h2.size]
    obtain ⟨_, _, _, hq⟩ := h2
    exact pairs_len hq hl (fun a => by simp only [h3, hm]; simp)
  rw [← e]
  exact h1.len Try.underlying58 t
theorem Set2.len (h : Set2 w b n A β) {l : List Int} (hl : l.Nodup) (hm : ∀ s, s ∈ l ↔ A s) (t : TypeId) : (Builtin.len_ #[46] t #[.map (some b)]).run Try.prog w = .ok (.int .i64 l.length) w := by
  obtain ⟨D, qs, h1, h2, h3⟩ := h
  have e : Maps.size D = l.length := by
    rw [h2.size]
    obtain ⟨_, _, _, hq⟩ := h2
    exact pairs_len hq hl (fun a => by simp only [h3, hm]; simp)
  rw [← e]
  exact h1.len Try.underlying46 t

/-- A set is a list. -/
theorem Set1.list (h : Set1 w b n S) : ∃ l : List ByteArray, l.Nodup ∧ ∀ s, s ∈ l ↔ S s := by
  obtain ⟨D, qs, h1, ⟨_, _, _, hq⟩, h3⟩ := h
  refine ⟨qs.map Prod.fst, ?_, fun s => ?_⟩
  · rw [List.nodup_iff_pairwise_ne, List.pairwise_map]
    exact hq
  · constructor
    · intro hm
      obtain ⟨p, hp, rfl⟩ := List.mem_map.1 hm
      exact ((h3 p.1 p.2).1 hp).1
    · exact fun hm => List.mem_map.2 ⟨_, (h3 s true).2 ⟨hm, rfl⟩, rfl⟩

theorem put_mem {α γ : Type} [DecidableEq α] {qs : List (α × γ)} {a a' : α} {c c' : γ} : (a', c') ∈ ((qs.filter fun p => decide (p.1 ≠ a)) ++ [(a, c)]) ↔ (a' ≠ a ∧ (a', c') ∈ qs) ∨ (a' = a ∧ c' = c) := by
  rw [List.mem_append, List.mem_filter]
  simp [and_comm]
theorem del_mem {α γ : Type} [DecidableEq α] {qs : List (α × γ)} {a a' : α} {c' : γ} : (a', c') ∈ (qs.filter fun p => decide (p.1 ≠ a)) ↔ (a' ≠ a ∧ (a', c') ∈ qs) := by
  rw [List.mem_filter]
  simp [and_comm]

/-- 'm[path] = true'. -/
theorem Set1.store (h : Set1 w b n S) (hn : n < maxLen) (hs : s.size ≤ maxLen) :
    ∃ w', (Instr.mapUpdate 58 (.map (some b)) (.string s) (.bool true)).run Try.prog w = .ok () w' ∧ Set1 w' b (n + 1) (fun t => t = s ∨ S t) ∧ w.mapTurned w' b := by
  obtain ⟨D, qs, h1, h2, h3⟩ := h
  obtain ⟨w', hrun, ho, hg⟩ := h1.store law9 Try.underlying58 hn (keyOf_string_mk Try.underlying9 hs) (boolElem_mk true)
  refine ⟨w', hrun, ⟨_, _, ho, h2.put encS s true, fun t x => ?_⟩, hg⟩
  rw [put_mem, h3]
  by_cases e : t = s
  · simp [e]
  · simp [e]
/-- 'delete(m, path)'. -/
theorem Set1.drop (h : Set1 w b n S) (hs : s.size ≤ maxLen) (t : TypeId) :
    ∃ w', (Builtin.delete_ #[58, 9] t #[.map (some b), .string s]).run Try.prog w = .ok (.tuple #[]) w' ∧ Set1 w' b n (fun t => t ≠ s ∧ S t) ∧ w.mapTurned w' b := by
  obtain ⟨D, qs, h1, h2, h3⟩ := h
  obtain ⟨w', hrun, ho, hg⟩ := h1.drop law9 Try.underlying58 (keyOf_string_mk Try.underlying9 hs) t
  refine ⟨w', hrun, ⟨_, _, ho, h2.del encS s, fun t x => ?_⟩, hg⟩
  rw [del_mem, h3]
  simp [and_assoc]
theorem Set1.made (w : World) : Set1 (w.alloc (.map #[] 0)) w.heap.size 0 (fun _ => False) := ⟨.map [], [], World.ownsMap_made _ _ _ _, Pl.rep_empty _ _, fun s x => by simp⟩
theorem Set2.made (w : World) (β : Int → Nat) : Set2 (w.alloc (.map #[] 0)) w.heap.size 0 (fun _ => False) β := ⟨.map [], [], World.ownsMap_made _ _ _ _, Pl.rep_empty _ _, fun s x => by simp⟩
/-- 'mm[owner] = m'. -/
theorem Set2.store {c : Nat} (h : Set2 w b n A β) (hn : n < maxLen) (ho : (Lit.int .i64 o).wf = true) :
    ∃ w', (Instr.mapUpdate 46 (.map (some b)) (.int .i64 o) (.map (some c))).run Try.prog w = .ok () w' ∧ Set2 w' b (n + 1) (fun a => a = o ∨ A a) (fun a => if a = o then c else β a) ∧ w.mapTurned w' b := by
  obtain ⟨D, qs, h1, h2, h3⟩ := h
  obtain ⟨w', hrun, hw, hg⟩ := h1.store law2 Try.underlying46 hn (keyOf_int_mk Try.underlying2 ho) (refElem_mk c)
  refine ⟨w', hrun, ⟨_, _, hw, h2.put encI o c, fun a x => ?_⟩, hg⟩
  rw [put_mem, h3]
  by_cases e : a = o
  · simp [e]
  · simp [e]
/-- 'delete(mm, owner)'. -/
theorem Set2.drop (h : Set2 w b n A β) (ho : (Lit.int .i64 o).wf = true) (t : TypeId) :
    ∃ w', (Builtin.delete_ #[46, 2] t #[.map (some b), .int .i64 o]).run Try.prog w = .ok (.tuple #[]) w' ∧ Set2 w' b n (fun a => a ≠ o ∧ A a) β ∧ w.mapTurned w' b := by
  obtain ⟨D, qs, h1, h2, h3⟩ := h
  obtain ⟨w', hrun, hw, hg⟩ := h1.drop law2 Try.underlying46 (keyOf_int_mk Try.underlying2 ho) t
  refine ⟨w', hrun, ⟨_, _, hw, h2.del encI o, fun a x => ?_⟩, hg⟩
  rw [del_mem, h3]
  simp [and_assoc]
end

/-- Session o owns something. -/
def Has (M : Int → ByteArray → Prop) (o : Int) : Prop := ∃ s, M o s

/-- THE RECORD OF THE TREE bt IS JUST M: the map of sessions B, each session's set in a block of its own; all from lo on. -/
structure Own (w : World) (lo bt B n : Nat) (M : Int → ByteArray → Prop) (β : Int → Nat) : Prop where
  cell : w.cell? ⟨bt, 2, none⟩ = some (.map (some B))
  lob : lo ≤ bt
  loB : lo ≤ B
  out : Set2 w B n (Has M) β
  inn : ∀ o, Has M o → lo ≤ β o ∧ β o ≠ B ∧ Set1 w (β o) n (M o)
  dis : ∀ o o', Has M o → Has M o' → o ≠ o' → β o ≠ β o'

section
variable {w w' : World} {lo bt B n n' : Nat} {M M' : Int → ByteArray → Prop} {β : Int → Nat} {s : ByteArray} {o : Int}

theorem Own.maps (h : Own w lo bt B n M β) (hm : MapsKept w w') (hc : w'.cell? ⟨bt, 2, none⟩ = w.cell? ⟨bt, 2, none⟩) : Own w' lo bt B n M β :=
  ⟨hc.trans h.cell, h.lob, h.loB, h.out.maps hm, fun o ho => ⟨(h.inn o ho).1, (h.inn o ho).2.1, (h.inn o ho).2.2.maps hm⟩, h.dis⟩
theorem Own.drewN (h : Own w lo bt B n M β) (q : Nat) : Own (w.drewN q) lo bt B n M β := ⟨h.cell, h.lob, h.loB, h.out, h.inn, h.dis⟩
theorem Own.mono (h : Own w lo bt B n M β) (hn : n ≤ n') : Own w lo bt B n' M β :=
  ⟨h.cell, h.lob, h.loB, h.out.mono hn, fun o ho => ⟨(h.inn o ho).1, (h.inn o ho).2.1, (h.inn o ho).2.2.mono hn⟩, h.dis⟩
theorem Own.congr (h : Own w lo bt B n M β) (he : ∀ o s, M o s ↔ M' o s) : Own w lo bt B n M' β := by
  have e : M = M' := by funext o s; exact propext (he o s)
  rw [← e]; exact h
end

end Go.Proofs.Qxb6605168a
