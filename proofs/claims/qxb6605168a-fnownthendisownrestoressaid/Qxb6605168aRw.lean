/-
  THE RECORD BESIDE THE TWO GROWN SLICES OF THE MODEL: 'Rw', 'St'.
-/
import Derived.Test.Qxb6605168aOwnWalk
import Derived.Deep.AppendLies
import Derived.Laws.OwnMore
import Derived.WalkSmall
namespace Go.Proofs.Qxb6605168a
open Go.RowKit Go.Maps Go.WideMaps
set_option linter.unusedVariables false
set_option linter.unusedSimpArgs false

theorem info2 : (Try.prog.info? 2).map (fun i => (i.zero, i.size, i.bytes)) = some (some (.int .i64 0), 1, 8) := by kernel_rfl
theorem info9 : (Try.prog.info? 9).map (fun i => (i.zero, i.size, i.bytes)) = some (some (.string ByteArray.empty), 1, 16) := by kernel_rfl
theorem info_cut {P : Program} {e : TypeId} {z : Value} {s b : Nat} (h : (P.info? e).map (fun i => (i.zero, i.size, i.bytes)) = some (some z, s, b)) : ∃ i, P.info? e = some i ∧ i.zero = some z ∧ i.size = s ∧ i.bytes = b := by
  obtain ⟨i, hi, hzz⟩ := Option.map_eq_some_iff.1 h
  simp only [Prod.mk.injEq] at hzz
  exact ⟨i, hi, hzz.1, hzz.2.1, hzz.2.2⟩

theorem row_block {w : World} {base : Nat} {e : TypeId} {size : Nat} {v : Value} {n : Nat} {xs : List Value} (h : w.ownsRow base e size v n xs) {g : Nat} (hg : v.ownBlock = some g) : ∃ cur, w.heap[g]? = some (.cells cur e (0, 0)) := by
  rcases h.2 with ⟨rfl, _⟩ | ⟨g', cap, cur, rfl, hb, hgg, _⟩
  · simp [Value.ownBlock] at hg
  · simp [Value.ownBlock] at hg
    subst hg
    exact ⟨cur, hgg⟩

/-- What a row looks like. -/
theorem row_view {w : World} {base : Nat} {e : TypeId} {v : Value} {n : Nat} {xs : List Value} (h : w.ownsRow base e 1 v n xs) :
    ∃ a g cap, v = .slice a n cap ∧ (0 < n → a = some ⟨g, 0, none⟩) ∧ n ≤ cap ∧ cap ≤ maxLen ∧ ∀ j, j < n → w.cell? ⟨g, j, none⟩ = xs[j]? := by
  rcases h.2 with ⟨rfl, rfl⟩ | ⟨g, cap, cur, rfl, hb, hgg, hc, hm, _⟩
  · exact ⟨none, 0, 0, rfl, fun h => by omega, by omega, by omega, fun j hj => by omega⟩
  · exact ⟨_, g, cap, rfl, fun _ => rfl, hc, hm, fun j hj => h.cellAt j (by omega)⟩

/-- The record M, and the rows vO, vP of the lists LO, LP. -/
structure Rw (w : World) (lo bt B n : Nat) (M : Int → ByteArray → Prop) (vO vP : Value) (LO : List Int) (LP : List ByteArray) : Prop where
  own : ∃ β, Own w lo bt B n M β
  tree : ∃ cs f, w.heap[bt]? = some (.cells cs 48 f)
  rowO : w.ownsRow lo 2 1 vO LO.length (LO.map (Value.int .i64))
  rowP : w.ownsRow lo 9 1 vP LP.length (LP.map Value.string)

section
variable {w w' : World} {lo bt B n n' : Nat} {M M' : Int → ByteArray → Prop} {vO vP vO' vP' : Value} {LO LO' : List Int} {LP LP' : List ByteArray}

theorem Rw.lo_le (h : Rw w lo bt B n M vO vP LO LP) : lo ≤ w.heap.size := by
  obtain ⟨β, h1⟩ := h.own
  exact h1.lo_le
theorem Rw.mono (h : Rw w lo bt B n M vO vP LO LP) (hn : n ≤ n') : Rw w lo bt B n' M vO vP LO LP := by
  obtain ⟨β, h1⟩ := h.own
  exact ⟨⟨β, h1.mono hn⟩, h.tree, h.rowO, h.rowP⟩
theorem Rw.congr (h : Rw w lo bt B n M vO vP LO LP) (he : ∀ o s, M o s ↔ M' o s) : Rw w lo bt B n M' vO vP LO LP := by
  obtain ⟨β, h1⟩ := h.own
  exact ⟨⟨β, h1.congr he⟩, h.tree, h.rowO, h.rowP⟩
theorem Rw.owned (h : Rw w lo bt B n M vO vP LO LP) (ho : Owned w w' lo bt B n' M') : Rw w' lo bt B n' M' vO vP LO LP := by
  obtain ⟨h1, h2, _⟩ := ho
  obtain ⟨cs, f, ht⟩ := h.tree
  exact ⟨h1, ⟨cs, f, h2 _ _ _ _ ht⟩, h2.row h.rowO, h2.row h.rowP⟩
theorem Rw.alloc (h : Rw w lo bt B n M vO vP LO LP) (o : Obj) : Rw (w.alloc o) lo bt B n M vO vP LO LP := by
  obtain ⟨β, h1⟩ := h.own
  obtain ⟨cs, f, ht⟩ := h.tree
  exact ⟨⟨β, h1.maps (MapsKept.alloc w o) (((CellsKept.alloc w o).cell h1.cell).trans h1.cell.symm)⟩, ⟨cs, f, CellsKept.alloc w o _ _ _ _ ht⟩, h.rowO.alloc o, h.rowP.alloc o⟩
theorem Rw.drewN (h : Rw w lo bt B n M vO vP LO LP) (q : Nat) : Rw (w.drewN q) lo bt B n M vO vP LO LP := by
  obtain ⟨β, h1⟩ := h.own
  exact ⟨⟨β, h1.drewN q⟩, h.tree, h.rowO, h.rowP⟩

theorem grown_maps {e : TypeId} {v : Value} {k : Nat} {xs : List Value} (h : w.ownsRow lo e 1 v k xs) (hg : w.grownBy w' v.ownBlock) : MapsKept w w' := fun i es c hi => by
  rw [hg.block i (Array.getElem?_eq_some_iff.1 hi).1 (fun e1 => by obtain ⟨cur, hc⟩ := row_block h e1.symm; rw [hc] at hi; cases hi)]
  exact hi
theorem grown_cells {e e' : TypeId} {v : Value} {k : Nat} {xs : List Value} (h : w.ownsRow lo e 1 v k xs) (hg : w.grownBy w' v.ownBlock) (hne : e' ≠ e) {i : Nat} {cs : Array Value} {f : Nat × Nat} (hi : w.heap[i]? = some (.cells cs e' f)) : w'.heap[i]? = some (.cells cs e' f) := by
  rw [hg.block i (Array.getElem?_eq_some_iff.1 hi).1 (fun e1 => by obtain ⟨cur, hc⟩ := row_block h e1.symm; rw [hc] at hi; cases hi; exact hne rfl)]
  exact hi
theorem grown_row {e e' : TypeId} {v v' : Value} {k k' : Nat} {xs xs' : List Value} (h : w.ownsRow lo e 1 v k xs) (hg : w.grownBy w' v.ownBlock) (hne : e' ≠ e) (h' : w.ownsRow lo e' 1 v' k' xs') : w'.ownsRow lo e' 1 v' k' xs' := by
  refine h'.kept hg ?_
  cases hb : v'.ownBlock with
  | none => exact .inl rfl
  | some g =>
    refine .inr fun e1 => ?_
    obtain ⟨cur, hc⟩ := row_block h e1.symm
    obtain ⟨cur', hc'⟩ := row_block h' hb
    rw [hc] at hc'
    cases hc'
    exact hne rfl
theorem grown_own {e : TypeId} {v : Value} {k : Nat} {xs : List Value} {β : Int → Nat} (h : w.ownsRow lo e 1 v k xs) (hg : w.grownBy w' v.ownBlock) (hne : (48 : TypeId) ≠ e) {cs : Array Value} {f : Nat × Nat} (ht : w.heap[bt]? = some (.cells cs 48 f)) (ho : Own w lo bt B n M β) : Own w' lo bt B n M β :=
  ho.maps (grown_maps h hg) (World.cell?_of_block ((grown_cells h hg hne ht).trans ht.symm))

theorem Rw.grownO (h : Rw w lo bt B n M vO vP LO LP) (hg : w.grownBy w' vO.ownBlock) (hr : w'.ownsRow lo 2 1 vO' LO'.length (LO'.map (Value.int .i64))) : Rw w' lo bt B n M vO' vP LO' LP := by
  obtain ⟨β, h1⟩ := h.own
  obtain ⟨cs, f, ht⟩ := h.tree
  exact ⟨⟨β, grown_own h.rowO hg (by decide) ht h1⟩, ⟨cs, f, grown_cells h.rowO hg (by decide) ht⟩, hr, grown_row h.rowO hg (by decide) h.rowP⟩
theorem Rw.grownP (h : Rw w lo bt B n M vO vP LO LP) (hg : w.grownBy w' vP.ownBlock) (hr : w'.ownsRow lo 9 1 vP' LP'.length (LP'.map Value.string)) : Rw w' lo bt B n M vO vP' LO LP' := by
  obtain ⟨β, h1⟩ := h.own
  obtain ⟨cs, f, ht⟩ := h.tree
  exact ⟨⟨β, grown_own h.rowP hg (by decide) ht h1⟩, ⟨cs, f, grown_cells h.rowP hg (by decide) ht⟩, grown_row h.rowP hg (by decide) h.rowO, hr⟩

theorem below_row {e : TypeId} {v : Value} {k : Nat} {xs : List Value} (h : w.ownsRow lo e 1 v k xs) (hg : w.grownBy w' v.ownBlock) (hl : lo ≤ w.heap.size) : Below lo w w' :=
  (Below.refl _ _).grown hg hl (fun k hk => (h.lt k hk).1)

theorem news_alloc (w : World) (u : Value) (e : TypeId) : ∀ j x, [u][j]? = some x → (w.alloc (.cells #[u] e)).cell? ((⟨w.heap.size, 0, none⟩ : Addr).add j) = some x := fun j x hx => by
  match j, hx with
  | 0, hx =>
    simp at hx
    subst hx
    have hadd : (⟨w.heap.size, 0, none⟩ : Addr).add 0 = ⟨w.heap.size, 0, none⟩ := by unfold Addr.add; split <;> simp_all
    rw [hadd, cell_of_row _ _ 0 #[u] e (0, 0) (heap_alloc_new w _)]
    rfl

/-- 'mO = append(mO, owner)'. -/
theorem Rw.appO (h : Rw w lo bt B n M vO vP LO LP) (o : Int) (hl : LO.length ≤ 4097) (ty : TypeId) :
    ∃ g cap w2, (Builtin.append_ #[34, 34] ty #[vO, .slice (some ⟨w.heap.size, 0, none⟩) 1 1]).run Try.prog (w.alloc (.cells #[.int .i64 o] 2)) = .ok (.slice (some ⟨g, 0, none⟩) (LO.length + 1) cap) w2 ∧
      Rw w2 lo bt B n M (.slice (some ⟨g, 0, none⟩) (LO.length + 1) cap) vP (LO ++ [o]) LP ∧ Below lo w w2 := by
  obtain ⟨i, i1, i2, i3, i4⟩ := info_cut info2
  have h' := h.alloc (.cells #[.int .i64 o] 2)
  obtain ⟨g, cap, w2, hr, hrow, hg, _, _⟩ := run_append_lies (P := Try.prog) (w.alloc (.cells #[.int .i64 o] 2)) 34 ty lo 2 i (.int .i64 0) 1 8 Try.underlying34 i1 i2 i3 i4 rfl (by omega) vO LO.length _ h'.rowO
    ⟨w.heap.size, 0, none⟩ 1 1 [.int .i64 o] rfl (news_alloc w _ 2) (by intro u hu; simp at hu; subst hu; rfl) (by omega) (by unfold maxLen; omega) (by omega) h'.lo_le _ rfl
  refine ⟨g, cap, w2, hr, h'.grownO hg ?_, ((Below.refl lo w).alloc h.lo_le _).trans (below_row h'.rowO hg h'.lo_le)⟩
  simpa using hrow
theorem Rw.appP (h : Rw w lo bt B n M vO vP LO LP) (s : ByteArray) (hl : LP.length ≤ 4097) (ty : TypeId) :
    ∃ g cap w2, (Builtin.append_ #[22, 22] ty #[vP, .slice (some ⟨w.heap.size, 0, none⟩) 1 1]).run Try.prog (w.alloc (.cells #[.string s] 9)) = .ok (.slice (some ⟨g, 0, none⟩) (LP.length + 1) cap) w2 ∧
      Rw w2 lo bt B n M vO (.slice (some ⟨g, 0, none⟩) (LP.length + 1) cap) LO (LP ++ [s]) ∧ Below lo w w2 := by
  obtain ⟨i, i1, i2, i3, i4⟩ := info_cut info9
  have h' := h.alloc (.cells #[.string s] 9)
  obtain ⟨g, cap, w2, hr, hrow, hg, _, _⟩ := run_append_lies (P := Try.prog) (w.alloc (.cells #[.string s] 9)) 22 ty lo 9 i (.string ByteArray.empty) 1 16 Try.underlying22 i1 i2 i3 i4 rfl (by omega) vP LP.length _ h'.rowP
    ⟨w.heap.size, 0, none⟩ 1 1 [.string s] rfl (news_alloc w _ 9) (by intro u hu; simp at hu; subst hu; rfl) (by omega) (by unfold maxLen; omega) (by omega) h'.lo_le _ rfl
  refine ⟨g, cap, w2, hr, h'.grownP hg ?_, ((Below.refl lo w).alloc h.lo_le _).trans (below_row h'.rowP hg h'.lo_le)⟩
  simpa using hrow

/-- 'mO[j] = o'. -/
theorem Rw.setO {g c k : Nat} (h : Rw w lo bt B n M (.slice (some ⟨g, 0, none⟩) k c) vP LO LP) (hk : k = LO.length) (j : Nat) (o : Int) :
    Rw (w.setCell ⟨g, j, none⟩ (.int .i64 o)) lo bt B n M (.slice (some ⟨g, 0, none⟩) k c) vP (LO.set j o) LP ∧ Below lo w (w.setCell ⟨g, j, none⟩ (.int .i64 o)) := by
  subst hk
  obtain ⟨h1, h2⟩ := h.rowO.stored j (.int .i64 o)
  refine ⟨h.grownO h2 ?_, (Below.refl _ _).setCell (h.rowO.lt g rfl).1 _⟩
  rw [List.length_set, List.map_set]
  exact h1
theorem Rw.setP {g c k : Nat} (h : Rw w lo bt B n M vO (.slice (some ⟨g, 0, none⟩) k c) LO LP) (hk : k = LP.length) (j : Nat) (s : ByteArray) :
    Rw (w.setCell ⟨g, j, none⟩ (.string s)) lo bt B n M vO (.slice (some ⟨g, 0, none⟩) k c) LO (LP.set j s) ∧ Below lo w (w.setCell ⟨g, j, none⟩ (.string s)) := by
  subst hk
  obtain ⟨h1, h2⟩ := h.rowP.stored j (.string s)
  refine ⟨h.grownP h2 ?_, (Below.refl _ _).setCell (h.rowP.lt g rfl).1 _⟩
  rw [List.length_set, List.map_set]
  exact h1
/-- 'mO = mO[:last]'. -/
theorem Rw.popO {g c k : Nat} {x : Int} (h : Rw w lo bt B n M (.slice (some ⟨g, 0, none⟩) (k + 1) c) vP (LO ++ [x]) LP) (hk : k = LO.length) : Rw w lo bt B n M (.slice (some ⟨g, 0, none⟩) k c) vP LO LP := by
  subst hk
  have hr := h.rowO
  rw [List.length_append, List.map_append] at hr
  exact ⟨h.own, h.tree, ownsRow_pop (by simp) hr, h.rowP⟩
theorem Rw.popP {g c k : Nat} {x : ByteArray} (h : Rw w lo bt B n M vO (.slice (some ⟨g, 0, none⟩) (k + 1) c) LO (LP ++ [x])) (hk : k = LP.length) : Rw w lo bt B n M vO (.slice (some ⟨g, 0, none⟩) k c) LO LP := by
  subst hk
  have hr := h.rowP
  rw [List.length_append, List.map_append] at hr
  exact ⟨h.own, h.tree, h.rowO, ownsRow_pop (by simp) hr⟩

theorem frozen_row {e : TypeId} {v : Value} {k g c : Nat} {xs : List Value} (h : w.ownsRow lo e 1 (.slice (some ⟨g, 0, none⟩) k c) k xs) (j : Nat) : w.frozen? ⟨g, j, none⟩ = false := h.frozenAt j
end

/-- THE RECORD IS JUST THE LIST L, and the rows hold it. -/
structure St (w : World) (lo bt B n : Nat) (vO vP : Value) (L : List (Int × ByteArray)) : Prop where
  rw : Rw w lo bt B n (fun o s => (o, s) ∈ L) vO vP (L.map Prod.fst) (L.map Prod.snd)
  nd : L.Nodup
  wf : ∀ p ∈ L, (Lit.int .i64 p.1).wf = true ∧ p.2.size ≤ maxLen

def gO (L : List (Int × ByteArray)) (j : Nat) : Int := (L.getD j (0, ByteArray.empty)).1
def gP (L : List (Int × ByteArray)) (j : Nat) : ByteArray := (L.getD j (0, ByteArray.empty)).2
theorem gOP {L : List (Int × ByteArray)} {j : Nat} (h : j < L.length) : L[j]? = some (gO L j, gP L j) := by
  unfold gO gP
  rw [List.getD_eq_getElem?_getD, List.getElem?_eq_getElem h]
  rfl
theorem gOP_mem {L : List (Int × ByteArray)} {j : Nat} (h : j < L.length) : (gO L j, gP L j) ∈ L := List.mem_of_getElem? (gOP h)
theorem mem_gOP {L : List (Int × ByteArray)} {o : Int} {s : ByteArray} (h : (o, s) ∈ L) : ∃ j, j < L.length ∧ gO L j = o ∧ gP L j = s := by
  obtain ⟨j, hj⟩ := List.mem_iff_getElem?.1 h
  have hlt := (List.getElem?_eq_some_iff.1 hj).1
  rw [gOP hlt] at hj
  simp at hj
  exact ⟨j, hlt, hj.1, hj.2⟩

/-- Where the pair stands. -/
theorem fnd_list (L : List (Int × ByteArray)) (o : Int) (p : ByteArray) :
    (fnd (gO L) (gP L) o p L.length = -1 ∧ (o, p) ∉ L) ∨ ∃ k, k < L.length ∧ fnd (gO L) (gP L) o p L.length = (k : Nat) ∧ L[k]? = some (o, p) ∧ (o, p) ∈ L := by
  rcases fnd_cases (gO L) (gP L) o p L.length with ⟨h1, h2⟩ | ⟨k, hk, h1, h2, h3⟩
  · refine .inl ⟨h1, fun hm => ?_⟩
    obtain ⟨j, hj, e1, e2⟩ := mem_gOP hm
    exact h2 j hj ⟨e1, e2⟩
  · have := gOP hk
    rw [h2, h3] at this
    exact .inr ⟨k, hk, h1, this, List.mem_of_getElem? this⟩

/-- Where the last takes the place of the pair at k. -/
theorem swap_perm {α : Type} {A : List α} {x y : α} {k : Nat} (h : (A ++ [x])[k]? = some y) : (A.set k x ++ [y]).Perm (A ++ [x]) := by
  haveI : DecidableEq α := fun a b => Classical.propDecidable (a = b)
  by_cases hk : k < A.length
  · rw [List.getElem?_append_left hk] at h
    obtain ⟨A1, A2, rfl, rfl⟩ : ∃ A1 A2, A = A1 ++ y :: A2 ∧ k = A1.length := by
      obtain ⟨hk', e⟩ := List.getElem?_eq_some_iff.1 h
      refine ⟨A.take k, A.drop (k + 1), ?_, by simp; omega⟩
      rw [← e, List.getElem_cons_drop, List.take_append_drop]
    rw [List.set_append_right _ _ (Nat.le_refl _)]
    simp only [Nat.sub_self, List.set_cons_zero]
    rw [List.perm_iff_count]
    intro a
    simp only [List.count_append, List.count_cons, List.count_nil]
    omega
  · have hk' : k = A.length := by
      have := (List.getElem?_eq_some_iff.1 h).1
      simp at this
      omega
    subst hk'
    simp at h
    subst h
    rw [List.set_eq_of_length_le (Nat.le_refl _)]

theorem swap_facts {A : List (Int × ByteArray)} {x y : Int × ByteArray} {k : Nat} (h : (A ++ [x])[k]? = some y) (hn : (A ++ [x]).Nodup) : (A.set k x).Nodup ∧ ∀ q, q ∈ A.set k x ↔ q ≠ y ∧ q ∈ A ++ [x] := by
  have hp := swap_perm h
  have hn' := hp.nodup_iff.2 hn
  rw [List.nodup_append] at hn'
  refine ⟨hn'.1, fun q => ?_⟩
  rw [← hp.mem_iff, List.mem_append, List.mem_singleton]
  constructor
  · intro hq; exact ⟨fun e => hn'.2.2 q hq y (by simp) e, .inl hq⟩
  · rintro ⟨h1, h2⟩; exact h2.resolve_right h1

end Go.Proofs.Qxb6605168a
