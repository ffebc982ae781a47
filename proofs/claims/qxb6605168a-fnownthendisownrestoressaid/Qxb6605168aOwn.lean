/-
  own, ZZOwn, ZZOwns, ZZCount, ZZSessions: their contracts.
-/
import Derived.Test.Qxb6605168aSets
namespace Go.Proofs.Qxb6605168a
open Go.RowKit Go.Maps Go.WideMaps
set_option linter.unusedVariables false
set_option linter.unusedSimpArgs false

/-- M but for the pair (o, s), which it holds where c does. -/
def Upd (M : Int → ByteArray → Prop) (o : Int) (s : ByteArray) (c : Bool) : Int → ByteArray → Prop := fun a t => (a = o ∧ t = s ∧ c = true) ∨ (¬ (a = o ∧ t = s) ∧ M a t)
theorem Upd.other {M : Int → ByteArray → Prop} {o a : Int} {s : ByteArray} {c : Bool} (h : a ≠ o) : Upd M o s c a = M a := by
  funext t
  simp [Upd, h]

/-- WHAT AN own LEAVES. -/
def Owned (w w' : World) (lo bt B n : Nat) (M : Int → ByteArray → Prop) : Prop := (∃ β, Own w' lo bt B n M β) ∧ CellsKept w w' ∧ Below lo w w'

section
variable {w w' : World} {lo bt B n n' : Nat} {M M' : Int → ByteArray → Prop} {β : Int → Nat} {s : ByteArray} {o : Int}

theorem Own.lo_le (h : Own w lo bt B n M β) : lo ≤ w.heap.size := by
  have := World.block_lt_of_cell? _ _ h.cell
  have := h.lob
  simp only at *
  omega
theorem below_turned {b : Nat} (h : w.mapTurned w' b) (hb : lo ≤ b) (hl : lo ≤ w.heap.size) : Below lo w w' := (Below.refl _ _).grown h.grown hl (fun k hk => by cases hk; exact hb)

theorem Own.touch (h : Own w lo bt B n M β) (ho : Has M o) (ht : w.mapTurned w' (β o)) (hS : Set1 w' (β o) n' (M' o)) (hn : n ≤ n') (hne : Has M' o) (hoth : ∀ a, a ≠ o → M' a = M a) : Own w' lo bt B n' M' β := by
  have hh : ∀ a, Has M a ↔ Has M' a := fun a => by
    by_cases e : a = o
    · subst e; exact ⟨fun _ => hne, fun _ => ho⟩
    · unfold Has; rw [hoth a e]
  refine ⟨(CellsKept.turned ht).cell h.cell, h.lob, h.loB, ((h.out.kept ht.grown (fun e => (h.inn o ho).2.1 (Option.some.inj e).symm)).mono hn).congr hh (fun _ _ => rfl), fun a ha => ?_, fun a a' ha ha' => h.dis a a' ((hh a).2 ha) ((hh a').2 ha')⟩
  obtain ⟨i1, i2, i3⟩ := h.inn a ((hh a).2 ha)
  refine ⟨i1, i2, ?_⟩
  by_cases e : a = o
  · subst e; exact hS
  · rw [hoth a e]
    exact (i3.kept ht.grown (fun e' => h.dis a o ((hh a).2 ha) ho e (Option.some.inj e'))).mono hn

theorem Own.gone (h : Own w lo bt B n M β) (ht : w.mapTurned w' B) (hout : Set2 w' B n (fun a => a ≠ o ∧ Has M a) β) (hno : ¬ Has M' o) (hoth : ∀ a, a ≠ o → M' a = M a) : Own w' lo bt B n M' β := by
  have hh : ∀ a, (a ≠ o ∧ Has M a) ↔ Has M' a := fun a => by
    by_cases e : a = o
    · subst e; exact ⟨fun h => absurd rfl h.1, fun h => absurd h hno⟩
    · unfold Has; rw [hoth a e]; exact ⟨fun h => h.2, fun h => ⟨e, h⟩⟩
  refine ⟨(CellsKept.turned ht).cell h.cell, h.lob, h.loB, hout.congr hh (fun _ _ => rfl), fun a ha => ?_, fun a a' ha ha' => h.dis a a' ((hh a).2 ha).2 ((hh a').2 ha').2⟩
  obtain ⟨i1, i2, i3⟩ := h.inn a ((hh a).2 ha).2
  refine ⟨i1, i2, ?_⟩
  rw [hoth a ((hh a).2 ha).1]
  exact i3.kept ht.grown (fun e' => i2 (Option.some.inj e'))

/-- A new session. -/
theorem Own.new (h : Own w lo bt B n M β) (hn : n < maxLen) (ho : (Lit.int .i64 o).wf = true) (hs : s.size ≤ maxLen) (hno : ¬ Has M o) :
    ∃ w2 w3, (Instr.mapUpdate 58 (.map (some w.heap.size)) (.string s) (.bool true)).run Try.prog (w.alloc (.map #[] 0)) = .ok () w2 ∧
      (Instr.mapUpdate 46 (.map (some B)) (.int .i64 o) (.map (some w.heap.size))).run Try.prog w2 = .ok () w3 ∧ Owned w w3 lo bt B (n + 1) (Upd M o s true) := by
  have hlo := h.lo_le
  obtain ⟨w2, r2, s2, t2⟩ := (Set1.made w).store (s := s) (by unfold maxLen; omega) hs
  have hB : B < w.heap.size := h.out.lt
  have k2 : ∀ b S, Set1 w b n S → Set1 w2 b n S := fun b S hb => (hb.maps (MapsKept.alloc w _)).kept t2.grown (fun e => by have := hb.lt; cases e; omega)
  have o2 : Set2 w2 B n (Has M) β := (h.out.maps (MapsKept.alloc w _)).kept t2.grown (fun e => by cases e; omega)
  obtain ⟨w3, r3, s3, t3⟩ := o2.store (c := w.heap.size) hn ho
  refine ⟨w2, w3, r2, r3, ⟨fun a => if a = o then w.heap.size else β a, ?_⟩, (CellsKept.alloc w _).trans ((CellsKept.turned t2).trans (CellsKept.turned t3)), ?_⟩
  · have hh : ∀ a, (a = o ∨ Has M a) ↔ Has (Upd M o s true) a := fun a => by
      by_cases e : a = o
      · subst e; exact ⟨fun _ => ⟨s, .inl ⟨rfl, rfl, rfl⟩⟩, fun _ => .inl rfl⟩
      · unfold Has; rw [Upd.other e]; exact ⟨fun h => h.resolve_left e, .inr⟩
    have hne : ∀ a, a ≠ o → Has (Upd M o s true) a → Has M a := fun a e ha => ((hh a).2 ha).resolve_left e
    refine ⟨(CellsKept.turned t3).cell ((CellsKept.turned t2).cell ((CellsKept.alloc w _).cell h.cell)), h.lob, h.loB, s3.congr hh (fun _ _ => rfl), fun a ha => ?_, fun a a' ha ha' hd => ?_⟩
    · by_cases e : a = o
      · subst e
        simp only [if_true]
        refine ⟨hlo, by omega, ((s2.kept t3.grown (fun e => by cases e; omega)).mono (by omega)).congr (fun t => ?_)⟩
        constructor
        · rintro (rfl | hf)
          · exact .inl ⟨rfl, rfl, rfl⟩
          · exact hf.elim
        · rintro (h1 | h1)
          · exact .inl h1.2.1
          · exact absurd ⟨t, h1.2⟩ hno
      · simp only [if_neg e]
        obtain ⟨i1, i2, i3⟩ := h.inn a (hne a e ha)
        rw [Upd.other e]
        exact ⟨i1, i2, ((k2 _ _ i3).kept t3.grown (fun e' => i2 (Option.some.inj e'))).mono (by omega)⟩
    · by_cases e : a = o
      · have e' : a' ≠ o := fun e' => hd (e.trans e'.symm)
        simp only [if_pos e, if_neg e']
        have := (h.inn a' (hne a' e' ha')).2.2.lt
        omega
      · simp only [if_neg e]
        have hl := (h.inn a (hne a e ha)).2.2.lt
        by_cases e' : a' = o
        · simp only [if_pos e']; omega
        · simp only [if_neg e']
          exact h.dis a a' (hne a e ha) (hne a' e' ha') hd
  · have l2 : lo ≤ (w.alloc (.map #[] 0)).heap.size := by simp; omega
    have l3 : lo ≤ w2.heap.size := Nat.le_trans l2 t2.grown.size
    exact ((Below.refl lo w).alloc hlo _).trans ((below_turned t2 hlo l2).trans (below_turned t3 h.loB l3))

/-- A session that is there. -/
theorem Own.more (h : Own w lo bt B n M β) (hn : n < maxLen) (hs : s.size ≤ maxLen) (hh : Has M o) :
    ∃ w2, (Instr.mapUpdate 58 (.map (some (β o))) (.string s) (.bool true)).run Try.prog w = .ok () w2 ∧ Owned w w2 lo bt B (n + 1) (Upd M o s true) := by
  obtain ⟨w2, r2, s2, t2⟩ := (h.inn o hh).2.2.store (s := s) hn hs
  refine ⟨w2, r2, ⟨β, h.touch hh t2 (s2.congr (fun t => ?_)) (by omega) ⟨s, .inl ⟨rfl, rfl, rfl⟩⟩ (fun a e => Upd.other e)⟩, CellsKept.turned t2, below_turned t2 (h.inn o hh).1 h.lo_le⟩
  unfold Upd
  by_cases e : t = s <;> simp [e]

/-- The last path of a session. -/
theorem Own.last (h : Own w lo bt B n M β) (ho : (Lit.int .i64 o).wf = true) (hm : M o s) (h1 : ∀ t, M o t → t = s) (ty : TypeId) :
    ∃ w2, (Builtin.delete_ #[46, 2] ty #[.map (some B), .int .i64 o]).run Try.prog w = .ok (.tuple #[]) w2 ∧ Owned w w2 lo bt B (n + 1) (Upd M o s false) := by
  obtain ⟨w2, r2, s2, t2⟩ := h.out.drop ho ty
  refine ⟨w2, r2, ⟨β, (h.gone t2 s2 ?_ (fun a e => Upd.other e)).mono (by omega)⟩, CellsKept.turned t2, below_turned t2 h.loB h.lo_le⟩
  rintro ⟨t, ht | ht⟩
  · cases ht.2.2
  · exact ht.1 ⟨rfl, h1 t ht.2⟩

/-- One path of several. -/
theorem Own.less (h : Own w lo bt B n M β) (hs : s.size ≤ maxLen) (hm : M o s) (h1 : ∃ t, M o t ∧ t ≠ s) (ty : TypeId) :
    ∃ w2, (Builtin.delete_ #[58, 9] ty #[.map (some (β o)), .string s]).run Try.prog w = .ok (.tuple #[]) w2 ∧ Owned w w2 lo bt B (n + 1) (Upd M o s false) := by
  obtain ⟨w2, r2, s2, t2⟩ := (h.inn o ⟨s, hm⟩).2.2.drop (s := s) hs ty
  obtain ⟨t1, ht1, hne⟩ := h1
  refine ⟨w2, r2, ⟨β, h.touch ⟨s, hm⟩ t2 ((s2.mono (Nat.le_succ n)).congr (fun t => ?_)) (by omega) ⟨t1, .inr ⟨fun e => hne e.2, ht1⟩⟩ (fun a e => Upd.other e)⟩, CellsKept.turned t2, below_turned t2 (h.inn o ⟨s, hm⟩).1 h.lo_le⟩
  unfold Upd
  simp

end
end Go.Proofs.Qxb6605168a
