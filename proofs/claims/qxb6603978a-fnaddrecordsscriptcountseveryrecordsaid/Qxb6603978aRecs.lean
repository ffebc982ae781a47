/-
  addRecords: the state of the two variables, and what a call does to it.
-/
import Derived.Test.Qxb6603978aBuildS
import Derived.Deep.RegionHeld3
namespace Go.Proofs.Qxb6603978a
open Go.RowKit Go.Maps
set_option linter.unusedVariables false
set_option linter.unusedSimpArgs false

/-- THE TWO VARIABLES: 'total' lies in block pt, 'scopes' in block pc; what they lead to. All from block lo on. -/
structure Rc (w : World) (lo pt pc : Nat) (ot oc : Option Nat) (m n : Nat) (ps : List (Int × Int)) (S : Nat → Bool) (Nm : Nat → ByteArray) (k : Nat) (β : ByteArray → Nat) (T : ByteArray → List (Int × Int)) : Prop where
  ct : w.cell? ⟨pt, 0, none⟩ = some (.map ot)
  ft : w.frozen? ⟨pt, 0, none⟩ = false
  cc : w.cell? ⟨pc, 0, none⟩ = some (.map oc)
  fc : w.frozen? ⟨pc, 0, none⟩ = false
  ne : pt ≠ pc
  lot : lo ≤ pt
  loc : lo ≤ pc
  tot : TalO w ot m ps
  tlo : ∀ b, ot = some b → lo ≤ b ∧ oc ≠ some b ∧ ∀ i, i < k → S i = true → b ≠ β (Nm i)
  scp : Scp w lo oc n S Nm k β T

theorem grown_none {w w' : World} (h : Below w.heap.size w w') : w.grownBy w' none := ⟨h.os, h.tape, h.output, h.size, fun i hi _ => h.block i hi⟩

/-- A cell, and its mark, in a block that is not the written map's. -/
theorem cell_grown {w w' : World} {row : Option Nat} (hg : w.grownBy w' row) {p : Addr} {v : Value} (hc : w.cell? p = some v) (hr : some p.block ≠ row) : w'.cell? p = some v := by
  rw [World.cell?_of_block (w := w) (hg.block p.block (World.block_lt_of_cell? _ _ hc) hr)]; exact hc
theorem frozen_grown {w w' : World} {row : Option Nat} (hg : w.grownBy w' row) {p : Addr} {v : Value} (hc : w.cell? p = some v) (hf : w.frozen? p = false) (hr : some p.block ≠ row) : w'.frozen? p = false := by
  rw [World.frozen?_of_block (w := w) (hg.block p.block (World.block_lt_of_cell? _ _ hc) hr)]; exact hf

/-- A block with a cell is no map's. -/
theorem Tal.ne_cell {w : World} {b n : Nat} {ps : List (Int × Int)} {p : Addr} {v : Value} (h : Tal w b n ps) (hc : w.cell? p = some v) : p.block ≠ b := fun e => by
  obtain ⟨D, ⟨es, c, hb, _⟩, _⟩ := h
  subst e
  simp [World.cell?, hb] at hc
theorem Scp.ne_cell {w : World} {lo n k : Nat} {oc : Option Nat} {S : Nat → Bool} {Nm : Nat → ByteArray} {β : ByteArray → Nat} {T : ByteArray → List (Int × Int)} {p : Addr} {v : Value} (h : Scp w lo oc n S Nm k β T) (hc : w.cell? p = some v) : some p.block ≠ oc := fun e => by
  rcases h.out with ⟨e', _⟩ | ⟨B, D, e', _, ⟨es, c, hb, _⟩, _⟩
  · rw [e'] at e; cases e
  · rw [e'] at e
    cases e
    simp [World.cell?, hb] at hc

/-- 'add' on a tally that may be nil: which block is written is said. -/
theorem addO (o : Option Nat) (m : Nat) (ps : List (Int × Int)) (x r n : Int) (w : World) (h : TalO w o m ps) (hm : m < maxLen) (hr : (Lit.int .i64 r).wf = true) (hn : (Lit.int .i64 n).wf = true)
    (hx : (r, x) ∈ ps ∨ (x = 0 ∧ ¬ ∃ p ∈ ps, p.1 = r)) :
    Calls Try.prog 30 #[.map o, .int .i64 r, .int .i64 n] w fun e w' => ∃ b, e = .returned (.map (some b)) ∧ (o = some b ∨ (o = none ∧ b = w.heap.size)) ∧ Tal w' b (m + 1) ((ps.filter fun p => decide (p.1 ≠ r)) ++ [(r, wrap64 (x + n))]) ∧ w.grownBy w' o := by
  rcases h with ⟨rfl, rfl⟩ | ⟨b, rfl, h⟩
  · have hx0 : x = 0 := by
      rcases hx with hx | hx
      · simp at hx
      · exact hx.1
    subst hx0
    refine (add_nil r n w hr hn).mono ?_
    rintro e w' ⟨rfl, ⟨D, h1, h3⟩, h2⟩
    refine ⟨_, rfl, .inr ⟨rfl, rfl⟩, ⟨D, h1.mono (by omega), ?_⟩, grown_none h2⟩
    rw [Int.zero_add, Pl.wrap_of_wf hn]
    exact h3
  · refine (add_some b m ps x r n w h hm hr hx).mono ?_
    rintro e w' ⟨rfl, h1, h2⟩
    exact ⟨b, rfl, .inl rfl, h1, h2⟩

section
variable {w : World} {lo pt pc : Nat} {ot oc : Option Nat} {m n : Nat} {ps : List (Int × Int)} {S : Nat → Bool} {Nm : Nat → ByteArray} {k : Nat} {β : ByteArray → Nat} {T : ByteArray → List (Int × Int)}

theorem Rc.lo_le (h : Rc w lo pt pc ot oc m n ps S Nm k β T) : lo ≤ w.heap.size := Nat.le_trans h.lot (Nat.le_of_lt (World.block_lt_of_cell? _ _ h.ct))

theorem Rc.drew (h : Rc w lo pt pc ot oc m n ps S Nm k β T) : Rc w.drew lo pt pc ot oc m n ps S Nm k β T :=
  ⟨h.ct, h.ft, h.cc, h.fc, h.ne, h.lot, h.loc, h.tot, h.tlo, h.scp.drew⟩
theorem Rc.drewN (h : Rc w lo pt pc ot oc m n ps S Nm k β T) (q : Nat) : Rc (w.drewN q) lo pt pc ot oc m n ps S Nm k β T :=
  ⟨h.ct, h.ft, h.cc, h.fc, h.ne, h.lot, h.loc, h.tot, h.tlo, h.scp.drewN q⟩

/-- '*total = total.add(r, n)'. -/
theorem Rc.total (h : Rc w lo pt pc ot oc m n ps S Nm k β T) {x r c : Int} (hm : m < maxLen) (hr : (Lit.int .i64 r).wf = true) (hc : (Lit.int .i64 c).wf = true) (hx : (r, x) ∈ ps ∨ (x = 0 ∧ ¬ ∃ p ∈ ps, p.1 = r)) :
    Calls Try.prog 30 #[.map ot, .int .i64 r, .int .i64 c] w fun e w1 => ∃ b, e = .returned (.map (some b)) ∧ w1.cell? ⟨pt, 0, none⟩ = some (.map ot) ∧ w1.frozen? ⟨pt, 0, none⟩ = false ∧
      (∀ (p : Nat) (v : ByteArray), w.cell? ⟨p, 0, none⟩ = some (.string v) → (w1.setCell ⟨pt, 0, none⟩ (.map (some b))).cell? ⟨p, 0, none⟩ = some (.string v)) ∧
      Rc (w1.setCell ⟨pt, 0, none⟩ (.map (some b))) lo pt pc (some b) oc (m + 1) n ((ps.filter fun p => decide (p.1 ≠ r)) ++ [(r, wrap64 (x + c))]) S Nm k β T ∧ Below lo w (w1.setCell ⟨pt, 0, none⟩ (.map (some b))) := by
  refine (addO ot m ps x r c w h.tot hm hr hc hx).mono ?_
  rintro e w1 ⟨b, rfl, hb, ht, hg⟩
  have rowNe : ∀ (p : Addr) (v : Value), w.cell? p = some v → some p.block ≠ ot := fun p v hp e => by
    rcases h.tot with ⟨e', _⟩ | ⟨b', e', ht'⟩
    · rw [e'] at e; cases e
    · rw [e'] at e; cases e; exact ht'.ne_cell hp rfl
  have c1 := cell_grown hg h.ct (rowNe _ _ h.ct)
  have f1 := frozen_grown hg h.ct h.ft (rowNe _ _ h.ct)
  have c2 := cell_grown hg h.cc (rowNe _ _ h.cc)
  have f2 := frozen_grown hg h.cc h.fc (rowNe _ _ h.cc)
  have mk := MapsKept.setCell w1 ⟨pt, 0, none⟩ (.map ot) (.map (some b)) c1
  have s1 : Scp w1 lo oc n S Nm k β T := h.scp.kept hg (by
      cases ho : ot with
      | none => exact .inl rfl
      | some b' => exact .inr (fun e => (h.tlo b' ho).2.1 e.symm)) (fun i hi hs e => by
      cases ho : ot with
      | none => rw [ho] at e; cases e
      | some b' => rw [ho] at e; exact (h.tlo b' ho).2.2 i hi hs (Option.some.inj e))
  have blo : lo ≤ b ∧ oc ≠ some b ∧ ∀ i, i < k → S i = true → b ≠ β (Nm i) := by
    rcases hb with hb | ⟨ho, rfl⟩
    · exact h.tlo b hb
    · refine ⟨h.lo_le, fun e => ?_, fun i hi hs e => ?_⟩
      · have := h.scp.lts.1 _ e; omega
      · have := h.scp.lts.2 i hi hs; omega
  have bel1 : Below lo w w1 := (Below.refl _ _).grown hg h.lo_le (fun j hj => (h.tlo j hj).1)
  refine ⟨b, rfl, c1, f1, fun p v hp => ?_, ⟨?_, ?_, ?_, ?_, h.ne, h.lot, h.loc, .inr ⟨b, rfl, ht.maps mk⟩, fun b' hb' => by cases hb'; exact blo, s1.maps mk⟩, bel1.setCell h.lot _⟩
  · have hne : (⟨p, 0, none⟩ : Addr) ≠ ⟨pt, 0, none⟩ := fun e => by rw [e, h.ct] at hp; cases hp
    rw [World.cell?_setCell_other _ _ _ _ hne.symm]
    exact cell_grown hg hp (rowNe _ _ hp)
  · exact World.cell?_setCell_same _ _ _ c1
  · rw [World.frozen?_setCell]; exact f1
  · rw [World.cell?_setCell_other _ _ _ _ (fun e => h.ne (congrArg Addr.block e))]; exact c2
  · rw [World.frozen?_setCell]; exact f2

/-- '*scopes = make(map[string]Tally)'. -/
theorem Rc.make (h : Rc w lo pt pc ot none m n ps S Nm k β T) :
    (w.alloc (.map #[] 0)).cell? ⟨pc, 0, none⟩ = some (.map none) ∧ (w.alloc (.map #[] 0)).frozen? ⟨pc, 0, none⟩ = false ∧
    (∀ (p : Nat) (v : ByteArray), w.cell? ⟨p, 0, none⟩ = some (.string v) → ((w.alloc (.map #[] 0)).setCell ⟨pc, 0, none⟩ (.map (some w.heap.size))).cell? ⟨p, 0, none⟩ = some (.string v)) ∧
    Rc ((w.alloc (.map #[] 0)).setCell ⟨pc, 0, none⟩ (.map (some w.heap.size))) lo pt pc ot (some w.heap.size) m n ps S Nm k β T ∧ Below lo w ((w.alloc (.map #[] 0)).setCell ⟨pc, 0, none⟩ (.map (some w.heap.size))) := by
  have hno : ∀ i, i < k → S i = false := by
    rcases h.scp.out with ⟨_, h1⟩ | ⟨B, D, e, _⟩
    · exact h1
    · cases e
  have hg : w.grownBy (w.alloc (.map #[] 0)) none := World.grownBy_alloc w _ none
  have c1 := cell_grown hg h.cc (by simp)
  have f1 := frozen_grown hg h.cc h.fc (by simp)
  have c2 := cell_grown hg h.ct (by simp)
  have f2 := frozen_grown hg h.ct h.ft (by simp)
  have mk := MapsKept.setCell (w.alloc (.map #[] 0)) ⟨pc, 0, none⟩ (.map none) (.map (some w.heap.size)) c1
  refine ⟨c1, f1, fun p v hp => ?_, ⟨?_, ?_, ?_, ?_, h.ne, h.lot, h.loc, (h.tot.maps (MapsKept.alloc w _)).maps mk, fun b hb => ⟨(h.tlo b hb).1, fun e => ?_, (h.tlo b hb).2.2⟩, ((Scp.made w lo h.lo_le S Nm k β T hno).maps mk).mono (Nat.zero_le _)⟩, ((Below.refl _ _).alloc h.lo_le _).setCell h.loc _⟩
  · have hne : (⟨p, 0, none⟩ : Addr) ≠ ⟨pc, 0, none⟩ := fun e => by rw [e, h.cc] at hp; cases hp
    rw [World.cell?_setCell_other _ _ _ _ hne.symm]
    exact cell_grown hg hp (by simp)
  · rw [World.cell?_setCell_other _ _ _ _ (fun e => h.ne (congrArg Addr.block e).symm)]; exact c2
  · rw [World.frozen?_setCell]; exact f2
  · exact World.cell?_setCell_same _ _ _ c1
  · rw [World.frozen?_setCell]; exact f1
  · have h1 : b = w.heap.size := (Option.some.inj e).symm
    rcases h.tot with ⟨e', _⟩ | ⟨b', e', ht⟩
    · rw [e'] at hb; cases hb
    · rw [e'] at hb; cases hb
      have := ht.lt
      omega

/-- What stands at 'scopes[name]'. -/
theorem Rc.find {B : Nat} (h : Rc w lo pt pc ot (some B) m n ps S Nm k β T) (hsz : (Nm k).size ≤ maxLen) (hT : ¬ Met S Nm k (Nm k) → T (Nm k) = []) :
    ∃ o, (Instr.lookup 41 (.map (some B)) (.string (Nm k)) false).run Try.prog w = .ok (.map o) w ∧ TalO w o n (T (Nm k)) ∧ ((o = some (β (Nm k)) ∧ Met S Nm k (Nm k)) ∨ (o = none ∧ ¬ Met S Nm k (Nm k))) := by
  by_cases hm : Met S Nm k (Nm k)
  · refine ⟨some (β (Nm k)), h.scp.look hsz hm false, .inr ⟨_, rfl, ?_⟩, .inl ⟨rfl, hm⟩⟩
    obtain ⟨i, hi, hs, e⟩ := hm
    have := (h.scp.inn i hi hs).2.2
    rw [e] at this
    exact this
  · exact ⟨none, h.scp.miss hsz hm, .inl ⟨rfl, hT hm⟩, .inr ⟨rfl, hm⟩⟩

/-- '(*scopes)[*scope] = (*scopes)[*scope].add(r, n)': the call, and the store behind it. -/
theorem Rc.scope {B : Nat} (h : Rc w lo pt pc ot (some B) m n ps S Nm k β T) {o : Option Nat} (hn : n + 1 < maxLen) (hk : S k = true) (hsz : (Nm k).size ≤ maxLen)
    (ht0 : TalO w o n (T (Nm k))) (ho : (o = some (β (Nm k)) ∧ Met S Nm k (Nm k)) ∨ (o = none ∧ ¬ Met S Nm k (Nm k)))
    {y r c : Int} (hr : (Lit.int .i64 r).wf = true) (hc : (Lit.int .i64 c).wf = true) (hy : (r, y) ∈ T (Nm k) ∨ (y = 0 ∧ ¬ ∃ p ∈ T (Nm k), p.1 = r)) {psc : Nat} (hs : w.cell? ⟨psc, 0, none⟩ = some (.string (Nm k))) :
    Calls Try.prog 30 #[.map o, .int .i64 r, .int .i64 c] w fun e w5 => ∃ b, e = .returned (.map (some b)) ∧ w5.cell? ⟨pc, 0, none⟩ = some (.map (some B)) ∧ w5.cell? ⟨psc, 0, none⟩ = some (.string (Nm k)) ∧
      ∃ w6, (Instr.mapUpdate 41 (.map (some B)) (.string (Nm k)) (.map (some b))).run Try.prog w5 = .ok () w6 ∧ w6.cell? ⟨pc, 0, none⟩ = some (.map (some B)) ∧ w6.cell? ⟨psc, 0, none⟩ = some (.string (Nm k)) ∧
        (∃ β', Rc w6 lo pt pc ot (some B) m (n + 2) ps S Nm (k + 1) β' (fun x => if x = Nm k then ((T (Nm k)).filter fun p => decide (p.1 ≠ r)) ++ [(r, wrap64 (y + c))] else T x)) ∧ Below lo w w6 := by
  refine (addO o n (T (Nm k)) y r c w ht0 (by omega) hr hc hy).mono ?_
  rintro e w5 ⟨b, rfl, hb, ht, hg⟩
  have rowNe : ∀ (p : Addr) (v : Value), w.cell? p = some v → some p.block ≠ o := fun p v hp e => by
    rcases ht0 with ⟨e', _⟩ | ⟨b', e', ht'⟩
    · rw [e'] at e; cases e
    · rw [e'] at e; cases e; exact ht'.ne_cell hp rfl
  have c1 := cell_grown hg h.ct (rowNe _ _ h.ct)
  have f1 := frozen_grown hg h.ct h.ft (rowNe _ _ h.ct)
  have c2 := cell_grown hg h.cc (rowNe _ _ h.cc)
  have f2 := frozen_grown hg h.cc h.fc (rowNe _ _ h.cc)
  have c3 := cell_grown hg hs (rowNe _ _ hs)
  have blo : lo ≤ B := by
    rcases h.scp.out with ⟨e, _⟩ | ⟨B', D, e, hl, _⟩
    · cases e
    · cases e; exact hl
  have tot5 : TalO w5 ot m ps := by
    rcases h.tot with h1 | ⟨bt, e, h1⟩
    · exact .inl h1
    · refine .inr ⟨bt, e, h1.kept hg (fun e' => ?_)⟩
      rcases ho with ⟨rfl, i, hi, hsi, hni⟩ | ⟨rfl, _⟩
      · have := (h.tlo bt e).2.2 i hi hsi
        rw [hni] at this
        exact this (Option.some.inj e')
      · cases e'
  -- the store, whichever way
  obtain ⟨w6, β', hrun, hg6, s6, hbt⟩ : ∃ w6 β', (Instr.mapUpdate 41 (.map (some B)) (.string (Nm k)) (.map (some b))).run Try.prog w5 = .ok () w6 ∧ w5.grownBy w6 (some B) ∧
      Scp w6 lo (some B) (n + 2) S Nm (k + 1) β' (fun x => if x = Nm k then ((T (Nm k)).filter fun p => decide (p.1 ≠ r)) ++ [(r, wrap64 (y + c))] else T x) ∧
      ∀ bt, ot = some bt → ∀ i, i < k + 1 → S i = true → bt ≠ β' (Nm i) := by
    rcases ho with ⟨rfl, hm⟩ | ⟨rfl, hm⟩
    · have eb : b = β (Nm k) := by
        rcases hb with hb | ⟨hb, _⟩
        · exact (Option.some.inj hb).symm
        · cases hb
      subst eb
      have s5 := h.scp.touch hm hg ht (Nat.le_succ _)
      obtain ⟨w6, hrun, hg6, s6⟩ := s5.same (by omega) hk hsz hm
      refine ⟨w6, β, hrun, hg6, s6, fun bt hbt i hi hsi => ?_⟩
      by_cases e : i = k
      · subst e
        obtain ⟨j, hj, hsj, hnj⟩ := hm
        rw [← hnj]
        exact (h.tlo bt hbt).2.2 j hj hsj
      · exact (h.tlo bt hbt).2.2 i (by omega) hsi
    · have eb : b = w.heap.size := by
        rcases hb with hb | ⟨_, hb⟩
        · cases hb
        · exact hb
      have lts := h.scp.lts
      have s5 := (h.scp.kept hg (.inl rfl) (fun i hi hs e => by cases e))
      obtain ⟨w6, hrun, hg6, s6⟩ := s5.new (by omega) hk hsz hm (b := b) (by rw [eb]; exact h.lo_le) (fun e => by have := lts.1 _ rfl; omega) (fun i hi hs e => by have := lts.2 i hi hs; omega) ht
      refine ⟨w6, _, hrun, hg6, s6.mono (Nat.le_succ _), fun bt hbt i hi hsi => ?_⟩
      by_cases e : i = k
      · subst e
        simp only [if_true]
        intro e'
        rcases h.tot with ⟨e2, _⟩ | ⟨b2, e2, h2⟩
        · rw [e2] at hbt; cases hbt
        · rw [e2] at hbt
          cases hbt
          have := h2.lt
          omega
      · have hne : Nm i ≠ Nm k := fun e' => hm ⟨i, by omega, hsi, e'⟩
        simp only [if_neg hne]
        exact (h.tlo bt hbt).2.2 i (by omega) hsi
  have rowB : ∀ (p : Addr) (v : Value), w.cell? p = some v → some p.block ≠ some B := fun p v hp => h.scp.ne_cell hp
  have lo5 : lo ≤ w5.heap.size := Nat.le_trans h.lo_le hg.size
  have bel5 : Below lo w w5 := (Below.refl _ _).grown hg h.lo_le (fun j hj => by
    rcases ho with ⟨rfl, i, hi, hsi, hni⟩ | ⟨rfl, _⟩
    · cases hj
      have := (h.scp.inn i hi hsi).1
      rw [hni] at this
      exact this
    · cases hj)
  refine ⟨b, rfl, c2, c3, w6, hrun, cell_grown hg6 c2 (rowB _ _ h.cc), cell_grown hg6 c3 (rowB _ _ hs), ⟨β', ⟨cell_grown hg6 c1 (rowB _ _ h.ct), frozen_grown hg6 c1 f1 (rowB _ _ h.ct), cell_grown hg6 c2 (rowB _ _ h.cc), frozen_grown hg6 c2 f2 (rowB _ _ h.cc), h.ne, h.lot, h.loc, ?_, fun bt hb' => ⟨(h.tlo bt hb').1, (h.tlo bt hb').2.1, hbt bt hb'⟩, s6⟩⟩, bel5.grown hg6 lo5 (fun j hj => by cases hj; exact blo)⟩
  rcases tot5 with h1 | ⟨bt, e, h1⟩
  · exact .inl h1
  · exact .inr ⟨bt, e, h1.kept hg6 (fun e' => (h.tlo bt e).2.1 e'.symm)⟩

end
end Go.Proofs.Qxb6603978a
