/-
  THE PLAIN LAW of a script of records, and how the two variables go on round by round.
-/
import Derived.Test.Qxb6603978aAddRec
import Derived.Test.Qxb6603978aScopesLaw
namespace Go.Proofs.Qxb6603978a
open Go.RowKit Go.Maps
set_option linter.unusedVariables false
set_option linter.unusedSimpArgs false

/-- WHAT THE TALLY OF NAME s HOLDS, k rounds done: all counts added. -/
def aT (S : Nat → Bool) (Nm : Nat → ByteArray) (K V : Nat → Int) (k : Nat) (s : ByteArray) : List (Int × Int) := Pl.acc (fun j => S j && decide (Nm j = s)) K V k
/-- index j has a scope, and no later index below m that has one bears its pair -/
def lsB (S : Nat → Bool) (Nm : Nat → ByteArray) (K : Nat → Int) (m j : Nat) : Bool := Pl.lastB S (fun i => (Nm i, K i)) m j
/-- what is added up at the pair of i -/
def gT (S : Nat → Bool) (Nm : Nat → ByteArray) (K V : Nat → Int) (i j : Nat) : Int := Pl.grp (fun x => S x && decide (Nm x = Nm i)) K V j (K i)

section
variable (S : Nat → Bool) (Nm : Nat → ByteArray) (K V : Nat → Int)

theorem aT_hit {k : Nat} (h : S k = true) : aT S Nm K V (k + 1) (Nm k) = (aT S Nm K V k (Nm k)).filter (fun p => decide (p.1 ≠ K k)) ++ [(K k, wrap64 (wrap64 (Pl.grp (fun j => S j && decide (Nm j = Nm k)) K V k (K k)) + V k))] := by
  unfold aT
  exact Pl.acc_step (by simp [h])
theorem aT_other {k : Nat} {s : ByteArray} (h : s ≠ Nm k) : aT S Nm K V (k + 1) s = aT S Nm K V k s := by
  unfold aT
  exact Pl.acc_skip (by simp [Ne.symm h])
theorem aT_skip {k : Nat} (s : ByteArray) (h : S k = false) : aT S Nm K V (k + 1) s = aT S Nm K V k s := by
  unfold aT
  exact Pl.acc_skip (by simp [h])
theorem aT_none {k : Nat} {s : ByteArray} (h : ¬ Met S Nm k s) : aT S Nm K V k s = [] := by
  rw [List.eq_nil_iff_forall_not_mem]
  intro p hp
  unfold aT Pl.acc at hp
  obtain ⟨⟨i, hi, hs, _⟩, _⟩ := Pl.mem_mk.1 hp
  simp only [Bool.and_eq_true, decide_eq_true_iff] at hs
  exact h ⟨i, hi, hs.1, hs.2⟩

theorem ls_split (m : Nat) (s : ByteArray) (j : Nat) : Pl.lastB (fun i => S i && decide (Nm i = s)) K m j = (lsB S Nm K m j && decide (Nm j = s)) := by
  rw [Bool.eq_iff_iff, Bool.and_eq_true]
  unfold lsB
  rw [Pl.lastB_iff, Pl.lastB_iff, decide_eq_true_iff]
  simp only [Bool.and_eq_true, decide_eq_true_iff]
  constructor
  · rintro ⟨⟨h0, h1⟩, h2⟩
    refine ⟨⟨h0, fun i hi hji hs e => ?_⟩, h1⟩
    have e1 : Nm i = Nm j := congrArg Prod.fst e
    have e2 : K i = K j := congrArg Prod.snd e
    exact h2 i hi hji ⟨hs, e1.trans h1⟩ e2
  · rintro ⟨⟨h0, h2⟩, h1⟩
    refine ⟨⟨h0, h1⟩, fun i hi hji hs e => h2 i hi hji hs.1 ?_⟩
    show (Nm i, K i) = (Nm j, K j)
    rw [hs.2, h1, e]

theorem aT_len (m : Nat) (s : ByteArray) : (aT S Nm K V m s).length = Pl.cnt (fun j => lsB S Nm K m j && decide (Nm j = s)) m := by
  unfold aT
  rw [Pl.acc_length]
  exact Pl.cnt_congr m (fun j _ => ls_split S Nm K m s j)
theorem aT_mem {m i : Nat} (hi : i < m) (hs : S i = true) : (K i, wrap64 (gT S Nm K V i m)) ∈ aT S Nm K V m (Nm i) := Pl.acc_mem hi (by simp [hs])
theorem aT_sum (m : Nat) (s : ByteArray) : wrap64 (((aT S Nm K V m s).map Prod.snd).sum) = wrap64 (Pl.sm (fun j => S j && decide (Nm j = s)) V m) := Pl.acc_sum
theorem all_sum (m : Nat) : Pl.sm (Pl.lastB S Nm m) (fun i => Pl.sm (fun j => S j && decide (Nm j = Nm i)) V m) m = Pl.sm S V m := by
  rw [← Pl.sum_groups S Nm V m, Pl.mk_snd_sum]

theorem gT_zero (i : Nat) : gT S Nm K V i 0 = 0 := rfl
theorem gT_yes {i j : Nat} (h1 : S j = true) (h2 : Nm j = Nm i) (h3 : K j = K i) : gT S Nm K V i (j + 1) = gT S Nm K V i j + V j := by
  simp [gT, Pl.grp, Pl.sm, h1, h2, h3]
theorem gT_no {i j : Nat} (h : ¬ (S j = true ∧ Nm j = Nm i ∧ K j = K i)) : gT S Nm K V i (j + 1) = gT S Nm K V i j := by
  unfold gT Pl.grp
  rw [Pl.sm]
  have : (S j && decide (Nm j = Nm i) && decide (K j = K i)) = false := by
    rw [← Bool.not_eq_true]
    intro h'
    simp only [Bool.and_eq_true, decide_eq_true_iff] at h'
    exact h ⟨h'.1.1, h'.1.2, h'.2⟩
  rw [this]
  simp
end

section
variable {w w' : World} {lo pt pc : Nat} {ot oc : Option Nat} {m n n' : Nat} {ps ps' : List (Int × Int)} {S : Nat → Bool} {Nm : Nat → ByteArray} {k : Nat} {β : ByteArray → Nat} {T T' : ByteArray → List (Int × Int)}

theorem Rc.skip (h : Rc w lo pt pc ot oc m n ps S Nm k β T) (hk : S k = false) : Rc w lo pt pc ot oc m n ps S Nm (k + 1) β T :=
  ⟨h.ct, h.ft, h.cc, h.fc, h.ne, h.lot, h.loc, h.tot, fun b hb => ⟨(h.tlo b hb).1, (h.tlo b hb).2.1, fun i hi hs => (h.tlo b hb).2.2 i (by
    by_cases e : i = k
    · subst e; rw [hk] at hs; cases hs
    · omega) hs⟩, h.scp.skip hk⟩
theorem Rc.congr (h : Rc w lo pt pc ot oc m n ps S Nm k β T) (hn : n ≤ n') (hp : ps = ps') (hT : ∀ i, i < k → S i = true → T (Nm i) = T' (Nm i)) : Rc w lo pt pc ot oc m n' ps' S Nm k β T' := by
  subst hp
  exact ⟨h.ct, h.ft, h.cc, h.fc, h.ne, h.lot, h.loc, h.tot, h.tlo, (h.scp.mono hn).congrT hT⟩
theorem Rc.below (h : Rc w lo pt pc ot oc m n ps S Nm k β T) (hb : Below w.heap.size w w') : Rc w' lo pt pc ot oc m n ps S Nm k β T := by
  have hg := grown_none hb
  exact ⟨cell_grown hg h.ct (by simp), frozen_grown hg h.ct h.ft (by simp), cell_grown hg h.cc (by simp), frozen_grown hg h.cc h.fc (by simp), h.ne, h.lot, h.loc, h.tot.below hb (fun b hb' => by
    rcases h.tot with ⟨e, _⟩ | ⟨b', e, ht⟩
    · rw [e] at hb'; cases hb'
    · rw [e] at hb'; cases hb'; exact ht.lt), h.tlo, h.scp.below hb⟩
theorem Rc.tal {b : Nat} (h : Rc w lo pt pc (some b) oc m n ps S Nm k β T) : Tal w b m ps := by
  rcases h.tot with ⟨e, _⟩ | ⟨b', e, ht⟩
  · cases e
  · cases e; exact ht

/-- THE STATE OF A SCRIPT, k rounds done. -/
structure Scr (w : World) (lo pt pc : Nat) (ot oc : Option Nat) (S : Nat → Bool) (Nm : Nat → ByteArray) (K V : Nat → Int) (k : Nat) (β : ByteArray → Nat) : Prop where
  rc : Rc w lo pt pc ot oc k (2 * k) (Pl.acc (fun _ => true) K V k) S Nm k β (aT S Nm K V k)
  tot : ot = none ↔ k = 0
  out : oc = none ↔ ∀ i, i < k → S i = false

theorem Scr.start (w : World) (S : Nat → Bool) (Nm : Nat → ByteArray) (K V : Nat → Int) : Scr ((w.alloc (.cells #[.map none] 29)).alloc (.cells #[.map none] 41)) w.heap.size w.heap.size (w.heap.size + 1) none none S Nm K V 0 (fun _ => 0) := by
  have h7 := World.rowIs_alloc w #[.map none] 29 (fun _ => .map none) (by intro i hi; simp at hi; subst hi; rfl)
  have h8 := World.rowIs_alloc (w.alloc (.cells #[.map none] 29)) #[.map none] 41 (fun _ => .map none) (by intro i hi; simp at hi; subst hi; rfl)
  have esz : (w.alloc (.cells #[.map none] 29)).heap.size = w.heap.size + 1 := by simp
  rw [esz] at h8
  have h9 := h7.alloc (.cells #[.map none] 41)
  exact ⟨⟨h9.cell (by simp), h9.frozen 0, h8.cell (by simp), h8.frozen 0, by omega, Nat.le_refl _, Nat.le_succ _, .inl ⟨rfl, rfl⟩, fun b hb => (by cases hb), Scp.nil _ _ _ _ _ _ _ _ (fun i hi => absurd hi (Nat.not_lt_zero _))⟩, by simp, by simp⟩

variable {K V : Nat → Int}

/-- A round without a scope. -/
theorem Scr.plain (h : Scr w lo pt pc ot oc S Nm K V k β) (hk : k ≤ 4096) (hs : S k = false) (kr : (Lit.int .i64 (K k)).wf = true) (kn : (Lit.int .i64 (V k)).wf = true) :
    Calls Try.prog 24 #[.pointer (some ⟨pt, 0, none⟩), .pointer (some ⟨pc, 0, none⟩), .pointer none, .int .i64 (K k), .int .i64 (V k)] w fun e w' => e = .returned (.tuple #[]) ∧
      (∃ b, Scr w' lo pt pc (some b) oc S Nm K V (k + 1) β) ∧ Below lo w w' := by
  refine (zaddRec_none h.rc (by unfold maxLen; omega) kr kn (Pl.acc_at (K k))).mono ?_
  rintro e w' ⟨rfl, ⟨b, hR⟩, hb⟩
  refine ⟨rfl, ⟨b, ⟨(hR.skip hs).congr (by omega) (Pl.acc_step rfl).symm (fun i hi hsi => (aT_skip S Nm K V _ hs).symm), by simp, ?_⟩⟩, hb⟩
  rw [h.out]
  constructor
  · intro h1 i hi
    by_cases e : i = k
    · subst e; exact hs
    · exact h1 i (by omega)
  · exact fun h1 i hi => h1 i (by omega)

/-- A round with one. -/
theorem Scr.within (h : Scr w lo pt pc ot oc S Nm K V k β) (hk : k ≤ 4096) (hs : S k = true) (ks : (Nm k).size ≤ maxLen) (kr : (Lit.int .i64 (K k)).wf = true) (kn : (Lit.int .i64 (V k)).wf = true) {psc : Nat} (hc : w.cell? ⟨psc, 0, none⟩ = some (.string (Nm k))) :
    Calls Try.prog 24 #[.pointer (some ⟨pt, 0, none⟩), .pointer (some ⟨pc, 0, none⟩), .pointer (some ⟨psc, 0, none⟩), .int .i64 (K k), .int .i64 (V k)] w fun e w' => e = .returned (.tuple #[]) ∧
      (∃ b B β', Scr w' lo pt pc (some b) (some B) S Nm K V (k + 1) β') ∧ Below lo w w' := by
  refine (zaddRec_some h.rc (by unfold maxLen; omega) (by unfold maxLen; omega) kr kn (Pl.acc_at (K k)) hs ks (fun hm => aT_none S Nm K V hm) (Pl.acc_at (K k)) hc).mono ?_
  rintro e w' ⟨rfl, ⟨b, B, β', hR⟩, hb⟩
  refine ⟨rfl, ⟨b, B, β', ⟨hR.congr (by omega) (Pl.acc_step rfl).symm (fun i hi hsi => ?_), by simp, ?_⟩⟩, hb⟩
  · by_cases e : Nm i = Nm k
    · rw [if_pos e, e, aT_hit S Nm K V hs]
    · rw [if_neg e, aT_other S Nm K V e]
  · constructor
    · intro h1; cases h1
    · intro h1
      have := h1 k (Nat.lt_succ_self _)
      rw [hs] at this
      cases this

theorem Scr.alloc (h : Scr w lo pt pc ot oc S Nm K V k β) (o : Obj) : Scr (w.alloc o) lo pt pc ot oc S Nm K V k β := by
  have hg : w.grownBy (w.alloc o) none := World.grownBy_alloc w _ none
  exact ⟨⟨cell_grown hg h.rc.ct (by simp), frozen_grown hg h.rc.ct h.rc.ft (by simp), cell_grown hg h.rc.cc (by simp), frozen_grown hg h.rc.cc h.rc.fc (by simp), h.rc.ne, h.rc.lot, h.rc.loc, h.rc.tot.maps (MapsKept.alloc w o), h.rc.tlo, h.rc.scp.maps (MapsKept.alloc w o)⟩, h.tot, h.out⟩
theorem Scr.below (h : Scr w lo pt pc ot oc S Nm K V k β) (hb : Below w.heap.size w w') : Scr w' lo pt pc ot oc S Nm K V k β := ⟨h.rc.below hb, h.tot, h.out⟩
theorem Scr.drewN (h : Scr w lo pt pc ot oc S Nm K V k β) (q : Nat) : Scr (w.drewN q) lo pt pc ot oc S Nm K V k β := ⟨h.rc.drewN q, h.tot, h.out⟩
theorem Scr.drew (h : Scr w lo pt pc ot oc S Nm K V k β) : Scr w.drew lo pt pc ot oc S Nm K V k β := ⟨h.rc.drew, h.tot, h.out⟩

/-- WHAT THE LAST LOOPS READ. -/
structure Env (L0 L1 L2 L3 Lp n0 n1 n2 n3 k lo pc B : Nat) (K V : Nat → Int) (S : Nat → Bool) (Nm : Nat → ByteArray) (β : ByteArray → Nat) (w : World) : Prop where
  e0 : ∀ j, j < n0 → w.cell? ⟨L0, j, none⟩ = some (.int .i64 (K j))
  e1 : ∀ j, j < n1 → w.cell? ⟨L1, j, none⟩ = some (.int .i64 (V j))
  e2 : ∀ j, j < n2 → w.cell? ⟨L2, j, none⟩ = some (.bool (S j))
  e3 : ∀ j, j < n3 → w.cell? ⟨L3, j, none⟩ = some (.string (Nm j))
  g3 : ∀ j, j < k → w.cell? ⟨Lp, j, none⟩ = some (.bool (lsB S Nm K k j))
  c2 : w.cell? ⟨pc, 0, none⟩ = some (.map (some B))
  scp : Scp w lo (some B) (2 * k) S Nm k β (aT S Nm K V k)

theorem cell_below {w w' : World} {p : Addr} {v : Value} (hb : Below w.heap.size w w') (h : w.cell? p = some v) : w'.cell? p = some v := (hb.cell (by exact World.block_lt_of_cell? _ _ h)).trans h

theorem Env.below {L0 L1 L2 L3 Lp n0 n1 n2 n3 k lo pc B : Nat} {K V : Nat → Int} {S : Nat → Bool} {Nm : Nat → ByteArray} {β : ByteArray → Nat} {w w' : World} (h : Env L0 L1 L2 L3 Lp n0 n1 n2 n3 k lo pc B K V S Nm β w) (hb : Below w.heap.size w w') : Env L0 L1 L2 L3 Lp n0 n1 n2 n3 k lo pc B K V S Nm β w' :=
  ⟨fun j hj => cell_below hb (h.e0 j hj), fun j hj => cell_below hb (h.e1 j hj), fun j hj => cell_below hb (h.e2 j hj), fun j hj => cell_below hb (h.e3 j hj), fun j hj => cell_below hb (h.g3 j hj), cell_below hb h.c2, h.scp.below hb⟩

end
end Go.Proofs.Qxb6603978a
