/-
  FnOwnThenDisownRestores: THE WALK.
-/
import Derived.Test.Qxb6605168aLawKeeps
import Derived.Test.Qxb6605168aWith
namespace Go.Proofs.Qxb6605168a
open Go.RowKit Go.Maps Go.WideMaps
set_option linter.unusedVariables false
set_option linter.unusedSimpArgs false

theorem Own.later {w w' : World} {lo bt B n : Nat} {M : Int → ByteArray → Prop} {β : Int → Nat} (h : Own w lo bt B n M β) (hb : Below w.heap.size w w') : Own w' lo bt B n M β :=
  h.maps (fun i es c hi => (hb.block i (Array.getElem?_eq_some_iff.1 hi).1).trans hi) (hb.cell (World.block_lt_of_cell? _ _ h.cell))
theorem Vw.later {w w' : World} {vO vP : Value} {L : List (Int × ByteArray)} (h : Vw w vO vP L) (hb : Below w.heap.size w w') : Vw w' vO vP L := by
  obtain ⟨a0, g0, c0, a1, g1, c1, h1, h2, h3, h4, h5, h6⟩ := h
  exact ⟨a0, g0, c0, a1, g1, c1, h1, h2, h3, h4, fun j hj => (hb.cell (World.block_lt_of_cell? _ _ (h5 j hj))).trans (h5 j hj), fun j hj => (hb.cell (World.block_lt_of_cell? _ _ (h6 j hj))).trans (h6 j hj)⟩
theorem Vw.kept {w w' : World} {vO vP : Value} {L : List (Int × ByteArray)} (h : Vw w vO vP L) (hb : CellsKept w w') : Vw w' vO vP L := by
  obtain ⟨a0, g0, c0, a1, g1, c1, h1, h2, h3, h4, h5, h6⟩ := h
  exact ⟨a0, g0, c0, a1, g1, c1, h1, h2, h3, h4, fun j hj => hb.cell (h5 j hj), fun j hj => hb.cell (h6 j hj)⟩

/-- The record is L; two pairs of rows hold La and Lb; the ops stand. -/
structure Pos (w : World) (lo bt B n : Nat) (L : List (Int × ByteArray)) (vO vP : Value) (La : List (Int × ByteArray)) (tO tP : Value) (Lb : List (Int × ByteArray)) (H n0 : Nat) (Ow : Nat → Int) (Pa : Nat → ByteArray) (Fl : Nat → Bool) : Prop where
  own : ∃ β, Own w lo bt B n (fun o s => (o, s) ∈ L) β
  va : Vw w vO vP La
  vb : Vw w tO tP Lb
  ops : OpsAt w H n0 Ow Pa Fl

section
variable {w w' : World} {lo bt B n : Nat} {L L' La Lb : List (Int × ByteArray)} {vO vP tO tP : Value} {H n0 : Nat} {Ow : Nat → Int} {Pa : Nat → ByteArray} {Fl : Nat → Bool} {o : Int} {p : ByteArray}

theorem Pos.drewN (h : Pos w lo bt B n L vO vP La tO tP Lb H n0 Ow Pa Fl) (q : Nat) : Pos (w.drewN q) lo bt B n L vO vP La tO tP Lb H n0 Ow Pa Fl := by
  obtain ⟨β, h1⟩ := h.own
  exact ⟨⟨β, h1.drewN q⟩, h.va, h.vb, h.ops⟩

theorem Pos.own1 (h : Pos w lo bt B n L vO vP La tO tP Lb H n0 Ow Pa Fl) (c : Bool) (hn : n < maxLen) (ho : (Lit.int .i64 o).wf = true) (hs : p.size ≤ maxLen) (hl : 0 < n0 → H < lo) (hc : c = true ∨ (o, p) ∈ L)
    (U : ∀ a t, Upd (fun o s => (o, s) ∈ L) o p c a t ↔ (a, t) ∈ L') :
    Calls Try.prog 25 #[.pointer (some ⟨bt, 0, none⟩), .int .i64 o, .string p, .bool c] w fun e w' => e = .returned (.tuple #[]) ∧ Pos w' lo bt B (n + 1) L' vO vP La tO tP Lb H n0 Ow Pa Fl ∧ Below lo w w' := by
  obtain ⟨β, h1⟩ := h.own
  refine (zown c h1 hn ho hs hc).mono ?_
  rintro e w' ⟨rfl, ⟨β', h2⟩, h3, h4⟩
  exact ⟨rfl, ⟨⟨β', h2.congr U⟩, h.va.kept h3, h.vb.kept h3, h.ops.below h4 hl⟩, h4⟩

theorem Pos.owns (h : Pos w lo bt B n L vO vP La tO tP Lb H n0 Ow Pa Fl) (c : Bool) (ho : (Lit.int .i64 o).wf = true) (hs : p.size ≤ maxLen) (hc : (o, p) ∈ L ↔ c = true) :
    Calls Try.prog 26 #[.pointer (some ⟨bt, 0, none⟩), .int .i64 o, .string p] w fun e w' => e = .returned (.bool c) ∧ w = w' := by
  obtain ⟨β, h1⟩ := h.own
  cases c
  · refine (zowns_f h1 ho hs (fun hm => by cases hc.1 hm)).mono ?_
    rintro e w' ⟨h2, h3⟩
    exact ⟨h2, h3.symm⟩
  · refine (zowns_t h1 ho hs (hc.2 rfl)).mono ?_
    rintro e w' ⟨h2, h3⟩
    exact ⟨h2, h3.symm⟩

theorem Pos.mat (h : Pos w lo bt B n L vO vP L tO tP Lb H n0 Ow Pa Fl) {a' : Option Addr} (hn : n0 ≤ 4096) (hL : L.length ≤ 4097) (z : 0 < n0 → a' = some ⟨H, 0, none⟩) (k0 : ∀ j, (Lit.int .i64 (Ow j)).wf = true) (k1 : ∀ j, (Pa j).size ≤ maxLen) (nd : L.Nodup) (wf : ∀ p ∈ L, (Lit.int .i64 p.1).wf = true ∧ p.2.size ≤ maxLen) :
    Calls Try.prog 20 #[.pointer (some ⟨bt, 0, none⟩), vO, vP, .slice a' n0 n0] w fun e w' => e = .returned (.bool true) ∧ ∃ q, w' = w.drewN q := by
  obtain ⟨β, h1⟩ := h.own
  exact match20 a' n0 n0 H 0 lo bt B n Ow Pa β vO vP L w hn hL z (fun j hj => (h.ops j hj).1) (fun j hj => (h.ops j hj).2.1) k0 k1 h1 h.va nd wf
theorem Pos.swap (h : Pos w lo bt B n L vO vP La tO tP Lb H n0 Ow Pa Fl) : Pos w lo bt B n L tO tP Lb vO vP La H n0 Ow Pa Fl := ⟨h.own, h.vb, h.va, h.ops⟩
end

theorem upd_plus {L : List (Int × ByteArray)} {o : Int} {p : ByteArray} (a : Int) (t : ByteArray) : Upd (fun o s => (o, s) ∈ L) o p true a t ↔ (a, t) ∈ L ++ [(o, p)] := by
  unfold Upd
  rw [List.mem_append, List.mem_singleton, Prod.mk.injEq]
  by_cases e : a = o ∧ t = p
  · simp [e]
  · constructor
    · rintro (⟨h1, h2, _⟩ | ⟨_, h1⟩)
      · exact absurd ⟨h1, h2⟩ e
      · exact .inl h1
    · rintro (h1 | h1)
      · exact .inr ⟨e, h1⟩
      · exact absurd h1 e
theorem upd_unplus {L : List (Int × ByteArray)} {o : Int} {p : ByteArray} (hno : (o, p) ∉ L) (a : Int) (t : ByteArray) : Upd (fun a s => (a, s) ∈ L ++ [(o, p)]) o p false a t ↔ (a, t) ∈ L := by
  unfold Upd
  constructor
  · rintro (⟨_, _, h⟩ | ⟨h1, h2⟩)
    · cases h
    · rcases List.mem_append.1 h2 with h2 | h2
      · exact h2
      · rw [List.mem_singleton, Prod.mk.injEq] at h2
        exact absurd h2 h1
  · intro h
    exact .inr ⟨fun e => hno (by rw [← e.1, ← e.2]; exact h), List.mem_append_left _ h⟩
theorem mem_erase {L : List (Int × ByteArray)} {y : Int × ByteArray} {j : Nat} (nd : L.Nodup) (hj : L[j]? = some y) (q : Int × ByteArray) : q ∈ L.eraseIdx j ↔ q ≠ y ∧ q ∈ L := by
  rw [List.mem_eraseIdx_iff_getElem?]
  have hp := List.pairwise_iff_getElem.1 (List.nodup_iff_pairwise_ne.1 nd)
  obtain ⟨hjl, hjy⟩ := List.getElem?_eq_some_iff.1 hj
  constructor
  · rintro ⟨i, hne, hi⟩
    obtain ⟨hil, hiq⟩ := List.getElem?_eq_some_iff.1 hi
    refine ⟨fun e => ?_, List.mem_of_getElem? hi⟩
    have e' : L[i] = L[j] := by rw [hiq, hjy, e]
    rcases Nat.lt_trichotomy i j with h | h | h
    · exact hp i j hil hjl h e'
    · exact hne h
    · exact hp j i hjl hil h e'.symm
  · rintro ⟨hne, hm⟩
    obtain ⟨i, hi⟩ := List.mem_iff_getElem?.1 hm
    refine ⟨i, fun e => ?_, hi⟩
    subst e
    rw [hj] at hi
    exact hne (Option.some.inj hi).symm
theorem upd_minus {L : List (Int × ByteArray)} {o : Int} {p : ByteArray} {j : Nat} (nd : L.Nodup) (hj : L[j]? = some (o, p)) (a : Int) (t : ByteArray) : Upd (fun o s => (o, s) ∈ L) o p false a t ↔ (a, t) ∈ L.eraseIdx j := by
  rw [mem_erase nd hj]
  unfold Upd
  simp
theorem upd_unminus {L : List (Int × ByteArray)} {o : Int} {p : ByteArray} {j : Nat} (nd : L.Nodup) (hj : L[j]? = some (o, p)) (a : Int) (t : ByteArray) : Upd (fun o s => (o, s) ∈ L.eraseIdx j) o p true a t ↔ (a, t) ∈ L := by
  have hm := List.mem_of_getElem? hj
  unfold Upd
  simp only [mem_erase nd hj]
  by_cases e : a = o ∧ t = p
  · obtain ⟨rfl, rfl⟩ := e
    simp [hm]
  · constructor
    · rintro (⟨h1, h2, _⟩ | ⟨_, _, h1⟩)
      · exact absurd ⟨h1, h2⟩ e
      · exact h1
    · intro h
      exact .inr ⟨e, fun e' => e (by simpa using e'), h⟩

theorem St.plus_nd {w : World} {lo bt B n : Nat} {vO vP : Value} {L : List (Int × ByteArray)} (h : St w lo bt B n vO vP L) {o : Int} {p : ByteArray} (hno : (o, p) ∉ L) : (L ++ [(o, p)]).Nodup := by
  rw [List.nodup_append]
  refine ⟨h.nd, by simp, fun a ha b hb e => ?_⟩
  rw [List.mem_singleton] at hb
  subst hb
  subst e
  exact hno ha
theorem St.plus_wf {w : World} {lo bt B n : Nat} {vO vP : Value} {L : List (Int × ByteArray)} (h : St w lo bt B n vO vP L) {o : Int} {p : ByteArray} (ho : (Lit.int .i64 o).wf = true) (hp : p.size ≤ maxLen) : ∀ q ∈ L ++ [(o, p)], (Lit.int .i64 q.1).wf = true ∧ q.2.size ≤ maxLen := fun q hq => by
  rcases List.mem_append.1 hq with hq | hq
  · exact h.wf q hq
  · rw [List.mem_singleton] at hq
    subst hq
    exact ⟨ho, hp⟩

set_option maxRecDepth 100000 in
set_option maxHeartbeats 4000000 in
theorem law6 (a0 : Option Addr) (b0 o0 n0 c0 : Nat) (Ow : Nat → Int) (Pa : Nat → ByteArray) (Fl : Nat → Bool) (o : Int) (p : ByteArray) (w : World)
    (h0 : 0 < n0 → a0 = some ⟨b0, o0, none⟩) (z0 : a0 = none → n0 = 0) (hn0 : n0 ≤ maxLen)
    (g0 : ∀ j, j < n0 → w.cell? ⟨b0, o0 + j * 3, none⟩ = some (.int .i64 (Ow j))) (g1 : ∀ j, j < n0 → w.cell? ⟨b0, o0 + j * 3 + 1, none⟩ = some (.string (Pa j))) (g2 : ∀ j, j < n0 → w.cell? ⟨b0, o0 + j * 3 + 2, none⟩ = some (.bool (Fl j)))
    (k0 : ∀ j, (Lit.int .i64 (Ow j)).wf = true) (k1 : ∀ j, (Pa j).size ≤ maxLen) (ko : (Lit.int .i64 o).wf = true) (kp : p.size ≤ maxLen) :
    Calls Try.prog 6 #[.slice a0 n0 c0, .int .i64 o, .string p] w fun e w' => e = .returned (.bool true) ∧ Below w.heap.size w w' := by
  have K1 : Hid (∀ j, (Pa j).size ≤ maxLen) := k1
  have K0 : Hid (∀ j, (Lit.int .i64 (Ow j)).wf = true) := k0
  have KP : Hid (p.size ≤ maxLen) := kp
  have KO : Hid ((Lit.int .i64 o).wf = true) := ko
  go_enter Try.func6, Try.ntmps6
  go_wp2_with fail
  refine (bytes21 a0 n0 c0 b0 o0 Pa o p w hn0 h0 g1 k1 kp).mono ?_
  rintro e w' ⟨⟨x, rfl⟩, rfl⟩
  cases x
  · go_wp2
    go_ret
    exact ⟨rfl, Below.refl _ _⟩
  unfold maxLen at hn0 k1 kp
  by_cases s0 : n0 ≤ 4096 ∧ p.size ≤ 1048576
  case neg =>
    go_wp2
    all_goals (go_ret; exact ⟨rfl, Below.refl _ _⟩)
  obtain ⟨s0, s1⟩ := s0
  have d0 : decide ((4096 : Int) < (n0 : Int)) = false := decide_eq_false (by omega)
  have d1 : decide ((1048576 : Int) < (p.size : Int)) = false := decide_eq_false (by omega)
  go_wp2_with fail
  refine (fits16 a0 n0 c0 b0 o0 Pa p w s0 h0 g1 K1.out s1).mono ?_
  rintro e w' ⟨⟨x, rfl⟩, rfl⟩
  cases x
  · go_wp2
    go_ret
    exact ⟨rfl, Below.refl _ _⟩
  go_wp2_with fail
  refine (clone17 a0 b0 o0 n0 c0 Ow Pa Fl w h0 z0 s0 g0 g1 g2).mono ?_
  rintro e w1 ⟨a', rfl, hrow, bel1⟩
  have hz' : Hid (0 < n0 → a' = some ⟨w.heap.size, 0, none⟩) := fun h => (hrow h).1
  have O1 : OpsAt w1 w.heap.size n0 Ow Pa Fl := OpsAt.of (fun h => (hrow h).2)
  have l1 : Hid (0 < n0 → w.heap.size < w1.heap.size) := fun h => (hrow h).2.lt
  clear hrow g0 g1 g2 h0 z0 k0 k1 ko kp
  go_wp2_with fail
  refine (empty18 w1).mono ?_
  rintro e w2 ⟨bt, B, rfl, hSt, bel2⟩
  have O2 := O1.below bel2 l1.out
  have HC := script19 a' n0 n0 w.heap.size 0 w1.heap.size bt B Ow Pa Fl w2 s0 l1.out hz'.out (fun j hj => (O2 j hj).1) (fun j hj => (O2 j hj).2.1) (fun j hj => (O2 j hj).2.2) K0.out K1.out hSt
  clear hSt O1
  go_wp2_with fail
  refine HC.mono ?_
  rintro e w3 ⟨vO, vP, L, rfl, hS, hL, bel3⟩
  have O3 : Hid (OpsAt w3 w.heap.size n0 Ow Pa Fl) := O2.below bel3 l1.out
  have HB : Hid (Below w.heap.size w w3) := bel1.trans ((bel2.mono bel1.size).trans (bel3.mono bel1.size))
  have HS : Hid (St w3 w1.heap.size bt B n0 vO vP L) := hS
  have HF := hS.find (by omega) o p
  have hlo : w1.heap.size ≤ w3.heap.size := hS.rw.lo_le
  have hw1 : w.heap.size ≤ w1.heap.size := bel1.size
  clear HC O2 bel1 bel2 bel3 hS
  rcases fnd_list L o p with ⟨hf, hno⟩ | ⟨j, hj, hf, hat, hm⟩
  · rw [hf] at HF
    go_wp2_with fail
    refine HF.mono ?_
    rintro e w' ⟨rfl, rfl⟩
    clear HF
    go_wp2_with fail
    refine (with23 vO vP L o p w3 (by omega) HS.out.rw.vw).mono ?_
    rintro e w4 ⟨tO, tP, rfl, hV, bel4⟩
    have P4 : Pos w4 w1.heap.size bt B n0 L vO vP L tO tP (L ++ [(o, p)]) w.heap.size n0 Ow Pa Fl := by
      obtain ⟨β, h1⟩ := HS.out.rw.own
      exact ⟨⟨β, h1.later bel4⟩, HS.out.rw.vw.later bel4, hV, O3.out.below bel4 (fun h => Nat.lt_of_lt_of_le (l1.out h) hlo)⟩
    have HB4 : Hid (Below w.heap.size w w4) := HB.out.trans (bel4.mono (Nat.le_trans hw1 hlo))
    clear hV bel4 HB
    have C1 := P4.own1 (L' := (L ++ [(o, p)])) (o := o) (p := p) true (by unfold maxLen; omega) KO.out KP.out l1.out (.inl rfl) upd_plus
    clear P4
    go_wp2_with fail
    refine C1.mono ?_
    rintro e w5 ⟨rfl, P5, bel5⟩
    have HB5 : Hid (Below w.heap.size w w5) := HB4.out.trans (bel5.mono hw1)
    have H5 : Hid _ := P5
    have C2 := P5.swap.mat s0 (by simp; omega) hz'.out K0.out K1.out (HS.out.plus_nd hno) (HS.out.plus_wf KO.out KP.out)
    clear C1 P5 bel5 HB4
    go_wp2_with fail
    refine C2.mono ?_
    rintro e w6 ⟨rfl, q, rfl⟩
    clear C2
    have P6 : Pos (w5.drewN q) w1.heap.size bt B (n0 + 1) (L ++ [(o, p)]) vO vP L tO tP (L ++ [(o, p)]) w.heap.size n0 Ow Pa Fl := H5.out.drewN q
    have HB6 : Hid (Below w.heap.size w (w5.drewN q)) := bdrew HB5.out q
    clear H5 HB5
    generalize w5.drewN q = w6 at *
    have C3 := P6.owns (o := o) (p := p) true KO.out KP.out (by simp)
    have C4 := P6.own1 (L' := L) (o := o) (p := p) false (by unfold maxLen; omega) KO.out KP.out l1.out (.inr (by simp)) (upd_unplus hno)
    clear P6
    go_wp2_with fail
    refine C3.mono ?_
    rintro e w' ⟨rfl, rfl⟩
    clear C3
    go_wp2_with fail
    refine C4.mono ?_
    rintro e w7 ⟨rfl, P7, bel7⟩
    have HB7 : Hid (Below w.heap.size w w7) := HB6.out.trans (bel7.mono hw1)
    have H7 : Hid _ := P7
    have C5 := P7.mat s0 (by omega) hz'.out K0.out K1.out HS.out.nd HS.out.wf
    clear C4 P7 bel7 HB6
    go_wp2_with fail
    refine C5.mono ?_
    rintro e w8 ⟨rfl, q2, rfl⟩
    clear C5
    have P8 : Pos (w7.drewN q2) w1.heap.size bt B (n0 + 1 + 1) L vO vP L tO tP (L ++ [(o, p)]) w.heap.size n0 Ow Pa Fl := H7.out.drewN q2
    have HB8 : Hid (Below w.heap.size w (w7.drewN q2)) := bdrew HB7.out q2
    clear H7 HB7
    generalize w7.drewN q2 = w8 at *
    have C6 := P8.owns (o := o) (p := p) false KO.out KP.out (by simp [hno])
    clear P8
    go_wp2_with fail
    refine C6.mono ?_
    rintro e w' ⟨rfl, rfl⟩
    clear C6
    go_wp2
    go_ret
    exact ⟨rfl, HB8.out⟩
  · rw [hf] at HF
    have dj : decide ((j : Int) < 0) = false := decide_eq_false (by omega)
    have dj' : decide ((0 : Int) ≤ (j : Int)) = true := decide_eq_true (by omega)
    go_wp2_with fail
    refine HF.mono ?_
    rintro e w' ⟨rfl, rfl⟩
    clear HF
    go_wp2_with fail
    refine (without24 vO vP L j w3 (by omega) hj HS.out.rw.vw).mono ?_
    rintro e w4 ⟨tO, tP, rfl, hV, bel4⟩
    have P4 : Pos w4 w1.heap.size bt B n0 L vO vP L tO tP (L.eraseIdx j) w.heap.size n0 Ow Pa Fl := by
      obtain ⟨β, h1⟩ := HS.out.rw.own
      exact ⟨⟨β, h1.later bel4⟩, HS.out.rw.vw.later bel4, hV, O3.out.below bel4 (fun h => Nat.lt_of_lt_of_le (l1.out h) hlo)⟩
    have HB4 : Hid (Below w.heap.size w w4) := HB.out.trans (bel4.mono (Nat.le_trans hw1 hlo))
    clear hV bel4 HB
    have C1 := P4.own1 (L' := (L.eraseIdx j)) (o := o) (p := p) false (by unfold maxLen; omega) KO.out KP.out l1.out (.inr hm) (upd_minus HS.out.nd hat)
    clear P4
    go_wp2_with fail
    refine C1.mono ?_
    rintro e w5 ⟨rfl, P5, bel5⟩
    have HB5 : Hid (Below w.heap.size w w5) := HB4.out.trans (bel5.mono hw1)
    have H5 : Hid _ := P5
    have C2 := P5.swap.mat s0 (by have := List.length_eraseIdx_le L j; omega) hz'.out K0.out K1.out ((List.eraseIdx_sublist L j).nodup HS.out.nd) (fun q hq => HS.out.wf q ((List.eraseIdx_sublist L j).subset hq))
    clear C1 P5 bel5 HB4
    go_wp2_with fail
    refine C2.mono ?_
    rintro e w6 ⟨rfl, q, rfl⟩
    clear C2
    have P6 : Pos (w5.drewN q) w1.heap.size bt B (n0 + 1) (L.eraseIdx j) vO vP L tO tP (L.eraseIdx j) w.heap.size n0 Ow Pa Fl := H5.out.drewN q
    have HB6 : Hid (Below w.heap.size w (w5.drewN q)) := bdrew HB5.out q
    clear H5 HB5
    generalize w5.drewN q = w6 at *
    have C3 := P6.owns (o := o) (p := p) false KO.out KP.out (by rw [mem_erase HS.out.nd hat]; simp)
    have C4 := P6.own1 (L' := L) (o := o) (p := p) true (by unfold maxLen; omega) KO.out KP.out l1.out (.inl rfl) (upd_unminus HS.out.nd hat)
    clear P6
    go_wp2_with fail
    refine C3.mono ?_
    rintro e w' ⟨rfl, rfl⟩
    clear C3
    go_wp2_with fail
    refine C4.mono ?_
    rintro e w7 ⟨rfl, P7, bel7⟩
    have HB7 : Hid (Below w.heap.size w w7) := HB6.out.trans (bel7.mono hw1)
    have H7 : Hid _ := P7
    have C5 := P7.mat s0 (by omega) hz'.out K0.out K1.out HS.out.nd HS.out.wf
    clear C4 P7 bel7 HB6
    go_wp2_with fail
    refine C5.mono ?_
    rintro e w8 ⟨rfl, q2, rfl⟩
    clear C5
    have P8 : Pos (w7.drewN q2) w1.heap.size bt B (n0 + 1 + 1) L vO vP L tO tP (L.eraseIdx j) w.heap.size n0 Ow Pa Fl := H7.out.drewN q2
    have HB8 : Hid (Below w.heap.size w (w7.drewN q2)) := bdrew HB7.out q2
    clear H7 HB7
    generalize w7.drewN q2 = w8 at *
    have C6 := P8.owns (o := o) (p := p) true KO.out KP.out (by simp [hm])
    clear P8
    go_wp2_with fail
    refine C6.mono ?_
    rintro e w' ⟨rfl, rfl⟩
    clear C6
    go_wp2
    go_ret
    exact ⟨rfl, HB8.out⟩

end Go.Proofs.Qxb6605168a
