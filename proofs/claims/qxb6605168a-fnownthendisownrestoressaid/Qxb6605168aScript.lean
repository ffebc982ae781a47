/-
  ownScript: its contract.
-/
import Derived.Test.Qxb6605168aRw
namespace Go.Proofs.Qxb6605168a
open Go.RowKit Go.Maps Go.WideMaps
set_option linter.unusedVariables false
set_option linter.unusedSimpArgs false

theorem wpList_append_run (w : World) {P : Program} {ops : Array Oper} {rest : List Oper} {o : Oper} {a : Act} {Q : Exit → Act → World → Prop} (hg : o.guard = none) (s x : Operand) (t : TypeId) (hop : o.op = Op.call { callee := Callee.builtin Builtin.append, args := #[s, x], argTypes := #[t, t] })
    (v y : Value) (hs : a.eval s = v) (hx : a.eval x = y) (m : Nat) (Z : Nat → Nat → World → Prop) (h : ∀ ty, ∃ g cap w', (Builtin.append_ #[t, t] ty #[v, y]).run P w = .ok (.slice (some ⟨g, 0, none⟩) m cap) w' ∧ Z g cap w')
    (hK : ∀ g cap w', Z g cap w' → wpList P ops Q rest (a.put o.dst (.slice (some ⟨g, 0, none⟩) m cap)) w') : wpList P ops Q (o :: rest) a w := by
  refine wpList_plain hg fun K' hK' => ?_
  obtain ⟨g, cap, w', hrun, hz⟩ := h o.type
  unfold Oper.wp
  simp [execOp, hop, resolve, invoke, builtin, hs, hx, hrun, Result.andThen]
  exact hK' _ _ (hK g cap w' hz)

section
variable {w w' : World} {lo bt B n n' : Nat} {vO vP : Value} {L : List (Int × ByteArray)}

theorem Rw.view {M : Int → ByteArray → Prop} (h : Rw w lo bt B n M vO vP (L.map Prod.fst) (L.map Prod.snd)) : ∃ a0 g0 c0 a1 g1 c1, vO = .slice a0 L.length c0 ∧ vP = .slice a1 L.length c1 ∧ (0 < L.length → a0 = some ⟨g0, 0, none⟩) ∧ (0 < L.length → a1 = some ⟨g1, 0, none⟩) ∧
    (∀ j, j < L.length → w.cell? ⟨g0, j, none⟩ = some (.int .i64 (gO L j))) ∧ (∀ j, j < L.length → w.cell? ⟨g1, j, none⟩ = some (.string (gP L j))) ∧ L.length ≤ c0 ∧ L.length ≤ c1 ∧ c0 ≤ maxLen ∧ c1 ≤ maxLen := by
  obtain ⟨a0, g0, c0, e0, z0, l0, m0, k0⟩ := row_view h.rowO
  obtain ⟨a1, g1, c1, e1, z1, l1, m1, k1⟩ := row_view h.rowP
  rw [List.length_map] at e0 z0 l0 k0 e1 z1 l1 k1
  refine ⟨a0, g0, c0, a1, g1, c1, e0, e1, z0, z1, fun j hj => ?_, fun j hj => ?_, l0, l1, m0, m1⟩
  · rw [k0 j hj, List.getElem?_map, List.getElem?_map, gOP hj]
    rfl
  · rw [k1 j hj, List.getElem?_map, List.getElem?_map, gOP hj]
    rfl

theorem St.find (h : St w lo bt B n vO vP L) (hL : L.length ≤ 4097) (o : Int) (p : ByteArray) :
    Calls Try.prog 22 #[vO, vP, .int .i64 o, .string p] w fun e w' => e = .returned (.int .i64 (fnd (gO L) (gP L) o p L.length)) ∧ w = w' := by
  obtain ⟨a0, g0, c0, a1, g1, c1, rfl, rfl, z0, z1, k0, k1, _⟩ := h.rw.view
  refine (find22 a0 a1 g0 0 g1 0 L.length c0 c1 (gO L) (gP L) o p w hL z0 z1 (fun j hj => by rw [Nat.zero_add]; exact k0 j hj) (fun j hj => by rw [Nat.zero_add]; exact k1 j hj)).mono ?_
  rintro e w' ⟨h1, h2⟩
  exact ⟨h1, h2.symm⟩

theorem St.mono (h : St w lo bt B n vO vP L) (hn : n ≤ n') : St w lo bt B n' vO vP L := ⟨h.rw.mono hn, h.nd, h.wf⟩
theorem Rw.readO {M : Int → ByteArray → Prop} {g k c : Nat} {LO : List Int} {LP : List ByteArray} (h : Rw w lo bt B n M (.slice (some ⟨g, 0, none⟩) k c) vP LO LP) (hk : k = LO.length) {j : Nat} {x : Int} (hj : LO[j]? = some x) : w.cell? ⟨g, j, none⟩ = some (.int .i64 x) := by
  subst hk
  rw [h.rowO.cellAt j (by have := (List.getElem?_eq_some_iff.1 hj).1; omega), List.getElem?_map, hj]
  rfl
theorem Rw.readP {M : Int → ByteArray → Prop} {g k c : Nat} {LO : List Int} {LP : List ByteArray} (h : Rw w lo bt B n M vO (.slice (some ⟨g, 0, none⟩) k c) LO LP) (hk : k = LP.length) {j : Nat} {x : ByteArray} (hj : LP[j]? = some x) : w.cell? ⟨g, j, none⟩ = some (.string x) := by
  subst hk
  rw [h.rowP.cellAt j (by have := (List.getElem?_eq_some_iff.1 hj).1; omega), List.getElem?_map, hj]
  rfl
theorem Rw.frozO {M : Int → ByteArray → Prop} {g k c : Nat} {LO : List Int} {LP : List ByteArray} (h : Rw w lo bt B n M (.slice (some ⟨g, 0, none⟩) k c) vP LO LP) (hk : k = LO.length) (j : Nat) : w.frozen? ⟨g, j, none⟩ = false := by
  subst hk; exact h.rowO.frozenAt j
theorem Rw.frozP {M : Int → ByteArray → Prop} {g k c : Nat} {LO : List Int} {LP : List ByteArray} (h : Rw w lo bt B n M vO (.slice (some ⟨g, 0, none⟩) k c) LO LP) (hk : k = LP.length) (j : Nat) : w.frozen? ⟨g, j, none⟩ = false := by
  subst hk; exact h.rowP.frozenAt j
theorem set_last {α : Type} {A : List α} {x : α} {j : Nat} (h : j ≤ A.length) : (A ++ [x]).set j x = A.set j x ++ [x] := by
  by_cases hj : j < A.length
  · rw [List.set_append_left _ _ hj]
  · have e : j = A.length := by omega
    subst e
    rw [List.set_append_right _ _ (Nat.le_refl _), List.set_eq_of_length_le (Nat.le_refl _)]
    simp

/-- The pair comes in. -/
theorem St.plus (h : St w lo bt B n vO vP L) {o : Int} {p : ByteArray} (hno : (o, p) ∉ L) (ho : (Lit.int .i64 o).wf = true) (hp : p.size ≤ maxLen) {vO' vP' : Value}
    (hr : Rw w' lo bt B n' (Upd (fun o s => (o, s) ∈ L) o p true) vO' vP' (L.map Prod.fst ++ [o]) (L.map Prod.snd ++ [p])) : St w' lo bt B n' vO' vP' (L ++ [(o, p)]) := by
  refine ⟨?_, ?_, fun q hq => ?_⟩
  · rw [List.map_append, List.map_append]
    refine hr.congr (fun a t => ?_)
    unfold Upd
    rw [List.mem_append, List.mem_singleton, Prod.mk.injEq]
    by_cases e : a = o ∧ t = p
    · simp [e]
    · constructor
      · rintro (⟨h1, h2, _⟩ | ⟨_, h1⟩)
        · exact absurd ⟨h1, h2⟩ e
        · exact .inl h1
      · rintro (h1 | h1)
        · exact .inr ⟨e, h1⟩
        · exact absurd h1 e
  · rw [List.nodup_append]
    refine ⟨h.nd, by simp, fun a ha b hb e => ?_⟩
    rw [List.mem_singleton] at hb
    subst hb
    subst e
    exact hno ha
  · rcases List.mem_append.1 hq with hq | hq
    · exact h.wf q hq
    · rw [List.mem_singleton] at hq
      subst hq
      exact ⟨ho, hp⟩

/-- The pair was there. -/
theorem St.stay (h : St w lo bt B n vO vP L) {o : Int} {p : ByteArray} (hm : (o, p) ∈ L)
    (hr : Rw w' lo bt B n' (Upd (fun o s => (o, s) ∈ L) o p true) vO vP (L.map Prod.fst) (L.map Prod.snd)) : St w' lo bt B n' vO vP L := by
  refine ⟨hr.congr (fun a t => ?_), h.nd, h.wf⟩
  unfold Upd
  by_cases e : a = o ∧ t = p
  · obtain ⟨rfl, rfl⟩ := e
    simp [hm]
  · constructor
    · rintro (⟨h1, h2, _⟩ | ⟨_, h1⟩)
      · exact absurd ⟨h1, h2⟩ e
      · exact h1
    · exact fun h1 => .inr ⟨e, h1⟩

/-- The pair at k goes out: the last takes its place. -/
theorem St.minus {A : List (Int × ByteArray)} {x : Int × ByteArray} {vO' vP' : Value} (h : St w lo bt B n vO vP (A ++ [x])) {o : Int} {p : ByteArray} {k : Nat} (hk : (A ++ [x])[k]? = some (o, p))
    (hr : Rw w' lo bt B n' (Upd (fun o s => (o, s) ∈ A ++ [x]) o p false) vO' vP' ((A.set k x).map Prod.fst) ((A.set k x).map Prod.snd)) : St w' lo bt B n' vO' vP' (A.set k x) := by
  obtain ⟨h1, h2⟩ := swap_facts hk h.nd
  refine ⟨hr.congr (fun a t => ?_), h1, fun q hq => h.wf q ((h2 q).1 hq).2⟩
  rw [h2]
  unfold Upd
  simp
end

set_option maxRecDepth 100000 in
set_option maxHeartbeats 2000000 in
theorem script19 (a0 : Option Addr) (n0 c0 b0 o0 lo bt B : Nat) (Ow : Nat → Int) (Pa : Nat → ByteArray) (Fl : Nat → Bool) (w : World) (hn : n0 ≤ 4096) (hb0 : 0 < n0 → b0 < lo)
    (z0 : 0 < n0 → a0 = some ⟨b0, o0, none⟩)
    (g0 : ∀ j, j < n0 → w.cell? ⟨b0, o0 + j * 3, none⟩ = some (.int .i64 (Ow j))) (g1 : ∀ j, j < n0 → w.cell? ⟨b0, o0 + j * 3 + 1, none⟩ = some (.string (Pa j))) (g2 : ∀ j, j < n0 → w.cell? ⟨b0, o0 + j * 3 + 2, none⟩ = some (.bool (Fl j)))
    (k0 : ∀ j, (Lit.int .i64 (Ow j)).wf = true) (k1 : ∀ j, (Pa j).size ≤ maxLen)
    (h : St w lo bt B 0 (.slice none 0 0) (.slice none 0 0) []) :
    Calls Try.prog 19 #[.pointer (some ⟨bt, 0, none⟩), .slice a0 n0 c0] w fun e w' => ∃ vO vP L, e = .returned (.tuple #[vO, vP]) ∧ St w' lo bt B n0 vO vP L ∧ L.length ≤ n0 ∧ Below lo w w' := by
  go_enter Try.func19, Try.ntmps19
  have H0 : Hid (St w lo bt B 0 (.slice none 0 0) (.slice none 0 0) []) := h
  clear h
  go_wp2
  go_loopw [6, 7, 8] (fun vO vP vi wr => ∃ (k : Nat) (L : List (Int × ByteArray)), k ≤ n0 ∧ vi = .int .i64 k ∧ L.length ≤ k ∧ Hid (St wr lo bt B k vO vP L) ∧ Below lo w wr) (fun _ _ v _ => n0 - (intOf v).toNat)
  case atStart => exact ⟨0, [], Nat.zero_le _, rfl, Nat.le_refl _, H0, Below.refl _ _⟩
  case round =>
    obtain ⟨k, L, hk, rfl, hL, HS, hbel⟩ := hrel
    by_cases hlt : k < n0
    · obtain rfl := z0 (by omega)
      have e0 : wr.cell? ⟨b0, o0 + k * 3, none⟩ = some (.int .i64 (Ow k)) := (hbel.cell (hb0 (by omega))).trans (g0 k hlt)
      have e1 : wr.cell? ⟨b0, o0 + k * 3 + 1, none⟩ = some (.string (Pa k)) := (hbel.cell (hb0 (by omega))).trans (g1 k hlt)
      have e2 : wr.cell? ⟨b0, o0 + k * 3 + 2, none⟩ = some (.bool (Fl k)) := (hbel.cell (hb0 (by omega))).trans (g2 k hlt)
      have i0 : (k : Int) < (n0 : Int) := by omega
      have p0 := k0 k
      have p1 := k1 k
      have HF := HS.out.find (by omega) (Ow k) (Pa k)
      clear z0 g0 g1 g2 k0 k1 H0
      generalize Ow k = o at *
      generalize Pa k = p at *
      rcases fnd_list L o p with ⟨hf, hno⟩ | ⟨j, hj, hf, hat, hm⟩
      · rw [hf] at HF
        cases hFl : Fl k
        · rw [hFl] at e2
          have HS' : Hid _ := HS.out.mono (Nat.le_succ k)
          clear HS hno hf
          go_wp2_with fail
          refine HF.mono ?_
          rintro e w' ⟨rfl, rfl⟩
          clear HF
          go_wp2
          go_roundw
          case rel => exact ⟨k + 1, L, by omega, by go_num, by omega, HS', hbel⟩
          case measure => simp [intOf]; omega
        · rw [hFl] at e2
          obtain ⟨β, hOwn⟩ := HS.out.rw.own
          have HZ := zown true hOwn (by unfold maxLen; omega) p0 p1 (.inl rfl)
          clear hOwn
          go_wp2_with fail
          refine HF.mono ?_
          rintro e w' ⟨rfl, rfl⟩
          clear HF
          go_wp2_with fail
          refine HZ.mono ?_
          rintro e w1 ⟨rfl, hz⟩
          have R1 := HS.out.rw.owned hz
          have A1 : ∀ ty, _ := R1.appO o (by simp; omega)
          have B1 : Hid (Below lo w w1) := hbel.trans hz.2.2
          rw [List.length_map] at A1
          clear HZ hz hbel e0 e1 e2 R1
          go_upto_region 13 with (at_builtin; refine wpList_append_run _ rfl _ _ _ rfl _ _ rfl rfl _ _ A1 ?_; intro g cap w2 hw2)
          have A2 : ∀ ty, _ := hw2.1.appP p (by simp; omega)
          have B2 : Hid (Below lo w w2) := B1.out.trans hw2.2
          rw [List.length_map] at A2
          clear A1 hw2 B1
          go_wp2_with (at_builtin; refine wpList_append_run _ rfl _ _ _ rfl _ _ rfl rfl _ _ A2 ?_; intro g' cap' w3 hw3)
          go_roundw
          case rel => exact ⟨k + 1, L ++ [(o, p)], by omega, by go_num, by simp; omega, HS.out.plus hno p0 p1 hw3.1, B2.out.trans hw3.2⟩
          case measure => simp [intOf]; omega
      · rw [hf] at HF
        have d0 : decide ((j : Int) < 0) = false := decide_eq_false (by omega)
        have d1 : decide ((0 : Int) ≤ (j : Int)) = true := decide_eq_true (by omega)
        cases hFl : Fl k
        · rw [hFl] at e2
          obtain ⟨β, hOwn⟩ := HS.out.rw.own
          have HZ := zown false hOwn (by unfold maxLen; omega) p0 p1 (.inr hm)
          clear hOwn
          go_wp2_with fail
          refine HF.mono ?_
          rintro e w' ⟨rfl, rfl⟩
          clear HF
          go_wp2_with fail
          refine HZ.mono ?_
          rintro e w1 ⟨rfl, hz⟩
          have R1 := HS.out.rw.owned hz
          have B1 : Hid (Below lo w w1) := hbel.trans hz.2.2
          clear HZ hz hbel e0 e1 e2
          obtain ⟨A, x, rfl⟩ : ∃ A x, L = A ++ [x] := by
            rcases List.eq_nil_or_concat L with e | ⟨A, x, e⟩
            · rw [e] at hj; simp at hj
            · exact ⟨A, x, by rw [e]; simp⟩
          obtain ⟨a0', g, c, a1', g', c', e0', e1', z0', z1', q0, q1, l0, l1, m0, m1⟩ := R1.view
          simp only [List.length_append, List.length_singleton] at e0' e1' z0' z1' l0 l1 hj hL
          obtain rfl := z0' (by omega)
          obtain rfl := z1' (by omega)
          subst e0'
          subst e1'
          clear q0 q1 z0' z1'
          have xj : ∃ y, (A ++ [x])[j]? = some y := ⟨_, hat⟩
          have xl : (A ++ [x])[A.length]? = some x := by simp
          have f0 : w1.cell? ⟨g, A.length, none⟩ = some (.int .i64 x.1) := R1.readO (by simp) (by rw [List.getElem?_map, xl]; rfl)
          have f1 : w1.cell? ⟨g, j, none⟩ = some (.int .i64 o) := R1.readO (by simp) (by rw [List.getElem?_map, hat]; rfl)
          have f2 : w1.frozen? ⟨g, j, none⟩ = false := R1.frozO (by simp) j
          have j0 : (A.length : Int) < (A.length : Int) + 1 := by omega
          have j1 : (j : Int) < (A.length : Int) + 1 := by omega
          obtain ⟨R2, b2⟩ := R1.setO (by simp) j x.1
          have B2 : Hid (Below lo w (w1.setCell ⟨g, j, none⟩ (.int .i64 x.1))) := B1.out.trans b2
          have h0 : w1.cell? ⟨g', A.length, none⟩ = some (.string x.2) := R1.readP (by simp) (by rw [List.getElem?_map, xl]; rfl)
          have HX : Hid ((w1.setCell ⟨g, j, none⟩ (.int .i64 x.1)).cell? ⟨g', A.length, none⟩ = some (.string x.2) ∧ (w1.setCell ⟨g, j, none⟩ (.int .i64 x.1)).cell? ⟨g', j, none⟩ = some (.string p) ∧ (w1.setCell ⟨g, j, none⟩ (.int .i64 x.1)).frozen? ⟨g', j, none⟩ = false) :=
            ⟨R2.readP (by simp) (by rw [List.getElem?_map, xl]; rfl), R2.readP (by simp) (by rw [List.getElem?_map, hat]; rfl), R2.frozP (by simp) j⟩
          have H2 : Hid (Rw (w1.setCell ⟨g, j, none⟩ (.int .i64 x.1)) lo bt B (k + 1) (Upd (fun o s => (o, s) ∈ A ++ [x]) o p false) (.slice (some ⟨g, 0, none⟩) (A.length + 1) c) (.slice (some ⟨g', 0, none⟩) (A.length + 1) c') (((A ++ [x]).map Prod.fst).set j x.1) ((A ++ [x]).map Prod.snd)) := R2
          clear R1 R2 b2 B1 h0 xl xj
          go_upto_region 18 with fail
          generalize w1.setCell ⟨g, j, none⟩ (.int .i64 x.1) = w2 at *
          clear f0 f1 f2
          obtain ⟨f0, f1, f2⟩ := HX.out
          clear HX
          obtain ⟨R3, b3⟩ := H2.out.setP (by simp) j x.2
          have B3 : Hid (Below lo w (w2.setCell ⟨g', j, none⟩ (.string x.2))) := B2.out.trans b3
          rw [← List.map_set, ← List.map_set, set_last (by omega), List.map_append, List.map_append] at R3
          have R4 := (R3.popO (by simp)).popP (by simp)
          have H5 : Hid _ := HS.out.minus hat R4
          clear R3 R4 b3 B2 H2 HS hat hm
          go_wp2
          go_roundw
          case rel => exact ⟨k + 1, A.set j x, by omega, by go_num, by simp; omega, H5, B3.out⟩
          case measure => simp [intOf]; omega
        · rw [hFl] at e2
          obtain ⟨β, hOwn⟩ := HS.out.rw.own
          have HZ := zown true hOwn (by unfold maxLen; omega) p0 p1 (.inl rfl)
          clear hOwn
          go_wp2_with fail
          refine HF.mono ?_
          rintro e w' ⟨rfl, rfl⟩
          clear HF
          go_wp2_with fail
          refine HZ.mono ?_
          rintro e w1 ⟨rfl, hz⟩
          have R1 : Hid _ := HS.out.stay hm (HS.out.rw.owned hz)
          have B1 : Hid (Below lo w w1) := hbel.trans hz.2.2
          clear HZ hz hbel e0 e1 e2 HS hm hat
          go_wp2
          go_roundw
          case rel => exact ⟨k + 1, L, by omega, by go_num, by omega, R1, B1.out⟩
          case measure => simp [intOf]; omega
    · have hkn : k = n0 := by omega
      subst hkn
      clear z0 g0 g1 g2 k0 k1 H0
      go_wp2
      go_ret2
      exact ⟨_, _, L, rfl, HS.out, hL, hbel⟩

end Go.Proofs.Qxb6605168a
