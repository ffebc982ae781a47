/-
  ownWith, ownWithout: their contracts.
-/
import Derived.Test.Qxb6605168aMatch
namespace Go.Proofs.Qxb6605168a
open Go.RowKit Go.Maps Go.WideMaps
set_option linter.unusedVariables false
set_option linter.unusedSimpArgs false

theorem fill_step (f : Nat → Value) (z : Value) (k j : Nat) : (if j = k then f k else if j < k then f j else z) = if j < k + 1 then f j else z := by
  by_cases e : j = k
  · subst e; simp
  · by_cases h : j < k
    · rw [if_neg e, if_pos h, if_pos (by omega)]
    · rw [if_neg e, if_neg h, if_neg (by omega)]
theorem gO_app {L : List (Int × ByteArray)} {q : Int × ByteArray} (j : Nat) (hj : j < L.length + 1) : gO (L ++ [q]) j = if j = L.length then q.1 else gO L j := by
  unfold gO
  by_cases e : j = L.length
  · subst e; simp
  · rw [if_neg e, List.getD_eq_getElem?_getD, List.getD_eq_getElem?_getD, List.getElem?_append_left (by omega)]
theorem gP_app {L : List (Int × ByteArray)} {q : Int × ByteArray} (j : Nat) (hj : j < L.length + 1) : gP (L ++ [q]) j = if j = L.length then q.2 else gP L j := by
  unfold gP
  by_cases e : j = L.length
  · subst e; simp
  · rw [if_neg e, List.getD_eq_getElem?_getD, List.getD_eq_getElem?_getD, List.getElem?_append_left (by omega)]

set_option maxRecDepth 100000 in
set_option maxHeartbeats 2000000 in
theorem with23 (vO vP : Value) (L : List (Int × ByteArray)) (o : Int) (p : ByteArray) (w : World) (hL : L.length ≤ 4096) (hv : Vw w vO vP L) :
    Calls Try.prog 23 #[vO, vP, .int .i64 o, .string p] w fun e w' => ∃ vO' vP', e = .returned (.tuple #[vO', vP']) ∧ Vw w' vO' vP' (L ++ [(o, p)]) ∧ Below w.heap.size w w' := by
  obtain ⟨aO, gO', cO, aP, gP', cP, rfl, rfl, zO, zP, cellO, cellP⟩ := hv
  have mO : ∀ w : World, (Instr.makeSlice 34 (.int .i64 ((L.length : Int) + 1)) (.int .i64 ((L.length : Int) + 1))).run Try.prog w = .ok (.slice (some ⟨w.heap.size, 0, none⟩) (L.length + 1) (L.length + 1)) (w.alloc (.cells (madeCells #[.int .i64 0] (L.length + 1)) 2)) := fun w => run_make_row' (P := Try.prog) 34 2 (.int .i64 0) 8 Try.underlying34 info2 rfl .i64 .i64 (L.length + 1) (by omega) (by omega) w
  have mP : ∀ w : World, (Instr.makeSlice 22 (.int .i64 ((L.length : Int) + 1)) (.int .i64 ((L.length : Int) + 1))).run Try.prog w = .ok (.slice (some ⟨w.heap.size, 0, none⟩) (L.length + 1) (L.length + 1)) (w.alloc (.cells (madeCells #[.string ByteArray.empty] (L.length + 1)) 9)) := fun w => run_make_row' (P := Try.prog) 22 9 (.string ByteArray.empty) 16 Try.underlying22 info9 rfl .i64 .i64 (L.length + 1) (by omega) (by omega) w
  go_enter Try.func23, Try.ntmps23
  go_wp2
  clear mO mP
  go_loopw [12] (fun v wr => ∃ k : Nat, k ≤ L.length ∧ v = .int .i64 k ∧ Hid (wr.rowIs w.heap.size 2 (L.length + 1) (fun j => if j < k then .int .i64 (gO L j) else .int .i64 0)) ∧ Hid (wr.rowIs (w.heap.size + 1) 9 (L.length + 1) (fun j => if j < k then .string (gP L j) else .string ByteArray.empty)) ∧ Below w.heap.size w wr) (fun v _ => L.length - (intOf v).toNat)
  case atStart =>
    refine ⟨0, Nat.zero_le _, rfl, ((World.rowIs_made w _ (L.length + 1) 2).alloc _).congr (fun j _ => by simp), ?_, ((Below.refl _ _).alloc (Nat.le_refl _) _).alloc (by simp) _⟩
    have h2 := World.rowIs_made (w.alloc (.cells (madeCells #[.int .i64 0] (L.length + 1)) 2)) (.string ByteArray.empty) (L.length + 1) 9
    have hs : (w.alloc (.cells (madeCells #[.int .i64 0] (L.length + 1)) 2)).heap.size = w.heap.size + 1 := by simp
    rw [hs] at h2
    exact h2.congr (fun j _ => by simp)
  case round =>
    obtain ⟨k, hk, rfl, H0, H1, hbel⟩ := hrel
    by_cases hlt : k < L.length
    · obtain rfl := zO (by omega)
      obtain rfl := zP (by omega)
      have b0 : gO' < w.heap.size := World.block_lt_of_cell? _ _ (cellO k hlt)
      have b1 : gP' < w.heap.size := World.block_lt_of_cell? _ _ (cellP k hlt)
      have e0 : wr.cell? ⟨gO', k, none⟩ = some (.int .i64 (gO L k)) := (hbel.cell (by exact b0)).trans (cellO k hlt)
      have i0 : (k : Int) < (L.length : Int) := by omega
      have i1 : (k : Int) < (L.length : Int) + 1 := by omega
      obtain ⟨v0, f0⟩ : ∃ v, wr.cell? ⟨w.heap.size, k, none⟩ = some v := ⟨_, H0.out.cell (by omega)⟩
      have z0 := H0.out.frozen k
      have R0 := (H0.out.set k (.int .i64 (gO L k))).congr (fun j _ => fill_step (fun j => .int .i64 (gO L j)) _ k j)
      have R1 := H1.out.setOther (a := ⟨w.heap.size, k, none⟩) (by show w.heap.size + 1 ≠ w.heap.size; omega) (.int .i64 (gO L k))
      have B1 := hbel.setCell (p := ⟨w.heap.size, k, none⟩) (Nat.le_refl _) (.int .i64 (gO L k))
      have HX : Hid ((wr.setCell ⟨w.heap.size, k, none⟩ (.int .i64 (gO L k))).cell? ⟨gP', k, none⟩ = some (.string (gP L k))) := (B1.cell (by exact b1)).trans (cellP k hlt)
      have HR0 : Hid _ := R0
      have HR1 : Hid _ := R1
      have HB1 : Hid _ := B1
      clear zO zP cellO cellP H0 H1 R0 R1 B1
      go_upto_region 7 with fail
      generalize wr.setCell ⟨w.heap.size, k, none⟩ (.int .i64 (gO L k)) = w2 at *
      clear e0 f0 z0
      have e1 := HX.out
      have R0' : Hid (w2.rowIs w.heap.size 2 (L.length + 1) (fun j => if j < k + 1 then .int .i64 (gO L j) else .int .i64 0)) := HR0.out
      have R1' : Hid (w2.rowIs (w.heap.size + 1) 9 (L.length + 1) (fun j => if j < k then .string (gP L j) else .string ByteArray.empty)) := HR1.out
      clear HR0 HR1
      have HR0 := R0'
      have HR1 := R1'
      clear R0' R1'
      obtain ⟨v1, f1⟩ : ∃ v, w2.cell? ⟨w.heap.size + 1, k, none⟩ = some v := ⟨_, HR1.out.cell (by omega)⟩
      have z1 := HR1.out.frozen k
      go_wp2
      go_roundw
      case rel => exact ⟨k + 1, by omega, by go_num, HR0.out.setOther (by show w.heap.size ≠ w.heap.size + 1; omega) _, (HR1.out.set k _).congr (fun j _ => fill_step (fun j => .string (gP L j)) _ k j), HB1.out.setCell (by show w.heap.size ≤ w.heap.size + 1; omega) _⟩
      case measure => simp [intOf]; omega
    · have hkn : k = L.length := by omega
      clear zO zP cellO cellP
      have i1 : (L.length : Int) < (L.length : Int) + 1 := by omega
      obtain ⟨v0, f0⟩ : ∃ v, wr.cell? ⟨w.heap.size, L.length, none⟩ = some v := ⟨_, H0.out.cell (by omega)⟩
      have z0 := H0.out.frozen L.length
      have HR0 : Hid _ := H0.out.set L.length (.int .i64 o)
      have HR1 : Hid _ := H1.out.setOther (a := ⟨w.heap.size, L.length, none⟩) (by show w.heap.size + 1 ≠ w.heap.size; omega) (.int .i64 o)
      have HB1 : Hid _ := hbel.setCell (p := ⟨w.heap.size, L.length, none⟩) (Nat.le_refl _) (.int .i64 o)
      clear H0 H1 hbel
      go_upto_region 9 with fail
      generalize wr.setCell ⟨w.heap.size, L.length, none⟩ (.int .i64 o) = w2 at *
      clear f0 z0
      have R0' : Hid (w2.rowIs w.heap.size 2 (L.length + 1) (fun j => if j = L.length then .int .i64 o else if j < k then .int .i64 (gO L j) else .int .i64 0)) := HR0.out
      have R1' : Hid (w2.rowIs (w.heap.size + 1) 9 (L.length + 1) (fun j => if j < k then .string (gP L j) else .string ByteArray.empty)) := HR1.out
      clear HR0 HR1
      have HR0 := R0'
      have HR1 := R1'
      clear R0' R1'
      obtain ⟨v1, f1⟩ : ∃ v, w2.cell? ⟨w.heap.size + 1, L.length, none⟩ = some v := ⟨_, HR1.out.cell (by omega)⟩
      have z1 := HR1.out.frozen L.length
      go_wp2
      go_ret2
      refine ⟨_, _, rfl, ⟨some ⟨w.heap.size, 0, none⟩, w.heap.size, L.length + 1, some ⟨w.heap.size + 1, 0, none⟩, w.heap.size + 1, L.length + 1, by simp, by simp, fun _ => rfl, fun _ => rfl, fun j hj => ?_, fun j hj => ?_⟩, HB1.out.setCell (by show w.heap.size ≤ w.heap.size + 1; omega) _⟩
      · simp only [List.length_append, List.length_singleton] at hj
        rw [(HR0.out.setOther (by show w.heap.size ≠ w.heap.size + 1; omega) _).cell hj, gO_app j hj]
        by_cases e : j = L.length
        · simp [e]
        · have : j < k := by omega
          simp [e, this]
      · simp only [List.length_append, List.length_singleton] at hj
        rw [(HR1.out.set L.length _).cell hj, gP_app j hj]
        by_cases e : j = L.length
        · simp [e]
        · have : j < k := by omega
          simp [e, this]

/-- Two rows. -/
structure Two (w : World) (lo : Nat) (vO vP : Value) (LO : List Int) (LP : List ByteArray) : Prop where
  rowO : w.ownsRow lo 2 1 vO LO.length (LO.map (Value.int .i64))
  rowP : w.ownsRow lo 9 1 vP LP.length (LP.map Value.string)

section
variable {w w' : World} {lo : Nat} {vO vP vO' vP' : Value} {LO LO' : List Int} {LP LP' : List ByteArray} {L : List (Int × ByteArray)}

theorem Two.alloc (h : Two w lo vO vP LO LP) (o : Obj) : Two (w.alloc o) lo vO vP LO LP := ⟨h.rowO.alloc o, h.rowP.alloc o⟩
theorem Two.appO (h : Two w lo vO vP LO LP) (o : Int) (hl : LO.length ≤ 4097) (hlo : lo ≤ w.heap.size) (ty : TypeId) :
    ∃ g cap w2, (Builtin.append_ #[34, 34] ty #[vO, .slice (some ⟨w.heap.size, 0, none⟩) 1 1]).run Try.prog (w.alloc (.cells #[.int .i64 o] 2)) = .ok (.slice (some ⟨g, 0, none⟩) (LO.length + 1) cap) w2 ∧
      Two w2 lo (.slice (some ⟨g, 0, none⟩) (LO.length + 1) cap) vP (LO ++ [o]) LP ∧ Below lo w w2 := by
  obtain ⟨i, i1, i2, i3, i4⟩ := info_cut info2
  have h' := h.alloc (.cells #[.int .i64 o] 2)
  have l' : lo ≤ (w.alloc (.cells #[.int .i64 o] 2)).heap.size := by simp; omega
  obtain ⟨g, cap, w2, hr, hrow, hg, _, _⟩ := run_append_lies (P := Try.prog) (w.alloc (.cells #[.int .i64 o] 2)) 34 ty lo 2 i (.int .i64 0) 1 8 Try.underlying34 i1 i2 i3 i4 rfl (by omega) vO LO.length _ h'.rowO
    ⟨w.heap.size, 0, none⟩ 1 1 [.int .i64 o] rfl (news_alloc w _ 2) (by intro u hu; simp at hu; subst hu; rfl) (by omega) (by unfold maxLen; omega) (by omega) l' _ rfl
  refine ⟨g, cap, w2, hr, ⟨?_, grown_row h'.rowO hg (by decide) h'.rowP⟩, ((Below.refl lo w).alloc hlo _).trans (below_row h'.rowO hg l')⟩
  simpa using hrow
theorem Two.appP (h : Two w lo vO vP LO LP) (s : ByteArray) (hl : LP.length ≤ 4097) (hlo : lo ≤ w.heap.size) (ty : TypeId) :
    ∃ g cap w2, (Builtin.append_ #[22, 22] ty #[vP, .slice (some ⟨w.heap.size, 0, none⟩) 1 1]).run Try.prog (w.alloc (.cells #[.string s] 9)) = .ok (.slice (some ⟨g, 0, none⟩) (LP.length + 1) cap) w2 ∧
      Two w2 lo vO (.slice (some ⟨g, 0, none⟩) (LP.length + 1) cap) LO (LP ++ [s]) ∧ Below lo w w2 := by
  obtain ⟨i, i1, i2, i3, i4⟩ := info_cut info9
  have h' := h.alloc (.cells #[.string s] 9)
  have l' : lo ≤ (w.alloc (.cells #[.string s] 9)).heap.size := by simp; omega
  obtain ⟨g, cap, w2, hr, hrow, hg, _, _⟩ := run_append_lies (P := Try.prog) (w.alloc (.cells #[.string s] 9)) 22 ty lo 9 i (.string ByteArray.empty) 1 16 Try.underlying22 i1 i2 i3 i4 rfl (by omega) vP LP.length _ h'.rowP
    ⟨w.heap.size, 0, none⟩ 1 1 [.string s] rfl (news_alloc w _ 9) (by intro u hu; simp at hu; subst hu; rfl) (by omega) (by unfold maxLen; omega) (by omega) l' _ rfl
  refine ⟨g, cap, w2, hr, ⟨grown_row h'.rowP hg (by decide) h'.rowO, ?_⟩, ((Below.refl lo w).alloc hlo _).trans (below_row h'.rowP hg l')⟩
  simpa using hrow
theorem Two.vw (h : Two w lo vO vP (L.map Prod.fst) (L.map Prod.snd)) : Vw w vO vP L := by
  obtain ⟨a0, g0, c0, e0, z0, l0, m0, k0⟩ := row_view h.rowO
  obtain ⟨a1, g1, c1, e1, z1, l1, m1, k1⟩ := row_view h.rowP
  rw [List.length_map] at e0 z0 l0 k0 e1 z1 l1 k1
  refine ⟨a0, g0, c0, a1, g1, c1, e0, e1, z0, z1, fun j hj => ?_, fun j hj => ?_⟩
  · rw [k0 j hj, List.getElem?_map, List.getElem?_map, gOP hj]
    rfl
  · rw [k1 j hj, List.getElem?_map, List.getElem?_map, gOP hj]
    rfl
end

/-- The first i of L, but for the k-th. -/
def Er (L : List (Int × ByteArray)) (k i : Nat) : List (Int × ByteArray) := (L.take i).eraseIdx k
theorem take_gOP {L : List (Int × ByteArray)} {i : Nat} (hi : i < L.length) : L.take (i + 1) = L.take i ++ [(gO L i, gP L i)] := by
  rw [List.take_add_one, gOP hi]
  rfl
theorem Er_ne {L : List (Int × ByteArray)} {k i : Nat} (hi : i < L.length) (hne : i ≠ k) : Er L k (i + 1) = Er L k i ++ [(gO L i, gP L i)] := by
  unfold Er
  rw [take_gOP hi, List.eraseIdx_append]
  have hl : (L.take i).length = i := by simp; omega
  rw [hl]
  by_cases h : k < i
  · rw [if_pos h]
  · rw [if_neg h, List.eraseIdx_of_length_le (l := [(gO L i, gP L i)]) (by simp; omega), List.eraseIdx_of_length_le (l := L.take i) (by omega)]
theorem Er_eq {L : List (Int × ByteArray)} {k : Nat} (hi : k < L.length) : Er L k (k + 1) = Er L k k := by
  unfold Er
  rw [take_gOP hi, List.eraseIdx_append]
  have hl : (L.take k).length = k := by simp; omega
  rw [hl, if_neg (by omega), Nat.sub_self, List.eraseIdx_of_length_le (l := L.take k) (by omega)]
  simp
theorem Er_len (L : List (Int × ByteArray)) (k i : Nat) : (Er L k i).length ≤ i := by
  unfold Er
  have h1 := List.length_eraseIdx_le (L.take i) k
  have h2 := List.length_take_le i L
  omega

set_option maxRecDepth 100000 in
set_option maxHeartbeats 2000000 in
theorem without24 (vO vP : Value) (L : List (Int × ByteArray)) (k : Nat) (w : World) (hL : L.length ≤ 4096) (hk : k < L.length) (hv : Vw w vO vP L) :
    Calls Try.prog 24 #[vO, vP, .int .i64 k] w fun e w' => ∃ vO' vP', e = .returned (.tuple #[vO', vP']) ∧ Vw w' vO' vP' (L.eraseIdx k) ∧ Below w.heap.size w w' := by
  obtain ⟨aO, gO', cO, aP, gP', cP, rfl, rfl, zO, zP, cellO, cellP⟩ := hv
  obtain ⟨i, i1, i2, i3, i4⟩ := info_cut info2
  obtain ⟨i', i1', i2', i3', i4'⟩ := info_cut info9
  obtain ⟨w1, m1, r1, q1⟩ := run_make_own (P := Try.prog) w w.heap.size 34 2 i _ 1 Try.underlying34 i1 i2 i3 .i64 .i64 L.length (by rw [i4]; omega) (by unfold maxLen; omega) (Nat.le_refl _)
  obtain ⟨w2, m2, r2, q2⟩ := run_make_own (P := Try.prog) w1 w.heap.size 22 9 i' _ 1 Try.underlying22 i1' i2' i3' .i64 .i64 L.length (by rw [i4']; omega) (by unfold maxLen; omega) q1.size
  have T0 : Hid (Two w2 w.heap.size (.slice (some ⟨w.heap.size, 0, none⟩) 0 L.length) (.slice (some ⟨w1.heap.size, 0, none⟩) 0 L.length) ((Er L k 0).map Prod.fst) ((Er L k 0).map Prod.snd)) := ⟨by simpa [Er] using r1.kept q2 (.inr (by simp [Value.ownBlock])), by simpa [Er] using r2⟩
  have B0 : Hid (Below w.heap.size w w2) := ((Below.refl _ _).grown q1 (Nat.le_refl _) (fun k hk => by cases hk)).grown q2 q1.size (fun k hk => by cases hk)
  clear r1 r2 q1 q2 i1 i2 i3 i4 i1' i2' i3' i4'
  go_enter Try.func24, Try.ntmps24
  go_wp2
  clear m1 m2
  go_loopw [8, 9, 10] (fun v1 v2 v3 wr => ∃ x : Nat, x ≤ L.length ∧ v3 = .int .i64 x ∧ Hid (Two wr w.heap.size v1 v2 ((Er L k x).map Prod.fst) ((Er L k x).map Prod.snd)) ∧ Below w.heap.size w wr) (fun _ _ v _ => L.length - (intOf v).toNat)
  case atStart => exact ⟨0, Nat.zero_le _, rfl, T0, B0.out⟩
  case round =>
    obtain ⟨x, hx, rfl, HT, hbel⟩ := hrel
    by_cases hlt : x < L.length
    · obtain rfl := zO (by omega)
      obtain rfl := zP (by omega)
      have i0 : (x : Int) < (L.length : Int) := by omega
      by_cases hxk : x = k
      · subst hxk
        have HT' : Hid _ := HT.out
        rw [← Er_eq hlt] at HT'
        clear zO zP cellO cellP HT T0 B0
        go_wp2
        go_roundw
        case rel => exact ⟨x + 1, by omega, by go_num, HT', hbel⟩
        case measure => simp [intOf]; omega
      · have hb : ((x : Int) == (k : Int)) = false := by simp; omega
        have b0 : gO' < w.heap.size := World.block_lt_of_cell? _ _ (cellO x hlt)
        have b1 : gP' < w.heap.size := World.block_lt_of_cell? _ _ (cellP x hlt)
        have e0 : wr.cell? ⟨gO', x, none⟩ = some (.int .i64 (gO L x)) := (hbel.cell (by exact b0)).trans (cellO x hlt)
        have hEl := Er_len L k x
        have A1 : ∀ ty, _ := HT.out.appO (gO L x) (by simp; omega) hbel.size
        have HP : Hid (w.cell? ⟨gP', x, none⟩ = some (.string (gP L x))) := cellP x hlt
        rw [List.length_map] at A1
        clear zO zP cellO cellP T0 B0
        go_upto_region 8 with (at_builtin; refine wpList_append_run _ rfl _ _ _ rfl _ _ rfl rfl _ _ A1 ?_; intro g cap w3 hw3)
        have B3 : Below w.heap.size w w3 := hbel.trans hw3.2
        have e1 : w3.cell? ⟨gP', x, none⟩ = some (.string (gP L x)) := (B3.cell (by exact b1)).trans HP.out
        have A2 : ∀ ty, _ := hw3.1.appP (gP L x) (by simp; omega) B3.size
        rw [List.length_map] at A2
        clear A1 hw3 hbel e0
        go_wp2_with (at_builtin; refine wpList_append_run _ rfl _ _ _ rfl _ _ rfl rfl _ _ A2 ?_; intro g' cap' w4 hw4)
        go_roundw
        case rel =>
          refine ⟨x + 1, by omega, by go_num, ?_, B3.trans hw4.2⟩
          rw [Er_ne hlt hxk, List.map_append, List.map_append]
          exact hw4.1
        case measure => simp [intOf]; omega
    · have hkn : x = L.length := by omega
      subst hkn
      clear zO zP cellO cellP T0 B0
      go_wp2
      go_ret2
      refine ⟨_, _, rfl, ?_, hbel⟩
      have := HT.out.vw
      rw [Er, List.take_length] at this
      exact this

end Go.Proofs.Qxb6605168a
