/-
  ownMatches: its contract.
-/
import Derived.Test.Qxb6605168aClone
namespace Go.Proofs.Qxb6605168a
open Go.RowKit Go.Maps Go.WideMaps
set_option linter.unusedVariables false
set_option linter.unusedSimpArgs false

/-- The rows of the list L, to be read. -/
def Vw (w : World) (vO vP : Value) (L : List (Int × ByteArray)) : Prop := ∃ a0 g0 c0 a1 g1 c1, vO = .slice a0 L.length c0 ∧ vP = .slice a1 L.length c1 ∧ (0 < L.length → a0 = some ⟨g0, 0, none⟩) ∧ (0 < L.length → a1 = some ⟨g1, 0, none⟩) ∧
    (∀ j, j < L.length → w.cell? ⟨g0, j, none⟩ = some (.int .i64 (gO L j))) ∧ (∀ j, j < L.length → w.cell? ⟨g1, j, none⟩ = some (.string (gP L j)))

section
variable {w w' : World} {lo bt B n n' : Nat} {vO vP : Value} {L : List (Int × ByteArray)} {β : Int → Nat}

theorem Rw.vw {M : Int → ByteArray → Prop} (h : Rw w lo bt B n M vO vP (L.map Prod.fst) (L.map Prod.snd)) : Vw w vO vP L := by
  obtain ⟨a0, g0, c0, a1, g1, c1, h1, h2, h3, h4, h5, h6, _⟩ := h.view
  exact ⟨a0, g0, c0, a1, g1, c1, h1, h2, h3, h4, h5, h6⟩

theorem gOP_inj (hL : L.Nodup) {i j : Nat} (hi : i < L.length) (hj : j < L.length) (h1 : gO L i = gO L j) (h2 : gP L i = gP L j) : i = j := by
  have e : L[i]? = L[j]? := by rw [gOP hi, gOP hj, h1, h2]
  rw [List.getElem?_eq_getElem hi, List.getElem?_eq_getElem hj] at e
  have e' := Option.some.inj e
  have hp := List.pairwise_iff_getElem.1 (List.nodup_iff_pairwise_ne.1 hL)
  rcases Nat.lt_trichotomy i j with h | h | h
  · exact absurd e' (hp i j hi hj h)
  · exact h
  · exact absurd e'.symm (hp j i hj hi h)

theorem map_range_nodup {α : Type} {p : Nat → Bool} {f : Nat → α} {n : Nat} (h : ∀ i j, i < n → j < n → p i = true → p j = true → f i = f j → i = j) : (((List.range n).filter p).map f).Nodup := by
  rw [List.nodup_iff_pairwise_ne, List.pairwise_map]
  refine List.Pairwise.imp_of_mem ?_ (List.Pairwise.filter _ List.nodup_range)
  intro a b ha hb hab e
  simp only [List.mem_filter, List.mem_range] at ha hb
  exact hab (h a b ha.1 hb.1 ha.2 hb.2 e)

/-- The owners. -/
theorem owners (L : List (Int × ByteArray)) : ∃ l : List Int, l.Nodup ∧ (∀ o, o ∈ l ↔ Has (fun o s => (o, s) ∈ L) o) ∧ l.length = Pl.cnt (firstB (gO L)) L.length := by
  refine ⟨((List.range L.length).filter (firstB (gO L))).map (gO L), ?_, fun o => ?_, by rw [List.length_map, Pl.cnt_eq]⟩
  · refine map_range_nodup (fun i j hi hj h1 h2 e => ?_)
    simp only [firstB, decide_eq_true_iff] at h1 h2
    rcases Nat.lt_trichotomy i j with h | h | h
    · exact absurd e (h2 i h)
    · exact h
    · exact absurd e.symm (h1 j h)
  · simp only [List.mem_map, List.mem_filter, List.mem_range, firstB, decide_eq_true_iff]
    constructor
    · rintro ⟨i, ⟨hi, _⟩, rfl⟩
      exact ⟨gP L i, gOP_mem hi⟩
    · rintro ⟨s, hs⟩
      obtain ⟨j, hj, e1, _⟩ := mem_gOP hs
      have : ∀ j, j < L.length → ∃ i, i < L.length ∧ gO L i = gO L j ∧ ∀ x, x < i → gO L x ≠ gO L i := by
        intro j
        induction j using Nat.strongRecOn with
        | _ j ih =>
          intro hj
          by_cases h : ∀ x, x < j → gO L x ≠ gO L j
          · exact ⟨j, hj, rfl, h⟩
          · obtain ⟨x, hx, hxe⟩ : ∃ x, x < j ∧ gO L x = gO L j := Classical.byContradiction fun hno => h (fun x hx e => hno ⟨x, hx, e⟩)
            obtain ⟨i, h1, h2, h3⟩ := ih x hx (by omega)
            exact ⟨i, h1, h2.trans hxe, h3⟩
      obtain ⟨i, h1, h2, h3⟩ := this j hj
      exact ⟨i, ⟨h1, h3⟩, h2.trans e1⟩

/-- An owner's paths. -/
theorem paths (hL : L.Nodup) (o : Int) : ∃ l : List ByteArray, l.Nodup ∧ (∀ s, s ∈ l ↔ (o, s) ∈ L) ∧ l.length = Pl.cnt (fun i => decide (gO L i = o)) L.length := by
  refine ⟨((List.range L.length).filter (fun i => decide (gO L i = o))).map (gP L), ?_, fun s => ?_, by rw [List.length_map, Pl.cnt_eq]⟩
  · refine map_range_nodup (fun i j hi hj h1 h2 e => ?_)
    simp only [decide_eq_true_iff] at h1 h2
    exact gOP_inj hL hi hj (h1.trans h2.symm) e
  · simp only [List.mem_map, List.mem_filter, List.mem_range, decide_eq_true_iff]
    constructor
    · rintro ⟨i, ⟨hi, h1⟩, rfl⟩
      rw [← h1]
      exact gOP_mem hi
    · intro hs
      obtain ⟨j, hj, e1, e2⟩ := mem_gOP hs
      exact ⟨j, ⟨hj, e1⟩, e2⟩
end

set_option maxRecDepth 100000 in
set_option maxHeartbeats 2000000 in
theorem match20 (a0 : Option Addr) (n0 c0 b0 o0 lo bt B N : Nat) (Ow : Nat → Int) (Pa : Nat → ByteArray) (β : Int → Nat) (vO vP : Value) (L : List (Int × ByteArray)) (w : World) (hn : n0 ≤ 4096) (hL : L.length ≤ 4097)
    (z0 : 0 < n0 → a0 = some ⟨b0, o0, none⟩)
    (g0 : ∀ j, j < n0 → w.cell? ⟨b0, o0 + j * 3, none⟩ = some (.int .i64 (Ow j))) (g1 : ∀ j, j < n0 → w.cell? ⟨b0, o0 + j * 3 + 1, none⟩ = some (.string (Pa j)))
    (k0 : ∀ j, (Lit.int .i64 (Ow j)).wf = true) (k1 : ∀ j, (Pa j).size ≤ maxLen)
    (h : Own w lo bt B N (fun o s => (o, s) ∈ L) β) (hv : Vw w vO vP L) (nd : L.Nodup) (wf : ∀ p ∈ L, (Lit.int .i64 p.1).wf = true ∧ p.2.size ≤ maxLen) :
    Calls Try.prog 20 #[.pointer (some ⟨bt, 0, none⟩), vO, vP, .slice a0 n0 c0] w fun e w' => e = .returned (.bool true) ∧ ∃ q, w' = w.drewN q := by
  obtain ⟨aO, gO', cO, aP, gP', cP, rfl, rfl, zO, zP, cellO, cellP⟩ := hv
  have cellO' : ∀ j, j < L.length → w.cell? ⟨gO', 0 + j, none⟩ = some (.int .i64 (gO L j)) := fun j hj => by rw [Nat.zero_add]; exact cellO j hj
  have cellP' : ∀ j, j < L.length → w.cell? ⟨gP', 0 + j, none⟩ = some (.string (gP L j)) := fun j hj => by rw [Nat.zero_add]; exact cellP j hj
  have C32 : Calls Try.prog 32 #[.pointer (some ⟨bt, 0, none⟩)] w fun e w' => e = .returned (.int .i64 (Pl.cnt (firstB (gO L)) L.length : Nat)) ∧ w = w' := by
    obtain ⟨l, l1, l2, l3⟩ := owners L
    refine (zsess h l1 l2).mono ?_
    rintro e w' ⟨h1, h2⟩
    exact ⟨by rw [h1, l3], h2.symm⟩
  have C33 := distinct33 aO gO' 0 L.length cO (gO L) w hL zO cellO'
  have C26 : Hid (∀ q q' o s, (Lit.int .i64 o).wf = true → s.size ≤ maxLen → (o, s) ∈ L → Calls Try.prog 26 #[.pointer (some ⟨bt, 0, none⟩), .int .i64 o, .string s] ((w.drewN q).drewN q') fun e w' => e = .returned (.bool true) ∧ w' = (w.drewN q).drewN q') := fun q q' o s h1 h2 h3 => zowns_t ((h.drewN q).drewN q') h1 h2 h3
  have C26f : Hid (∀ q q' o s, (Lit.int .i64 o).wf = true → s.size ≤ maxLen → (o, s) ∉ L → Calls Try.prog 26 #[.pointer (some ⟨bt, 0, none⟩), .int .i64 o, .string s] ((w.drewN q).drewN q') fun e w' => e = .returned (.bool false) ∧ w' = (w.drewN q).drewN q') := fun q q' o s h1 h2 h3 => zowns_f ((h.drewN q).drewN q') h1 h2 h3
  have C34 : Hid (∀ q q' o, (Lit.int .i64 o).wf = true → Calls Try.prog 34 #[.pointer (some ⟨bt, 0, none⟩), .int .i64 o] ((w.drewN q).drewN q') fun e w' => e = .returned (.int .i64 (Pl.cnt (fun i => decide (gO L i = o)) L.length : Nat)) ∧ w' = (w.drewN q).drewN q') := fun q q' o h1 => by
    obtain ⟨l, l1, l2, l3⟩ := paths nd o
    rw [← l3]
    exact zcount ((h.drewN q).drewN q') h1 l1 l2
  have C35 : Hid (∀ q q' o, Calls Try.prog 35 #[.slice aO L.length cO, .int .i64 o] ((w.drewN q).drewN q') fun e w' => e = .returned (.int .i64 (Pl.cnt (fun i => decide (gO L i = o)) L.length : Nat)) ∧ w' = (w.drewN q).drewN q') := fun q q' o => count35 aO gO' 0 L.length cO (gO L) o ((w.drewN q).drewN q') hL zO cellO'
  have C22 : Hid (∀ q q' o p, Calls Try.prog 22 #[.slice aO L.length cO, .slice aP L.length cP, .int .i64 o, .string p] ((w.drewN q).drewN q') fun e w' => e = .returned (.int .i64 (fnd (gO L) (gP L) o p L.length)) ∧ w' = (w.drewN q).drewN q') := fun q q' o p => find22 aO aP gO' 0 gP' 0 L.length cO cP (gO L) (gP L) o p ((w.drewN q).drewN q') hL zO zP cellO' cellP'
  clear h cellO' cellP'
  go_enter Try.func20, Try.ntmps20
  go_wp2_with fail
  refine C32.mono ?_
  rintro e w' ⟨rfl, rfl⟩
  clear C32
  go_wp2_with fail
  refine C33.mono ?_
  rintro e w' ⟨rfl, q1, rfl⟩
  clear C33
  go_wp2
  go_loopw [9] (fun v wr => ∃ k : Nat, k ≤ L.length ∧ v = .int .i64 k ∧ ∃ q, wr = w.drewN q) (fun v _ => L.length - (intOf v).toNat)
  case atStart => exact ⟨0, Nat.zero_le _, rfl, q1, rfl⟩
  case round =>
    obtain ⟨k, hk, rfl, q, rfl⟩ := hrel
    by_cases hlt : k < L.length
    · obtain rfl := zO (by omega)
      obtain rfl := zP (by omega)
      have e0 : (w.drewN q).cell? ⟨gO', k, none⟩ = some (.int .i64 (gO L k)) := cellO k hlt
      have e1 : (w.drewN q).cell? ⟨gP', k, none⟩ = some (.string (gP L k)) := cellP k hlt
      have i0 : (k : Int) < (L.length : Int) := by omega
      have hw := wf _ (gOP_mem hlt)
      have D26 := fun q' => C26.out q q' _ _ hw.1 hw.2 (gOP_mem hlt)
      have D34 := fun q' => C34.out q q' _ hw.1
      have D35 := fun q' => C35.out q q' (gO L k)
      clear z0 g0 g1 k0 k1 C22 C26 C26f C34 C35 hw zO zP cellO cellP nd wf
      generalize hwq : w.drewN q = wr at *
      have HQ : Hid (wr = w.drewN q) := hwq.symm
      clear hwq
      go_wp2
      go_quiet (first | (go_at_call 26; exact Calls.quiet_of_same (D26 _)) | (go_at_call 34; exact Calls.quiet_of_same (D34 _)) | (go_at_call 35; exact Calls.quiet_of_same (D35 _)))
      go_wp2
      go_roundw
      case rel => exact ⟨k + 1, by omega, by go_num, _, by rw [HQ.out, World.drewN_drewN]⟩
      case measure => simp [intOf]; omega
    · clear zO zP cellO cellP
      go_wp2
      go_loopw [10] (fun v wr => ∃ k : Nat, k ≤ n0 ∧ v = .int .i64 k ∧ ∃ q, wr = w.drewN q) (fun v _ => n0 - (intOf v).toNat)
      case atStart => exact ⟨0, Nat.zero_le _, rfl, q, rfl⟩
      case round =>
        obtain ⟨k, hk, rfl, q2, rfl⟩ := hrel
        by_cases hlt : k < n0
        · obtain rfl := z0 (by omega)
          have e0 : (w.drewN q2).cell? ⟨b0, o0 + k * 3, none⟩ = some (.int .i64 (Ow k)) := g0 k hlt
          have e1 : (w.drewN q2).cell? ⟨b0, o0 + k * 3 + 1, none⟩ = some (.string (Pa k)) := g1 k hlt
          have i0 : (k : Int) < (n0 : Int) := by omega
          have p0 := k0 k
          have p1 := k1 k
          have D22 := fun q' => C22.out q2 q' (Ow k) (Pa k)
          have D34 := fun q' => C34.out q2 q' _ p0
          have D35 := fun q' => C35.out q2 q' (Ow k)
          rcases fnd_list L (Ow k) (Pa k) with ⟨hf, hno⟩ | ⟨j, hj, hf, hat, hm⟩
          · rw [hf] at D22
            have D26 := fun q' => C26f.out q2 q' _ _ p0 p1 hno
            clear z0 g0 g1 k0 k1 C22 C26 C26f C34 C35 nd wf hf hno
            have E34 : ∀ q' q'', Calls Try.prog 34 #[.pointer (some ⟨bt, 0, none⟩), .int .i64 (Ow k)] (((w.drewN q2).drewN q').drewN q'') fun e w' => e = .returned (.int .i64 (Pl.cnt (fun i => decide (gO L i = Ow k)) L.length : Nat)) ∧ w' = ((w.drewN q2).drewN q').drewN q'' := fun q' q'' => by
              rw [World.drewN_drewN (w.drewN q2)]
              exact D34 _
            have E35 : ∀ q' q'', Calls Try.prog 35 #[.slice aO L.length cO, .int .i64 (Ow k)] (((w.drewN q2).drewN q').drewN q'') fun e w' => e = .returned (.int .i64 (Pl.cnt (fun i => decide (gO L i = Ow k)) L.length : Nat)) ∧ w' = ((w.drewN q2).drewN q').drewN q'' := fun q' q'' => by
              rw [World.drewN_drewN (w.drewN q2)]
              exact D35 _
            clear D34 D35
            generalize hwq : w.drewN q2 = wr at *
            have HQ : Hid (wr = w.drewN q2) := hwq.symm
            clear hwq
            go_wp2
            go_quiet (first | (go_at_call 22; exact Calls.quiet_of_same (D22 _)) | (go_at_call 26; exact Calls.quiet_of_same (D26 _)))
            clear D22 D26
            go_wp2
            have F34 := E34 nq
            have F35 := E35 nq
            have e0' : (wr.drewN nq).cell? ⟨b0, o0 + k * 3, none⟩ = some (.int .i64 (Ow k)) := e0
            clear E34 E35
            generalize hw2 : wr.drewN nq = wr2 at *
            have HQ2 : Hid (wr2 = wr.drewN nq) := hw2.symm
            clear hw2
            go_quiet (first | (go_at_call 34; exact Calls.quiet_of_same (F34 _)) | (go_at_call 35; exact Calls.quiet_of_same (F35 _)))
            go_wp2
            go_roundw
            case rel => exact ⟨k + 1, by omega, by go_num, _, by rw [HQ2.out, HQ.out, World.drewN_drewN, World.drewN_drewN]⟩
            case measure => simp [intOf]; omega
          · rw [hf] at D22
            have d0 : decide ((j : Int) < 0) = false := decide_eq_false (by omega)
            clear z0 g0 g1 k0 k1 C22 C26 C26f C34 C35 nd wf hf hm hat
            have E34 : ∀ q' q'', Calls Try.prog 34 #[.pointer (some ⟨bt, 0, none⟩), .int .i64 (Ow k)] (((w.drewN q2).drewN q').drewN q'') fun e w' => e = .returned (.int .i64 (Pl.cnt (fun i => decide (gO L i = Ow k)) L.length : Nat)) ∧ w' = ((w.drewN q2).drewN q').drewN q'' := fun q' q'' => by
              rw [World.drewN_drewN (w.drewN q2)]
              exact D34 _
            have E35 : ∀ q' q'', Calls Try.prog 35 #[.slice aO L.length cO, .int .i64 (Ow k)] (((w.drewN q2).drewN q').drewN q'') fun e w' => e = .returned (.int .i64 (Pl.cnt (fun i => decide (gO L i = Ow k)) L.length : Nat)) ∧ w' = ((w.drewN q2).drewN q').drewN q'' := fun q' q'' => by
              rw [World.drewN_drewN (w.drewN q2)]
              exact D35 _
            clear D34 D35
            generalize hwq : w.drewN q2 = wr at *
            have HQ : Hid (wr = w.drewN q2) := hwq.symm
            clear hwq
            go_wp2
            go_quiet (first | (go_at_call 22; exact Calls.quiet_of_same (D22 _)))
            clear D22
            go_wp2
            have F34 := E34 nq
            have F35 := E35 nq
            have e0' : (wr.drewN nq).cell? ⟨b0, o0 + k * 3, none⟩ = some (.int .i64 (Ow k)) := e0
            clear E34 E35
            generalize hw2 : wr.drewN nq = wr2 at *
            have HQ2 : Hid (wr2 = wr.drewN nq) := hw2.symm
            clear hw2
            go_quiet (first | (go_at_call 34; exact Calls.quiet_of_same (F34 _)) | (go_at_call 35; exact Calls.quiet_of_same (F35 _)))
            go_wp2
            go_roundw
            case rel => exact ⟨k + 1, by omega, by go_num, _, by rw [HQ2.out, HQ.out, World.drewN_drewN, World.drewN_drewN]⟩
            case measure => simp [intOf]; omega
        · clear z0 g0 g1 k0 k1 C22 C26 C26f C34 C35 nd wf
          go_wp2
          go_ret
          exact ⟨rfl, q2, rfl⟩

end Go.Proofs.Qxb6605168a
