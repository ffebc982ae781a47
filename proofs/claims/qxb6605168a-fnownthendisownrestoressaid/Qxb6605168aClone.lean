/-
  ZZEmptyTree, cloneOps: their contracts.
-/
import Derived.Test.Qxb6605168aScript
namespace Go.Proofs.Qxb6605168a
open Go.RowKit Go.Maps Go.WideMaps
set_option linter.unusedVariables false
set_option linter.unusedSimpArgs false

theorem St.start (w : World) (u1 u2 : Value) : St (((w.alloc (Obj.map #[] 0)).alloc (Obj.map #[] 0)).alloc (Obj.cells #[u1, u2, Value.map (some (w.heap.size + 1))] 48)) w.heap.size (w.heap.size + 1 + 1) (w.heap.size + 1) 0 (.slice none 0 0) (.slice none 0 0) [] := by
  have hs : ((w.alloc (Obj.map #[] 0)).alloc (Obj.map #[] 0)).heap.size = w.heap.size + 1 + 1 := by simp
  have hs1 : (w.alloc (Obj.map #[] 0)).heap.size = w.heap.size + 1 := by simp
  have hb := heap_alloc_new ((w.alloc (Obj.map #[] 0)).alloc (Obj.map #[] 0)) (Obj.cells #[u1, u2, Value.map (some (w.heap.size + 1))] 48)
  rw [hs] at hb
  have h2 := (Set2.made (w.alloc (Obj.map #[] 0)) (fun _ => 0)).maps (MapsKept.alloc _ (Obj.cells #[u1, u2, Value.map (some (w.heap.size + 1))] 48))
  rw [hs1] at h2
  have hno : ∀ o, ¬ Has (fun o s => (o, s) ∈ ([] : List (Int × ByteArray))) o := fun o ⟨s, hs⟩ => by simp at hs
  refine ⟨⟨⟨fun _ => 0, ⟨?_, by omega, by omega, h2.congr (fun a => ⟨False.elim, fun h => hno a h⟩) (fun _ _ => rfl), fun o ho => (hno o ho).elim, fun o o' ho => (hno o ho).elim⟩⟩, ⟨_, _, hb⟩, World.ownsRow_nil _ _ _ _, World.ownsRow_nil _ _ _ _⟩, List.nodup_nil, fun p hp => by simp at hp⟩
  rw [cell_of_row _ _ 2 _ 48 _ hb]
  rfl

theorem empty18 (w : World) : Calls Try.prog 18 #[] w fun e w' => ∃ bt B, e = .returned (.pointer (some ⟨bt, 0, none⟩)) ∧ St w' w.heap.size bt B 0 (.slice none 0 0) (.slice none 0 0) [] ∧ Below w.heap.size w w' := by
  have hmm := @run_makeMap Try.prog
  go_enter Try.func18, Try.ntmps18
  go_wp2
  go_ret
  exact ⟨_, _, rfl, St.start w _ _, ((((Below.refl w.heap.size w).alloc (Nat.le_refl _) _).alloc (by simp) _).alloc (by simp; omega) _)⟩

theorem info52 : (Try.prog.info? 52).map (fun i => (i.zero, i.size, i.bytes)) = some (some (.agg #[.int .i64 0, .string ByteArray.empty, .bool false]), 3, 32) := by kernel_rfl

/-- Block b is a row of n ops; the first k are Ow, Pa, Fl. -/
def Row3 (w : World) (b n k : Nat) (Ow : Nat → Int) (Pa : Nat → ByteArray) (Fl : Nat → Bool) : Prop :=
  ∃ cur : Array Value, w.heap[b]? = some (.cells cur 52 (0, 0)) ∧ cur.size = n * 3 ∧ ∀ j, j < k → cur[j * 3]? = some (.int .i64 (Ow j)) ∧ cur[j * 3 + 1]? = some (.string (Pa j)) ∧ cur[j * 3 + 2]? = some (.bool (Fl j))

theorem Row3.cell {w : World} {b n k i : Nat} {Ow : Nat → Int} {Pa : Nat → ByteArray} {Fl : Nat → Bool} (h : Row3 w b n k Ow Pa Fl) (hi : i < n * 3) : (∃ v, w.cell? ⟨b, i, none⟩ = some v) ∧ w.frozen? ⟨b, i, none⟩ = false := by
  obtain ⟨cur, h1, h2, h3⟩ := h
  refine ⟨⟨cur[i]'(by omega), ?_⟩, frozen_of_row w b i cur 52 h1⟩
  rw [cell_of_row w b i cur 52 _ h1]
  exact Array.getElem?_eq_getElem _
/-- A cell behind the first k is written. -/
theorem Row3.set {w : World} {b n k i : Nat} {Ow : Nat → Int} {Pa : Nat → ByteArray} {Fl : Nat → Bool} (h : Row3 w b n k Ow Pa Fl) (hi : k * 3 ≤ i) (u : Value) : Row3 (w.setCell ⟨b, i, none⟩ u) b n k Ow Pa Fl := by
  obtain ⟨cur, h1, h2, h3⟩ := h
  refine ⟨_, heap_setCell_same w b i cur 52 u h1, by simpa using h2, fun j hj => ?_⟩
  obtain ⟨q0, q1, q2⟩ := h3 j hj
  rw [Array.getElem?_setIfInBounds_ne (by omega), Array.getElem?_setIfInBounds_ne (by omega), Array.getElem?_setIfInBounds_ne (by omega)]
  exact ⟨q0, q1, q2⟩
/-- One more op. -/
theorem Row3.step {w : World} {b n k : Nat} {Ow : Nat → Int} {Pa : Nat → ByteArray} {Fl : Nat → Bool} (h : Row3 w b n k Ow Pa Fl) (hk : k < n) :
    Row3 (((w.setCell ⟨b, k * 3, none⟩ (.int .i64 (Ow k))).setCell ⟨b, k * 3 + 1, none⟩ (.string (Pa k))).setCell ⟨b, k * 3 + 2, none⟩ (.bool (Fl k))) b n (k + 1) Ow Pa Fl := by
  obtain ⟨cur, h1, h2, h3⟩ := h
  refine ⟨_, heap_setCell_same _ b _ _ 52 _ (heap_setCell_same _ b _ _ 52 _ (heap_setCell_same w b _ cur 52 _ h1)), by simpa using h2, fun j hj => ?_⟩
  by_cases e : j = k
  · subst e
    refine ⟨?_, ?_, ?_⟩
    · rw [Array.getElem?_setIfInBounds_ne (by omega), Array.getElem?_setIfInBounds_ne (by omega), Array.getElem?_setIfInBounds_self_of_lt (by omega)]
    · rw [Array.getElem?_setIfInBounds_ne (by omega), Array.getElem?_setIfInBounds_self_of_lt (by simp; omega)]
    · rw [Array.getElem?_setIfInBounds_self_of_lt (by simp; omega)]
  · obtain ⟨q0, q1, q2⟩ := h3 j (by omega)
    refine ⟨?_, ?_, ?_⟩ <;> rw [Array.getElem?_setIfInBounds_ne (by omega), Array.getElem?_setIfInBounds_ne (by omega), Array.getElem?_setIfInBounds_ne (by omega)] <;> assumption
theorem Row3.read {w : World} {b n k j : Nat} {Ow : Nat → Int} {Pa : Nat → ByteArray} {Fl : Nat → Bool} (h : Row3 w b n k Ow Pa Fl) (hj : j < k) : w.cell? ⟨b, j * 3, none⟩ = some (.int .i64 (Ow j)) ∧ w.cell? ⟨b, j * 3 + 1, none⟩ = some (.string (Pa j)) ∧ w.cell? ⟨b, j * 3 + 2, none⟩ = some (.bool (Fl j)) := by
  obtain ⟨cur, h1, h2, h3⟩ := h
  rw [cell_of_row w b _ cur 52 _ h1, cell_of_row w b _ cur 52 _ h1, cell_of_row w b _ cur 52 _ h1]
  exact h3 j hj

/-- WHAT THE COPY OF THE OPS LEAVES. -/
def Copied3 (Ow : Nat → Int) (Pa : Nat → ByteArray) (Fl : Nat → Bool) (w : World) (n : Nat) (e : Ending) (w' : World) : Prop :=
  ∃ a', e = .returned (.slice a' n n) ∧ (0 < n → a' = some ⟨w.heap.size, 0, none⟩ ∧ Row3 w' w.heap.size n n Ow Pa Fl) ∧ Below w.heap.size w w'

set_option maxRecDepth 100000 in
set_option maxHeartbeats 1000000 in
theorem clone17 (a : Option Addr) (b off n c : Nat) (Ow : Nat → Int) (Pa : Nat → ByteArray) (Fl : Nat → Bool) (w : World) (ha : 0 < n → a = some ⟨b, off, none⟩) (hz : a = none → n = 0) (hn : n ≤ 4096)
    (g0 : ∀ j, j < n → w.cell? ⟨b, off + j * 3, none⟩ = some (.int .i64 (Ow j))) (g1 : ∀ j, j < n → w.cell? ⟨b, off + j * 3 + 1, none⟩ = some (.string (Pa j))) (g2 : ∀ j, j < n → w.cell? ⟨b, off + j * 3 + 2, none⟩ = some (.bool (Fl j))) :
    Calls Try.prog 17 #[.slice a n c] w fun e w' => Copied3 Ow Pa Fl w n e w' := by
  have hq : ∀ w a n c, (binOp .eql 29 (.slice a n c) (.slice none 0 0)).run Try.prog w = .ok (.bool a.isNone) w := fun w a n c => Lib.run_eql_slice_nil w _ _ a n c 0 0 Try.underlying29
  rcases a with _ | x
  · obtain rfl := hz rfl
    go_enter Try.func17, Try.ntmps17
    go_wp2
    go_ret
    exact ⟨none, rfl, fun h => by omega, Below.refl _ _⟩
  · obtain ⟨i, i1, i2, i3, i4⟩ := info_cut info52
    have hmk := run_make (P := Try.prog) w 29 52 i _ Try.underlying29 i1 i2 .i64 .i64 n n (by omega) (Int.le_refl _) (by rw [i4]; omega) (by omega)
    simp only [Int.toNat_natCast, i3] at hmk
    go_enter Try.func17, Try.ntmps17
    go_wp2
    clear hmk hq
    go_loopw [4] (fun v wr => ∃ k : Nat, k ≤ n ∧ v = .int .i64 k ∧ Hid (Row3 wr w.heap.size n k Ow Pa Fl) ∧ Below w.heap.size w wr) (fun v _ => n - (intOf v).toNat)
    case atStart => exact ⟨0, Nat.zero_le _, rfl, ⟨_, heap_alloc_new w _, size_madeCells _ _, fun j hj => by omega⟩, (Below.refl _ _).alloc (Nat.le_refl _) _⟩
    case round =>
      obtain ⟨k, hk, rfl, HR, hbel⟩ := hrel
      by_cases hlt : k < n
      · obtain rfl := (Option.some.inj (ha (by omega)))
        have hb : b < w.heap.size := World.block_lt_of_cell? _ _ (g0 k hlt)
        have e0 : wr.cell? ⟨b, off + k * 3, none⟩ = some (.int .i64 (Ow k)) := (hbel.cell (by exact hb)).trans (g0 k hlt)
        have e1 : wr.cell? ⟨b, off + k * 3 + 1, none⟩ = some (.string (Pa k)) := (hbel.cell (by exact hb)).trans (g1 k hlt)
        have e2 : wr.cell? ⟨b, off + k * 3 + 2, none⟩ = some (.bool (Fl k)) := (hbel.cell (by exact hb)).trans (g2 k hlt)
        have hkn : (k : Int) < (n : Int) := by omega
        obtain ⟨⟨v0, c0⟩, f0⟩ := HR.out.cell (i := k * 3) (by omega)
        obtain ⟨⟨v1, c1⟩, f1⟩ := (HR.out.set (Nat.le_refl _) (.int .i64 (Ow k))).cell (i := k * 3 + 1) (by omega)
        obtain ⟨⟨v2, c2⟩, f2⟩ := ((HR.out.set (Nat.le_refl _) (.int .i64 (Ow k))).set (i := k * 3 + 1) (by omega) (.string (Pa k))).cell (i := k * 3 + 2) (by omega)
        have HS : Hid _ := HR.out.step hlt
        clear ha hz g0 g1 g2 HR
        go_wp2
        go_roundw
        case rel => exact ⟨k + 1, by omega, by go_num, HS, ((hbel.setCell (Nat.le_refl _) _).setCell (Nat.le_refl _) _).setCell (Nat.le_refl _) _⟩
        case measure => simp [intOf]; omega
      · have hkn : k = n := by omega
        subst hkn
        clear ha hz g0 g1 g2
        go_wp2
        go_ret
        exact ⟨some ⟨w.heap.size, 0, none⟩, rfl, fun _ => ⟨rfl, HR.out⟩, hbel⟩

end Go.Proofs.Qxb6605168a
