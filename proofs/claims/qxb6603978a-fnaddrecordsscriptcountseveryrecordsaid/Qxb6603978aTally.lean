/-
  TALLIES: the copies of slices, zzBuild, Sum, add: their contracts.
-/
import Derived.Test.Qxb6603978aLeaf
import Derived.Maps.RangeWalk
import Derived.Deep.OwnRows
import Derived.RegionTactic
import Derived.Lib.SliceRun
namespace Go.Proofs.Qxb6603978a
open Go.RowKit Go.Maps
set_option linter.unusedVariables false
set_option linter.unusedSimpArgs false

theorem law35 : Keyed Try.prog 35 := int_keyed Try.underlying35
theorem zero2 (w : World) : (zeroValue 2).run Try.prog w = .ok (.int .i64 0) w := by kernel_rfl
theorem info3 : (Try.prog.info? 3).map (fun i => (i.zero, i.size, i.bytes)) = some (some (.int .i64 0), 1, 8) := by kernel_rfl
theorem info9 : (Try.prog.info? 9).map (fun i => (i.zero, i.size, i.bytes)) = some (some (.string ByteArray.empty), 1, 16) := by kernel_rfl
theorem info4 : (Try.prog.info? 4).map (fun i => (i.zero, i.size, i.bytes)) = some (some (.bool false), 1, 1) := by kernel_rfl
theorem info2 : (Try.prog.info? 2).map (fun i => (i.zero, i.size, i.bytes)) = some (some (.int .i64 0), 1, 8) := by kernel_rfl

/-- a key, an element as read -/
def iK (k : Int) : Lit := .int .i64 k
def iV (v : Int) : DataW Unit := .lit (.int .i64 v)
theorem encI : Pl.KeyEnc iK := ⟨fun a b h => by simpa [iK] using h, fun _ => trivial⟩

/-- BLOCK b IS A TALLY OF AT MOST n ENTRIES THAT HOLDS JUST THE PAIRS ps. -/
def Tal (w : World) (b n : Nat) (ps : List (Int × Int)) : Prop :=
  ∃ D : DataW Unit, w.ownsMap Try.prog 35 (plainElem Try.prog 2) b n D ∧ Pl.Rep iK iV D ps

/-- WHAT A COPY OF A SLICE LEAVES: nil stays nil; else a new row, of the same cells; nothing old has turned. -/
def Copied (V : Nat → Value) (w : World) (a : Option Addr) (n : Nat) (e : Ending) (w' : World) : Prop :=
  ∃ a', e = .returned (.slice a' n n) ∧ a'.isNone = a.isNone ∧ (0 < n → a' = some ⟨w.heap.size, 0, none⟩) ∧ (∀ j, j < n → w'.cell? ⟨w.heap.size, j, none⟩ = some (V j)) ∧ Below w.heap.size w w'

theorem fill_step (f : Nat → Value) (z : Value) (k j : Nat) : (if j = k then f k else if j < k then f j else z) = if j < k + 1 then f j else z := by
  by_cases e : j = k
  · subst e; simp
  · by_cases h : j < k
    · rw [if_neg e, if_pos h, if_pos (by omega)]
    · rw [if_neg e, if_neg h, if_neg (by omega)]

set_option maxHeartbeats 400000 in
theorem copy10 (a : Option Addr) (b off n c : Nat) (K : Nat → Int) (w : World) (ha : 0 < n → a = some ⟨b, off, none⟩) (hz : a = none → n = 0) (hn : n ≤ 4096)
    (hc : ∀ j, j < n → w.cell? ⟨b, off + j, none⟩ = some (.int .i64 (K j))) :
    Calls Try.prog 10 #[.slice a n c] w fun e w' => Copied (fun j => .int .i64 (K j)) w a n e w' := by
  have hq : ∀ w a n c, (binOp .eql 22 (.slice a n c) (.slice none 0 0)).run Try.prog w = .ok (.bool a.isNone) w := fun w a n c => Lib.run_eql_slice_nil w _ _ a n c 0 0 Try.underlying22
  rcases a with _ | x
  · obtain rfl := hz rfl
    go_enter Try.func10, Try.ntmps10
    go_wp2
    go_ret
    exact ⟨none, rfl, rfl, fun h => by omega, fun j h => by omega, Below.refl _ _⟩
  · have hmk := run_make_row' (P := Try.prog) 22 3 (.int .i64 0) 8 Try.underlying22 info3 rfl .i64 .i64 n (by omega) (by omega)
    go_enter Try.func10, Try.ntmps10
    go_wp2
    clear hmk hq
    go_loopw [4] (fun v wr => ∃ k : Nat, k ≤ n ∧ v = .int .i64 k ∧ wr.rowIs w.heap.size 3 n (fun j => if j < k then .int .i64 (K j) else .int .i64 0) ∧ Below w.heap.size w wr) (fun v _ => n - (intOf v).toNat)
    case atStart => exact ⟨0, Nat.zero_le _, rfl, (World.rowIs_made w _ n 3).congr (fun j _ => by simp), (Below.refl _ _).alloc (Nat.le_refl _) _⟩
    case round =>
      obtain ⟨k, hk, rfl, hrow, hbel⟩ := hrel
      by_cases hlt : k < n
      · obtain rfl := (Option.some.inj (ha (by omega)))
        have hb : b < w.heap.size := World.block_lt_of_cell? _ _ (hc k hlt)
        have g0 : wr.cell? ⟨b, off + k, none⟩ = some (.int .i64 (K k)) := (hbel.cell (by exact hb)).trans (hc k hlt)
        have g1 : ∃ v, wr.cell? ⟨w.heap.size, k, none⟩ = some v := ⟨_, hrow.cell hlt⟩
        obtain ⟨v1, g1⟩ := g1
        have g2 := hrow.frozen k
        have hkn : (k : Int) < (n : Int) := by omega
        have HR : Hid (wr.rowIs w.heap.size 3 n (fun j => if j < k then .int .i64 (K j) else .int .i64 0)) := hrow
        clear hrow ha hz
        go_wp2
        go_roundw
        case rel => exact ⟨k + 1, by omega, by go_num, (HR.out.set k _).congr (fun j _ => fill_step (fun j => .int .i64 (K j)) _ k j), hbel.setCell (Nat.le_refl _) _⟩
        case measure => simp [intOf]; omega
      · have hkn : k = n := by omega
        subst hkn
        have HR : Hid (wr.rowIs w.heap.size 3 k (fun j => if j < k then .int .i64 (K j) else .int .i64 0)) := hrow
        clear hrow ha hz
        go_wp2
        go_ret
        exact ⟨some ⟨w.heap.size, 0, none⟩, rfl, rfl, fun _ => rfl, fun j hj => by rw [HR.out.cell hj]; simp [hj], hbel⟩

set_option maxHeartbeats 400000 in
theorem copy11 (a : Option Addr) (b off n c : Nat) (K : Nat → Int) (w : World) (ha : 0 < n → a = some ⟨b, off, none⟩) (hz : a = none → n = 0) (hn : n ≤ 4096)
    (hc : ∀ j, j < n → w.cell? ⟨b, off + j, none⟩ = some (.int .i64 (K j))) :
    Calls Try.prog 11 #[.slice a n c] w fun e w' => Copied (fun j => .int .i64 (K j)) w a n e w' := by
  have hq : ∀ w a n c, (binOp .eql 23 (.slice a n c) (.slice none 0 0)).run Try.prog w = .ok (.bool a.isNone) w := fun w a n c => Lib.run_eql_slice_nil w _ _ a n c 0 0 Try.underlying23
  rcases a with _ | x
  · obtain rfl := hz rfl
    go_enter Try.func11, Try.ntmps11
    go_wp2
    go_ret
    exact ⟨none, rfl, rfl, fun h => by omega, fun j h => by omega, Below.refl _ _⟩
  · have hmk := run_make_row' (P := Try.prog) 23 2 (.int .i64 0) 8 Try.underlying23 info2 rfl .i64 .i64 n (by omega) (by omega)
    go_enter Try.func11, Try.ntmps11
    go_wp2
    clear hmk hq
    go_loopw [4] (fun v wr => ∃ k : Nat, k ≤ n ∧ v = .int .i64 k ∧ wr.rowIs w.heap.size 2 n (fun j => if j < k then .int .i64 (K j) else .int .i64 0) ∧ Below w.heap.size w wr) (fun v _ => n - (intOf v).toNat)
    case atStart => exact ⟨0, Nat.zero_le _, rfl, (World.rowIs_made w _ n 2).congr (fun j _ => by simp), (Below.refl _ _).alloc (Nat.le_refl _) _⟩
    case round =>
      obtain ⟨k, hk, rfl, hrow, hbel⟩ := hrel
      by_cases hlt : k < n
      · obtain rfl := (Option.some.inj (ha (by omega)))
        have hb : b < w.heap.size := World.block_lt_of_cell? _ _ (hc k hlt)
        have g0 : wr.cell? ⟨b, off + k, none⟩ = some (.int .i64 (K k)) := (hbel.cell (by exact hb)).trans (hc k hlt)
        have g1 : ∃ v, wr.cell? ⟨w.heap.size, k, none⟩ = some v := ⟨_, hrow.cell hlt⟩
        obtain ⟨v1, g1⟩ := g1
        have g2 := hrow.frozen k
        have hkn : (k : Int) < (n : Int) := by omega
        have HR : Hid (wr.rowIs w.heap.size 2 n (fun j => if j < k then .int .i64 (K j) else .int .i64 0)) := hrow
        clear hrow ha hz
        go_wp2
        go_roundw
        case rel => exact ⟨k + 1, by omega, by go_num, (HR.out.set k _).congr (fun j _ => fill_step (fun j => .int .i64 (K j)) _ k j), hbel.setCell (Nat.le_refl _) _⟩
        case measure => simp [intOf]; omega
      · have hkn : k = n := by omega
        subst hkn
        have HR : Hid (wr.rowIs w.heap.size 2 k (fun j => if j < k then .int .i64 (K j) else .int .i64 0)) := hrow
        clear hrow ha hz
        go_wp2
        go_ret
        exact ⟨some ⟨w.heap.size, 0, none⟩, rfl, rfl, fun _ => rfl, fun j hj => by rw [HR.out.cell hj]; simp [hj], hbel⟩

set_option maxHeartbeats 400000 in
theorem copy22 (a : Option Addr) (b off n c : Nat) (K : Nat → ByteArray) (w : World) (ha : 0 < n → a = some ⟨b, off, none⟩) (hz : a = none → n = 0) (hn : n ≤ 4096)
    (hc : ∀ j, j < n → w.cell? ⟨b, off + j, none⟩ = some (.string (K j))) :
    Calls Try.prog 22 #[.slice a n c] w fun e w' => Copied (fun j => .string (K j)) w a n e w' := by
  have hq : ∀ w a n c, (binOp .eql 38 (.slice a n c) (.slice none 0 0)).run Try.prog w = .ok (.bool a.isNone) w := fun w a n c => Lib.run_eql_slice_nil w _ _ a n c 0 0 Try.underlying38
  rcases a with _ | x
  · obtain rfl := hz rfl
    go_enter Try.func22, Try.ntmps22
    go_wp2
    go_ret
    exact ⟨none, rfl, rfl, fun h => by omega, fun j h => by omega, Below.refl _ _⟩
  · have hmk := run_make_row' (P := Try.prog) 38 9 (.string ByteArray.empty) 16 Try.underlying38 info9 rfl .i64 .i64 n (by omega) (by omega)
    go_enter Try.func22, Try.ntmps22
    go_wp2
    clear hmk hq
    go_loopw [4] (fun v wr => ∃ k : Nat, k ≤ n ∧ v = .int .i64 k ∧ wr.rowIs w.heap.size 9 n (fun j => if j < k then .string (K j) else .string ByteArray.empty) ∧ Below w.heap.size w wr) (fun v _ => n - (intOf v).toNat)
    case atStart => exact ⟨0, Nat.zero_le _, rfl, (World.rowIs_made w _ n 9).congr (fun j _ => by simp), (Below.refl _ _).alloc (Nat.le_refl _) _⟩
    case round =>
      obtain ⟨k, hk, rfl, hrow, hbel⟩ := hrel
      by_cases hlt : k < n
      · obtain rfl := (Option.some.inj (ha (by omega)))
        have hb : b < w.heap.size := World.block_lt_of_cell? _ _ (hc k hlt)
        have g0 : wr.cell? ⟨b, off + k, none⟩ = some (.string (K k)) := (hbel.cell (by exact hb)).trans (hc k hlt)
        have g1 : ∃ v, wr.cell? ⟨w.heap.size, k, none⟩ = some v := ⟨_, hrow.cell hlt⟩
        obtain ⟨v1, g1⟩ := g1
        have g2 := hrow.frozen k
        have hkn : (k : Int) < (n : Int) := by omega
        have HR : Hid (wr.rowIs w.heap.size 9 n (fun j => if j < k then .string (K j) else .string ByteArray.empty)) := hrow
        clear hrow ha hz
        go_wp2
        go_roundw
        case rel => exact ⟨k + 1, by omega, by go_num, (HR.out.set k _).congr (fun j _ => fill_step (fun j => .string (K j)) _ k j), hbel.setCell (Nat.le_refl _) _⟩
        case measure => simp [intOf]; omega
      · have hkn : k = n := by omega
        subst hkn
        have HR : Hid (wr.rowIs w.heap.size 9 k (fun j => if j < k then .string (K j) else .string ByteArray.empty)) := hrow
        clear hrow ha hz
        go_wp2
        go_ret
        exact ⟨some ⟨w.heap.size, 0, none⟩, rfl, rfl, fun _ => rfl, fun j hj => by rw [HR.out.cell hj]; simp [hj], hbel⟩

set_option maxHeartbeats 400000 in
theorem copy27 (a : Option Addr) (b off n c : Nat) (K : Nat → Bool) (w : World) (ha : 0 < n → a = some ⟨b, off, none⟩) (hz : a = none → n = 0) (hn : n ≤ 4096)
    (hc : ∀ j, j < n → w.cell? ⟨b, off + j, none⟩ = some (.bool (K j))) :
    Calls Try.prog 27 #[.slice a n c] w fun e w' => Copied (fun j => .bool (K j)) w a n e w' := by
  have hq : ∀ w a n c, (binOp .eql 48 (.slice a n c) (.slice none 0 0)).run Try.prog w = .ok (.bool a.isNone) w := fun w a n c => Lib.run_eql_slice_nil w _ _ a n c 0 0 Try.underlying48
  rcases a with _ | x
  · obtain rfl := hz rfl
    go_enter Try.func27, Try.ntmps27
    go_wp2
    go_ret
    exact ⟨none, rfl, rfl, fun h => by omega, fun j h => by omega, Below.refl _ _⟩
  · have hmk := run_make_row' (P := Try.prog) 48 4 (.bool false) 1 Try.underlying48 info4 rfl .i64 .i64 n (by omega) (by omega)
    go_enter Try.func27, Try.ntmps27
    go_wp2
    clear hmk hq
    go_loopw [4] (fun v wr => ∃ k : Nat, k ≤ n ∧ v = .int .i64 k ∧ wr.rowIs w.heap.size 4 n (fun j => if j < k then .bool (K j) else .bool false) ∧ Below w.heap.size w wr) (fun v _ => n - (intOf v).toNat)
    case atStart => exact ⟨0, Nat.zero_le _, rfl, (World.rowIs_made w _ n 4).congr (fun j _ => by simp), (Below.refl _ _).alloc (Nat.le_refl _) _⟩
    case round =>
      obtain ⟨k, hk, rfl, hrow, hbel⟩ := hrel
      by_cases hlt : k < n
      · obtain rfl := (Option.some.inj (ha (by omega)))
        have hb : b < w.heap.size := World.block_lt_of_cell? _ _ (hc k hlt)
        have g0 : wr.cell? ⟨b, off + k, none⟩ = some (.bool (K k)) := (hbel.cell (by exact hb)).trans (hc k hlt)
        have g1 : ∃ v, wr.cell? ⟨w.heap.size, k, none⟩ = some v := ⟨_, hrow.cell hlt⟩
        obtain ⟨v1, g1⟩ := g1
        have g2 := hrow.frozen k
        have hkn : (k : Int) < (n : Int) := by omega
        have HR : Hid (wr.rowIs w.heap.size 4 n (fun j => if j < k then .bool (K j) else .bool false)) := hrow
        clear hrow ha hz
        go_wp2
        go_roundw
        case rel => exact ⟨k + 1, by omega, by go_num, (HR.out.set k _).congr (fun j _ => fill_step (fun j => .bool (K j)) _ k j), hbel.setCell (Nat.le_refl _) _⟩
        case measure => simp [intOf]; omega
      · have hkn : k = n := by omega
        subst hkn
        have HR : Hid (wr.rowIs w.heap.size 4 k (fun j => if j < k then .bool (K j) else .bool false)) := hrow
        clear hrow ha hz
        go_wp2
        go_ret
        exact ⟨some ⟨w.heap.size, 0, none⟩, rfl, rfl, fun _ => rfl, fun j hj => by rw [HR.out.cell hj]; simp [hj], hbel⟩

end Go.Proofs.Qxb6603978a
