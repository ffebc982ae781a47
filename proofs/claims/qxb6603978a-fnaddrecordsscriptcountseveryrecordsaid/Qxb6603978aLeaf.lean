/-
  THE LEAVES: zzMin, zzBytes.., zzLastInt, zzHasInt.
-/
import Derived.Test.Qxb6603978aProg
import Derived.Test.Qxb6603978aReps
import Derived.WalkKit
import Derived.WalkSpells
import Derived.Deep.QuietTactic
import Derived.BigQuiet
namespace Go.Proofs.Qxb6603978a
open Go.RowKit Go.Maps
set_option linter.unusedVariables false
set_option linter.unusedSimpArgs false

theorem ret_bool {a b : Bool} (h : a = b) : Ending.returned (.bool a) = .returned (.bool b) := by rw [h]
theorem ret_int {k : IntKind} {a b : Int} (h : a = b) : Ending.returned (.int k a) = .returned (.int k b) := by rw [h]

theorem bdrew {B : Nat} {a w : World} (h : Below B a w) (q : Nat) : Below B a (w.drewN q) := ⟨h.os, h.tape, h.output, h.size, h.block⟩

theorem min_any (a b : Nat) (w : World) : Calls Try.prog 12 #[.int .i64 a, .int .i64 b] w fun e w' => e = .returned (.int .i64 (min a b : Nat)) ∧ w = w' := by
  by_cases h : a < b
  · rw [Nat.min_eq_left (by omega)]
    go_enter Try.func12, Try.ntmps12
    go_wp2
    go_ret
    exact ⟨rfl, rfl⟩
  · rw [Nat.min_eq_right (by omega)]
    go_enter Try.func12, Try.ntmps12
    go_wp2
    go_ret
    exact ⟨rfl, rfl⟩

/-- The four tests on lengths. -/
theorem bytes9 (a0 a1 : Option Addr) (n0 c0 n1 c1 : Nat) (w : World) (h0 : n0 ≤ maxLen) (h1 : n1 ≤ maxLen) : Calls Try.prog 9 #[.slice a0 n0 c0, .slice a1 n1 c1] w fun e w' => (∃ x, e = .returned (.bool x)) ∧ w = w' := by
  unfold maxLen at h0 h1
  go_enter Try.func9, Try.ntmps9
  go_wp2
  all_goals (go_ret; exact ⟨⟨_, rfl⟩, rfl⟩)
theorem bytes20 (a0 a1 : Option Addr) (n0 c0 n1 c1 : Nat) (w : World) (h0 : n0 ≤ maxLen) (h1 : n1 ≤ maxLen) : Calls Try.prog 20 #[.slice a0 n0 c0, .slice a1 n1 c1] w fun e w' => (∃ x, e = .returned (.bool x)) ∧ w = w' := by
  unfold maxLen at h0 h1
  go_enter Try.func20, Try.ntmps20
  go_wp2
  all_goals (go_ret; exact ⟨⟨_, rfl⟩, rfl⟩)
theorem bytes16 (a0 a1 : Option Addr) (n0 c0 n1 c1 : Nat) (r n : Int) (w : World) (h0 : n0 ≤ maxLen) (h1 : n1 ≤ maxLen) : Calls Try.prog 16 #[.slice a0 n0 c0, .slice a1 n1 c1, .int .i64 r, .int .i64 n] w fun e w' => (∃ x, e = .returned (.bool x)) ∧ w = w' := by
  unfold maxLen at h0 h1
  go_enter Try.func16, Try.ntmps16
  go_wp2
  all_goals (go_ret; exact ⟨⟨_, rfl⟩, rfl⟩)
theorem bytes19 (a0 a1 : Option Addr) (n0 c0 n1 c1 : Nat) (r n : Int) (w : World) (h0 : n0 ≤ maxLen) (h1 : n1 ≤ maxLen) : Calls Try.prog 19 #[.slice a0 n0 c0, .slice a1 n1 c1, .int .i64 r, .int .i64 n] w fun e w' => (∃ x, e = .returned (.bool x)) ∧ w = w' := by
  unfold maxLen at h0 h1
  go_enter Try.func19, Try.ntmps19
  go_wp2
  all_goals (go_ret; exact ⟨⟨_, rfl⟩, rfl⟩)

set_option maxHeartbeats 400000 in
theorem last_any (b off n c : Nat) (K : Nat → Int) (i m : Nat) (w : World) (him : i < m) (hmn : m ≤ n) (hn : n ≤ 4096)
    (hc : ∀ j, j < n → w.cell? ⟨b, off + j, none⟩ = some (.int .i64 (K j))) :
    Calls Try.prog 14 #[.slice (some ⟨b, off, none⟩) n c, .int .i64 i, .int .i64 m] w fun e w' => e = .returned (.bool (Pl.lastB (fun _ => true) K m i)) ∧ ∃ q, w' = w.drewN q := by
  have hi := hc i (by omega)
  have hin : (i : Int) < (n : Int) := by omega
  go_enter Try.func14, Try.ntmps14
  go_wp2
  go_loopw [7] (fun v wr => ∃ k : Nat, i + 1 ≤ k ∧ k ≤ m ∧ v = .int .i64 k ∧ (∀ j, j < k → i < j → K j ≠ K i) ∧ ∃ q, wr = w.drewN q) (fun v _ => m - (intOf v).toNat)
  case atStart => exact ⟨i + 1, Nat.le_refl _, by omega, by go_num, fun j h1 h2 => by omega, 0, rfl⟩
  case round =>
    obtain ⟨k, hk1, hk2, rfl, hno, q, rfl⟩ := hrel
    by_cases hlt : k < m
    · have hk := hc k (by omega)
      have hkn : (k : Int) < (n : Int) := by omega
      by_cases he : K k = K i
      · have hb : (K k == K i) = true := by simp [he]
        have HE : Hid (K k = K i) := he
        clear he
        go_wp2
        go_quiet (fail)
        go_wp2
        go_ret
        refine ⟨ret_bool ?_, _, World.drewN_drewN _ _ _⟩
        have : Pl.lastB (fun _ => true) K m i = false := by
          rw [← Bool.not_eq_true, Pl.lastB_iff]
          exact fun h => h.2 k hlt (by omega) rfl HE.out
        exact this.symm
      · have hb : (K k == K i) = false := by simp [he]
        have HN : Hid (∀ j, j < k → i < j → K j ≠ K i) := hno
        have HE : Hid (K k ≠ K i) := he
        clear he hno
        go_wp2
        go_quiet (fail)
        go_wp2
        go_roundw
        case rel => exact ⟨k + 1, by omega, by omega, by go_num, fun j h1 h2 => by
          by_cases e : j = k
          · subst e; exact HE.out
          · exact HN.out j (by omega) h2, _, rfl⟩
        case measure => simp [intOf]; omega
    · have HN : Hid (∀ j, j < k → i < j → K j ≠ K i) := hno
      clear hno
      go_wp2
      go_ret
      refine ⟨ret_bool ?_, q, rfl⟩
      have : Pl.lastB (fun _ => true) K m i = true := by
        rw [Pl.lastB_iff]
        exact ⟨rfl, fun j h1 h2 _ => HN.out j (by omega) h2⟩
      exact this.symm

set_option maxHeartbeats 400000 in
theorem has_any (a : Option Addr) (b off n c : Nat) (K : Nat → Int) (r : Int) (m : Nat) (w : World) (ha : 0 < n → a = some ⟨b, off, none⟩) (hmn : m ≤ n) (hn : n ≤ 4096)
    (hc : ∀ j, j < n → w.cell? ⟨b, off + j, none⟩ = some (.int .i64 (K j))) :
    Calls Try.prog 31 #[.slice a n c, .int .i64 r, .int .i64 m] w fun e w' => e = .returned (.bool (decide (∃ j, j < m ∧ K j = r))) ∧ ∃ q, w' = w.drewN q := by
  go_enter Try.func31, Try.ntmps31
  go_wp2
  go_loopw [7] (fun v wr => ∃ k : Nat, k ≤ m ∧ v = .int .i64 k ∧ (∀ j, j < k → K j ≠ r) ∧ ∃ q, wr = w.drewN q) (fun v _ => m - (intOf v).toNat)
  case atStart => exact ⟨0, by omega, rfl, fun j h1 => by omega, 0, rfl⟩
  case round =>
    obtain ⟨k, hk2, rfl, hno, q, rfl⟩ := hrel
    by_cases hlt : k < m
    · have hk := hc k (by omega)
      have hkn : (k : Int) < (n : Int) := by omega
      obtain rfl := ha (by omega)
      by_cases he : K k = r
      · have hb : (K k == r) = true := by simp [he]
        have HE : Hid (K k = r) := he
        clear he ha
        go_wp2
        go_ret
        exact ⟨ret_bool (decide_eq_true ⟨k, hlt, HE.out⟩).symm, _, rfl⟩
      · have hb : (K k == r) = false := by simp [he]
        have HN : Hid (∀ j, j < k → K j ≠ r) := hno
        have HE : Hid (K k ≠ r) := he
        clear he hno ha
        go_wp2
        go_roundw
        case rel => exact ⟨k + 1, by omega, by go_num, fun j h1 => by
          by_cases e : j = k
          · subst e; exact HE.out
          · exact HN.out j (by omega), _, rfl⟩
        case measure => simp [intOf]; omega
    · have HN : Hid (∀ j, j < k → K j ≠ r) := hno
      clear hno ha
      go_wp2
      go_ret
      exact ⟨ret_bool (decide_eq_false (fun ⟨j, h1, h2⟩ => HN.out j (by omega) h2)).symm, q, rfl⟩

end Go.Proofs.Qxb6603978a
