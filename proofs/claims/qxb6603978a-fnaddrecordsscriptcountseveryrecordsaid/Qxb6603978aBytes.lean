/-
  THE TESTS ON TOTAL LENGTH of the two laws over records: they return.
-/
import Derived.Test.Qxb6603978aMaps
namespace Go.Proofs.Qxb6603978a
open Go.RowKit Go.Maps
set_option linter.unusedVariables false
set_option linter.unusedSimpArgs false

def IsBool (e : Ending) : Prop := ∃ x, e = .returned (.bool x)

set_option maxRecDepth 100000 in
set_option maxHeartbeats 1000000 in
theorem bytes26 (a0 a1 a2 a3 : Option Addr) (n0 c0 n1 c1 n2 c2 n3 c3 b3 o3 : Nat) (Nm : Nat → ByteArray) (w : World) (h0 : n0 ≤ maxLen) (h1 : n1 ≤ maxLen) (h2 : n2 ≤ maxLen) (h3 : n3 ≤ maxLen)
    (z3 : 0 < n3 → a3 = some ⟨b3, o3, none⟩) (g3 : ∀ j, j < n3 → w.cell? ⟨b3, o3 + j, none⟩ = some (.string (Nm j))) (k3 : ∀ j, (Nm j).size ≤ maxLen) :
    Calls Try.prog 26 #[.slice a0 n0 c0, .slice a1 n1 c1, .slice a2 n2 c2, .slice a3 n3 c3] w fun e w' => IsBool e ∧ w = w' := by
  unfold maxLen at h0 h1 h2 h3 k3
  by_cases hz : n0 + n1 + n2 + n3 ≤ 1048576
  case neg =>
    go_enter Try.func26, Try.ntmps26
    go_wp2
    all_goals (go_ret; exact ⟨⟨_, rfl⟩, rfl⟩)
  have d0 : decide ((1048576 : Int) < (n0 : Int)) = false := decide_eq_false (by omega)
  have d1 : decide ((1048576 : Int) < (n1 : Int)) = false := decide_eq_false (by omega)
  have d2 : decide ((1048576 : Int) < (n2 : Int)) = false := decide_eq_false (by omega)
  have d3 : decide ((1048576 : Int) < (n3 : Int)) = false := decide_eq_false (by omega)
  have d4 : decide ((1048576 : Int) < (n0 : Int) + n1) = false := decide_eq_false (by omega)
  have d5 : decide ((1048576 : Int) < (n0 : Int) + n1 + n2) = false := decide_eq_false (by omega)
  have d6 : decide ((1048576 : Int) < (n0 : Int) + n1 + n2 + n3) = false := decide_eq_false (by omega)
  go_enter Try.func26, Try.ntmps26
  go_wp2
  clear d0 d1 d2 d3 d4 d5 d6
  go_loop [9, 10] (fun z i => ∃ (k : Nat) (x : Int), k ≤ n3 ∧ 0 ≤ x ∧ x ≤ 1048576 ∧ i = .int .i64 k ∧ z = .int .i64 x) (fun _ i => n3 - (intOf i).toNat)
  case atStart => exact ⟨0, (n0 : Int) + n1 + n2 + n3, Nat.zero_le _, by omega, by omega, rfl, rfl⟩
  case round =>
    obtain ⟨k, x, hk, hx0, hx1, rfl, rfl⟩ := hrel
    by_cases hlt : k < n3
    · obtain rfl := z3 (by omega)
      have e3 := g3 k hlt
      have s3 := k3 k
      have i3 : (k : Int) < (n3 : Int) := by omega
      clear z3 g3 k3
      go_wp2
      · go_ret
        exact ⟨⟨_, rfl⟩, rfl⟩
      · go_ret
        exact ⟨⟨_, rfl⟩, rfl⟩
      · go_round
        case rel => exact ⟨k + 1, x + (Nm k).size, by omega, by omega, by omega, by go_num, rfl⟩
        case measure => simp [intOf]; omega
    · clear z3 g3 k3
      go_wp2
      go_ret
      exact ⟨⟨_, rfl⟩, rfl⟩

set_option maxRecDepth 100000 in
set_option maxHeartbeats 1000000 in
theorem bytes21 (a0 a1 a2 a3 a4 : Option Addr) (n0 c0 n1 c1 n2 c2 n3 c3 n4 c4 b2 o2 : Nat) (Nm : Nat → ByteArray) (hs : Bool) (sc : ByteArray) (r n : Int) (w : World) (h0 : n0 ≤ maxLen) (h1 : n1 ≤ maxLen) (h2 : n2 ≤ maxLen) (h3 : n3 ≤ maxLen) (h4 : n4 ≤ maxLen)
    (z2 : 0 < n2 → a2 = some ⟨b2, o2, none⟩) (g2 : ∀ j, j < n2 → w.cell? ⟨b2, o2 + j, none⟩ = some (.string (Nm j))) (k2 : ∀ j, (Nm j).size ≤ maxLen) (ks : sc.size ≤ maxLen) :
    Calls Try.prog 21 #[.slice a0 n0 c0, .slice a1 n1 c1, .slice a2 n2 c2, .slice a3 n3 c3, .slice a4 n4 c4, .bool hs, .string sc, .int .i64 r, .int .i64 n] w fun e w' => IsBool e ∧ w = w' := by
  unfold maxLen at h0 h1 h2 h3 h4 k2 ks
  by_cases hz : n0 + n1 + n2 ≤ 1048576
  case neg =>
    go_enter Try.func21, Try.ntmps21
    go_wp2
    all_goals (go_ret; exact ⟨⟨_, rfl⟩, rfl⟩)
  have d0 : decide ((1048576 : Int) < (n0 : Int)) = false := decide_eq_false (by omega)
  have d1 : decide ((1048576 : Int) < (n1 : Int)) = false := decide_eq_false (by omega)
  have d2 : decide ((1048576 : Int) < (n2 : Int)) = false := decide_eq_false (by omega)
  have d3 : decide ((1048576 : Int) < (n0 : Int) + n1) = false := decide_eq_false (by omega)
  have d4 : decide ((1048576 : Int) < (n0 : Int) + n1 + n2) = false := decide_eq_false (by omega)
  go_enter Try.func21, Try.ntmps21
  go_wp2
  clear d0 d1 d2 d3 d4
  go_loop [19, 20] (fun z i => ∃ (k : Nat) (x : Int), k ≤ n2 ∧ 0 ≤ x ∧ x ≤ 1048576 ∧ i = .int .i64 k ∧ z = .int .i64 x) (fun _ i => n2 - (intOf i).toNat)
  case atStart => exact ⟨0, (n0 : Int) + n1 + n2, Nat.zero_le _, by omega, by omega, rfl, rfl⟩
  case round =>
    obtain ⟨k, x, hk, hx0, hx1, rfl, rfl⟩ := hrel
    by_cases hlt : k < n2
    · obtain rfl := z2 (by omega)
      have e3 := g2 k hlt
      have s3 := k2 k
      have i3 : (k : Int) < (n2 : Int) := by omega
      clear z2 g2 k2
      go_wp2
      · go_ret
        exact ⟨⟨_, rfl⟩, rfl⟩
      · go_ret
        exact ⟨⟨_, rfl⟩, rfl⟩
      · go_round
        case rel => exact ⟨k + 1, x + (Nm k).size, by omega, by omega, by omega, by go_num, rfl⟩
        case measure => simp [intOf]; omega
    · clear z2 g2 k2
      go_wp2
      all_goals (go_ret; exact ⟨⟨_, rfl⟩, rfl⟩)

end Go.Proofs.Qxb6603978a
