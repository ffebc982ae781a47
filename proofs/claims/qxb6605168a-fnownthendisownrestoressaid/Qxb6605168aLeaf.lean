/-
  THE LEAVES: the tests on lengths, ownFits, ownFind, ownCount, ownDistinct.
-/
import Derived.Test.Qxb6605168aProg
import Derived.Test.Qxb6605168aReps
import Derived.WalkKit
import Derived.WalkSpells
import Derived.Deep.QuietTactic
import Derived.BigQuiet
namespace Go.Proofs.Qxb6605168a
open Go.RowKit Go.Maps
set_option linter.unusedVariables false
set_option linter.unusedSimpArgs false

theorem ret_bool {a b : Bool} (h : a = b) : Ending.returned (.bool a) = .returned (.bool b) := by rw [h]
theorem ret_int {k : IntKind} {a b : Int} (h : a = b) : Ending.returned (.int k a) = .returned (.int k b) := by rw [h]
theorem bdrew {B : Nat} {a w : World} (h : Below B a w) (q : Nat) : Below B a (w.drewN q) := ⟨h.os, h.tape, h.output, h.size, h.block⟩
def IsBool (e : Ending) : Prop := ∃ x, e = .returned (.bool x)
theorem streq (a b : ByteArray) : (a.toList == b.toList) = decide (a = b) := by
  rw [ByteArray.toList_eq, ByteArray.toList_eq, Bool.eq_iff_iff, decide_eq_true_iff, beq_iff_eq]
  exact ⟨WideShapes.bytes_inj, fun h => by rw [h]⟩
theorem streq_t {a b : ByteArray} (h : a = b) : (a.toList == b.toList) = true := by rw [streq, decide_eq_true h]
theorem streq_f {a b : ByteArray} (h : a ≠ b) : (a.toList == b.toList) = false := by rw [streq, decide_eq_false h]

set_option maxRecDepth 100000 in
set_option maxHeartbeats 1000000 in
theorem bytes15 (a0 : Option Addr) (n0 c0 b0 o0 : Nat) (P : Nat → ByteArray) (w : World) (h0 : n0 ≤ maxLen)
    (z0 : 0 < n0 → a0 = some ⟨b0, o0, none⟩) (g0 : ∀ j, j < n0 → w.cell? ⟨b0, o0 + j * 3 + 1, none⟩ = some (.string (P j))) (k0 : ∀ j, (P j).size ≤ maxLen) :
    Calls Try.prog 15 #[.slice a0 n0 c0] w fun e w' => IsBool e ∧ w = w' := by
  unfold maxLen at h0 k0
  by_cases hz : n0 ≤ 1048576
  case neg =>
    go_enter Try.func15, Try.ntmps15
    go_wp2
    all_goals (go_ret; exact ⟨⟨_, rfl⟩, rfl⟩)
  have d0 : decide ((1048576 : Int) < (n0 : Int)) = false := decide_eq_false (by omega)
  go_enter Try.func15, Try.ntmps15
  go_wp2
  clear d0
  go_loop [3, 4] (fun z i => ∃ (k : Nat) (x : Int), k ≤ n0 ∧ 0 ≤ x ∧ x ≤ 1048576 ∧ i = .int .i64 k ∧ z = .int .i64 x) (fun _ i => n0 - (intOf i).toNat)
  case atStart => exact ⟨0, (n0 : Int), Nat.zero_le _, by omega, by omega, rfl, rfl⟩
  case round =>
    obtain ⟨k, x, hk, hx0, hx1, rfl, rfl⟩ := hrel
    by_cases hlt : k < n0
    · obtain rfl := z0 (by omega)
      have e3 := g0 k hlt
      have s3 := k0 k
      have i3 : (k : Int) < (n0 : Int) := by omega
      clear z0 g0 k0
      go_wp2
      · go_ret
        exact ⟨⟨_, rfl⟩, rfl⟩
      · go_ret
        exact ⟨⟨_, rfl⟩, rfl⟩
      · go_round
        case rel => exact ⟨k + 1, x + (P k).size, by omega, by omega, by omega, by go_num, rfl⟩
        case measure => simp [intOf]; omega
    · clear z0 g0 k0
      go_wp2
      go_ret
      exact ⟨⟨_, rfl⟩, rfl⟩

set_option maxRecDepth 100000 in
set_option maxHeartbeats 1000000 in
theorem bytes21 (a0 : Option Addr) (n0 c0 b0 o0 : Nat) (P : Nat → ByteArray) (o : Int) (pth : ByteArray) (w : World) (h0 : n0 ≤ maxLen)
    (z0 : 0 < n0 → a0 = some ⟨b0, o0, none⟩) (g0 : ∀ j, j < n0 → w.cell? ⟨b0, o0 + j * 3 + 1, none⟩ = some (.string (P j))) (k0 : ∀ j, (P j).size ≤ maxLen) (kp : pth.size ≤ maxLen) :
    Calls Try.prog 21 #[.slice a0 n0 c0, .int .i64 o, .string pth] w fun e w' => IsBool e ∧ w = w' := by
  unfold maxLen at h0 k0 kp
  by_cases hz : n0 ≤ 1048576
  case neg =>
    go_enter Try.func21, Try.ntmps21
    go_wp2
    all_goals (go_ret; exact ⟨⟨_, rfl⟩, rfl⟩)
  have d0 : decide ((1048576 : Int) < (n0 : Int)) = false := decide_eq_false (by omega)
  go_enter Try.func21, Try.ntmps21
  go_wp2
  clear d0
  go_loop [7, 8] (fun z i => ∃ (k : Nat) (x : Int), k ≤ n0 ∧ 0 ≤ x ∧ x ≤ 1048576 ∧ i = .int .i64 k ∧ z = .int .i64 x) (fun _ i => n0 - (intOf i).toNat)
  case atStart => exact ⟨0, (n0 : Int), Nat.zero_le _, by omega, by omega, rfl, rfl⟩
  case round =>
    obtain ⟨k, x, hk, hx0, hx1, rfl, rfl⟩ := hrel
    by_cases hlt : k < n0
    · obtain rfl := z0 (by omega)
      have e3 := g0 k hlt
      have s3 := k0 k
      have i3 : (k : Int) < (n0 : Int) := by omega
      clear z0 g0 k0
      go_wp2
      · go_ret
        exact ⟨⟨_, rfl⟩, rfl⟩
      · go_ret
        exact ⟨⟨_, rfl⟩, rfl⟩
      · go_round
        case rel => exact ⟨k + 1, x + (P k).size, by omega, by omega, by omega, by go_num, rfl⟩
        case measure => simp [intOf]; omega
    · clear z0 g0 k0
      go_wp2
      all_goals (go_ret; exact ⟨⟨_, rfl⟩, rfl⟩)

set_option maxRecDepth 100000 in
set_option maxHeartbeats 1000000 in
theorem fits16 (a0 : Option Addr) (n0 c0 b0 o0 : Nat) (P : Nat → ByteArray) (pth : ByteArray) (w : World) (h0 : n0 ≤ 4096)
    (z0 : 0 < n0 → a0 = some ⟨b0, o0, none⟩) (g0 : ∀ j, j < n0 → w.cell? ⟨b0, o0 + j * 3 + 1, none⟩ = some (.string (P j))) (k0 : ∀ j, (P j).size ≤ maxLen) (kp : pth.size ≤ 1048576) :
    Calls Try.prog 16 #[.slice a0 n0 c0, .string pth] w fun e w' => IsBool e ∧ w = w' := by
  unfold maxLen at k0
  by_cases hz : pth.size + 32 * n0 ≤ 1048576
  case neg =>
    go_enter Try.func16, Try.ntmps16
    go_wp2
    all_goals (go_ret; exact ⟨⟨_, rfl⟩, rfl⟩)
  have d0 : decide ((4096 : Int) < (n0 : Int)) = false := decide_eq_false (by omega)
  have d1 : decide ((1048576 : Int) < (pth.size : Int)) = false := decide_eq_false (by omega)
  have d2 : decide ((1048576 : Int) < (pth.size : Int) + 32 * (n0 : Int)) = false := decide_eq_false (by omega)
  go_enter Try.func16, Try.ntmps16
  go_wp2
  clear d0 d1 d2
  go_loop [5, 6] (fun z i => ∃ (k : Nat) (x : Int), k ≤ n0 ∧ 0 ≤ x ∧ x ≤ 1048576 ∧ i = .int .i64 k ∧ z = .int .i64 x) (fun _ i => n0 - (intOf i).toNat)
  case atStart => exact ⟨0, (pth.size : Int) + 32 * (n0 : Int), Nat.zero_le _, by omega, by omega, rfl, rfl⟩
  case round =>
    obtain ⟨k, x, hk, hx0, hx1, rfl, rfl⟩ := hrel
    by_cases hlt : k < n0
    · obtain rfl := z0 (by omega)
      have e3 := g0 k hlt
      have s3 := k0 k
      have i3 : (k : Int) < (n0 : Int) := by omega
      clear z0 g0 k0
      go_wp2
      · go_ret
        exact ⟨⟨_, rfl⟩, rfl⟩
      · go_ret
        exact ⟨⟨_, rfl⟩, rfl⟩
      · go_round
        case rel => exact ⟨k + 1, x + (P k).size, by omega, by omega, by omega, by go_num, rfl⟩
        case measure => simp [intOf]; omega
    · clear z0 g0 k0
      go_wp2
      go_ret
      exact ⟨⟨_, rfl⟩, rfl⟩

/-- The first index below n that bears the pair; -1 where none does. -/
def fnd (O : Nat → Int) (P : Nat → ByteArray) (o : Int) (p : ByteArray) (n : Nat) : Int :=
  match (List.range n).find? (fun i => decide (O i = o ∧ P i = p)) with
  | some i => (i : Int)
  | none => -1
theorem fnd_none {O : Nat → Int} {P : Nat → ByteArray} {o : Int} {p : ByteArray} {n : Nat} (h : ∀ i, i < n → ¬ (O i = o ∧ P i = p)) : fnd O P o p n = -1 := by
  unfold fnd
  rw [List.find?_eq_none.2 (fun i hi => by simpa using h i (List.mem_range.1 hi))]
theorem fnd_some {O : Nat → Int} {P : Nat → ByteArray} {o : Int} {p : ByteArray} {n k : Nat} (hk : k < n) (hp : O k = o ∧ P k = p) (h : ∀ i, i < k → ¬ (O i = o ∧ P i = p)) : fnd O P o p n = k := by
  unfold fnd
  have : (List.range n).find? (fun i => decide (O i = o ∧ P i = p)) = some k := by
    rw [List.find?_eq_some_iff_append]
    refine ⟨by simpa using hp, List.range k, (List.range (n - k - 1)).map (fun i => k + 1 + i), ?_, fun i hi => by rw [Bool.not_eq_true', decide_eq_false_iff_not]; exact h i (List.mem_range.1 hi)⟩
    have e : n = k + (1 + (n - k - 1)) := by omega
    conv => lhs; rw [e, List.range_add]
    congr 1
    rw [List.range_add]
    simp [List.range_succ, Nat.add_assoc]
  rw [this]
theorem fnd_cases (O : Nat → Int) (P : Nat → ByteArray) (o : Int) (p : ByteArray) (n : Nat) :
    (fnd O P o p n = -1 ∧ ∀ i, i < n → ¬ (O i = o ∧ P i = p)) ∨ ∃ k, k < n ∧ fnd O P o p n = (k : Nat) ∧ O k = o ∧ P k = p := by
  cases hf : (List.range n).find? (fun i => decide (O i = o ∧ P i = p)) with
  | none =>
    refine .inl ⟨by unfold fnd; rw [hf], fun i hi => ?_⟩
    simpa using List.find?_eq_none.1 hf i (List.mem_range.2 hi)
  | some k =>
    have h1 := List.find?_some hf
    have h2 := List.mem_range.1 (List.mem_of_find?_eq_some hf)
    simp only [decide_eq_true_iff] at h1
    exact .inr ⟨k, h2, by unfold fnd; rw [hf], h1.1, h1.2⟩

set_option maxRecDepth 100000 in
set_option maxHeartbeats 1000000 in
theorem find22 (a0 a1 : Option Addr) (b0 o0 b1 o1 n c0 c1 : Nat) (O : Nat → Int) (P : Nat → ByteArray) (o : Int) (p : ByteArray) (w : World) (hn : n ≤ 4097)
    (z0 : 0 < n → a0 = some ⟨b0, o0, none⟩) (z1 : 0 < n → a1 = some ⟨b1, o1, none⟩) (g0 : ∀ j, j < n → w.cell? ⟨b0, o0 + j, none⟩ = some (.int .i64 (O j))) (g1 : ∀ j, j < n → w.cell? ⟨b1, o1 + j, none⟩ = some (.string (P j))) :
    Calls Try.prog 22 #[.slice a0 n c0, .slice a1 n c1, .int .i64 o, .string p] w fun e w' => e = .returned (.int .i64 (fnd O P o p n)) ∧ w' = w := by
  go_enter Try.func22, Try.ntmps22
  go_wp2
  go_loop [9] (fun v => ∃ k : Nat, k ≤ n ∧ v = .int .i64 k ∧ Hid (∀ j, j < k → ¬ (O j = o ∧ P j = p))) (fun v => n - (intOf v).toNat)
  case atStart => exact ⟨0, by omega, rfl, fun j h => by omega⟩
  case round =>
    obtain ⟨k, hk, rfl, HN⟩ := hrel
    by_cases hlt : k < n
    · obtain rfl := z0 (by omega)
      obtain rfl := z1 (by omega)
      have e0 := g0 k hlt
      have e1 := g1 k hlt
      have i0 : (k : Int) < (n : Int) := by omega
      clear z0 z1 g0 g1
      by_cases he : O k = o
      · have hb : (O k == o) = true := by simp [he]
        by_cases he2 : P k = p
        · have hb2 := streq_t he2
          have HF : Hid (fnd O P o p n = k) := fnd_some hlt ⟨he, he2⟩ HN.out
          clear he he2
          go_wp2
          go_ret
          exact ⟨ret_int HF.out.symm, rfl⟩
        · have hb2 := streq_f he2
          have HE : Hid (¬ (O k = o ∧ P k = p)) := fun h => he2 h.2
          clear he he2
          go_wp2
          go_round
          case rel => exact ⟨k + 1, by omega, by go_num, (fun j hj => by
            by_cases e : j = k
            · subst e; exact HE.out
            · exact HN.out j (by omega))⟩
          case measure => simp [intOf]; omega
      · have hb : (O k == o) = false := by simp [he]
        have HE : Hid (¬ (O k = o ∧ P k = p)) := fun h => he h.1
        clear he
        go_wp2
        go_round
        case rel => exact ⟨k + 1, by omega, by go_num, (fun j hj => by
          by_cases e : j = k
          · subst e; exact HE.out
          · exact HN.out j (by omega))⟩
        case measure => simp [intOf]; omega
    · have HF : Hid (fnd O P o p n = -1) := fnd_none (fun i hi => HN.out i (by omega))
      clear z0 z1 g0 g1
      go_wp2
      go_ret
      exact ⟨ret_int HF.out.symm, rfl⟩

set_option maxRecDepth 100000 in
set_option maxHeartbeats 1000000 in
theorem count35 (a0 : Option Addr) (b0 o0 n c0 : Nat) (O : Nat → Int) (o : Int) (w : World) (hn : n ≤ 4097)
    (z0 : 0 < n → a0 = some ⟨b0, o0, none⟩) (g0 : ∀ j, j < n → w.cell? ⟨b0, o0 + j, none⟩ = some (.int .i64 (O j))) :
    Calls Try.prog 35 #[.slice a0 n c0, .int .i64 o] w fun e w' => e = .returned (.int .i64 (Pl.cnt (fun i => decide (O i = o)) n : Nat)) ∧ w' = w := by
  go_enter Try.func35, Try.ntmps35
  go_wp2
  go_loop [5, 6] (fun d v => ∃ k : Nat, k ≤ n ∧ v = .int .i64 k ∧ d = .int .i64 (Pl.cnt (fun i => decide (O i = o)) k : Nat)) (fun _ v => n - (intOf v).toNat)
  case atStart => exact ⟨0, by omega, rfl, rfl⟩
  case round =>
    obtain ⟨k, hk, rfl, rfl⟩ := hrel
    have hcl := Pl.cnt_le (fun i => decide (O i = o)) k
    by_cases hlt : k < n
    · obtain rfl := z0 (by omega)
      have e0 := g0 k hlt
      have i0 : (k : Int) < (n : Int) := by omega
      have HN : Hid (Pl.cnt (fun i => decide (O i = o)) (k + 1) = Pl.cnt (fun i => decide (O i = o)) k + if decide (O k = o) then 1 else 0) := rfl
      clear z0 g0
      by_cases he : O k = o
      · have hb : (O k == o) = true := by simp [he]
        rw [decide_eq_true he] at HN
        clear he
        go_wp2
        go_round
        case rel => exact ⟨k + 1, by omega, by go_num, by rw [HN.out]; simp⟩
        case measure => simp [intOf]; omega
      · have hb : (O k == o) = false := by simp [he]
        rw [decide_eq_false he] at HN
        clear he
        go_wp2
        go_round
        case rel => exact ⟨k + 1, by omega, by go_num, by rw [HN.out]; simp⟩
        case measure => simp [intOf]; omega
    · have hkn : k = n := by omega
      subst hkn
      clear z0 g0
      go_wp2
      go_ret
      exact ⟨rfl, rfl⟩

/-- No earlier index bears the owner of i. -/
def firstB (O : Nat → Int) (i : Nat) : Bool := decide (∀ j, j < i → O j ≠ O i)

set_option maxRecDepth 100000 in
set_option maxHeartbeats 1000000 in
theorem distinct33 (a0 : Option Addr) (b0 o0 n c0 : Nat) (O : Nat → Int) (w : World) (hn : n ≤ 4097)
    (z0 : 0 < n → a0 = some ⟨b0, o0, none⟩) (g0 : ∀ j, j < n → w.cell? ⟨b0, o0 + j, none⟩ = some (.int .i64 (O j))) :
    Calls Try.prog 33 #[.slice a0 n c0] w fun e w' => e = .returned (.int .i64 (Pl.cnt (firstB O) n : Nat)) ∧ ∃ q, w' = w.drewN q := by
  go_enter Try.func33, Try.ntmps33
  go_wp2
  go_loopw [3, 4] (fun d v wx => ∃ k : Nat, k ≤ n ∧ v = .int .i64 k ∧ d = .int .i64 (Pl.cnt (firstB O) k : Nat) ∧ ∃ q, wx = w.drewN q) (fun _ v _ => n - (intOf v).toNat)
  case atStart => exact ⟨0, by omega, rfl, rfl, 0, rfl⟩
  case round =>
    obtain ⟨k, hk, rfl, rfl, q, rfl⟩ := hrel
    have hcl := Pl.cnt_le (firstB O) k
    by_cases hlt : k < n
    · obtain rfl := z0 (by omega)
      have e0 := g0 k hlt
      have i0 : (k : Int) < (n : Int) := by omega
      have HN : Hid (Pl.cnt (firstB O) (k + 1) = Pl.cnt (firstB O) k + if firstB O k then 1 else 0) := rfl
      have HG : Hid (∀ j, j < n → w.cell? ⟨b0, o0 + j, none⟩ = some (.int .i64 (O j))) := g0
      clear z0 g0
      go_wp2
      go_loopw [5, 6] (fun f v wx => ∃ j : Nat, j ≤ k ∧ v = .int .i64 j ∧ f = .bool (decide (∀ x, x < j → O x ≠ O k)) ∧ ∃ q, wx = w.drewN q) (fun _ v _ => k - (intOf v).toNat)
      case atStart => exact ⟨0, by omega, rfl, by simp, _, rfl⟩
      case round =>
        obtain ⟨j, hj, rfl, rfl, q2, rfl⟩ := hrel
        by_cases hjk : j < k
        · have e1 := HG.out j (by omega)
          have i1 : (j : Int) < (n : Int) := by omega
          by_cases he : O j = O k
          · have hb : (O j == O k) = true := by simp [he]
            have HD : Hid (decide (∀ x, x < j + 1 → O x ≠ O k) = false) := decide_eq_false (fun h => h j (by omega) he)
            clear he
            go_wp2
            go_quiet (fail)
            go_wp2
            go_roundw
            case rel => exact ⟨j + 1, by omega, by go_num, by rw [HD.out], _, rfl⟩
            case measure => simp [intOf]; omega
          · have hb : (O j == O k) = false := by simp [he]
            have HD : Hid ((∀ x, x < j + 1 → O x ≠ O k) ↔ ∀ x, x < j → O x ≠ O k) := ⟨fun h x hx => h x (by omega), fun h x hx => by
              by_cases e : x = j
              · subst e; exact he
              · exact h x (by omega)⟩
            clear he
            go_wp2
            go_quiet (fail)
            go_wp2
            go_roundw
            case rel => exact ⟨j + 1, by omega, by go_num, by simp only [HD.out], _, rfl⟩
            case measure => simp [intOf]; omega
        · have hjk' : j = k := by omega
          subst hjk'
          cases hf : firstB O j
          · rw [hf] at HN
            have hd : decide (∀ x, x < j → O x ≠ O j) = false := hf
            rw [hd]
            clear hf hd
            go_wp2
            go_roundw
            case rel => exact ⟨j + 1, by omega, by go_num, by rw [HN.out]; simp, _, rfl⟩
            case measure => simp [intOf]; omega
          · rw [hf] at HN
            have hd : decide (∀ x, x < j → O x ≠ O j) = true := hf
            rw [hd]
            clear hf hd
            go_wp2
            go_roundw
            case rel => exact ⟨j + 1, by omega, by go_num, by rw [HN.out]; simp, _, rfl⟩
            case measure => simp [intOf]; omega
    · have hkn : k = n := by omega
      subst hkn
      clear z0 g0
      go_wp2
      go_ret
      exact ⟨rfl, q, rfl⟩

end Go.Proofs.Qxb6605168a
