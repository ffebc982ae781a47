/-
  THE LEAVES OVER NAMES: zzLastName, zzLastPair, zzLastScopedName, zzLastScopedPair.
-/
import Derived.Test.Qxb6603978aMaps
namespace Go.Proofs.Qxb6603978a
open Go.RowKit Go.Maps
set_option linter.unusedVariables false
set_option linter.unusedSimpArgs false

theorem streq (a b : ByteArray) : (a.toList == b.toList) = decide (a = b) := by
  rw [ByteArray.toList_eq, ByteArray.toList_eq, Bool.eq_iff_iff, decide_eq_true_iff, beq_iff_eq]
  exact ⟨WideShapes.bytes_inj, fun h => by rw [h]⟩
theorem streq_t {a b : ByteArray} (h : a = b) : (a.toList == b.toList) = true := by rw [streq, decide_eq_true h]
theorem streq_f {a b : ByteArray} (h : a ≠ b) : (a.toList == b.toList) = false := by rw [streq, decide_eq_false h]

set_option maxRecDepth 100000 in
set_option maxHeartbeats 1000000 in
theorem last34 (b off n c : Nat) (Nm : Nat → ByteArray) (i m : Nat) (w : World) (him : i < m)
    (hmn : m ≤ n) (hn : n ≤ 4096) (hc : ∀ j, j < n → w.cell? ⟨b, off + j, none⟩ = some (.string (Nm j))) :
    Calls Try.prog 34 #[.slice (some ⟨b, off, none⟩) n c, .int .i64 i, .int .i64 m] w fun e w' => e = .returned (.bool (Pl.lastB (fun _ => true) Nm m i)) ∧ ∃ q, w' = w.drewN q := by
  have hi := hc i (by omega)
  have hin : (i : Int) < (n : Int) := by omega
  go_enter Try.func34, Try.ntmps34
  go_wp2
  go_loopw [7] (fun v wr => ∃ k : Nat, i + 1 ≤ k ∧ k ≤ m ∧ v = .int .i64 k ∧ Hid (∀ j, j < k → i < j → Nm j ≠ Nm i) ∧ ∃ q, wr = w.drewN q) (fun v _ => m - (intOf v).toNat)
  case atStart => exact ⟨i + 1, Nat.le_refl _, by omega, by go_num, fun j h1 h2 => by omega, 0, rfl⟩
  case round =>
    obtain ⟨k, hk1, hk2, rfl, HN, q, rfl⟩ := hrel
    by_cases hlt : k < m
    · have hk := hc k (by omega)
      have hkn : (k : Int) < (n : Int) := by omega
      by_cases he : Nm k = Nm i
      · have hb := streq_t he
        have HE : Hid (Nm k = Nm i) := he
        clear he hc
        go_wp2
        go_quiet (fail)
        go_wp2
        go_ret
        refine ⟨ret_bool ?_, _, World.drewN_drewN _ _ _⟩
        have : Pl.lastB (fun _ => true) Nm m i = false := by
          rw [← Bool.not_eq_true, Pl.lastB_iff]
          exact fun h => h.2 k hlt (by omega) rfl HE.out
        exact this.symm
      · have hb := streq_f he
        have HE : Hid (Nm k ≠ Nm i) := he
        clear he hc
        go_wp2
        go_quiet (fail)
        go_wp2
        go_roundw
        case rel => exact ⟨k + 1, by omega, by omega, by go_num, (fun j h1 h2 => by
          by_cases e : j = k
          · subst e; exact HE.out
          · exact HN.out j (by omega) h2), _, rfl⟩
        case measure => simp [intOf]; omega
    · clear hc
      go_wp2
      go_ret
      refine ⟨ret_bool ?_, q, rfl⟩
      have : Pl.lastB (fun _ => true) Nm m i = true := by
        rw [Pl.lastB_iff]
        exact ⟨rfl, fun j h1 h2 h3 => HN.out j (by omega) h2⟩
      exact this.symm

set_option maxRecDepth 100000 in
set_option maxHeartbeats 1000000 in
theorem last33 (b off n c : Nat) (Nm : Nat → ByteArray) (bk ok nk ck : Nat) (K : Nat → Int) (i m : Nat) (w : World) (him : i < m)
    (hmn : m ≤ n) (hn : n ≤ 4096) (hc : ∀ j, j < n → w.cell? ⟨b, off + j, none⟩ = some (.string (Nm j)))
    (hmk : m ≤ nk) (hnk : nk ≤ 4096) (hck : ∀ j, j < nk → w.cell? ⟨bk, ok + j, none⟩ = some (.int .i64 (K j))) :
    Calls Try.prog 33 #[.slice (some ⟨b, off, none⟩) n c, .slice (some ⟨bk, ok, none⟩) nk ck, .int .i64 i, .int .i64 m] w fun e w' => e = .returned (.bool (Pl.lastB (fun _ => true) (fun j => (Nm j, K j)) m i)) ∧ ∃ q, w' = w.drewN q := by
  have hi := hc i (by omega)
  have hin : (i : Int) < (n : Int) := by omega
  have hik := hck i (by omega)
  have hikn : (i : Int) < (nk : Int) := by omega
  go_enter Try.func33, Try.ntmps33
  go_wp2
  go_loopw [9] (fun v wr => ∃ k : Nat, i + 1 ≤ k ∧ k ≤ m ∧ v = .int .i64 k ∧ Hid (∀ j, j < k → i < j → (Nm j, K j) ≠ (Nm i, K i)) ∧ ∃ q, wr = w.drewN q) (fun v _ => m - (intOf v).toNat)
  case atStart => exact ⟨i + 1, Nat.le_refl _, by omega, by go_num, fun j h1 h2 => by omega, 0, rfl⟩
  case round =>
    obtain ⟨k, hk1, hk2, rfl, HN, q, rfl⟩ := hrel
    by_cases hlt : k < m
    · have hk := hc k (by omega)
      have hkn : (k : Int) < (n : Int) := by omega
      have hkk := hck k (by omega)
      have hkkn : (k : Int) < (nk : Int) := by omega
      by_cases he : Nm k = Nm i
      · have hb := streq_t he
        by_cases he2 : K k = K i
        · have hb2 : (K k == K i) = true := by simp [he2]
          have HE : Hid ((Nm k, K k) = (Nm i, K i)) := by show _ = _; rw [he, he2]
          clear he2
          clear he hc hck
          go_wp2
          go_quiet (fail)
          go_wp2
          go_ret
          refine ⟨ret_bool ?_, _, World.drewN_drewN _ _ _⟩
          have : Pl.lastB (fun _ => true) (fun j => (Nm j, K j)) m i = false := by
            rw [← Bool.not_eq_true, Pl.lastB_iff]
            exact fun h => h.2 k hlt (by omega) rfl HE.out
          exact this.symm
        · have hb2 : (K k == K i) = false := by simp [he2]
          have HE : Hid ((Nm k, K k) ≠ (Nm i, K i)) := fun h => he2 (congrArg Prod.snd h)
          clear he2
          clear he hc hck
          go_wp2
          go_quiet (fail)
          go_wp2
          go_roundw
          case rel => exact ⟨k + 1, by omega, by omega, by go_num, (fun j h1 h2 => by
            by_cases e : j = k
            · subst e; exact HE.out
            · exact HN.out j (by omega) h2), _, rfl⟩
          case measure => simp [intOf]; omega
      · have hb := streq_f he
        have HE : Hid ((Nm k, K k) ≠ (Nm i, K i)) := fun h => he (congrArg Prod.fst h)
        clear he hc hck
        go_wp2
        go_quiet (fail)
        go_wp2
        go_roundw
        case rel => exact ⟨k + 1, by omega, by omega, by go_num, (fun j h1 h2 => by
          by_cases e : j = k
          · subst e; exact HE.out
          · exact HN.out j (by omega) h2), _, rfl⟩
        case measure => simp [intOf]; omega
    · clear hc hck
      go_wp2
      go_ret
      refine ⟨ret_bool ?_, q, rfl⟩
      have : Pl.lastB (fun _ => true) (fun j => (Nm j, K j)) m i = true := by
        rw [Pl.lastB_iff]
        exact ⟨rfl, fun j h1 h2 h3 => HN.out j (by omega) h2⟩
      exact this.symm

set_option maxRecDepth 100000 in
set_option maxHeartbeats 1000000 in
theorem last29 (bs os ns cs : Nat) (S : Nat → Bool) (b off n c : Nat) (Nm : Nat → ByteArray) (i m : Nat) (w : World) (him : i < m)
    (hms : m ≤ ns) (hns : ns ≤ 4096) (hS : S i = true) (hcs : ∀ j, j < ns → w.cell? ⟨bs, os + j, none⟩ = some (.bool (S j)))
    (hmn : m ≤ n) (hn : n ≤ 4096) (hc : ∀ j, j < n → w.cell? ⟨b, off + j, none⟩ = some (.string (Nm j))) :
    Calls Try.prog 29 #[.slice (some ⟨bs, os, none⟩) ns cs, .slice (some ⟨b, off, none⟩) n c, .int .i64 i, .int .i64 m] w fun e w' => e = .returned (.bool (Pl.lastB S Nm m i)) ∧ ∃ q, w' = w.drewN q := by
  have hi := hc i (by omega)
  have hin : (i : Int) < (n : Int) := by omega
  go_enter Try.func29, Try.ntmps29
  go_wp2
  go_loopw [9] (fun v wr => ∃ k : Nat, i + 1 ≤ k ∧ k ≤ m ∧ v = .int .i64 k ∧ Hid (∀ j, j < k → i < j → S j = true → Nm j ≠ Nm i) ∧ ∃ q, wr = w.drewN q) (fun v _ => m - (intOf v).toNat)
  case atStart => exact ⟨i + 1, Nat.le_refl _, by omega, by go_num, fun j h1 h2 => by omega, 0, rfl⟩
  case round =>
    obtain ⟨k, hk1, hk2, rfl, HN, q, rfl⟩ := hrel
    by_cases hlt : k < m
    · have hk := hc k (by omega)
      have hkn : (k : Int) < (n : Int) := by omega
      have hks := hcs k (by omega)
      have hksn : (k : Int) < (ns : Int) := by omega
      cases hsk : S k
      · have HS : Hid (S k = false) := hsk
        rw [hsk] at hks
        clear hsk hc hcs
        go_wp2
        go_quiet (fail)
        go_wp2
        go_roundw
        case rel => exact ⟨k + 1, by omega, by omega, by go_num, (fun j h1 h2 h3 => by
          by_cases e : j = k
          · subst e; exact (by rw [HS.out] at h3; cases h3)
          · exact HN.out j (by omega) h2 h3), _, rfl⟩
        case measure => simp [intOf]; omega
      have HS : Hid (S k = true) := hsk
      rw [hsk] at hks
      clear hsk
      by_cases he : Nm k = Nm i
      · have hb := streq_t he
        have HE : Hid (Nm k = Nm i) := he
        clear he hc hcs
        go_wp2
        go_quiet (fail)
        go_wp2
        go_ret
        refine ⟨ret_bool ?_, _, World.drewN_drewN _ _ _⟩
        have : Pl.lastB S Nm m i = false := by
          rw [← Bool.not_eq_true, Pl.lastB_iff]
          exact fun h => h.2 k hlt (by omega) HS.out HE.out
        exact this.symm
      · have hb := streq_f he
        have HE : Hid (Nm k ≠ Nm i) := he
        clear he hc hcs
        go_wp2
        go_quiet (fail)
        go_wp2
        go_roundw
        case rel => exact ⟨k + 1, by omega, by omega, by go_num, (fun j h1 h2 h3 => by
          by_cases e : j = k
          · subst e; exact HE.out
          · exact HN.out j (by omega) h2 h3), _, rfl⟩
        case measure => simp [intOf]; omega
    · clear hc hcs
      go_wp2
      go_ret
      refine ⟨ret_bool ?_, q, rfl⟩
      have : Pl.lastB S Nm m i = true := by
        rw [Pl.lastB_iff]
        exact ⟨hS, fun j h1 h2 h3 => HN.out j (by omega) h2 h3⟩
      exact this.symm

set_option maxRecDepth 100000 in
set_option maxHeartbeats 1000000 in
theorem last28 (bs os ns cs : Nat) (S : Nat → Bool) (b off n c : Nat) (Nm : Nat → ByteArray) (bk ok nk ck : Nat) (K : Nat → Int) (i m : Nat) (w : World) (him : i < m)
    (hms : m ≤ ns) (hns : ns ≤ 4096) (hS : S i = true) (hcs : ∀ j, j < ns → w.cell? ⟨bs, os + j, none⟩ = some (.bool (S j)))
    (hmn : m ≤ n) (hn : n ≤ 4096) (hc : ∀ j, j < n → w.cell? ⟨b, off + j, none⟩ = some (.string (Nm j)))
    (hmk : m ≤ nk) (hnk : nk ≤ 4096) (hck : ∀ j, j < nk → w.cell? ⟨bk, ok + j, none⟩ = some (.int .i64 (K j))) :
    Calls Try.prog 28 #[.slice (some ⟨bs, os, none⟩) ns cs, .slice (some ⟨b, off, none⟩) n c, .slice (some ⟨bk, ok, none⟩) nk ck, .int .i64 i, .int .i64 m] w fun e w' => e = .returned (.bool (Pl.lastB S (fun j => (Nm j, K j)) m i)) ∧ ∃ q, w' = w.drewN q := by
  have hi := hc i (by omega)
  have hin : (i : Int) < (n : Int) := by omega
  have hik := hck i (by omega)
  have hikn : (i : Int) < (nk : Int) := by omega
  go_enter Try.func28, Try.ntmps28
  go_wp2
  go_loopw [11] (fun v wr => ∃ k : Nat, i + 1 ≤ k ∧ k ≤ m ∧ v = .int .i64 k ∧ Hid (∀ j, j < k → i < j → S j = true → (Nm j, K j) ≠ (Nm i, K i)) ∧ ∃ q, wr = w.drewN q) (fun v _ => m - (intOf v).toNat)
  case atStart => exact ⟨i + 1, Nat.le_refl _, by omega, by go_num, fun j h1 h2 => by omega, 0, rfl⟩
  case round =>
    obtain ⟨k, hk1, hk2, rfl, HN, q, rfl⟩ := hrel
    by_cases hlt : k < m
    · have hk := hc k (by omega)
      have hkn : (k : Int) < (n : Int) := by omega
      have hkk := hck k (by omega)
      have hkkn : (k : Int) < (nk : Int) := by omega
      have hks := hcs k (by omega)
      have hksn : (k : Int) < (ns : Int) := by omega
      cases hsk : S k
      · have HS : Hid (S k = false) := hsk
        rw [hsk] at hks
        clear hsk hc hcs hck
        go_wp2
        go_quiet (fail)
        go_wp2
        go_roundw
        case rel => exact ⟨k + 1, by omega, by omega, by go_num, (fun j h1 h2 h3 => by
          by_cases e : j = k
          · subst e; exact (by rw [HS.out] at h3; cases h3)
          · exact HN.out j (by omega) h2 h3), _, rfl⟩
        case measure => simp [intOf]; omega
      have HS : Hid (S k = true) := hsk
      rw [hsk] at hks
      clear hsk
      by_cases he : Nm k = Nm i
      · have hb := streq_t he
        by_cases he2 : K k = K i
        · have hb2 : (K k == K i) = true := by simp [he2]
          have HE : Hid ((Nm k, K k) = (Nm i, K i)) := by show _ = _; rw [he, he2]
          clear he2
          clear he hc hcs hck
          go_wp2
          go_quiet (fail)
          go_wp2
          go_ret
          refine ⟨ret_bool ?_, _, World.drewN_drewN _ _ _⟩
          have : Pl.lastB S (fun j => (Nm j, K j)) m i = false := by
            rw [← Bool.not_eq_true, Pl.lastB_iff]
            exact fun h => h.2 k hlt (by omega) HS.out HE.out
          exact this.symm
        · have hb2 : (K k == K i) = false := by simp [he2]
          have HE : Hid ((Nm k, K k) ≠ (Nm i, K i)) := fun h => he2 (congrArg Prod.snd h)
          clear he2
          clear he hc hcs hck
          go_wp2
          go_quiet (fail)
          go_wp2
          go_roundw
          case rel => exact ⟨k + 1, by omega, by omega, by go_num, (fun j h1 h2 h3 => by
            by_cases e : j = k
            · subst e; exact HE.out
            · exact HN.out j (by omega) h2 h3), _, rfl⟩
          case measure => simp [intOf]; omega
      · have hb := streq_f he
        have HE : Hid ((Nm k, K k) ≠ (Nm i, K i)) := fun h => he (congrArg Prod.fst h)
        clear he hc hcs hck
        go_wp2
        go_quiet (fail)
        go_wp2
        go_roundw
        case rel => exact ⟨k + 1, by omega, by omega, by go_num, (fun j h1 h2 h3 => by
          by_cases e : j = k
          · subst e; exact HE.out
          · exact HN.out j (by omega) h2 h3), _, rfl⟩
        case measure => simp [intOf]; omega
    · clear hc hcs hck
      go_wp2
      go_ret
      refine ⟨ret_bool ?_, q, rfl⟩
      have : Pl.lastB S (fun j => (Nm j, K j)) m i = true := by
        rw [Pl.lastB_iff]
        exact ⟨hS, fun j h1 h2 h3 => HN.out j (by omega) h2 h3⟩
      exact this.symm

end Go.Proofs.Qxb6603978a
