/-
  own, ZZOwn, ZZOwns, ZZCount, ZZSessions: the walks.
-/
import Derived.Test.Qxb6605168aOwn
namespace Go.Proofs.Qxb6605168a
open Go.RowKit Go.Maps Go.WideMaps
set_option linter.unusedVariables false
set_option linter.unusedSimpArgs false

/-- 'len' of a map, 'delete', at the operation, handed the run. -/
theorem wpList_len_run (w : World) {P : Program} {ops : Array Oper} {rest : List Oper} {o : Oper} {a : Act} {Q : Exit → Act → World → Prop} (hg : o.guard = none) (m : Operand) (t : TypeId) (hop : o.op = Op.call { callee := Callee.builtin Builtin.len, args := #[m], argTypes := #[t] })
    (v x : Value) (hm : a.eval m = v) (h : ∀ ty, (Builtin.len_ #[t] ty #[v]).run P w = .ok x w) (hK : wpList P ops Q rest (a.put o.dst x) w) : wpList P ops Q (o :: rest) a w := by
  refine wpList_plain hg fun K' hK' => ?_
  unfold Oper.wp
  simp [execOp, hop, resolve, invoke, builtin, hm, h o.type, Result.andThen]
  exact hK' _ _ hK
theorem wpList_delete_run (w : World) {P : Program} {ops : Array Oper} {rest : List Oper} {o : Oper} {a : Act} {Q : Exit → Act → World → Prop} (hg : o.guard = none) (m x : Operand) (t k : TypeId) (hop : o.op = Op.call { callee := Callee.builtin Builtin.delete, args := #[m, x], argTypes := #[t, k] })
    (v y : Value) (hm : a.eval m = v) (hy : a.eval x = y) (Z : World → Prop) (h : ∀ ty, ∃ w', (Builtin.delete_ #[t, k] ty #[v, y]).run P w = .ok (.tuple #[]) w' ∧ Z w') (hK : ∀ w', Z w' → wpList P ops Q rest (a.put o.dst (.tuple #[])) w') : wpList P ops Q (o :: rest) a w := by
  refine wpList_plain hg fun K' hK' => ?_
  obtain ⟨w', hrun, hz⟩ := h o.type
  unfold Oper.wp
  simp [execOp, hop, resolve, invoke, builtin, hm, hy, hrun, Result.andThen]
  exact hK' _ _ (hK w' hz)

section
variable {w w' : World} {lo bt B n n' : Nat} {M M' : Int → ByteArray → Prop} {β : Int → Nat} {s : ByteArray} {o : Int}

set_option maxRecDepth 100000 in
set_option maxHeartbeats 1000000 in
theorem own_t (h : Own w lo bt B n M β) (hn : n < maxLen) (ho : (Lit.int .i64 o).wf = true) (hs : s.size ≤ maxLen) :
    Calls Try.prog 36 #[.pointer (some ⟨bt, 0, none⟩), .int .i64 o, .string s, .bool true] w fun e w' => e = .returned (.tuple #[]) ∧ Owned w w' lo bt B (n + 1) (Upd M o s true) := by
  have hq : ∀ (w : World) (r : Option Nat), (binOp .eql 58 (.map r) (.map none)).run Try.prog w = .ok (.bool r.isNone) w := fun w r => run_eql_map_nil w _ _ _ r Try.underlying58
  have hmm := @run_makeMap Try.prog
  have c0 := h.cell
  by_cases hh : Has M o
  · have hl := h.out.look ho hh
    obtain ⟨w2, r2, hz⟩ := h.more (s := s) hn hs hh
    have HZ : Hid (Owned w w2 lo bt B (n + 1) (Upd M o s true)) := hz
    clear h hz
    go_enter Try.func36, Try.ntmps36
    go_wp2
    go_end0
    exact ⟨rfl, HZ.out⟩
  · have hl := h.out.miss ho hh
    obtain ⟨w2, w3, r2, r3, hz⟩ := h.new (s := s) hn ho hs hh
    have HZ : Hid (Owned w w3 lo bt B (n + 1) (Upd M o s true)) := hz
    clear h hz
    go_enter Try.func36, Try.ntmps36
    go_wp2
    go_end0
    exact ⟨rfl, HZ.out⟩

set_option maxRecDepth 100000 in
set_option maxHeartbeats 1000000 in
theorem own_f (h : Own w lo bt B n M β) (ho : (Lit.int .i64 o).wf = true) (hs : s.size ≤ maxLen) (hm : M o s) :
    Calls Try.prog 36 #[.pointer (some ⟨bt, 0, none⟩), .int .i64 o, .string s, .bool false] w fun e w' => e = .returned (.tuple #[]) ∧ Owned w w' lo bt B (n + 1) (Upd M o s false) := by
  have c0 := h.cell
  have hl := h.out.look ho ⟨s, hm⟩
  obtain ⟨l, l1, l2⟩ := (h.inn o ⟨s, hm⟩).2.2.list
  have hln : ∀ t, _ := (h.inn o ⟨s, hm⟩).2.2.len l1 l2
  by_cases h1 : l.length = 1
  · have hd : ∀ ty, _ := h.last ho hm (fun t ht => by
      obtain ⟨x, hx⟩ := List.length_eq_one_iff.1 h1
      have e1 := (l2 t).2 ht
      have e2 := (l2 s).2 hm
      rw [hx] at e1 e2
      simp at e1 e2
      rw [e1, e2])
    rw [h1] at hln
    clear h h1 l1 l2
    go_enter Try.func36, Try.ntmps36
    go_wp2_with first
      | (at_len; refine wpList_len_run _ rfl _ _ rfl _ _ rfl hln ?_)
      | (at_delete; refine wpList_delete_run _ rfl _ _ _ _ rfl _ _ rfl rfl _ hd ?_; intro w1 hw1)
    go_end0
    exact ⟨rfl, hw1⟩
  · have hd : ∀ ty, _ := h.less hs hm (by
      refine Classical.byContradiction fun hno => h1 ?_
      have e2 := (l2 s).2 hm
      have e : l = [s] := by
        match l, l1, e2, l2 with
        | [x], _, e2, _ => simp at e2; rw [e2]
        | x :: y :: r, l1, e2, l2 =>
          exfalso
          have hx : x = s := Classical.byContradiction fun hne => hno ⟨x, (l2 x).1 (by simp), hne⟩
          have hy : y = s := Classical.byContradiction fun hne => hno ⟨y, (l2 y).1 (by simp), hne⟩
          subst hx
          simp [hy] at l1
      rw [e]; rfl)
    have d1 : decide ((l.length : Int) = 1) = false := decide_eq_false (by omega)
    clear h l1 l2
    go_enter Try.func36, Try.ntmps36
    go_wp2_with first
      | (at_len; refine wpList_len_run _ rfl _ _ rfl _ _ rfl hln ?_)
      | (at_delete; refine wpList_delete_run _ rfl _ _ _ _ rfl _ _ rfl rfl _ hd ?_; intro w1 hw1)
    go_end0
    exact ⟨rfl, hw1⟩

/-- ZZOwn. -/
theorem zown (c : Bool) (h : Own w lo bt B n M β) (hn : n < maxLen) (ho : (Lit.int .i64 o).wf = true) (hs : s.size ≤ maxLen) (hc : c = true ∨ M o s) :
    Calls Try.prog 25 #[.pointer (some ⟨bt, 0, none⟩), .int .i64 o, .string s, .bool c] w fun e w' => e = .returned (.tuple #[]) ∧ Owned w w' lo bt B (n + 1) (Upd M o s c) := by
  have HC : Calls Try.prog 36 #[.pointer (some ⟨bt, 0, none⟩), .int .i64 o, .string s, .bool c] w fun e w' => e = .returned (.tuple #[]) ∧ Owned w w' lo bt B (n + 1) (Upd M o s c) := by
    cases c
    · exact own_f h ho hs (hc.resolve_left (by simp))
    · exact own_t h hn ho hs
  clear h hc
  go_enter Try.func25, Try.ntmps25
  go_wp2_with fail
  refine HC.mono ?_
  rintro e w' ⟨rfl, h1⟩
  clear HC
  go_wp2
  go_end0
  exact ⟨rfl, h1⟩

/-- ZZOwns. -/
theorem zowns_t (h : Own w lo bt B n M β) (ho : (Lit.int .i64 o).wf = true) (hs : s.size ≤ maxLen) (hm : M o s) :
    Calls Try.prog 26 #[.pointer (some ⟨bt, 0, none⟩), .int .i64 o, .string s] w fun e w' => e = .returned (.bool true) ∧ w' = w := by
  have c0 := h.cell
  have hl := h.out.look ho ⟨s, hm⟩
  have hl2 := (h.inn o ⟨s, hm⟩).2.2.look hs hm
  clear h
  go_enter Try.func26, Try.ntmps26
  go_wp2
  go_ret
  exact ⟨rfl, rfl⟩
theorem zowns_f (h : Own w lo bt B n M β) (ho : (Lit.int .i64 o).wf = true) (hs : s.size ≤ maxLen) (hm : ¬ M o s) :
    Calls Try.prog 26 #[.pointer (some ⟨bt, 0, none⟩), .int .i64 o, .string s] w fun e w' => e = .returned (.bool false) ∧ w' = w := by
  have c0 := h.cell
  by_cases hh : Has M o
  · have hl := h.out.look ho hh
    have hl2 := (h.inn o hh).2.2.miss hs hm
    clear h
    go_enter Try.func26, Try.ntmps26
    go_wp2
    go_ret
    exact ⟨rfl, rfl⟩
  · have hl := h.out.miss ho hh
    have hl2 := look_nil58 w hs
    clear h
    go_enter Try.func26, Try.ntmps26
    go_wp2
    go_ret
    exact ⟨rfl, rfl⟩

/-- ZZCount. -/
theorem zcount (h : Own w lo bt B n M β) (ho : (Lit.int .i64 o).wf = true) {l : List ByteArray} (l1 : l.Nodup) (l2 : ∀ s, s ∈ l ↔ M o s) :
    Calls Try.prog 34 #[.pointer (some ⟨bt, 0, none⟩), .int .i64 o] w fun e w' => e = .returned (.int .i64 l.length) ∧ w' = w := by
  have c0 := h.cell
  by_cases hh : Has M o
  · have hl := h.out.look ho hh
    have hln := (h.inn o hh).2.2.len l1 l2
    clear h
    go_enter Try.func34, Try.ntmps34
    go_wp2_with (at_len; refine wpList_len_run _ rfl _ _ rfl _ _ rfl hln ?_)
    go_ret
    exact ⟨rfl, rfl⟩
  · have hl := h.out.miss ho hh
    have hln := fun ty => Maps.len_nil (P := Try.prog) (w := w) Try.underlying58 ty
    have e : l = [] := List.eq_nil_iff_forall_not_mem.2 (fun s hs => hh ⟨s, (l2 s).1 hs⟩)
    subst e
    clear h
    go_enter Try.func34, Try.ntmps34
    go_wp2_with (at_len; refine wpList_len_run _ rfl _ _ rfl _ _ rfl hln ?_)
    go_ret
    exact ⟨rfl, rfl⟩

/-- ZZSessions. -/
theorem zsess (h : Own w lo bt B n M β) {l : List Int} (l1 : l.Nodup) (l2 : ∀ o, o ∈ l ↔ Has M o) :
    Calls Try.prog 32 #[.pointer (some ⟨bt, 0, none⟩)] w fun e w' => e = .returned (.int .i64 l.length) ∧ w' = w := by
  have c0 := h.cell
  have hln := h.out.len l1 l2
  clear h
  go_enter Try.func32, Try.ntmps32
  go_wp2_with (at_len; refine wpList_len_run _ rfl _ _ rfl _ _ rfl hln ?_)
  go_ret
  exact ⟨rfl, rfl⟩

end
end Go.Proofs.Qxb6605168a
