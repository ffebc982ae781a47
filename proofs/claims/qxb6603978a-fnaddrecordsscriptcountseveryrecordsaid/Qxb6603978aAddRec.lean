/-
  addRecords, ZZAddRecords: their contracts.
-/
import Derived.Test.Qxb6603978aRecs
import Derived.Deep.Cut
namespace Go.Proofs.Qxb6603978a
open Go.RowKit Go.Maps
set_option linter.unusedVariables false
set_option linter.unusedSimpArgs false

theorem run_eql_ptr_nil (w : World) (r : Option Addr) : (binOp .eql 43 (.pointer r) (.pointer none)).run Try.prog w = .ok (.bool r.isNone) w := by
  cases r <;> kernel_rfl

section
variable {w : World} {lo pt pc : Nat} {ot oc : Option Nat} {m n : Nat} {ps : List (Int × Int)} {S : Nat → Bool} {Nm : Nat → ByteArray} {k : Nat} {β : ByteArray → Nat} {T : ByteArray → List (Int × Int)}

set_option maxRecDepth 100000 in
set_option maxHeartbeats 1000000 in
/-- No scope. -/
theorem addRec_none (h : Rc w lo pt pc ot oc m n ps S Nm k β T) {x r c : Int} (hm : m < maxLen) (hr : (Lit.int .i64 r).wf = true) (hc : (Lit.int .i64 c).wf = true) (hx : (r, x) ∈ ps ∨ (x = 0 ∧ ¬ ∃ p ∈ ps, p.1 = r)) :
    Calls Try.prog 32 #[.pointer (some ⟨pt, 0, none⟩), .pointer (some ⟨pc, 0, none⟩), .pointer none, .int .i64 r, .int .i64 c] w fun e w' => e = .returned (.tuple #[]) ∧
      (∃ b, Rc w' lo pt pc (some b) oc (m + 1) n ((ps.filter fun p => decide (p.1 ≠ r)) ++ [(r, wrap64 (x + c))]) S Nm k β T) ∧ Below lo w w' := by
  have hq := run_eql_ptr_nil
  have c0 := h.ct
  have HC := h.total hm hr hc hx
  clear h hx
  go_enter Try.func32, Try.ntmps32
  go_wp2_with fail
  refine HC.mono ?_
  rintro e w1 ⟨b, rfl, c1, f1, _, hRc, hbel⟩
  clear HC c0
  have HR : Hid (Rc (w1.setCell ⟨pt, 0, none⟩ (.map (some b))) lo pt pc (some b) oc (m + 1) n ((ps.filter fun p => decide (p.1 ≠ r)) ++ [(r, wrap64 (x + c))]) S Nm k β T) := hRc
  clear hRc
  go_wp2
  refine bodyPost_ret (results_none rfl _ _ _) rfl ?_
  exact ⟨rfl, ⟨b, HR.out⟩, hbel⟩

set_option maxRecDepth 100000 in
set_option maxHeartbeats 1000000 in
/-- A scope. -/
theorem addRec_some (h : Rc w lo pt pc ot oc m n ps S Nm k β T) {x y r c : Int} {psc : Nat} (hm : m < maxLen) (hn : n + 1 < maxLen) (hr : (Lit.int .i64 r).wf = true) (hc : (Lit.int .i64 c).wf = true) (hx : (r, x) ∈ ps ∨ (x = 0 ∧ ¬ ∃ p ∈ ps, p.1 = r))
    (hk : S k = true) (hsz : (Nm k).size ≤ maxLen) (hT : ¬ Met S Nm k (Nm k) → T (Nm k) = []) (hy : (r, y) ∈ T (Nm k) ∨ (y = 0 ∧ ¬ ∃ p ∈ T (Nm k), p.1 = r)) (hs : w.cell? ⟨psc, 0, none⟩ = some (.string (Nm k))) :
    Calls Try.prog 32 #[.pointer (some ⟨pt, 0, none⟩), .pointer (some ⟨pc, 0, none⟩), .pointer (some ⟨psc, 0, none⟩), .int .i64 r, .int .i64 c] w fun e w' => e = .returned (.tuple #[]) ∧
      (∃ b B β', Rc w' lo pt pc (some b) (some B) (m + 1) (n + 2) ((ps.filter fun p => decide (p.1 ≠ r)) ++ [(r, wrap64 (x + c))]) S Nm (k + 1) β' (fun z => if z = Nm k then ((T (Nm k)).filter fun p => decide (p.1 ≠ r)) ++ [(r, wrap64 (y + c))] else T z)) ∧ Below lo w w' := by
  have hq := run_eql_ptr_nil
  have hq2 : ∀ (w : World) (r : Option Nat), (binOp .eql 41 (.map r) (.map none)).run Try.prog w = .ok (.bool r.isNone) w := fun w r => run_eql_map_nil w _ _ _ r Try.underlying41
  have hmm := @run_makeMap Try.prog
  have c0 := h.ct
  have HC := h.total hm hr hc hx
  clear h hx
  go_enter Try.func32, Try.ntmps32
  go_wp2_with fail
  refine HC.mono ?_
  rintro e w1 ⟨b, rfl, c1, f1, hstr, hRc, hbel⟩
  clear HC c0
  have hs2 := hstr psc _ hs
  clear hs hstr
  have HB1 : Hid (Below lo w (w1.setCell ⟨pt, 0, none⟩ (.map (some b)))) := hbel
  clear hbel
  have HR : Hid (Rc (w1.setCell ⟨pt, 0, none⟩ (.map (some b))) lo pt pc (some b) oc (m + 1) n ((ps.filter fun p => decide (p.1 ≠ r)) ++ [(r, wrap64 (x + c))]) S Nm k β T) := hRc
  clear hRc
  go_upto_region 1 with fail
  generalize w1.setCell ⟨pt, 0, none⟩ (.map (some b)) = W2 at *
  clear c1 f1
  cases oc with
  | none =>
    obtain ⟨c3, f3, hstr3, hRc4, bel4⟩ := HR.out.make
    have c2 := HR.out.cc
    have hs4 := hstr3 psc _ hs2
    clear hstr3
    have HR4 : Hid (Rc ((W2.alloc (.map #[] 0)).setCell ⟨pc, 0, none⟩ (.map (some W2.heap.size))) lo pt pc (some b) (some W2.heap.size) (m + 1) n ((ps.filter fun p => decide (p.1 ≠ r)) ++ [(r, wrap64 (x + c))]) S Nm k β T) := hRc4
    have HB4 : Hid (Below lo w ((W2.alloc (.map #[] 0)).setCell ⟨pc, 0, none⟩ (.map (some W2.heap.size)))) := HB1.out.trans bel4
    clear hRc4 bel4 HB1 HR
    go_upto_region 4 with fail
    generalize (W2.alloc (.map #[] 0)).setCell ⟨pc, 0, none⟩ (.map (some W2.heap.size)) = W4 at *
    generalize W2.heap.size = B at *
    clear c3 f3 hs2 c2
    obtain ⟨o, hl, ht0, ho⟩ := Rc.find (w := W4.drew) HR4.out.drew hsz hT
    have HC : Hid (Calls Try.prog 30 #[.map o, .int .i64 r, .int .i64 c] W4.drew _) := Rc.scope (w := W4.drew) HR4.out.drew hn hk hsz ht0 ho hr hc hy hs4
    have c4 := HR4.out.cc
    clear ht0 ho hT hy hn hm hk HR4
    go_region_held3 (fun w' => w'.cell? ⟨pc, 0, none⟩ = some (.map (some B)) ∧ w'.cell? ⟨psc, 0, none⟩ = some (.string (Nm k))) (go_keep) (first | (go_at_call 30; refine HC.out.mono ?_; rintro e w5 ⟨b', rfl, d1, d2, w6, hup, d3, d4, hfin, bel6⟩))
    all_goals
      obtain ⟨β', hR6⟩ := hfin
      go_wp2
      go_end0
      exact ⟨rfl, ⟨b, B, β', hR6⟩, HB4.out.drew.trans bel6⟩
  | some B =>
    have c2 := HR.out.cc
    go_upto_region 4 with fail
    generalize W2 = W4 at *
    have HR4 := HR
    have HB4 := HB1
    have hs4 := hs2
    clear c2 HR HB1 hs2
    obtain ⟨o, hl, ht0, ho⟩ := Rc.find (w := W4.drew) HR4.out.drew hsz hT
    have HC : Hid (Calls Try.prog 30 #[.map o, .int .i64 r, .int .i64 c] W4.drew _) := Rc.scope (w := W4.drew) HR4.out.drew hn hk hsz ht0 ho hr hc hy hs4
    have c4 := HR4.out.cc
    clear ht0 ho hT hy hn hm hk HR4
    go_region_held3 (fun w' => w'.cell? ⟨pc, 0, none⟩ = some (.map (some B)) ∧ w'.cell? ⟨psc, 0, none⟩ = some (.string (Nm k))) (go_keep) (first | (go_at_call 30; refine HC.out.mono ?_; rintro e w5 ⟨b', rfl, d1, d2, w6, hup, d3, d4, hfin, bel6⟩))
    all_goals
      obtain ⟨β', hR6⟩ := hfin
      go_wp2
      go_end0
      exact ⟨rfl, ⟨b, B, β', hR6⟩, HB4.out.drew.trans bel6⟩

/-- ZZAddRecords, no scope. -/
theorem zaddRec_none (h : Rc w lo pt pc ot oc m n ps S Nm k β T) {x r c : Int} (hm : m < maxLen) (hr : (Lit.int .i64 r).wf = true) (hc : (Lit.int .i64 c).wf = true) (hx : (r, x) ∈ ps ∨ (x = 0 ∧ ¬ ∃ p ∈ ps, p.1 = r)) :
    Calls Try.prog 24 #[.pointer (some ⟨pt, 0, none⟩), .pointer (some ⟨pc, 0, none⟩), .pointer none, .int .i64 r, .int .i64 c] w fun e w' => e = .returned (.tuple #[]) ∧
      (∃ b, Rc w' lo pt pc (some b) oc (m + 1) n ((ps.filter fun p => decide (p.1 ≠ r)) ++ [(r, wrap64 (x + c))]) S Nm k β T) ∧ Below lo w w' := by
  have HC := addRec_none h hm hr hc hx
  clear h hx
  go_enter Try.func24, Try.ntmps24
  go_wp2_with fail
  refine HC.mono ?_
  rintro e w' ⟨rfl, h1, h2⟩
  clear HC
  go_wp2
  go_end0
  exact ⟨rfl, h1, h2⟩

/-- ZZAddRecords, a scope. -/
theorem zaddRec_some (h : Rc w lo pt pc ot oc m n ps S Nm k β T) {x y r c : Int} {psc : Nat} (hm : m < maxLen) (hn : n + 1 < maxLen) (hr : (Lit.int .i64 r).wf = true) (hc : (Lit.int .i64 c).wf = true) (hx : (r, x) ∈ ps ∨ (x = 0 ∧ ¬ ∃ p ∈ ps, p.1 = r))
    (hk : S k = true) (hsz : (Nm k).size ≤ maxLen) (hT : ¬ Met S Nm k (Nm k) → T (Nm k) = []) (hy : (r, y) ∈ T (Nm k) ∨ (y = 0 ∧ ¬ ∃ p ∈ T (Nm k), p.1 = r)) (hs : w.cell? ⟨psc, 0, none⟩ = some (.string (Nm k))) :
    Calls Try.prog 24 #[.pointer (some ⟨pt, 0, none⟩), .pointer (some ⟨pc, 0, none⟩), .pointer (some ⟨psc, 0, none⟩), .int .i64 r, .int .i64 c] w fun e w' => e = .returned (.tuple #[]) ∧
      (∃ b B β', Rc w' lo pt pc (some b) (some B) (m + 1) (n + 2) ((ps.filter fun p => decide (p.1 ≠ r)) ++ [(r, wrap64 (x + c))]) S Nm (k + 1) β' (fun z => if z = Nm k then ((T (Nm k)).filter fun p => decide (p.1 ≠ r)) ++ [(r, wrap64 (y + c))] else T z)) ∧ Below lo w w' := by
  have HC := addRec_some h hm hn hr hc hx hk hsz hT hy hs
  clear h hx hT hy hs
  go_enter Try.func24, Try.ntmps24
  go_wp2_with fail
  refine HC.mono ?_
  rintro e w' ⟨rfl, h1, h2⟩
  clear HC
  have H1 : Hid _ := h1
  clear h1
  go_wp2
  go_end0
  exact ⟨rfl, H1.out, h2⟩

end
end Go.Proofs.Qxb6603978a
