/-
  FnAddRecordsScriptCountsEveryRecord: THE WALK, the middle loops.
-/
import Derived.Test.Qxb6603978aScriptLaw
import Derived.Test.Qxb6603978aLawRec
import Derived.Test.Qxb6603978aLawScrC
namespace Go.Proofs.Qxb6603978a
open Go.RowKit Go.Maps
set_option linter.unusedVariables false
set_option linter.unusedSimpArgs false

set_option maxRecDepth 1000000 in
set_option maxHeartbeats 8000000 in
theorem law8B (L0 L1 L2 L3 n0 n1 n2 n3 i lo b : Nat) (oc : Option Nat) (K V : Nat → Int) (S : Nat → Bool) (Nm : Nat → ByteArray) (β : ByteArray → Nat) (w w5 : World)
    (s0 : n0 ≤ 4096) (s1 : n1 ≤ 4096) (s2 : n2 ≤ 4096) (s3 : n3 ≤ 4096) (m0 : i ≤ n0) (m1 : i ≤ n1) (m2 : i ≤ n2) (m3 : i ≤ n3) (HK3 : Hid (∀ j, (Nm j).size ≤ maxLen)) (HK0 : Hid (∀ j, (Lit.int .i64 (K j)).wf = true))
    (HR : Hid (Scr w5 lo lo (lo + 1) (some b) oc S Nm K V i β)) (HB6 : Hid (Below w.heap.size w w5))
    (q0 : ∀ j, j < n0 → w5.cell? ⟨L0, j, none⟩ = some (.int .i64 (K j))) (q1 : ∀ j, j < n1 → w5.cell? ⟨L1, j, none⟩ = some (.int .i64 (V j))) (q2 : ∀ j, j < n2 → w5.cell? ⟨L2, j, none⟩ = some (.bool (S j))) (q3 : ∀ j, j < n3 → w5.cell? ⟨L3, j, none⟩ = some (.string (Nm j)))
    (u4 u5 u6 u7 u8 u9 u10 u12 u14 u15 u16 u17 u18 u19 u20 u21 u22 u23 u25 u26 u27 u28 u29 u30 u31 u32 u33 u34 u35 u36 u37 u38 u39 u40 u41 u42 u43 u44 u45 u46 u47 u48 u49 u50 u51 u52 u53 u54 u55 u56 u57 u58 u59 u60 u61 u62 u63 u64 u65 u66 u67 u68 u69 u70 u71 u72 u73 u74 u75 u76 u77 u78 u79 u80 u81 u82 u83 u84 u85 u86 u87 u88 u89 u90 u91 u92 u93 u94 u95 u96 u97 u98 u99 u100 u101 u102 u103 u104 u105 u106 u107 u108 u109 u110 u111 u112 u113 u114 u115 u116 u117 u118 u119 u120 u121 u122 u123 u124 u125 u126 u127 u128 u129 u130 u131 u132 u133 u134 u135 u136 u137 u138 u139 u140 u141 u142 u143 u144 u145 u146 u147 u148 u149 u150 u151 u152 u153 u154 u155 u156 u157 u158 u159 u160 u161 u162 u163 u164 u165 u166 u167 u168 u169 u170 u171 u172 u173 u174 u175 u176 u177 u178 u179 u180 u181 u182 u183 u184 u185 u186 u187 u188 u189 u190 u191 u192 u193 u194 u195 u196 u197 u198 u199 u200 u201 u202 u203 u204 u205 u206 u207 u208 u209 u210 u211 u212 u213 u214 u215 u216 u217 u218 u219 u220 u221 u222 u223 u224 u225 u226 u227 u228 u229 u230 u231 u232 u233 u234 u235 u236 u237 u238 u239 u240 u241 u242 u243 u244 u245 u246 u247 u248 u249 u250 u251 u252 u253 u254 u255 u256 u257 u258 u259 u260 u261 u262 u263 u264 u265 u266 u267 u268 u269 u270 u271 u272 u273 u274 u275 u276 u277 u278 u279 u280 u281 u282 u283 u284 u285 u286 u287 u288 u289 u290 u291 u292 u293 u294 u295 u296 u297 u298 u299 u300 u301 u302 u303 u304 u305 u306 u307 u308 u309 u310 u311 u312 u313 u314 u315 u316 u317 u318 u319 u320 u321 u322 u323 u324 u325 u326 u327 u328 u329 u330 u331 u332 u333 u334 u335 u336 u337 u338 u339 u340 u341 u342 u343 u344 u345 u346 u347 u348 u349 u350 u351 u352 u353 u354 u355 u356 u357 u358 u359 u360 u361 u362 u363 u364 u365 u366 u367 u368 u369 u370 u371 u372 u373 u374 : Value) :
    Code.wp Try.prog ((Try.f8.body.map (afterRegion 53)).getD .skip) (bodyPost Try.prog Try.f8 fun e w' => e = .returned (.bool true) ∧ Below w.heap.size w w') ⟨#[.slice (some ⟨L0, 0, none⟩) n0 n0, .slice (some ⟨L1, 0, none⟩) n1 n1, .slice (some ⟨L2, 0, none⟩) n2 n2, .slice (some ⟨L3, 0, none⟩) n3 n3, u4, u5, u6, u7, u8, u9, u10, .int .i64 (i : Nat), u12, .pointer (some ⟨lo + 1, 0, none⟩), u14, u15, u16, u17, u18, u19, u20, u21, u22, u23, .slice (some ⟨w5.heap.size, 0, none⟩) i i, u25, u26, u27, u28, u29, u30, u31, u32, u33, u34, u35, u36, u37, u38, u39, u40, u41, u42, u43, u44, u45, u46, u47, u48, u49, u50, u51, u52, u53, u54, u55, u56, u57, u58, u59, u60, u61, u62, u63, u64, u65, u66, u67, u68, u69, u70, u71, u72, u73, u74, u75, u76, u77, u78, u79, u80, u81, u82, u83, u84, u85, u86, u87, u88, u89, u90, u91, u92, u93, u94, u95, u96, u97, u98, u99, u100, u101, u102, u103, u104, u105, u106, u107, u108, u109, u110, u111, u112, u113, u114, u115, u116, u117, u118, u119, u120, u121, u122, u123, u124, u125, u126, u127, u128, u129, u130, u131, u132, u133, u134, u135, u136, u137, u138, u139, u140, u141, u142, u143, u144, u145, u146, u147, u148, u149, u150, u151, u152, u153, u154, u155, u156, u157, u158, u159, u160, u161, u162, u163, u164, u165, u166, u167, u168, u169, u170, u171, u172, u173, u174, u175, u176, u177, u178, u179, u180, u181, u182, u183, u184, u185, u186, u187, u188, u189, u190, u191, u192, u193, u194, u195, u196, u197, u198, u199, u200, u201, u202, u203, u204, u205, u206, u207, u208, u209, u210, u211, u212, u213, u214, u215, u216, u217, u218, u219, u220, u221, u222, u223, u224, u225, u226, u227, u228, u229, u230, u231, u232, u233, u234, u235, u236, u237, u238, u239, u240, u241, u242, u243, u244, u245, u246, u247, u248, u249, u250, u251, u252, u253, u254, u255, u256, u257, u258, u259, u260, u261, u262, u263, u264, u265, u266, u267, u268, u269, u270, u271, u272, u273, u274, u275, u276, u277, u278, u279, u280, u281, u282, u283, u284, u285, u286, u287, u288, u289, u290, u291, u292, u293, u294, u295, u296, u297, u298, u299, u300, u301, u302, u303, u304, u305, u306, u307, u308, u309, u310, u311, u312, u313, u314, u315, u316, u317, u318, u319, u320, u321, u322, u323, u324, u325, u326, u327, u328, u329, u330, u331, u332, u333, u334, u335, u336, u337, u338, u339, u340, u341, u342, u343, u344, u345, u346, u347, u348, u349, u350, u351, u352, u353, u354, u355, u356, u357, u358, u359, u360, u361, u362, u363, u364, u365, u366, u367, u368, u369, u370, u371, u372, u373, u374], []⟩ (w5.alloc (.cells (madeCells #[.bool false] i) 4)) := by
  conv => arg 2; whnf
  have hqe : ∀ (w : World) (r : Option Nat), (binOp .eql 29 (.map r) (.map none)).run Try.prog w = .ok (.bool r.isNone) w := fun w r => run_eql_map_nil w _ _ _ r Try.underlying29
  have hqs : ∀ (w : World) (r : Option Nat), (binOp .eql 41 (.map r) (.map none)).run Try.prog w = .ok (.bool r.isNone) w := fun w r => run_eql_map_nil w _ _ _ r Try.underlying41
  go_wp2
  go_loopw [25, 26] (fun a v wx => ∃ k : Nat, k ≤ i ∧ v = .int .i64 k ∧ a = .bool (decide (∃ j, j < k ∧ S j = true)) ∧ wx.rowIs w5.heap.size 4 i (fun j => if j < k then .bool (lsB S Nm K i j) else .bool false) ∧ Below w5.heap.size w5 wx) (fun _ v _ => i - (intOf v).toNat)
  case atStart => exact ⟨0, Nat.zero_le _, rfl, by simp, (World.rowIs_made w5 _ i 4).congr (fun j _ => by simp), (Below.refl _ _).alloc (Nat.le_refl _) _⟩
  case round =>
    obtain ⟨k, hk, rfl, rfl, hrow, hbel⟩ := hrel
    have HRw : Hid (wr.rowIs w5.heap.size 4 i (fun j => if j < k then .bool (lsB S Nm K i j) else .bool false)) := hrow
    have e0 : ∀ j, j < n0 → wr.cell? ⟨L0, j, none⟩ = some (.int .i64 (K j)) := fun j hj => (hbel.cell (by exact World.block_lt_of_cell? _ _ (q0 j hj))).trans (q0 j hj)
    have e1 : ∀ j, j < n1 → wr.cell? ⟨L1, j, none⟩ = some (.int .i64 (V j)) := fun j hj => (hbel.cell (by exact World.block_lt_of_cell? _ _ (q1 j hj))).trans (q1 j hj)
    have e2 : ∀ j, j < n2 → wr.cell? ⟨L2, j, none⟩ = some (.bool (S j)) := fun j hj => (hbel.cell (by exact World.block_lt_of_cell? _ _ (q2 j hj))).trans (q2 j hj)
    have e3 : ∀ j, j < n3 → wr.cell? ⟨L3, j, none⟩ = some (.string (Nm j)) := fun j hj => (hbel.cell (by exact World.block_lt_of_cell? _ _ (q3 j hj))).trans (q3 j hj)
    by_cases hlt : k < i
    · clear q0 q1 q2 q3 hqe hqs
      have f2 := e2 k (by omega)
      have i2 : (k : Int) < (n2 : Int) := by omega
      have i4 : (k : Int) < (i : Int) := by omega
      obtain ⟨v1, p1⟩ : ∃ v, wr.cell? ⟨w5.heap.size, k, none⟩ = some v := ⟨_, hrow.cell hlt⟩
      have p2 := hrow.frozen k
      have HB : Hid (Below w5.heap.size w5 wr) := hbel
      cases hs : S k
      · have HQ : Hid ((∃ j, j < k + 1 ∧ S j = true) ↔ ∃ j, j < k ∧ S j = true) := ex_succ_no (P := fun j => S j = true) (by rw [hs]; simp)
        have HR' : Hid (wr.rowIs w5.heap.size 4 i (fun j => if j < k + 1 then .bool (lsB S Nm K i j) else .bool false)) := HRw.out.congr (fun j _ => by
          by_cases e : j = k
          · subst e
            have : lsB S Nm K i j = false := by unfold lsB Pl.lastB; rw [hs]; rfl
            rw [if_neg (by omega), if_pos (by omega), this]
          · by_cases h : j < k
            · rw [if_pos h, if_pos (by omega)]
            · rw [if_neg h, if_neg (by omega)])
        rw [hs] at f2
        clear hs hrow hbel e0 e1 e2 e3 p1 p2 HRw
        go_wp2
        go_roundw
        case rel => exact ⟨k + 1, by omega, by go_num, by simp only [HQ.out], HR'.out, HB.out⟩
        case measure => simp [intOf]; omega
      · have HQ : Hid (decide (∃ j, j < k + 1 ∧ S j = true) = true) := decide_eq_true ⟨k, by omega, hs⟩
        have HC : Hid (Calls Try.prog 28 #[.slice (some ⟨L2, 0, none⟩) n2 n2, .slice (some ⟨L3, 0, none⟩) n3 n3, .slice (some ⟨L0, 0, none⟩) n0 n0, .int .i64 k, .int .i64 i] wr fun e w' => e = .returned (.bool (lsB S Nm K i k)) ∧ ∃ q, w' = wr.drewN q) :=
          last28 L2 0 n2 n2 S L3 0 n3 n3 Nm L0 0 n0 n0 K k i wr hlt m2 s2 hs (from0 e2) m3 s3 (from0 e3) m0 s0 (from0 e0)
        rw [hs] at f2
        clear hs hrow hbel e0 e1 e2 e3
        go_wp2_with fail
        refine HC.out.mono ?_
        rintro e w6 ⟨rfl, q', rfl⟩
        clear HC
        have HR' : Hid (((wr.drewN q').setCell ⟨w5.heap.size, k, none⟩ (.bool (lsB S Nm K i k))).rowIs w5.heap.size 4 i (fun j => if j < k + 1 then .bool (lsB S Nm K i j) else .bool false)) :=
          ((show (wr.drewN q').rowIs w5.heap.size 4 i _ from HRw.out).set k _).congr (fun j _ => fill_step (fun j => .bool (lsB S Nm K i j)) _ k j)
        have HB' : Hid (Below w5.heap.size w5 ((wr.drewN q').setCell ⟨w5.heap.size, k, none⟩ (.bool (lsB S Nm K i k)))) := (bdrew HB.out q').setCell (Nat.le_refl _) _
        clear HRw HB
        go_wp2
        go_roundw
        case rel => exact ⟨k + 1, by omega, by go_num, by rw [HQ.out], HR'.out, HB'.out⟩
        case measure => simp [intOf]; omega
    · have hki : k = i := by omega
      subst hki
      have g3 : ∀ j, j < k → wr.cell? ⟨w5.heap.size, j, none⟩ = some (.bool (lsB S Nm K k j)) := fun j hj => by rw [hrow.cell hj]; simp [hj]
      have hR7 := HR.out.below hbel
      have HB7 : Hid (Below w.heap.size w wr) := HB6.out.trans (hbel.mono HB6.out.size)
      have c2 := hR7.rc.cc
      clear hrow HRw hbel q0 q1 q2 q3 HR HB6 hk hlt
      by_cases hany : ∃ j, j < k ∧ S j = true
      case neg =>
        obtain rfl : oc = none := hR7.out.2 (fun j hj => by
          cases h : S j
          · rfl
          · exact absurd ⟨j, hj, h⟩ hany)
        rw [decide_eq_false hany]
        clear hR7 hany e0 e1 e2 e3 g3
        go_wp2
        go_ret
        exact ⟨rfl, HB7.out⟩
      obtain ⟨B, rfl⟩ : ∃ B, oc = some B := by
        cases oc with
        | none =>
          obtain ⟨j, hj, hs⟩ := hany
          have := hR7.out.1 rfl j hj
          rw [hs] at this
          cases this
        | some B => exact ⟨B, rfl⟩
      rw [decide_eq_true hany]
      have HV : Hid (Env L0 L1 L2 L3 w5.heap.size n0 n1 n2 n3 k lo (lo + 1) B K V S Nm β wr) := ⟨e0, e1, e2, e3, g3, c2, hR7.rc.scp⟩
      have hVb : Hid (∀ wx, Below wr.heap.size wr wx → Env L0 L1 L2 L3 w5.heap.size n0 n1 n2 n3 k lo (lo + 1) B K V S Nm β wx) := fun wx hx => HV.out.below hx
      clear hR7 hany e0 e1 e2 e3 g3
      go_wp2
      go_loopw [27] (fun v wx => ∃ i : Nat, i ≤ k ∧ v = .int .i64 i ∧ ∃ q, wx = wr.drewN q) (fun v _ => k - (intOf v).toNat)
      case atStart => exact ⟨0, Nat.zero_le _, rfl, 0, rfl⟩
      case round =>
        obtain ⟨i, hi, rfl, q, rfl⟩ := hrel
        by_cases hik : i < k
        · have f0 := HV.out.e0 i (by omega)
          have f3 := HV.out.e3 i (by omega)
          have f4 := HV.out.g3 i hik
          have i0 : (i : Int) < (n0 : Int) := by omega
          have i3 : (i : Int) < (n3 : Int) := by omega
          have i4 : (i : Int) < (k : Int) := by omega
          cases hl : lsB S Nm K k i
          · rw [hl] at f4
            clear hl
            go_wp2
            go_roundw
            case rel => exact ⟨i + 1, by omega, by go_num, _, rfl⟩
            case measure => simp [intOf]; omega
          · rw [hl] at f4
            have hsi : S i = true := (Pl.lastB_iff.1 hl).1
            have hmet : Met S Nm k (Nm i) := ⟨i, hik, hsi, rfl⟩
            have HL1 : Hid (∀ q, (Instr.lookup 41 (.map (some B)) (.string (Nm i)) true).run Try.prog (wr.drewN q) = .ok (.tuple #[.map (some (β (Nm i))), .bool true]) (wr.drewN q)) := fun q => Scp.look (w := wr.drewN q) (HV.out.scp.drewN q) (HK3.out i) hmet true
            have HL2 : Hid (∀ q, (Instr.lookup 29 (.map (some (β (Nm i)))) (.int .i64 (K i)) true).run Try.prog (wr.drewN q) = .ok (.tuple #[.int .i64 (wrap64 (gT S Nm K V i k)), .bool true]) (wr.drewN q)) := fun q => ((Scp.tal (w := wr.drewN q) (HV.out.scp.drewN q) hmet).look (HK0.out i) (aT_mem S Nm K V hik hsi) true).1
            clear hl hsi hmet
            go_wp2
            go_loopw [28, 29] (fun s v wx => ∃ j : Nat, j ≤ k ∧ v = .int .i64 j ∧ s = .int .i64 (wrap64 (gT S Nm K V i j)) ∧ ∃ q, wx = wr.drewN q) (fun _ v _ => k - (intOf v).toNat)
            case atStart => exact ⟨0, Nat.zero_le _, rfl, by rw [gT_zero, Pl.wrap_zero], _, rfl⟩
            case round =>
              obtain ⟨j, hj, rfl, rfl, q2, rfl⟩ := hrel
              by_cases hjk : j < k
              · have f5 := HV.out.e0 j (by omega)
                have f6 := HV.out.e1 j (by omega)
                have f7 := HV.out.e2 j (by omega)
                have f8 := HV.out.e3 j (by omega)
                have i5 : (j : Int) < (n0 : Int) := by omega
                have i6 : (j : Int) < (n1 : Int) := by omega
                have i7 : (j : Int) < (n2 : Int) := by omega
                have i8 : (j : Int) < (n3 : Int) := by omega
                cases hs : S j
                · have HG : Hid (gT S Nm K V i (j + 1) = gT S Nm K V i j) := gT_no S Nm K V (fun h => by rw [hs] at h; cases h.1)
                  rw [hs] at f7
                  clear hs
                  go_wp2
                  go_quiet (fail)
                  go_wp2
                  go_roundw
                  case rel => exact ⟨j + 1, by omega, by go_num, by rw [HG.out], _, rfl⟩
                  case measure => simp [intOf]; omega
                · by_cases he : Nm j = Nm i
                  · have hb := streq_t he
                    by_cases he2 : K j = K i
                    · have hb2 : (K j == K i) = true := by simp [he2]
                      have HG : Hid (wrap64 (gT S Nm K V i (j + 1)) = wrap64 (wrap64 (gT S Nm K V i j) + V j)) := by
                        show _ = _
                        rw [gT_yes S Nm K V hs he he2, Pl.wrap_add_l]
                      rw [hs] at f7
                      clear hs he he2
                      go_wp2
                      go_quiet (fail)
                      go_wp2
                      go_roundw
                      case rel => exact ⟨j + 1, by omega, by go_num, by rw [HG.out], _, rfl⟩
                      case measure => simp [intOf]; omega
                    · have hb2 : (K j == K i) = false := by simp [he2]
                      have HG : Hid (gT S Nm K V i (j + 1) = gT S Nm K V i j) := gT_no S Nm K V (fun h => he2 h.2.2)
                      rw [hs] at f7
                      clear hs he he2
                      go_wp2
                      go_quiet (fail)
                      go_wp2
                      go_roundw
                      case rel => exact ⟨j + 1, by omega, by go_num, by rw [HG.out], _, rfl⟩
                      case measure => simp [intOf]; omega
                  · have hb := streq_f he
                    have HG : Hid (gT S Nm K V i (j + 1) = gT S Nm K V i j) := gT_no S Nm K V (fun h => he h.2.1)
                    rw [hs] at f7
                    clear hs he
                    go_wp2
                    go_quiet (fail)
                    go_wp2
                    go_roundw
                    case rel => exact ⟨j + 1, by omega, by go_num, by rw [HG.out], _, rfl⟩
                    case measure => simp [intOf]; omega
              · have hjk' : j = k := by omega
                subst hjk'
                have hL1 := HL1.out
                have hL2 := HL2.out
                go_wp2
                go_quiet (fail)
                go_wp2
                go_roundw
                case rel => exact ⟨i + 1, by omega, by go_num, _, rfl⟩
                case measure => simp [intOf]; omega
        · go_upto_region 81 with fail
          rename_i hKK
          have HKK : Hid _ := hKK
          clear hKK hi hik
          go_wp2
          refine HKK.out _ _ ?_
          exact law8C L0 L1 L2 L3 w5.heap.size n0 n1 n2 n3 k lo (lo + 1) B K V S Nm β w (wr.drewN q) s0 s1 s2 s3 m0 m1 m2 m3 HK3 (HV.out.below (bdrew (Below.refl _ _) q)) (bdrew HB7.out q) _ _ _ _ _ _ _ _ _ _ _ _ _ _ _ _ _ _ _ _ _ _ _ _ _ _ _ _ _ _ _ _ _ _ _ _ _ _ _ _ _ _ _ _ _ _ _ _ _ _ _ _ _ _ _ _ _ _ _ _ _ _ _ _ _ _ _ _ _ _ _ _ _ _ _ _ _ _ _ _ _ _ _ _ _ _ _ _ _ _ _ _ _ _ _ _ _ _ _ _ _ _ _ _ _ _ _ _ _ _ _ _ _ _ _ _ _ _ _ _ _ _ _ _ _ _ _ _ _ _ _ _ _ _ _ _ _ _ _ _ _ _ _ _ _ _ _ _ _ _ _ _ _ _ _ _ _ _ _ _ _ _ _ _ _ _ _ _ _ _ _ _ _ _ _ _ _ _ _ _ _ _ _ _ _ _ _ _ _ _ _ _ _ _ _ _ _ _ _ _ _ _ _ _ _ _ _ _ _ _ _ _ _ _ _ _ _ _ _ _ _ _ _ _ _ _ _ _ _ _ _ _ _ _ _ _ _ _ _ _ _ _ _ _ _ _ _ _ _ _ _ _ _ _ _ _ _ _ _ _ _ _ _ _ _ _ _ _ _ _ _ _ _ _ _ _ _ _ _ _ _ _ _ _ _ _ _ _ _ _ _ _ _ _ _ _ _ _ _ _ _ _ _ _ _ _ _ _ _ _ _ _ _ _ _ _ _ _ _ _ _ _ _ _ _ _ _ _ _ _ _ _ _ _ _ _ _ _ _ _ _ _ _ _ _ _ _ _ _ _ _ _ _ _ _ _ _ _ _ _ _ _ _ _ _ _ _

end Go.Proofs.Qxb6603978a
