/-
  FnAddRecordsScriptCountsEveryRecord: THE WALK, the last loop.
-/
import Derived.Test.Qxb6603978aScriptLaw
import Derived.Test.Qxb6603978aLawRec
import Derived.Deep.Cut
namespace Go.Proofs.Qxb6603978a
open Go.RowKit Go.Maps
set_option linter.unusedVariables false
set_option linter.unusedSimpArgs false

/-- Does the code begin with region n? -/
def headIs (n : Nat) : Code → Bool
  | .region i _ _ => i == n
  | .seq a _ => headIs n a
  | _ => false
/-- What follows region n. -/
def afterRegion (n : Nat) : Code → Code
  | .seq a b => if headIs n a then b else afterRegion n b
  | c => c

set_option maxRecDepth 1000000 in
set_option maxHeartbeats 8000000 in
theorem law8C (L0 L1 L2 L3 Lp n0 n1 n2 n3 k lo pc B : Nat) (K V : Nat → Int) (S : Nat → Bool) (Nm : Nat → ByteArray) (β : ByteArray → Nat) (w wr : World)
    (s0 : n0 ≤ 4096) (s1 : n1 ≤ 4096) (s2 : n2 ≤ 4096) (s3 : n3 ≤ 4096) (m0 : k ≤ n0) (m1 : k ≤ n1) (m2 : k ≤ n2) (m3 : k ≤ n3) (HK3 : Hid (∀ j, (Nm j).size ≤ maxLen))
    (HV : Hid (Env L0 L1 L2 L3 Lp n0 n1 n2 n3 k lo pc B K V S Nm β wr)) (HB7 : Hid (Below w.heap.size w wr))
    (u4 u5 u6 u7 u8 u9 u10 u12 u14 u15 u16 u17 u18 u19 u20 u21 u22 u23 u25 u26 u27 u28 u29 u30 u31 u32 u33 u35 u36 u37 u38 u39 u40 u41 u42 u43 u44 u45 u46 u47 u48 u49 u50 u51 u52 u53 u54 u55 u56 u57 u58 u59 u60 u61 u62 u63 u64 u65 u66 u67 u68 u69 u70 u71 u72 u73 u74 u75 u76 u77 u78 u79 u80 u81 u82 u83 u84 u85 u86 u87 u88 u89 u90 u91 u92 u93 u94 u95 u96 u97 u98 u99 u100 u101 u102 u103 u104 u105 u106 u107 u108 u109 u110 u111 u112 u113 u114 u115 u116 u117 u118 u119 u120 u121 u122 u123 u124 u125 u126 u127 u128 u129 u130 u131 u132 u133 u134 u135 u136 u137 u138 u139 u140 u141 u142 u143 u144 u145 u146 u147 u148 u149 u150 u151 u152 u153 u154 u155 u156 u157 u158 u159 u160 u161 u162 u163 u164 u165 u166 u167 u168 u169 u170 u171 u172 u173 u174 u175 u176 u177 u178 u179 u180 u181 u182 u183 u184 u185 u186 u187 u188 u189 u190 u191 u192 u193 u194 u195 u196 u197 u198 u199 u200 u201 u202 u203 u204 u205 u206 u207 u208 u209 u210 u211 u212 u213 u214 u215 u216 u217 u218 u219 u220 u221 u222 u223 u224 u225 u226 u227 u228 u229 u230 u231 u232 u233 u234 u235 u236 u237 u238 u239 u240 u241 u242 u243 u244 u245 u246 u247 u248 u249 u250 u251 u252 u253 u254 u255 u256 u257 u258 u259 u260 u261 u262 u263 u264 u265 u266 u267 u268 u269 u270 u271 u272 u273 u274 u275 u276 u277 u278 u279 u280 u281 u282 u283 u284 u285 u286 u287 u288 u289 u290 u291 u292 u293 u294 u295 u296 u297 u298 u299 u300 u301 u302 u303 u304 u305 u306 u307 u308 u309 u310 u311 u312 u313 u314 u315 u316 u317 u318 u319 u320 u321 u322 u323 u324 u325 u326 u327 u328 u329 u330 u331 u332 u333 u334 u335 u336 u337 u338 u339 u340 u341 u342 u343 u344 u345 u346 u347 u348 u349 u350 u351 u352 u353 u354 u355 u356 u357 u358 u359 u360 u361 u362 u363 u364 u365 u366 u367 u368 u369 u370 u371 u372 u373 u374 : Value) :
    Code.wp Try.prog ((Try.f8.body.map (afterRegion 81)).getD .skip) (bodyPost Try.prog Try.f8 fun e w' => e = .returned (.bool true) ∧ Below w.heap.size w w') ⟨#[.slice (some ⟨L0, 0, none⟩) n0 n0, .slice (some ⟨L1, 0, none⟩) n1 n1, .slice (some ⟨L2, 0, none⟩) n2 n2, .slice (some ⟨L3, 0, none⟩) n3 n3, u4, u5, u6, u7, u8, u9, u10, .int .i64 (k : Nat), u12, .pointer (some ⟨pc, 0, none⟩), u14, u15, u16, u17, u18, u19, u20, u21, u22, u23, .slice (some ⟨Lp, 0, none⟩) k k, u25, u26, u27, u28, u29, u30, u31, u32, u33, .int .i64 0, u35, u36, u37, u38, u39, u40, u41, u42, u43, u44, u45, u46, u47, u48, u49, u50, u51, u52, u53, u54, u55, u56, u57, u58, u59, u60, u61, u62, u63, u64, u65, u66, u67, u68, u69, u70, u71, u72, u73, u74, u75, u76, u77, u78, u79, u80, u81, u82, u83, u84, u85, u86, u87, u88, u89, u90, u91, u92, u93, u94, u95, u96, u97, u98, u99, u100, u101, u102, u103, u104, u105, u106, u107, u108, u109, u110, u111, u112, u113, u114, u115, u116, u117, u118, u119, u120, u121, u122, u123, u124, u125, u126, u127, u128, u129, u130, u131, u132, u133, u134, u135, u136, u137, u138, u139, u140, u141, u142, u143, u144, u145, u146, u147, u148, u149, u150, u151, u152, u153, u154, u155, u156, u157, u158, u159, u160, u161, u162, u163, u164, u165, u166, u167, u168, u169, u170, u171, u172, u173, u174, u175, u176, u177, u178, u179, u180, u181, u182, u183, u184, u185, u186, u187, u188, u189, u190, u191, u192, u193, u194, u195, u196, u197, u198, u199, u200, u201, u202, u203, u204, u205, u206, u207, u208, u209, u210, u211, u212, u213, u214, u215, u216, u217, u218, u219, u220, u221, u222, u223, u224, u225, u226, u227, u228, u229, u230, u231, u232, u233, u234, u235, u236, u237, u238, u239, u240, u241, u242, u243, u244, u245, u246, u247, u248, u249, u250, u251, u252, u253, u254, u255, u256, u257, u258, u259, u260, u261, u262, u263, u264, u265, u266, u267, u268, u269, u270, u271, u272, u273, u274, u275, u276, u277, u278, u279, u280, u281, u282, u283, u284, u285, u286, u287, u288, u289, u290, u291, u292, u293, u294, u295, u296, u297, u298, u299, u300, u301, u302, u303, u304, u305, u306, u307, u308, u309, u310, u311, u312, u313, u314, u315, u316, u317, u318, u319, u320, u321, u322, u323, u324, u325, u326, u327, u328, u329, u330, u331, u332, u333, u334, u335, u336, u337, u338, u339, u340, u341, u342, u343, u344, u345, u346, u347, u348, u349, u350, u351, u352, u353, u354, u355, u356, u357, u358, u359, u360, u361, u362, u363, u364, u365, u366, u367, u368, u369, u370, u371, u372, u373, u374], []⟩ wr := by
  conv => arg 2; whnf
  have c2 := HV.out.c2
  have hVb : Hid (∀ wx, Below wr.heap.size wr wx → Env L0 L1 L2 L3 Lp n0 n1 n2 n3 k lo pc B K V S Nm β wx) := fun wx hx => HV.out.below hx
  go_wp2
  have HB8 : Hid (∀ wx, Below wr.heap.size wr wx → Below w.heap.size w wx) := fun wx hx => HB7.out.trans (hx.mono HB7.out.size)
  go_loopw [34, 35, 36, 37] (fun d s t v wx => ∃ i : Nat, i ≤ k ∧ v = .int .i64 i ∧ d = .int .i64 (Pl.cnt (Pl.lastB S Nm k) i : Nat) ∧ s = .int .i64 (wrap64 (Pl.sm S V i)) ∧ t = .int .i64 (wrap64 (Pl.sm (Pl.lastB S Nm k) (fun x => Pl.sm (fun j => S j && decide (Nm j = Nm x)) V k) i)) ∧ Below wr.heap.size wr wx) (fun _ _ _ v _ => k - (intOf v).toNat)
  case atStart => exact ⟨0, Nat.zero_le _, rfl, rfl, by rw [Pl.sm, Pl.wrap_zero], by rw [Pl.sm, Pl.wrap_zero], Below.refl _ _⟩
  case round =>
    obtain ⟨i, hi, rfl, rfl, rfl, rfl, hbel⟩ := hrel
    have HW := hVb.out wr hbel
    have HVx : Hid (Env L0 L1 L2 L3 Lp n0 n1 n2 n3 k lo pc B K V S Nm β wr) := HW
    have HBx : Hid (Below w.heap.size w wr) := HB8.out wr hbel
    clear HW c2
    have c2 := HVx.out.c2
    have hcl := Pl.cnt_le (Pl.lastB S Nm k) i
    by_cases hik : i < k
    · have f1 := HVx.out.e1 i (by omega)
      have f2 := HVx.out.e2 i (by omega)
      have f3 := HVx.out.e3 i (by omega)
      have i1 : (i : Int) < (n1 : Int) := by omega
      have i2 : (i : Int) < (n2 : Int) := by omega
      have i3 : (i : Int) < (n3 : Int) := by omega
      have HN : Hid (Pl.cnt (Pl.lastB S Nm k) (i + 1) = Pl.cnt (Pl.lastB S Nm k) i + if Pl.lastB S Nm k i then 1 else 0) := rfl
      have HA : Hid (Pl.sm S V (i + 1) = Pl.sm S V i + if S i then V i else 0) := rfl
      have HT : Hid (Pl.sm (Pl.lastB S Nm k) (fun x => Pl.sm (fun j => S j && decide (Nm j = Nm x)) V k) (i + 1) = Pl.sm (Pl.lastB S Nm k) (fun x => Pl.sm (fun j => S j && decide (Nm j = Nm x)) V k) i + if Pl.lastB S Nm k i then Pl.sm (fun j => S j && decide (Nm j = Nm i)) V k else 0) := rfl
      have HBE : Hid (Below _ _ wr) := hbel
      clear hbel
      cases hs : S i
      · have hl : Pl.lastB S Nm k i = false := by unfold Pl.lastB; rw [hs]; rfl
        rw [hl] at HN HT
        rw [hs] at HA f2
        clear hs hl
        go_wp2
        go_roundw
        case rel => exact ⟨i + 1, by omega, by go_num, by rw [HN.out]; simp, by rw [HA.out]; simp, by rw [HT.out]; simp, HBE.out⟩
        case measure => simp [intOf]; omega
      · have HC : Hid (Calls Try.prog 29 #[.slice (some ⟨L2, 0, none⟩) n2 n2, .slice (some ⟨L3, 0, none⟩) n3 n3, .int .i64 i, .int .i64 k] wr fun e w' => e = .returned (.bool (Pl.lastB S Nm k i)) ∧ ∃ q, w' = wr.drewN q) :=
          last29 L2 0 n2 n2 S L3 0 n3 n3 Nm i k wr hik m2 s2 hs (from0 HVx.out.e2) m3 s3 (from0 HVx.out.e3)
        rw [hs] at HA f2
        have HSi : Hid (S i = true) := hs
        clear hs
        go_wp2_with fail
        refine HC.out.mono ?_
        rintro e w6 ⟨rfl, q', rfl⟩
        clear HC
        cases hl : Pl.lastB S Nm k i
        · rw [hl] at HN HT
          clear hl
          go_wp2
          go_roundw
          case rel => exact ⟨i + 1, by omega, by go_num, by rw [HN.out]; simp, by rw [HA.out]; simp [Pl.wrap_add_l], by rw [HT.out]; simp, bdrew HBE.out q'⟩
          case measure => simp [intOf]; omega
        · rw [hl] at HN HT
          clear hl
          have hmet : Met S Nm k (Nm i) := ⟨i, hik, HSi.out, rfl⟩
          have HL1 : Hid (∀ q, (Instr.lookup 41 (.map (some B)) (.string (Nm i)) false).run Try.prog (wr.drewN q) = .ok (.map (some (β (Nm i)))) (wr.drewN q)) := fun q => Scp.look (w := wr.drewN q) (HVx.out.scp.drewN q) (HK3.out i) hmet false
          have HT1 : Hid (Tal wr (β (Nm i)) (2 * k) (aT S Nm K V k (Nm i))) := HVx.out.scp.tal hmet
          have HLn : Hid (((aT S Nm K V k (Nm i)).length : Int) = (Pl.cnt (fun j => lsB S Nm K k j && decide (Nm j = Nm i)) k : Nat)) := by
            show _ = _
            rw [aT_len]
          have HSm : Hid (wrap64 (((aT S Nm K V k (Nm i)).map Prod.snd).sum) = wrap64 (Pl.sm (fun j => S j && decide (Nm j = Nm i)) V k)) := aT_sum S Nm K V k (Nm i)
          clear hmet
          go_wp2
          go_loopw [38, 39] (fun c v wx => ∃ j : Nat, j ≤ k ∧ v = .int .i64 j ∧ c = .int .i64 (Pl.cnt (fun j => lsB S Nm K k j && decide (Nm j = Nm i)) j : Nat) ∧ ∃ q, wx = wr.drewN q) (fun _ v _ => k - (intOf v).toNat)
          case atStart => exact ⟨0, Nat.zero_le _, rfl, rfl, _, rfl⟩
          case round =>
            obtain ⟨j, hj, rfl, rfl, q2, rfl⟩ := hrel
            have hcl2 := Pl.cnt_le (fun j => lsB S Nm K k j && decide (Nm j = Nm i)) j
            by_cases hjk : j < k
            · have f4 := HVx.out.e3 j (by omega)
              have f5 := HVx.out.g3 j hjk
              have i4 : (j : Int) < (n3 : Int) := by omega
              have i5 : (j : Int) < (k : Int) := by omega
              have HN2 : Hid (Pl.cnt (fun j => lsB S Nm K k j && decide (Nm j = Nm i)) (j + 1) = Pl.cnt (fun j => lsB S Nm K k j && decide (Nm j = Nm i)) j + if (lsB S Nm K k j && decide (Nm j = Nm i)) then 1 else 0) := rfl
              cases hlj : lsB S Nm K k j
              · rw [hlj] at f5 HN2
                clear hlj
                go_wp2
                go_quiet (fail)
                go_wp2
                go_roundw
                case rel => exact ⟨j + 1, by omega, by go_num, by rw [HN2.out]; simp, _, rfl⟩
                case measure => simp [intOf]; omega
              · rw [hlj] at f5 HN2
                clear hlj
                by_cases he : Nm j = Nm i
                · have hb := streq_t he
                  rw [decide_eq_true he] at HN2
                  clear he
                  go_wp2
                  go_quiet (fail)
                  go_wp2
                  go_roundw
                  case rel => exact ⟨j + 1, by omega, by go_num, by rw [HN2.out]; simp, _, rfl⟩
                  case measure => simp [intOf]; omega
                · have hb := streq_f he
                  rw [decide_eq_false he] at HN2
                  clear he
                  go_wp2
                  go_quiet (fail)
                  go_wp2
                  go_roundw
                  case rel => exact ⟨j + 1, by omega, by go_num, by rw [HN2.out]; simp, _, rfl⟩
                  case measure => simp [intOf]; omega
            · have hjk' : j = k := by omega
              subst hjk'
              have hL1 := HL1.out
              go_wp2
              go_quiet (fail)
              go_wp2_with (at_len; refine wpList_len_tal _ rfl _ rfl (β (Nm i)) (2 * j) (aT S Nm K V j (Nm i)) rfl HT1.out ?_; rw [HLn.out])
              refine (sum_any (β (Nm i)) (2 * j) _ (wr.drewN (q2 + nq)) HT1.out).mono ?_
              rintro e w8 ⟨rfl, bel8⟩
              rw [HSm.out]
              have HB9 : Hid (Below _ _ w8) := (bdrew HBE.out (q2 + nq)).trans (bel8.mono HBE.out.size)
              clear bel8 HBE
              go_wp2
              go_roundw
              case rel => exact ⟨i + 1, by omega, by go_num, by rw [HN.out]; simp, by rw [HA.out]; simp [Pl.wrap_add_l], by rw [HT.out]; simp [Pl.wrap_add_l, Pl.wrap_add_r], HB9.out⟩
              case measure => simp [intOf]; omega
    · have hik' : i = k := by omega
      subst hik'
      have HE : Hid (wrap64 (Pl.sm (Pl.lastB S Nm i) (fun x => Pl.sm (fun j => S j && decide (Nm j = Nm x)) V i) i) = wrap64 (Pl.sm S V i)) := by
        show _ = _
        rw [all_sum]
      clear hbel
      rw [HE.out]
      go_wp2_with (at_len; refine wpList_len_scp _ rfl _ rfl B rfl HVx.out.scp ?_)
      go_ret
      exact ⟨ret_bool (by simp), HBx.out⟩

end Go.Proofs.Qxb6603978a
