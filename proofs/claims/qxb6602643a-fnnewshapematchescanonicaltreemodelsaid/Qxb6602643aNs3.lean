/- newShape's third phase: the nodes are made. -/
import Derived.Test.Qxb6602643aNs4
import Derived.Test.Qxb6602643aNsKit4
namespace Go.Proofs.Qxb6602643a
open Go.RowKit
set_option linter.unusedVariables false

set_option maxRecDepth 100000 in
set_option maxHeartbeats 4000000 in
theorem ns_tail3 {L C : Nat → Nat} {w wr : World} {cb lb g M cap : Nat}
    (hcb : cb < w.heap.size) (hlb : lb < w.heap.size)
    (hC : ∀ i, i < 256 → w.cell? ⟨cb, i, none⟩ = some (.int .u64 (C i : Int))) (hC64 : ∀ i, i < 256 → C i < 18446744073709551616)
    (hL : ∀ i, i < 256 → w.cell? ⟨lb, i, none⟩ = some (.int .u8 (L i : Int))) (hK : SK L (lonT L 32) ≤ 2 ^ 32)
    (hD0 : NsC L w g M [] (M + 2) cap (fun _ => 0) wr)
    {u2 u3 u4 u8 u9 u10 u11 u12 u13 u14 u15 u16 u17 u18 u19 u20 u21 u22 u23 u24 u25 u26 u27 u28 u29 u30 u31 u32 u33 u34 u35 u36 u37 u38 u39 u40 u41 u42 u43 u44 u45 u46 u47 u48 u49 u50 u51 u52 u53 u54 u55 u56 u57 u58 u59 u60 u61 u62 u63 u64 u65 u66 u67 u68 u69 u70 u71 u72 u73 u74 u75 u76 u77 u78 u79 u80 u81 u82 u83 u84 u85 u86 u87 u88 u89 u90 u91 u92 u93 u94 u95 u96 u97 u98 u99 u100 u101 u102 u103 u104 u105 u106 u107 u108 u109 u110 u111 u112 u113 u114 u115 u116 u117 u118 u119 u120 u121 u122 u123 u124 u125 u126 u127 u128 u129 u130 u131 u132 u133 u134 u135 u136 u137 u138 u139 u140 u141 u142 u143 u144 u145 u146 u147 u148 u149 u150 u151 u152 u153 u154 u155 u156 u157 u158 u159 u160 u161 u162 u163 u164 u165 u166 u167 u168 u169 u170 u171 u172 u173 u174 u175 u176 u177 u178 u179 u180 u181 u182 u183 u184 u185 u186 u187 u188 u189 u190 u191 u192 u193 u194 u195 u196 u197 u198 u199 u200 u201 u202 u203 u204 u205 u206 u207 u208 u209 u210 u211 u212 u213 u214 u215 u216 u217 u218 u219 u220 u221 u222 u223 u224 u225 u226 u227 u228 u229 u230 u231 u232 u233 u234 u235 u236 u237 u238 u239 u240 u241 u242 u243 u244 u245 u246 u247 u248 u249 u250 u251 u252 u253 u254 u255 u256 u257 u258 u259 u260 u261 u262 u263 u264 u265 u266 u267 u268 u269 u270 u271 u272 u273 u274 u275 u276 u277 u278 u279 u280 u281 u282 u283 u284 u285 u286 u287 u288 u289 u290 u291 u292 u293 u294 u295 u296 u297 u298 u299 u300 u301 u302 u303 u304 u305 u306 u307 u308 u309 u310 u311 u312 u313 u314 u315 u316 u317 u318 : Value} :
    Code.wp Try.prog (tailC 8 (Try.f23.body.getD .skip)) (bodyPost Try.prog Try.f23 (NsPost L C w)) ⟨#[.pointer (some ⟨cb, 0, none⟩), .pointer (some ⟨lb, 0, none⟩), u2, u3, u4, .pointer (some ⟨w.heap.size, 0, none⟩), .slice (some ⟨g, 0, none⟩) (lonT L 32) (lonT L 32), .pointer (some ⟨M, 0, none⟩), u8, u9, u10, u11, u12, u13, u14, u15, u16, u17, u18, u19, u20, u21, u22, u23, u24, u25, u26, u27, u28, u29, u30, u31, u32, u33, u34, u35, u36, u37, u38, u39, u40, u41, u42, u43, u44, u45, u46, u47, u48, u49, u50, u51, u52, u53, u54, u55, u56, u57, u58, u59, u60, u61, u62, u63, u64, u65, u66, u67, u68, u69, u70, u71, u72, u73, u74, u75, u76, u77, u78, u79, u80, u81, u82, u83, u84, u85, u86, u87, u88, u89, u90, u91, u92, u93, u94, u95, u96, u97, u98, u99, u100, u101, u102, u103, u104, u105, u106, u107, u108, u109, u110, u111, u112, u113, u114, u115, u116, u117, u118, u119, u120, u121, u122, u123, u124, u125, u126, u127, u128, u129, u130, u131, u132, u133, u134, u135, u136, u137, u138, u139, u140, u141, u142, u143, u144, u145, u146, u147, u148, u149, u150, u151, u152, u153, u154, u155, u156, u157, u158, u159, u160, u161, u162, u163, u164, u165, u166, u167, u168, u169, u170, u171, u172, u173, u174, u175, u176, u177, u178, u179, u180, u181, u182, u183, u184, u185, u186, u187, u188, u189, u190, u191, u192, u193, u194, u195, u196, u197, u198, u199, u200, u201, u202, u203, u204, u205, u206, u207, u208, u209, u210, u211, u212, u213, u214, u215, u216, u217, u218, u219, u220, u221, u222, u223, u224, u225, u226, u227, u228, u229, u230, u231, u232, u233, u234, u235, u236, u237, u238, u239, u240, u241, u242, u243, u244, u245, u246, u247, u248, u249, u250, u251, u252, u253, u254, u255, u256, u257, u258, u259, u260, u261, u262, u263, u264, u265, u266, u267, u268, u269, u270, u271, u272, u273, u274, u275, u276, u277, u278, u279, u280, u281, u282, u283, u284, u285, u286, u287, u288, u289, u290, u291, u292, u293, u294, u295, u296, u297, u298, u299, u300, u301, u302, u303, u304, u305, u306, u307, u308, u309, u310, u311, u312, u313, u314, u315, u316, u317, u318], []⟩ wr := by
  have HC : Hid _ := hC
  have HC64 : Hid _ := hC64
  have HL : Hid _ := hL
  have HK : Hid _ := hK
  clear hC hC64 hL hK
  obtain ⟨i67, hi67, hz67, hs67, hb67⟩ := info_parts Try.info67
  have HI67 : Hid _ := And.intro hi67 (And.intro hz67 (And.intro hs67 hb67))
  clear hi67 hz67 hs67 hb67
  have b32 := lonT_le L 32
  conv => arg 2; whnf
  go_wp2_with fail
  go_loopg [16] 33 (fun k s16 wx => ∃ d : Nat, k = 33 - d ∧ d ≤ 32 ∧ s16 = .int .i64 d ∧
    ∃ nb cap F, NsC L w g M (dl L d) nb cap F wx ∧ PI L d 0 F)
  case atStart => exact ⟨0, rfl, by omega, rfl, _, _, _, hD0, fun q e hq he hc => by
    have := (lon_le_iff L q e hq).2 he
    rcases hc with hc | ⟨rfl, hc⟩ <;> omega⟩
  case round =>
    clear hD0
    obtain ⟨d, hk0, hd, rfl, nb, cap, F, hD, hPI⟩ := hrel
    have hk : Hid _ := hk0
    have HPI : Hid _ := hPI
    clear hk0 hPI
    have g1 : wr.cell? ⟨M, d, none⟩ = some (.int .i64 (lonT L d : Nat)) := hD.B.lon.cell (by omega)
    have b1 := lonT_le L d
    by_cases hlt : lonT L d < lonT L 32
    · have hltI : (lonT L d : Int) < (lonT L 32 : Int) := by omega
      have hltD : decide ((lonT L d : Int) < (lonT L 32 : Int)) = true := by rw [decide_eq_true_eq]; omega
      have hleI : (lonT L d : Int) ≤ (lonT L 32 : Int) := by omega
      have hne : ¬ lonT L 32 = lonT L d := by omega
      go_wp2_with fail
      go_loopg [17, 128] (lonT L 32 - lonT L d) (fun k s17 s128 wx => ∃ m : Nat, k = lonT L 32 - lonT L d - m ∧ m ≤ lonT L 32 - lonT L d ∧ s128 = .int .i64 m ∧ s17 = .int .u64 (prefT L d m : Nat) ∧
        ∃ nb cap F, NsC L w g M (dlm L d m) nb cap F wx ∧ PI L d m F)
      case atStart => exact ⟨0, rfl, by omega, rfl, rfl, nb, cap, F, by rw [dlm_zero]; exact hD, HPI.out⟩
      case round =>
        clear hD HPI g1
        obtain ⟨m, hk1, hm, rfl, rfl, nb, cap, F, hD, hPI⟩ := hrel
        have hk2 : Hid _ := hk1
        have HPI : Hid _ := hPI
        clear hk1 hPI
        by_cases hlt2 : lonT L d + m < lonT L 32
        · have hlt2I : (m : Int) < (lonT L 32 : Int) - (lonT L d : Int) := by omega
          have hlt2J : (m : Int) < ((lonT L 32 - lonT L d : Nat) : Int) := by omega
          obtain ⟨a1, a2, a3, a4⟩ := oc_facts L (lonT L d + m) hlt2
          have hdl : d < ol L (lonT L d + m) := (lon_le_iff L _ d hlt2).1 (by omega)
          have hdlI : (d : Int) < (ol L (lonT L d + m) : Int) := by omega
          have hpl := pr_lt L (lonT L d + m) (ol L (lonT L d + m)) HK.out hlt2 a3
          have hpl2 : 2 ^ ol L (lonT L d + m) ≤ 4294967296 := Nat.le_trans (pow_le a3) (Nat.le_of_eq rfl)
          have hcnt := idN_cnt L d m
          have hlen := dlm_length L d m
          have hNB := NB_le L d
          have hcle := cntN_le L d m (by omega)
          have hoff := off_lt L (lonT L d + m) d hlt2 hdl
          have hshr := shr_val L (lonT L d + m) d hlt2 hdl
          have hprefs : m ≠ 0 → prefT L d m = pr L (lonT L d + (m - 1)) d := fun h => by unfold prefT; rw [if_neg h]
          have hnext : m ≠ 0 → pr L (lonT L d + m) d ≠ pr L (lonT L d + (m - 1)) d → cntN L d (m + 1) = cntN L d m + 1 := fun h1 h2 => cntN_next L d m h1 hlt2 h2
          have hsame : m ≠ 0 → pr L (lonT L d + m) d = pr L (lonT L d + (m - 1)) d → cntN L d (m + 1) = cntN L d m := fun h1 h2 => cntN_same L d m h1 h2
          have hfirst : m = 0 → cntN L d (m + 1) = cntN L d m + 1 := fun h => by subst h; rw [cntN_first]; simp [cntN]
          have hpsucc : prefT L d (m + 1) = pr L (lonT L d + m) d := by unfold prefT; rw [if_neg (by omega), Nat.add_sub_cancel]
          have hstep : PI L d (m + 1) (fun x => if x = offT L (lonT L d + m) + d then idN L (lonT L d + m) d else F x) := PI_step HPI.out hlt2 hdl
          have hcode : codT L (lonT L 32) (oc L (lonT L d + m)) = pr L (lonT L d + m) (ol L (lonT L d + m)) := codT_all L _ hlt2
          have hpath : pthT L (M + 1) (lonT L 32) (oc L (lonT L d + m)) = .slice (some ⟨M + 1, offT L (lonT L d + m), none⟩) (ol L (lonT L d + m)) (ol L (lonT L d + m)) := pthT_all L _ _ hlt2
          have hord := hD.B.ord.cell hlt2
          have hll : wr.cell? ⟨lb, oc L (lonT L d + m), none⟩ = some (.int .u8 (ol L (lonT L d + m) : Int)) := by rw [hD.B.bel.cell (p := ⟨lb, oc L (lonT L d + m), none⟩) hlb]; exact HL.out _ a1
          have HH : Hid _ := And.intro hcnt (And.intro hlen (And.intro hprefs (And.intro hnext (And.intro hsame (And.intro hfirst (And.intro hpsucc (And.intro hstep (And.intro hpath a4))))))))
          have g3 : wr.cell? ⟨w.heap.size, 257 + oc L (lonT L d + m), none⟩ = some (.int .u64 (pr L (lonT L d + m) (ol L (lonT L d + m)) : Nat)) := by rw [hD.sh.cell (by omega), shF_code, hcode]
          clear hcnt hlen hprefs hnext hsame hfirst hpsucc hstep hpath hcode a4 HPI
          generalize hol : ol L (lonT L d + m) = l at *
          generalize hoc : oc L (lonT L d + m) = c at *
          have HO : Hid _ := And.intro hol hoc
          clear hol hoc
          go_upto_region 28 with fail
          go_quiet (fail)
          go_upto_region 29 with fail
          have hD1 := hD.drewN nq
          clear hD g3 hord hll hshr
          generalize wr.drewN nq = W0 at *
          obtain ⟨nw, hnw0⟩ : ∃ nw : Bool, nw = true ↔ (m = 0 ∨ pr L (lonT L d + m) d ≠ prefT L d m) := ⟨decide (m = 0 ∨ pr L (lonT L d + m) d ≠ prefT L d m), by simp⟩
          have HNW : Hid _ := hnw0
          clear hnw0
          go_cut [128, 154] from 128 to 182 (fun s128 s154 wc => s128 = .int .i64 m ∧ s154 = .bool nw ∧ W0 = wc)
          case first =>
            by_cases hm0 : m = 0
            · have hmb : ((m : Int) == 0) = true := by rw [beq_iff_eq]; omega
              have HM0 : Hid _ := hm0
              clear hm0
              go_wp2_with fail
              go_meet
              case rel =>
                have : nw = true := HNW.out.2 (.inl HM0.out)
                exact ⟨rfl, by rw [this], rfl⟩
            · have hmb : ((m : Int) == 0) = false := by rw [beq_eq_false_iff_ne]; omega
              by_cases hpp : pr L (lonT L d + m) d = prefT L d m
              · have hpb : ((pr L (lonT L d + m) d : Int) != (prefT L d m : Int)) = false := by rw [bne_eq_false_iff_eq, hpp]
                have HPP : Hid _ := hpp
                clear hpp
                go_wp2_with fail
                go_meet
                case rel =>
                  have : nw = false := by
                    cases nw
                    · rfl
                    · rcases HNW.out.1 rfl with x | x
                      · exact absurd x hm0
                      · exact absurd HPP.out x
                  exact ⟨rfl, by rw [this], rfl⟩
              · have hpb : ((pr L (lonT L d + m) d : Int) != (prefT L d m : Int)) = true := by rw [bne_iff_ne]; omega
                go_wp2_with fail
                go_meet
                case rel =>
                  have : nw = true := HNW.out.2 (.inr hpp)
                  exact ⟨rfl, by rw [this], rfl⟩
          case rest =>
            obtain ⟨rfl, rfl, rfl⟩ := hcut
            go_upto_if 154 with fail
            go_cut [17, 128] from 128 to 182 (fun s17 s128 wc => s128 = .int .i64 m ∧ s17 = .int .u64 (pr L (lonT L d + m) d : Nat) ∧ ∃ nb cap, NsC L w g M (dlm L d (m + 1)) nb cap F wc)
            case first =>
              cases nw with
              | true =>
                have g0 : W0.cell? ⟨w.heap.size, 0, none⟩ = some (.slice (some ⟨nb, 0, none⟩) (dlm L d m).length cap) := hD1.sh.cell (by omega)
                have hb1 := run_b67 (d : Int)
                have hb2 := run_bs67 (d : Int)
                have hle := hD1.le
                have hpush : dlm L d (m + 1) = dlm L d m ++ [d] := dlm_push L d m (by
                  rcases HNW.out.1 rfl with x | x
                  · exact HH.out.2.2.2.2.2.1 x
                  · by_cases y : m = 0
                    · exact HH.out.2.2.2.2.2.1 y
                    · exact HH.out.2.2.2.1 y (by rw [← HH.out.2.2.1 y]; exact x))
                have hlen2 := HH.out.2.1
                have HP : Hid _ := And.intro hpush hlen2
                clear hpush
                have hlb2 : (dlm L d m).length ≤ 16384 := by omega
                clear hlen2
                go_upto_region 31 with (at_builtin; refine wpList_append_own _ rfl _ _ 63 rfl (M + 2) 67 i67 _ 9 56 Try.underlying63 HI67.out.1 HI67.out.2.1 HI67.out.2.2.1 HI67.out.2.2.2 rfl (by omega) (.slice (some ⟨nb, 0, none⟩) (dlm L d m).length cap) (dlm L d m).length (nodeCells (dlm L d m)) rfl ?ao ⟨W0.heap.size, 0, none⟩ 1 1 (nodeA (d : Int)).toList rfl rfl ?an ?a1 ?a63 ?ab ?abase ?_)
                case ao => exact hD1.own.alloc _
                case an =>
                  intro j u h
                  simpa [nodeA] using h
                case a1 => exact fun u hu => nodeA_one (d : Int) u (Array.mem_toList_iff.2 hu)
                case a63 => unfold maxLen; omega
                case ab => omega
                case abase => omega
                intro v' W5 hown hgr _
                obtain ⟨nb', cap', hv, c1, c2, hD2⟩ := hD1.push d _ hown hgr
                rw [hv]
                have hl2 : (dlm L d m ++ [d]).length = (dlm L d m).length + 1 := by simp
                clear hown hgr hv
                go_wp2_with fail
                go_meet
                case rel =>
                  refine ⟨rfl, rfl, nb', cap', ?_⟩
                  rw [HP.out.1]
                  exact hD2
              | false =>
                go_wp2_with fail
                go_meet
                case rel =>
                  have hx : ¬ (m = 0 ∨ pr L (lonT L d + m) d ≠ prefT L d m) := fun h => by have := HNW.out.2 h; simp at this
                  have h0 : m ≠ 0 := fun h => hx (.inl h)
                  have h1 : pr L (lonT L d + m) d = prefT L d m := Classical.byContradiction fun h => hx (.inr h)
                  have h2 : dlm L d (m + 1) = dlm L d m := dlm_same L d m (HH.out.2.2.2.2.1 h0 (by rw [← HH.out.2.2.1 h0]; exact h1))
                  refine ⟨rfl, by rw [h1], nb, cap, ?_⟩
                  rw [h2]
                  exact hD1
            case rest =>
              obtain ⟨rfl, rfl, nb', cap', hD3⟩ := hcut
              clear hD1
              have hpt := HH.out.2.2.2.2.2.2.2.2.1
              have hl3 := dlm_length L d (m + 1)
              have hcnt := HH.out.1
              have hlen3 : (dlm L d (m + 1)).length = idN L (lonT L d + m) d + 1 := by omega
              have hidb : idN L (lonT L d + m) d ≤ 16384 := by
                have := HH.out.2.1
                have h1 := cntN_le L d (m + 1) (by omega)
                omega
              have g0 : wc.cell? ⟨w.heap.size, 0, none⟩ = some (.slice (some ⟨nb', 0, none⟩) (idN L (lonT L d + m) d + 1) cap') := by rw [← hlen3]; exact hD3.sh.cell (by omega)
              have g1 : wc.cell? ⟨w.heap.size, 1 + c, none⟩ = some (.slice (some ⟨M + 1, offT L (lonT L d + m), none⟩) l l) := by rw [hD3.sh.cell (by omega), shF_path _ _ _ _ a1, hpt]
              have g2 : wc.cell? ⟨M + 1, offT L (lonT L d + m) + d, none⟩ = some (.int .i32 (F (offT L (lonT L d + m) + d) : Nat)) := hD3.pb.cell hoff
              have g3 : wc.frozen? ⟨M + 1, offT L (lonT L d + m) + d, none⟩ = false := hD3.pb.frozen _
              clear hpt hl3 hcnt hlen3
              go_wp2_with fail
              go_region
              go_wp2_with fail
              go_roundg (lonT L 32 - lonT L d - (m + 1))
              case measure => have := hk2.out; omega
              case rel =>
                refine ⟨m + 1, rfl, by omega, by go_num, by rw [HH.out.2.2.2.2.2.2.1], nb', cap', _, ?_, HH.out.2.2.2.2.2.2.2.1⟩
                exact (hD3.setPath _ _).drew
        · have hm' : m = lonT L 32 - lonT L d := by omega
          have hlt2J : ¬ (m : Int) < ((lonT L 32 - lonT L d : Nat) : Int) := by omega
          go_wp2_with fail
          go_roundg (33 - (d + 1))
          case measure => have := hk.out; omega
          case rel =>
            have hd32 : d ≠ 32 := by rintro rfl; omega
            rw [hm', dlm_all L d (by omega)] at hD
            have hP := HPI.out
            rw [hm'] at hP
            exact ⟨d + 1, rfl, by omega, by go_num, nb, cap, F, hD, PI_next hP⟩
    · have hltI : ¬ (lonT L d : Int) < (lonT L 32 : Int) := by omega
      have hE := hD.toD (C := C) HPI.out hd (by omega)
      have HE : Hid _ := hE
      clear hE hD
      go_upto_if 119 with fail
      go_step
      go_step
      go_step
      go_step
      exact ns_tail4 hcb hlb HC.out HC64.out HL.out HK.out HE.out (CH_start L)
end Go.Proofs.Qxb6602643a
