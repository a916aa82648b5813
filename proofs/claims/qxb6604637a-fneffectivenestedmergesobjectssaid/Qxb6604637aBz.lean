/- zzBytes_FnEffectiveNestedMergesObjects. -/
import Derived.Test.Qxb6604637aBy
namespace Go.Proofs.Qxb6604637a
open Go.RowKit
set_option linter.unusedVariables false

/-- a bool comes back; where it is true P holds -/
def BzPost (w : World) (P : Prop) (e : Ending) (w' : World) : Prop := w' = w ∧ ∃ r : Bool, e = .returned (.bool r) ∧ (r = true → P)
/-- the strings of rows are short -/
def Short (N : Nat) (L : Nat → Nat) (V : Nat → Nat → ByteArray) : Prop := ∀ i, i < N → ∀ j, j < L i → (V i j).size ≤ 1048576

set_option maxHeartbeats 4000000 in
set_option maxRecDepth 100000 in
theorem bz3 (w : World) (t : Nat) (ht : t ≤ 1048576) (aV : Option Addr) (NV cV : Nat) (AV : Nat → Option Addr) (LV CV : Nat → Nat) (VV : Nat → Nat → ByteArray) (hV : InRows w aV NV AV LV CV (fun i j => .string (VV i j))) (X : Prop) (hX : Short NV LV VV → X)
    {u0 u1 u2 u4 u5 u6 u7 u8 u10 u11 u12 u13 u14 u15 u16 u17 u18 u19 u20 u21 u22 u23 u24 u25 u26 u27 u28 u29 u30 u31 u32 u33 u34 u35 u36 u37 u38 u39 u40 u41 u42 u43 u44 u45 u46 u47 u48 u49 u50 u51 u52 u53 u54 u55 u56 u57 u58 u59 u60 u61 u62 u63 u64 u65 u66 u67 u68 u69 u70 u71 u72 u73 u74 u75 u76 u77 u78 u79 u80 u81 u82 u83 u84 u85 u86 u87 u88 u89 u90 u91 u92 u93 u94 u95 u96 u97 u98 u99 u100 u101 u102 u103 u104 u105 u106 u107 u108 u109 u110 u111 u112 u113 u114 u115 u116 u117 u118 u119 u120 u121 u122 u123 u124 u125 u126 u127 u128 u129 u130 u131 u132 u133 u134 u135 u136 u137 u138 u139 u140 u141 u142 u143 u144 u145 u146 u147 u148 u149 u150 u151 u152 u153 u154 u155 u156 u157 u158 u159 u160 u161 u162 u163 u164 u165 u166 u167 u168 u169 u170 u171 u172 u173 u174 u175 u176 u177 u178 u179 u180 u181 u182 u183 u184 u185 u186 u187 u188 u189 u190 u191 u192 u193 u194 u195 u196 u197 u198 u199 u200 u201 u202 u203 u204 u205 u206 u207 u208 u209 u210 u211 u212 u213 u214 u215 u216 u217 u218 u219 u220 u221 u222 u223 u224 u225 u226 : Value} :
    Code.wp Try.prog (tailC 14 (Try.f12.body.getD .skip)) (bodyPost Try.prog Try.f12 (BzPost w X)) ⟨#[u0, u1, u2, .slice aV NV cV, u4, u5, u6, u7, u8, .int .i64 (t : Nat), u10, u11, u12, u13, u14, u15, u16, u17, u18, u19, u20, u21, u22, u23, u24, u25, u26, u27, u28, u29, u30, u31, u32, u33, u34, u35, u36, u37, u38, u39, u40, u41, u42, u43, u44, u45, u46, u47, u48, u49, u50, u51, u52, u53, u54, u55, u56, u57, u58, u59, u60, u61, u62, u63, u64, u65, u66, u67, u68, u69, u70, u71, u72, u73, u74, u75, u76, u77, u78, u79, u80, u81, u82, u83, u84, u85, u86, u87, u88, u89, u90, u91, u92, u93, u94, u95, u96, u97, u98, u99, u100, u101, u102, u103, u104, u105, u106, u107, u108, u109, u110, u111, u112, u113, u114, u115, u116, u117, u118, u119, u120, u121, u122, u123, u124, u125, u126, u127, u128, u129, u130, u131, u132, u133, u134, u135, u136, u137, u138, u139, u140, u141, u142, u143, u144, u145, u146, u147, u148, u149, u150, u151, u152, u153, u154, u155, u156, u157, u158, u159, u160, u161, u162, u163, u164, u165, u166, u167, u168, u169, u170, u171, u172, u173, u174, u175, u176, u177, u178, u179, u180, u181, u182, u183, u184, u185, u186, u187, u188, u189, u190, u191, u192, u193, u194, u195, u196, u197, u198, u199, u200, u201, u202, u203, u204, u205, u206, u207, u208, u209, u210, u211, u212, u213, u214, u215, u216, u217, u218, u219, u220, u221, u222, u223, u224, u225, u226], []⟩ w := by
  have HV : Hid (InRows w aV NV AV LV CV (fun i j => .string (VV i j))) := hV
  clear hV
  conv => arg 2; whnf
  by_cases hN : NV ≤ 1048576
  · have hNI : ¬ (1048576 : Int) < (NV : Int) := by omega
    have d0 : decide ((1048576 : Int) < (NV : Int)) = false := by rw [decide_eq_false_iff_not]; omega
    by_cases hT : t + NV ≤ 1048576
    · have hTI : ¬ (1048576 : Int) < (t : Int) + (NV : Int) := by omega
      have d1 : decide ((1048576 : Int) < (t : Int) + (NV : Int)) = false := by rw [decide_eq_false_iff_not]; omega
      go_wp2_with fail
      clear d0 d1 hTI
      go_loopg [9, 15] NV (fun k s9 s15 wr => ∃ i t' : Nat, k = NV - i ∧ i ≤ NV ∧ s15 = .int .i64 (i : Nat) ∧ s9 = .int .i64 (t' : Nat) ∧ t' ≤ 1048576 ∧ (∀ x, x < i → ∀ y, y < LV x → (VV x y).size ≤ 1048576) ∧ wr = w)
      case atStart => exact ⟨0, t + NV, rfl, by omega, rfl, by go_num, by omega, fun x hx => absurd hx (by omega), rfl⟩
      case round =>
        obtain ⟨i, t', hk, hi, rfl, rfl, ht', hsh, rfl⟩ := hrel
        have HK : Hid _ := hk
        have HSH : Hid (∀ x, x < i → ∀ y, y < LV x → (VV x y).size ≤ 1048576) := hsh
        clear hk hsh
        by_cases hiN : i < NV
        · have hiI : (i : Int) < (NV : Int) := by omega
          cases aV with
          | none => exact absurd (HV.out.nil rfl) (by omega)
          | some x =>
            have gc := HV.out.cell x rfl i hiN
            obtain ⟨Ai, hAi⟩ : ∃ Ai, Ai = AV i := ⟨_, rfl⟩
            rw [← hAi] at gc
            have HAI : Hid (AV i = Ai) := hAi.symm
            clear hAi
            by_cases hL : LV i ≤ 1048576
            · have hLI : ¬ (1048576 : Int) < (LV i : Int) := by omega
              have dL : decide ((1048576 : Int) < (LV i : Int)) = false := by rw [decide_eq_false_iff_not]; omega
              by_cases hs : t' + LV i ≤ 1048576
              · have hsI : ¬ (1048576 : Int) < (t' : Int) + (LV i : Int) := by omega
                have dS : decide ((1048576 : Int) < (t' : Int) + (LV i : Int)) = false := by rw [decide_eq_false_iff_not]; omega
                go_wp2_with fail
                clear hsI dS dL
                go_loopg [9, 16] (LV i) (fun k s9 s16 wx => ∃ j t2 : Nat, k = LV i - j ∧ j ≤ LV i ∧ s16 = .int .i64 (j : Nat) ∧ s9 = .int .i64 (t2 : Nat) ∧ t2 ≤ 1048576 ∧ (∀ y, y < j → (VV i y).size ≤ 1048576) ∧ wx = wr)
                case atStart => exact ⟨0, t' + LV i, rfl, by omega, rfl, by go_num, by omega, fun y hy => absurd hy (by omega), rfl⟩
                case round =>
                  obtain ⟨j, t2, hk2, hj, rfl, rfl, ht2, hsh2, rfl⟩ := hrel
                  have HK2 : Hid _ := hk2
                  have HS2 : Hid (∀ y, y < j → (VV i y).size ≤ 1048576) := hsh2
                  clear hk2 hsh2
                  by_cases hjL : j < LV i
                  · have hjI : (j : Int) < (LV i : Int) := by omega
                    obtain ⟨y, rfl⟩ : ∃ y, Ai = some y := by
                      cases Ai with
                      | none => exact absurd (HV.out.zero i hiN HAI.out) (by omega)
                      | some y => exact ⟨y, rfl⟩
                    have gs := HV.out.elem i hiN y HAI.out j hjL
                    by_cases hz : (VV i j).size ≤ 1048576
                    · have hzI : ¬ (1048576 : Int) < ((VV i j).size : Int) := by omega
                      by_cases ho : t2 + (VV i j).size ≤ 1048576
                      · have hoI : ¬ (1048576 : Int) < (t2 : Int) + ((VV i j).size : Int) := by omega
                        go_wp2_with fail
                        go_roundg (LV i - (j + 1))
                        case measure => have := HK2.out; omega
                        case rel =>
                          refine ⟨j + 1, t2 + (VV i j).size, by omega, by omega, by go_num, by go_num, by omega, fun y hy => ?_, rfl⟩
                          by_cases e : y = j
                          · subst e; exact hz
                          · exact HS2.out y (by omega)
                      · have hoI : (1048576 : Int) < (t2 : Int) + ((VV i j).size : Int) := by omega
                        go_wp2_with fail
                        go_ret
                        exact ⟨rfl, false, rfl, fun h => by cases h⟩
                    · have hzI : (1048576 : Int) < ((VV i j).size : Int) := by omega
                      go_wp2_with fail
                      go_ret
                      exact ⟨rfl, false, rfl, fun h => by cases h⟩
                  · have hjI : ¬ (j : Int) < (LV i : Int) := by omega
                    go_wp2_with fail
                    go_roundg (NV - (i + 1))
                    case measure => have := HK.out; omega
                    case rel =>
                      refine ⟨i + 1, t2, by omega, by omega, by go_num, rfl, by omega, fun x hx y hy => ?_, rfl⟩
                      by_cases e : x = i
                      · subst e; exact HS2.out y (by omega)
                      · exact HSH.out x (by omega) y hy
              · have hsI : (1048576 : Int) < (t' : Int) + (LV i : Int) := by omega
                go_wp2_with fail
                go_ret
                exact ⟨rfl, false, rfl, fun h => by cases h⟩
            · have hLI : (1048576 : Int) < (LV i : Int) := by omega
              go_wp2_with fail
              go_ret
              exact ⟨rfl, false, rfl, fun h => by cases h⟩
        · have hiI : ¬ (i : Int) < (NV : Int) := by omega
          obtain rfl : i = NV := by omega
          go_wp2_with fail
          go_ret
          exact ⟨rfl, true, rfl, fun _ => hX HSH.out⟩
    · have hTI : (1048576 : Int) < (t : Int) + (NV : Int) := by omega
      go_wp2_with fail
      go_ret
      exact ⟨rfl, false, rfl, fun h => by cases h⟩
  · have hNI : (1048576 : Int) < (NV : Int) := by omega
    go_wp2_with fail
    go_ret
    exact ⟨rfl, false, rfl, fun h => by cases h⟩

set_option maxHeartbeats 4000000 in
set_option maxRecDepth 100000 in
theorem bz2 (w : World) (t : Nat) (ht : t ≤ 1048576) (aB : Option Addr) (NB cB : Nat) (AB : Nat → Option Addr) (LB CB : Nat → Nat) (VB : Nat → Nat → Bool) (hB : InRows w aB NB AB LB CB (fun i j => .bool (VB i j))) (aV : Option Addr) (NV cV : Nat) (AV : Nat → Option Addr) (LV CV : Nat → Nat) (VV : Nat → Nat → ByteArray) (hV : InRows w aV NV AV LV CV (fun i j => .string (VV i j))) (X : Prop) (hX : Short NV LV VV → X)
    {u0 u1 u4 u5 u6 u7 u8 u10 u11 u12 u13 u14 u15 u16 u17 u18 u19 u20 u21 u22 u23 u24 u25 u26 u27 u28 u29 u30 u31 u32 u33 u34 u35 u36 u37 u38 u39 u40 u41 u42 u43 u44 u45 u46 u47 u48 u49 u50 u51 u52 u53 u54 u55 u56 u57 u58 u59 u60 u61 u62 u63 u64 u65 u66 u67 u68 u69 u70 u71 u72 u73 u74 u75 u76 u77 u78 u79 u80 u81 u82 u83 u84 u85 u86 u87 u88 u89 u90 u91 u92 u93 u94 u95 u96 u97 u98 u99 u100 u101 u102 u103 u104 u105 u106 u107 u108 u109 u110 u111 u112 u113 u114 u115 u116 u117 u118 u119 u120 u121 u122 u123 u124 u125 u126 u127 u128 u129 u130 u131 u132 u133 u134 u135 u136 u137 u138 u139 u140 u141 u142 u143 u144 u145 u146 u147 u148 u149 u150 u151 u152 u153 u154 u155 u156 u157 u158 u159 u160 u161 u162 u163 u164 u165 u166 u167 u168 u169 u170 u171 u172 u173 u174 u175 u176 u177 u178 u179 u180 u181 u182 u183 u184 u185 u186 u187 u188 u189 u190 u191 u192 u193 u194 u195 u196 u197 u198 u199 u200 u201 u202 u203 u204 u205 u206 u207 u208 u209 u210 u211 u212 u213 u214 u215 u216 u217 u218 u219 u220 u221 u222 u223 u224 u225 u226 : Value} :
    Code.wp Try.prog (tailC 10 (Try.f12.body.getD .skip)) (bodyPost Try.prog Try.f12 (BzPost w X)) ⟨#[u0, u1, .slice aB NB cB, .slice aV NV cV, u4, u5, u6, u7, u8, .int .i64 (t : Nat), u10, u11, u12, u13, u14, u15, u16, u17, u18, u19, u20, u21, u22, u23, u24, u25, u26, u27, u28, u29, u30, u31, u32, u33, u34, u35, u36, u37, u38, u39, u40, u41, u42, u43, u44, u45, u46, u47, u48, u49, u50, u51, u52, u53, u54, u55, u56, u57, u58, u59, u60, u61, u62, u63, u64, u65, u66, u67, u68, u69, u70, u71, u72, u73, u74, u75, u76, u77, u78, u79, u80, u81, u82, u83, u84, u85, u86, u87, u88, u89, u90, u91, u92, u93, u94, u95, u96, u97, u98, u99, u100, u101, u102, u103, u104, u105, u106, u107, u108, u109, u110, u111, u112, u113, u114, u115, u116, u117, u118, u119, u120, u121, u122, u123, u124, u125, u126, u127, u128, u129, u130, u131, u132, u133, u134, u135, u136, u137, u138, u139, u140, u141, u142, u143, u144, u145, u146, u147, u148, u149, u150, u151, u152, u153, u154, u155, u156, u157, u158, u159, u160, u161, u162, u163, u164, u165, u166, u167, u168, u169, u170, u171, u172, u173, u174, u175, u176, u177, u178, u179, u180, u181, u182, u183, u184, u185, u186, u187, u188, u189, u190, u191, u192, u193, u194, u195, u196, u197, u198, u199, u200, u201, u202, u203, u204, u205, u206, u207, u208, u209, u210, u211, u212, u213, u214, u215, u216, u217, u218, u219, u220, u221, u222, u223, u224, u225, u226], []⟩ w := by
  have HB : Hid (InRows w aB NB AB LB CB (fun i j => .bool (VB i j))) := hB
  have HV : Hid (InRows w aV NV AV LV CV (fun i j => .string (VV i j))) := hV
  clear hB hV
  conv => arg 2; whnf
  by_cases hN : NB ≤ 1048576
  · have hNI : ¬ (1048576 : Int) < (NB : Int) := by omega
    have d0 : decide ((1048576 : Int) < (NB : Int)) = false := by rw [decide_eq_false_iff_not]; omega
    by_cases hT : t + NB ≤ 1048576
    · have hTI : ¬ (1048576 : Int) < (t : Int) + (NB : Int) := by omega
      have d1 : decide ((1048576 : Int) < (t : Int) + (NB : Int)) = false := by rw [decide_eq_false_iff_not]; omega
      go_wp2_with fail
      clear d0 d1 hTI
      go_loopg [9, 14] NB (fun k s9 s14 wr => ∃ i t' : Nat, k = NB - i ∧ i ≤ NB ∧ s14 = .int .i64 (i : Nat) ∧ s9 = .int .i64 (t' : Nat) ∧ t' ≤ 1048576 ∧ wr = w)
      case atStart => exact ⟨0, t + NB, rfl, by omega, rfl, by go_num, by omega, rfl⟩
      case round =>
        obtain ⟨i, t', hk, hi, rfl, rfl, ht', rfl⟩ := hrel
        have HK : Hid _ := hk
        clear hk
        by_cases hiN : i < NB
        · have hiI : (i : Int) < (NB : Int) := by omega
          cases aB with
          | none => exact absurd (HB.out.nil rfl) (by omega)
          | some x =>
            have gc := HB.out.cell x rfl i hiN
            obtain ⟨Ai, hAi⟩ : ∃ Ai, Ai = AB i := ⟨_, rfl⟩
            rw [← hAi] at gc
            have HAI : Hid (AB i = Ai) := hAi.symm
            clear hAi
            by_cases hL : LB i ≤ 1048576
            · have hLI : ¬ (1048576 : Int) < (LB i : Int) := by omega
              have dL : decide ((1048576 : Int) < (LB i : Int)) = false := by rw [decide_eq_false_iff_not]; omega
              by_cases hs : t' + LB i ≤ 1048576
              · have hsI : ¬ (1048576 : Int) < (t' : Int) + (LB i : Int) := by omega
                have dS : decide ((1048576 : Int) < (t' : Int) + (LB i : Int)) = false := by rw [decide_eq_false_iff_not]; omega
                go_wp2_with fail
                go_roundg (NB - (i + 1))
                case measure => have := HK.out; omega
                case rel => exact ⟨i + 1, t' + LB i, by omega, by omega, by go_num, by go_num, by omega, rfl⟩
              · have hsI : (1048576 : Int) < (t' : Int) + (LB i : Int) := by omega
                go_wp2_with fail
                go_ret
                exact ⟨rfl, false, rfl, fun h => by cases h⟩
            · have hLI : (1048576 : Int) < (LB i : Int) := by omega
              go_wp2_with fail
              go_ret
              exact ⟨rfl, false, rfl, fun h => by cases h⟩
        · have hiI : ¬ (i : Int) < (NB : Int) := by omega
          obtain rfl : i = NB := by omega
          go_upto_if 149 with fail
          go_step
          go_step
          go_step
          go_step
          exact bz3 wr t' ht' aV NV cV AV LV CV VV HV.out X hX
    · have hTI : (1048576 : Int) < (t : Int) + (NB : Int) := by omega
      go_wp2_with fail
      go_ret
      exact ⟨rfl, false, rfl, fun h => by cases h⟩
  · have hNI : (1048576 : Int) < (NB : Int) := by omega
    go_wp2_with fail
    go_ret
    exact ⟨rfl, false, rfl, fun h => by cases h⟩

set_option maxHeartbeats 4000000 in
set_option maxRecDepth 100000 in
theorem bz1 (w : World) (t : Nat) (ht : t ≤ 1048576) (aI : Option Addr) (NI cI : Nat) (AI : Nat → Option Addr) (LI CI : Nat → Nat) (VI : Nat → Nat → ByteArray) (hI : InRows w aI NI AI LI CI (fun i j => .string (VI i j))) (aB : Option Addr) (NB cB : Nat) (AB : Nat → Option Addr) (LB CB : Nat → Nat) (VB : Nat → Nat → Bool) (hB : InRows w aB NB AB LB CB (fun i j => .bool (VB i j))) (aV : Option Addr) (NV cV : Nat) (AV : Nat → Option Addr) (LV CV : Nat → Nat) (VV : Nat → Nat → ByteArray) (hV : InRows w aV NV AV LV CV (fun i j => .string (VV i j))) (X : Prop) (hX : Short NI LI VI ∧ Short NV LV VV → X)
    {u0 u4 u5 u6 u7 u8 u10 u11 u12 u13 u14 u15 u16 u17 u18 u19 u20 u21 u22 u23 u24 u25 u26 u27 u28 u29 u30 u31 u32 u33 u34 u35 u36 u37 u38 u39 u40 u41 u42 u43 u44 u45 u46 u47 u48 u49 u50 u51 u52 u53 u54 u55 u56 u57 u58 u59 u60 u61 u62 u63 u64 u65 u66 u67 u68 u69 u70 u71 u72 u73 u74 u75 u76 u77 u78 u79 u80 u81 u82 u83 u84 u85 u86 u87 u88 u89 u90 u91 u92 u93 u94 u95 u96 u97 u98 u99 u100 u101 u102 u103 u104 u105 u106 u107 u108 u109 u110 u111 u112 u113 u114 u115 u116 u117 u118 u119 u120 u121 u122 u123 u124 u125 u126 u127 u128 u129 u130 u131 u132 u133 u134 u135 u136 u137 u138 u139 u140 u141 u142 u143 u144 u145 u146 u147 u148 u149 u150 u151 u152 u153 u154 u155 u156 u157 u158 u159 u160 u161 u162 u163 u164 u165 u166 u167 u168 u169 u170 u171 u172 u173 u174 u175 u176 u177 u178 u179 u180 u181 u182 u183 u184 u185 u186 u187 u188 u189 u190 u191 u192 u193 u194 u195 u196 u197 u198 u199 u200 u201 u202 u203 u204 u205 u206 u207 u208 u209 u210 u211 u212 u213 u214 u215 u216 u217 u218 u219 u220 u221 u222 u223 u224 u225 u226 : Value} :
    Code.wp Try.prog (tailC 6 (Try.f12.body.getD .skip)) (bodyPost Try.prog Try.f12 (BzPost w X)) ⟨#[u0, .slice aI NI cI, .slice aB NB cB, .slice aV NV cV, u4, u5, u6, u7, u8, .int .i64 (t : Nat), u10, u11, u12, u13, u14, u15, u16, u17, u18, u19, u20, u21, u22, u23, u24, u25, u26, u27, u28, u29, u30, u31, u32, u33, u34, u35, u36, u37, u38, u39, u40, u41, u42, u43, u44, u45, u46, u47, u48, u49, u50, u51, u52, u53, u54, u55, u56, u57, u58, u59, u60, u61, u62, u63, u64, u65, u66, u67, u68, u69, u70, u71, u72, u73, u74, u75, u76, u77, u78, u79, u80, u81, u82, u83, u84, u85, u86, u87, u88, u89, u90, u91, u92, u93, u94, u95, u96, u97, u98, u99, u100, u101, u102, u103, u104, u105, u106, u107, u108, u109, u110, u111, u112, u113, u114, u115, u116, u117, u118, u119, u120, u121, u122, u123, u124, u125, u126, u127, u128, u129, u130, u131, u132, u133, u134, u135, u136, u137, u138, u139, u140, u141, u142, u143, u144, u145, u146, u147, u148, u149, u150, u151, u152, u153, u154, u155, u156, u157, u158, u159, u160, u161, u162, u163, u164, u165, u166, u167, u168, u169, u170, u171, u172, u173, u174, u175, u176, u177, u178, u179, u180, u181, u182, u183, u184, u185, u186, u187, u188, u189, u190, u191, u192, u193, u194, u195, u196, u197, u198, u199, u200, u201, u202, u203, u204, u205, u206, u207, u208, u209, u210, u211, u212, u213, u214, u215, u216, u217, u218, u219, u220, u221, u222, u223, u224, u225, u226], []⟩ w := by
  have HI : Hid (InRows w aI NI AI LI CI (fun i j => .string (VI i j))) := hI
  have HB : Hid (InRows w aB NB AB LB CB (fun i j => .bool (VB i j))) := hB
  have HV : Hid (InRows w aV NV AV LV CV (fun i j => .string (VV i j))) := hV
  clear hI hB hV
  conv => arg 2; whnf
  by_cases hN : NI ≤ 1048576
  · have hNI : ¬ (1048576 : Int) < (NI : Int) := by omega
    have d0 : decide ((1048576 : Int) < (NI : Int)) = false := by rw [decide_eq_false_iff_not]; omega
    by_cases hT : t + NI ≤ 1048576
    · have hTI : ¬ (1048576 : Int) < (t : Int) + (NI : Int) := by omega
      have d1 : decide ((1048576 : Int) < (t : Int) + (NI : Int)) = false := by rw [decide_eq_false_iff_not]; omega
      go_wp2_with fail
      clear d0 d1 hTI
      go_loopg [9, 12] NI (fun k s9 s12 wr => ∃ i t' : Nat, k = NI - i ∧ i ≤ NI ∧ s12 = .int .i64 (i : Nat) ∧ s9 = .int .i64 (t' : Nat) ∧ t' ≤ 1048576 ∧ (∀ x, x < i → ∀ y, y < LI x → (VI x y).size ≤ 1048576) ∧ wr = w)
      case atStart => exact ⟨0, t + NI, rfl, by omega, rfl, by go_num, by omega, fun x hx => absurd hx (by omega), rfl⟩
      case round =>
        obtain ⟨i, t', hk, hi, rfl, rfl, ht', hsh, rfl⟩ := hrel
        have HK : Hid _ := hk
        have HSH : Hid (∀ x, x < i → ∀ y, y < LI x → (VI x y).size ≤ 1048576) := hsh
        clear hk hsh
        by_cases hiN : i < NI
        · have hiI : (i : Int) < (NI : Int) := by omega
          cases aI with
          | none => exact absurd (HI.out.nil rfl) (by omega)
          | some x =>
            have gc := HI.out.cell x rfl i hiN
            obtain ⟨Ai, hAi⟩ : ∃ Ai, Ai = AI i := ⟨_, rfl⟩
            rw [← hAi] at gc
            have HAI : Hid (AI i = Ai) := hAi.symm
            clear hAi
            by_cases hL : LI i ≤ 1048576
            · have hLI : ¬ (1048576 : Int) < (LI i : Int) := by omega
              have dL : decide ((1048576 : Int) < (LI i : Int)) = false := by rw [decide_eq_false_iff_not]; omega
              by_cases hs : t' + LI i ≤ 1048576
              · have hsI : ¬ (1048576 : Int) < (t' : Int) + (LI i : Int) := by omega
                have dS : decide ((1048576 : Int) < (t' : Int) + (LI i : Int)) = false := by rw [decide_eq_false_iff_not]; omega
                go_wp2_with fail
                clear hsI dS dL
                go_loopg [9, 13] (LI i) (fun k s9 s13 wx => ∃ j t2 : Nat, k = LI i - j ∧ j ≤ LI i ∧ s13 = .int .i64 (j : Nat) ∧ s9 = .int .i64 (t2 : Nat) ∧ t2 ≤ 1048576 ∧ (∀ y, y < j → (VI i y).size ≤ 1048576) ∧ wx = wr)
                case atStart => exact ⟨0, t' + LI i, rfl, by omega, rfl, by go_num, by omega, fun y hy => absurd hy (by omega), rfl⟩
                case round =>
                  obtain ⟨j, t2, hk2, hj, rfl, rfl, ht2, hsh2, rfl⟩ := hrel
                  have HK2 : Hid _ := hk2
                  have HS2 : Hid (∀ y, y < j → (VI i y).size ≤ 1048576) := hsh2
                  clear hk2 hsh2
                  by_cases hjL : j < LI i
                  · have hjI : (j : Int) < (LI i : Int) := by omega
                    obtain ⟨y, rfl⟩ : ∃ y, Ai = some y := by
                      cases Ai with
                      | none => exact absurd (HI.out.zero i hiN HAI.out) (by omega)
                      | some y => exact ⟨y, rfl⟩
                    have gs := HI.out.elem i hiN y HAI.out j hjL
                    by_cases hz : (VI i j).size ≤ 1048576
                    · have hzI : ¬ (1048576 : Int) < ((VI i j).size : Int) := by omega
                      by_cases ho : t2 + (VI i j).size ≤ 1048576
                      · have hoI : ¬ (1048576 : Int) < (t2 : Int) + ((VI i j).size : Int) := by omega
                        go_wp2_with fail
                        go_roundg (LI i - (j + 1))
                        case measure => have := HK2.out; omega
                        case rel =>
                          refine ⟨j + 1, t2 + (VI i j).size, by omega, by omega, by go_num, by go_num, by omega, fun y hy => ?_, rfl⟩
                          by_cases e : y = j
                          · subst e; exact hz
                          · exact HS2.out y (by omega)
                      · have hoI : (1048576 : Int) < (t2 : Int) + ((VI i j).size : Int) := by omega
                        go_wp2_with fail
                        go_ret
                        exact ⟨rfl, false, rfl, fun h => by cases h⟩
                    · have hzI : (1048576 : Int) < ((VI i j).size : Int) := by omega
                      go_wp2_with fail
                      go_ret
                      exact ⟨rfl, false, rfl, fun h => by cases h⟩
                  · have hjI : ¬ (j : Int) < (LI i : Int) := by omega
                    go_wp2_with fail
                    go_roundg (NI - (i + 1))
                    case measure => have := HK.out; omega
                    case rel =>
                      refine ⟨i + 1, t2, by omega, by omega, by go_num, rfl, by omega, fun x hx y hy => ?_, rfl⟩
                      by_cases e : x = i
                      · subst e; exact HS2.out y (by omega)
                      · exact HSH.out x (by omega) y hy
              · have hsI : (1048576 : Int) < (t' : Int) + (LI i : Int) := by omega
                go_wp2_with fail
                go_ret
                exact ⟨rfl, false, rfl, fun h => by cases h⟩
            · have hLI : (1048576 : Int) < (LI i : Int) := by omega
              go_wp2_with fail
              go_ret
              exact ⟨rfl, false, rfl, fun h => by cases h⟩
        · have hiI : ¬ (i : Int) < (NI : Int) := by omega
          obtain rfl : i = NI := by omega
          go_upto_if 89 with fail
          go_step
          go_step
          go_step
          go_step
          exact bz2 wr t' ht' aB NB cB AB LB CB VB HB.out aV NV cV AV LV CV VV HV.out X (fun h => hX ⟨HSH.out, h⟩)
    · have hTI : (1048576 : Int) < (t : Int) + (NI : Int) := by omega
      go_wp2_with fail
      go_ret
      exact ⟨rfl, false, rfl, fun h => by cases h⟩
  · have hNI : (1048576 : Int) < (NI : Int) := by omega
    go_wp2_with fail
    go_ret
    exact ⟨rfl, false, rfl, fun h => by cases h⟩

set_option maxHeartbeats 4000000 in
set_option maxRecDepth 100000 in
theorem bz0 (w : World) (t : Nat) (ht : t ≤ 1048576) (aO : Option Addr) (NO cO : Nat) (AO : Nat → Option Addr) (LO CO : Nat → Nat) (VO : Nat → Nat → ByteArray) (hO : InRows w aO NO AO LO CO (fun i j => .string (VO i j))) (aI : Option Addr) (NI cI : Nat) (AI : Nat → Option Addr) (LI CI : Nat → Nat) (VI : Nat → Nat → ByteArray) (hI : InRows w aI NI AI LI CI (fun i j => .string (VI i j))) (aB : Option Addr) (NB cB : Nat) (AB : Nat → Option Addr) (LB CB : Nat → Nat) (VB : Nat → Nat → Bool) (hB : InRows w aB NB AB LB CB (fun i j => .bool (VB i j))) (aV : Option Addr) (NV cV : Nat) (AV : Nat → Option Addr) (LV CV : Nat → Nat) (VV : Nat → Nat → ByteArray) (hV : InRows w aV NV AV LV CV (fun i j => .string (VV i j))) (X : Prop) (hX : Short NO LO VO ∧ Short NI LI VI ∧ Short NV LV VV → X)
    {u4 u5 u6 u7 u8 u10 u11 u12 u13 u14 u15 u16 u17 u18 u19 u20 u21 u22 u23 u24 u25 u26 u27 u28 u29 u30 u31 u32 u33 u34 u35 u36 u37 u38 u39 u40 u41 u42 u43 u44 u45 u46 u47 u48 u49 u50 u51 u52 u53 u54 u55 u56 u57 u58 u59 u60 u61 u62 u63 u64 u65 u66 u67 u68 u69 u70 u71 u72 u73 u74 u75 u76 u77 u78 u79 u80 u81 u82 u83 u84 u85 u86 u87 u88 u89 u90 u91 u92 u93 u94 u95 u96 u97 u98 u99 u100 u101 u102 u103 u104 u105 u106 u107 u108 u109 u110 u111 u112 u113 u114 u115 u116 u117 u118 u119 u120 u121 u122 u123 u124 u125 u126 u127 u128 u129 u130 u131 u132 u133 u134 u135 u136 u137 u138 u139 u140 u141 u142 u143 u144 u145 u146 u147 u148 u149 u150 u151 u152 u153 u154 u155 u156 u157 u158 u159 u160 u161 u162 u163 u164 u165 u166 u167 u168 u169 u170 u171 u172 u173 u174 u175 u176 u177 u178 u179 u180 u181 u182 u183 u184 u185 u186 u187 u188 u189 u190 u191 u192 u193 u194 u195 u196 u197 u198 u199 u200 u201 u202 u203 u204 u205 u206 u207 u208 u209 u210 u211 u212 u213 u214 u215 u216 u217 u218 u219 u220 u221 u222 u223 u224 u225 u226 : Value} :
    Code.wp Try.prog (tailC 2 (Try.f12.body.getD .skip)) (bodyPost Try.prog Try.f12 (BzPost w X)) ⟨#[.slice aO NO cO, .slice aI NI cI, .slice aB NB cB, .slice aV NV cV, u4, u5, u6, u7, u8, .int .i64 (t : Nat), u10, u11, u12, u13, u14, u15, u16, u17, u18, u19, u20, u21, u22, u23, u24, u25, u26, u27, u28, u29, u30, u31, u32, u33, u34, u35, u36, u37, u38, u39, u40, u41, u42, u43, u44, u45, u46, u47, u48, u49, u50, u51, u52, u53, u54, u55, u56, u57, u58, u59, u60, u61, u62, u63, u64, u65, u66, u67, u68, u69, u70, u71, u72, u73, u74, u75, u76, u77, u78, u79, u80, u81, u82, u83, u84, u85, u86, u87, u88, u89, u90, u91, u92, u93, u94, u95, u96, u97, u98, u99, u100, u101, u102, u103, u104, u105, u106, u107, u108, u109, u110, u111, u112, u113, u114, u115, u116, u117, u118, u119, u120, u121, u122, u123, u124, u125, u126, u127, u128, u129, u130, u131, u132, u133, u134, u135, u136, u137, u138, u139, u140, u141, u142, u143, u144, u145, u146, u147, u148, u149, u150, u151, u152, u153, u154, u155, u156, u157, u158, u159, u160, u161, u162, u163, u164, u165, u166, u167, u168, u169, u170, u171, u172, u173, u174, u175, u176, u177, u178, u179, u180, u181, u182, u183, u184, u185, u186, u187, u188, u189, u190, u191, u192, u193, u194, u195, u196, u197, u198, u199, u200, u201, u202, u203, u204, u205, u206, u207, u208, u209, u210, u211, u212, u213, u214, u215, u216, u217, u218, u219, u220, u221, u222, u223, u224, u225, u226], []⟩ w := by
  have HO : Hid (InRows w aO NO AO LO CO (fun i j => .string (VO i j))) := hO
  have HI : Hid (InRows w aI NI AI LI CI (fun i j => .string (VI i j))) := hI
  have HB : Hid (InRows w aB NB AB LB CB (fun i j => .bool (VB i j))) := hB
  have HV : Hid (InRows w aV NV AV LV CV (fun i j => .string (VV i j))) := hV
  clear hO hI hB hV
  conv => arg 2; whnf
  by_cases hN : NO ≤ 1048576
  · have hNI : ¬ (1048576 : Int) < (NO : Int) := by omega
    have d0 : decide ((1048576 : Int) < (NO : Int)) = false := by rw [decide_eq_false_iff_not]; omega
    by_cases hT : t + NO ≤ 1048576
    · have hTI : ¬ (1048576 : Int) < (t : Int) + (NO : Int) := by omega
      have d1 : decide ((1048576 : Int) < (t : Int) + (NO : Int)) = false := by rw [decide_eq_false_iff_not]; omega
      go_wp2_with fail
      clear d0 d1 hTI
      go_loopg [9, 10] NO (fun k s9 s10 wr => ∃ i t' : Nat, k = NO - i ∧ i ≤ NO ∧ s10 = .int .i64 (i : Nat) ∧ s9 = .int .i64 (t' : Nat) ∧ t' ≤ 1048576 ∧ (∀ x, x < i → ∀ y, y < LO x → (VO x y).size ≤ 1048576) ∧ wr = w)
      case atStart => exact ⟨0, t + NO, rfl, by omega, rfl, by go_num, by omega, fun x hx => absurd hx (by omega), rfl⟩
      case round =>
        obtain ⟨i, t', hk, hi, rfl, rfl, ht', hsh, rfl⟩ := hrel
        have HK : Hid _ := hk
        have HSH : Hid (∀ x, x < i → ∀ y, y < LO x → (VO x y).size ≤ 1048576) := hsh
        clear hk hsh
        by_cases hiN : i < NO
        · have hiI : (i : Int) < (NO : Int) := by omega
          cases aO with
          | none => exact absurd (HO.out.nil rfl) (by omega)
          | some x =>
            have gc := HO.out.cell x rfl i hiN
            obtain ⟨Ai, hAi⟩ : ∃ Ai, Ai = AO i := ⟨_, rfl⟩
            rw [← hAi] at gc
            have HAI : Hid (AO i = Ai) := hAi.symm
            clear hAi
            by_cases hL : LO i ≤ 1048576
            · have hLI : ¬ (1048576 : Int) < (LO i : Int) := by omega
              have dL : decide ((1048576 : Int) < (LO i : Int)) = false := by rw [decide_eq_false_iff_not]; omega
              by_cases hs : t' + LO i ≤ 1048576
              · have hsI : ¬ (1048576 : Int) < (t' : Int) + (LO i : Int) := by omega
                have dS : decide ((1048576 : Int) < (t' : Int) + (LO i : Int)) = false := by rw [decide_eq_false_iff_not]; omega
                go_wp2_with fail
                clear hsI dS dL
                go_loopg [9, 11] (LO i) (fun k s9 s11 wx => ∃ j t2 : Nat, k = LO i - j ∧ j ≤ LO i ∧ s11 = .int .i64 (j : Nat) ∧ s9 = .int .i64 (t2 : Nat) ∧ t2 ≤ 1048576 ∧ (∀ y, y < j → (VO i y).size ≤ 1048576) ∧ wx = wr)
                case atStart => exact ⟨0, t' + LO i, rfl, by omega, rfl, by go_num, by omega, fun y hy => absurd hy (by omega), rfl⟩
                case round =>
                  obtain ⟨j, t2, hk2, hj, rfl, rfl, ht2, hsh2, rfl⟩ := hrel
                  have HK2 : Hid _ := hk2
                  have HS2 : Hid (∀ y, y < j → (VO i y).size ≤ 1048576) := hsh2
                  clear hk2 hsh2
                  by_cases hjL : j < LO i
                  · have hjI : (j : Int) < (LO i : Int) := by omega
                    obtain ⟨y, rfl⟩ : ∃ y, Ai = some y := by
                      cases Ai with
                      | none => exact absurd (HO.out.zero i hiN HAI.out) (by omega)
                      | some y => exact ⟨y, rfl⟩
                    have gs := HO.out.elem i hiN y HAI.out j hjL
                    by_cases hz : (VO i j).size ≤ 1048576
                    · have hzI : ¬ (1048576 : Int) < ((VO i j).size : Int) := by omega
                      by_cases ho : t2 + (VO i j).size ≤ 1048576
                      · have hoI : ¬ (1048576 : Int) < (t2 : Int) + ((VO i j).size : Int) := by omega
                        go_wp2_with fail
                        go_roundg (LO i - (j + 1))
                        case measure => have := HK2.out; omega
                        case rel =>
                          refine ⟨j + 1, t2 + (VO i j).size, by omega, by omega, by go_num, by go_num, by omega, fun y hy => ?_, rfl⟩
                          by_cases e : y = j
                          · subst e; exact hz
                          · exact HS2.out y (by omega)
                      · have hoI : (1048576 : Int) < (t2 : Int) + ((VO i j).size : Int) := by omega
                        go_wp2_with fail
                        go_ret
                        exact ⟨rfl, false, rfl, fun h => by cases h⟩
                    · have hzI : (1048576 : Int) < ((VO i j).size : Int) := by omega
                      go_wp2_with fail
                      go_ret
                      exact ⟨rfl, false, rfl, fun h => by cases h⟩
                  · have hjI : ¬ (j : Int) < (LO i : Int) := by omega
                    go_wp2_with fail
                    go_roundg (NO - (i + 1))
                    case measure => have := HK.out; omega
                    case rel =>
                      refine ⟨i + 1, t2, by omega, by omega, by go_num, rfl, by omega, fun x hx y hy => ?_, rfl⟩
                      by_cases e : x = i
                      · subst e; exact HS2.out y (by omega)
                      · exact HSH.out x (by omega) y hy
              · have hsI : (1048576 : Int) < (t' : Int) + (LO i : Int) := by omega
                go_wp2_with fail
                go_ret
                exact ⟨rfl, false, rfl, fun h => by cases h⟩
            · have hLI : (1048576 : Int) < (LO i : Int) := by omega
              go_wp2_with fail
              go_ret
              exact ⟨rfl, false, rfl, fun h => by cases h⟩
        · have hiI : ¬ (i : Int) < (NO : Int) := by omega
          obtain rfl : i = NO := by omega
          go_upto_if 29 with fail
          go_step
          go_step
          go_step
          go_step
          exact bz1 wr t' ht' aI NI cI AI LI CI VI HI.out aB NB cB AB LB CB VB HB.out aV NV cV AV LV CV VV HV.out X (fun h => hX ⟨HSH.out, h⟩)
    · have hTI : (1048576 : Int) < (t : Int) + (NO : Int) := by omega
      go_wp2_with fail
      go_ret
      exact ⟨rfl, false, rfl, fun h => by cases h⟩
  · have hNI : (1048576 : Int) < (NO : Int) := by omega
    go_wp2_with fail
    go_ret
    exact ⟨rfl, false, rfl, fun h => by cases h⟩

set_option maxHeartbeats 1000000 in
set_option maxRecDepth 100000 in
theorem bytes12_any (w : World) (aO : Option Addr) (NO cO : Nat) (AO : Nat → Option Addr) (LO CO : Nat → Nat) (VO : Nat → Nat → ByteArray) (hO : InRows w aO NO AO LO CO (fun i j => .string (VO i j))) (aI : Option Addr) (NI cI : Nat) (AI : Nat → Option Addr) (LI CI : Nat → Nat) (VI : Nat → Nat → ByteArray) (hI : InRows w aI NI AI LI CI (fun i j => .string (VI i j)))
    (aB : Option Addr) (NB cB : Nat) (AB : Nat → Option Addr) (LB CB : Nat → Nat) (VB : Nat → Nat → Bool) (hB : InRows w aB NB AB LB CB (fun i j => .bool (VB i j))) (aV : Option Addr) (NV cV : Nat) (AV : Nat → Option Addr) (LV CV : Nat → Nat) (VV : Nat → Nat → ByteArray) (hV : InRows w aV NV AV LV CV (fun i j => .string (VV i j))) :
    Calls Try.prog 12 #[.slice aO NO cO, .slice aI NI cI, .slice aB NB cB, .slice aV NV cV] w (BzPost w (Short NO LO VO ∧ Short NI LI VI ∧ Short NV LV VV)) := by
  have HO : Hid (InRows w aO NO AO LO CO (fun i j => .string (VO i j))) := hO
  have HI : Hid (InRows w aI NI AI LI CI (fun i j => .string (VI i j))) := hI
  have HB : Hid (InRows w aB NB AB LB CB (fun i j => .bool (VB i j))) := hB
  have HV : Hid (InRows w aV NV AV LV CV (fun i j => .string (VV i j))) := hV
  clear hO hI hB hV
  go_enter Try.func12, Try.ntmps12
  iterate 16 go_step
  exact bz0 w 0 (by omega) aO NO cO AO LO CO VO HO.out aI NI cI AI LI CI VI HI.out aB NB cB AB LB CB VB HB.out aV NV cV AV LV CV VV HV.out _ id
end Go.Proofs.Qxb6604637a
