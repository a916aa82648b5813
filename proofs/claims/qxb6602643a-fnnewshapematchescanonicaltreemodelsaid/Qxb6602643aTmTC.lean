/- FnNewShapeMatchesCanonicalTreeModel: the paths. -/
import Derived.Test.Qxb6602643aTmN
import Derived.Test.Qxb6602643aTmC
namespace Go.Proofs.Qxb6602643a
open Go.RowKit
set_option linter.unusedVariables false

/-- what lies in memory when the law compares -/
structure TmW (L C : Nat → Nat) (cB lB zb PB b8 b9 b10 g12 g13 : Nat) (a12 a13 : Option Addr) (F : Nat → Nat) (ch : Nat → Nat → Int) (W : World) : Prop where
  hC : W.rowIs cB 38 256 (fun i => .int .u64 (C i))
  hL : W.rowIs lB 23 256 (fun i => .int .u8 (L i))
  h8 : W.rowIs b8 41 256 (pthT L PB (lonT L 32))
  h9 : W.rowIs b9 38 256 (fun c => .int .u64 (codT L (lonT L 32) c : Nat))
  h10 : W.rowIs b10 38 256 (fun c => .int .u64 (codT L (lonT L 32) c : Nat))
  hPB : W.rowIs PB 21 (offT L (lonT L 32)) (fun x => .int .i32 (F x : Nat))
  hnd : rowPre W zb 53 (NB L 32 * 9) (ndF (depN L) (stG L C) (lnG L C (lonT L 32) 0) (onG L C (lonT L 32) 0) ch)
  h12 : 0 < NB L 32 → a12 = some ⟨g12, 0, none⟩ ∧ a13 = some ⟨g13, 0, none⟩
  d12 : ∀ k, k < NB L 32 → W.cell? ⟨g12, k, none⟩ = some (.int .i64 (depN L k : Nat))
  d13 : ∀ k, k < NB L 32 → W.cell? ⟨g13, k, none⟩ = some (.int .u64 (prfN L k : Nat))

theorem TmW.keep {L C : Nat → Nat} {cB lB zb PB b8 b9 b10 g12 g13 : Nat} {a12 a13 : Option Addr} {F : Nat → Nat} {ch : Nat → Nat → Int} {W W' : World} (h : TmW L C cB lB zb PB b8 b9 b10 g12 g13 a12 a13 F ch W) (hb : Below W.heap.size W W') : TmW L C cB lB zb PB b8 b9 b10 g12 g13 a12 a13 F ch W' :=
  ⟨h.hC.of_block (hb.block _ h.hC.lt), h.hL.of_block (hb.block _ h.hL.lt), h.h8.of_block (hb.block _ h.h8.lt), h.h9.of_block (hb.block _ h.h9.lt), h.h10.of_block (hb.block _ h.h10.lt), h.hPB.of_block (hb.block _ h.hPB.lt), h.hnd.of_block (hb.block _ h.hnd.lt), h.h12,
   fun k hk => by have := h.d12 k hk; rw [hb.cell (p := ⟨g12, k, none⟩) (block_lt_of_cell this)]; exact this,
   fun k hk => by have := h.d13 k hk; rw [hb.cell (p := ⟨g13, k, none⟩) (block_lt_of_cell this)]; exact this⟩

set_option maxRecDepth 100000 in
set_option maxHeartbeats 1000000 in
theorem tm_tailC {L C : Nat → Nat} {w0 W : World} {cB lB zb PB b8 b9 b10 g12 g13 c12 c13 : Nat} {a12 a13 : Option Addr} {F : Nat → Nat} {ch : Nat → Nat → Int}
    (hbel : Below w0.heap.size w0 W) (hm : ∀ i, i < 256 → L i ≤ 32) (hK : SK L (lonT L 32) ≤ 2 ^ 32)
    (hW : TmW L C cB lB zb PB b8 b9 b10 g12 g13 a12 a13 F ch W) (hPI : PI L 32 0 F)
    {u0 u2 u3 u4 u5 u6 u7 u9 u11 u14 u15 u16 u17 u18 u19 u20 u21 u22 u23 u24 u25 u26 u27 u28 u29 u30 u31 u32 u33 u34 u35 u36 u37 u38 u39 u40 u41 u42 u43 u44 u45 u46 u47 u48 u49 u50 u51 u52 u53 u54 u55 u56 u57 u58 u59 u60 u61 u62 u63 u64 u65 u66 u67 u68 u69 u70 u71 u72 u73 u74 u75 u76 u77 u78 u79 u80 u81 u82 u83 u84 u85 u86 u87 u88 u89 u90 u91 u92 u93 u94 u95 u96 u97 u98 u99 u100 u101 u102 u103 u104 u105 u106 u107 u108 u109 u110 u111 u112 u113 u114 u115 u116 u117 u118 u119 u120 u121 u122 u123 u124 u125 u126 u127 u128 u129 u130 u131 u132 u133 u134 u135 u136 u137 u138 u139 u140 u141 u142 u143 u144 u145 u146 u147 u148 u149 u150 u151 u152 u153 u154 u155 u156 u157 u158 u159 u160 u161 u162 u163 u164 u165 u166 u167 u168 u169 u170 u171 u172 u173 u174 u175 u176 u177 u178 u179 u180 u181 u182 u183 u184 u185 u186 u187 u188 u189 u190 u191 u192 u193 u194 u195 u196 u197 u198 u199 u200 u201 u202 u203 u204 u205 u206 u207 u208 u209 u210 u211 u212 u213 u214 u215 u216 u217 u218 u219 u220 u221 u222 u223 u224 u225 u226 u227 u228 u229 u230 u231 u232 u233 u234 u235 u236 u237 u238 u239 u240 u241 u242 u243 u244 u245 u246 u247 u248 u249 u250 u251 u252 u253 u254 u255 u256 u257 u258 u259 u260 u261 u262 u263 u264 u265 u266 u267 u268 u269 u270 u271 u272 u273 u274 u275 u276 u277 u278 u279 u280 u281 u282 u283 u284 u285 u286 u287 u288 u289 u290 : Value} :
    Code.wp Try.prog (tailC 14 (Try.f6.body.getD .skip)) (bodyPost Try.prog Try.f6 (fun e w' => e = .returned (.bool true) ∧ Below w0.heap.size w0 w')) ⟨#[u0, .pointer (some ⟨lB, 0, none⟩), u2, u3, u4, u5, u6, u7, .pointer (some ⟨b8, 0, none⟩), u9, .pointer (some ⟨b10, 0, none⟩), u11, .slice a12 (NB L 32) c12, .slice a13 (NB L 32) c13, u14, u15, u16, u17, u18, u19, u20, u21, u22, u23, u24, u25, u26, u27, u28, u29, u30, u31, u32, u33, u34, u35, u36, u37, u38, u39, u40, u41, u42, u43, u44, u45, u46, u47, u48, u49, u50, u51, u52, u53, u54, u55, u56, u57, u58, u59, u60, u61, u62, u63, u64, u65, u66, u67, u68, u69, u70, u71, u72, u73, u74, u75, u76, u77, u78, u79, u80, u81, u82, u83, u84, u85, u86, u87, u88, u89, u90, u91, u92, u93, u94, u95, u96, u97, u98, u99, u100, u101, u102, u103, u104, u105, u106, u107, u108, u109, u110, u111, u112, u113, u114, u115, u116, u117, u118, u119, u120, u121, u122, u123, u124, u125, u126, u127, u128, u129, u130, u131, u132, u133, u134, u135, u136, u137, u138, u139, u140, u141, u142, u143, u144, u145, u146, u147, u148, u149, u150, u151, u152, u153, u154, u155, u156, u157, u158, u159, u160, u161, u162, u163, u164, u165, u166, u167, u168, u169, u170, u171, u172, u173, u174, u175, u176, u177, u178, u179, u180, u181, u182, u183, u184, u185, u186, u187, u188, u189, u190, u191, u192, u193, u194, u195, u196, u197, u198, u199, u200, u201, u202, u203, u204, u205, u206, u207, u208, u209, u210, u211, u212, u213, u214, u215, u216, u217, u218, u219, u220, u221, u222, u223, u224, u225, u226, u227, u228, u229, u230, u231, u232, u233, u234, u235, u236, u237, u238, u239, u240, u241, u242, u243, u244, u245, u246, u247, u248, u249, u250, u251, u252, u253, u254, u255, u256, u257, u258, u259, u260, u261, u262, u263, u264, u265, u266, u267, u268, u269, u270, u271, u272, u273, u274, u275, u276, u277, u278, u279, u280, u281, u282, u283, u284, u285, u286, u287, u288, u289, u290], []⟩ W := by
  have bT := NB_le L 32
  have b32 := lonT_le L 32
  have hnil := fun (w : World) (a : Option Addr) (n c : Nat) => run_neq_slice_nil_any (P := Try.prog) w 40 21 a n c 0 0 Try.underlying40
  have HB : Hid _ := hm
  have HK : Hid _ := hK
  have HPI : Hid _ := hPI
  clear hm hK hPI
  conv => arg 2; whnf
  go_wp2_with fail
  go_loopg [28] 256 (fun k s28 wx => ∃ c : Nat, k = 256 - c ∧ c ≤ 256 ∧ s28 = .int .i64 c ∧ ∃ n, wx = W.drewN n)
  case atStart => exact ⟨0, rfl, by omega, rfl, 0, rfl⟩
  case round =>
    obtain ⟨c, hk0, hc, rfl, n, rfl⟩ := hrel
    have hk : Hid _ := hk0
    clear hk0
    by_cases hlt : c < 256
    · have hltI : (c : Int) < 256 := by omega
      have hltD : decide ((c : Int) < 256) = true := by rw [decide_eq_true_eq]; omega
      have g1 : W.cell? ⟨lB, c, none⟩ = some (.int .u8 (L c : Int)) := hW.hL.cell hlt
      have hl32 := HB.out c hlt
      by_cases hz : 1 ≤ L c
      · have hzb : ((L c : Int) == 0) = false := by rw [beq_eq_false_iff_ne]; omega
        obtain ⟨hq, hoc, hol, hcod⟩ := codT_c L HB.out c hlt hz
        have g4 : W.cell? ⟨b8, c, none⟩ = some (.slice (some ⟨PB, offT L (posT L c), none⟩) (L c) (L c)) := by rw [hW.h8.cell hlt]; unfold pthT; rw [if_pos ⟨hz, hq⟩]
        have g5 : W.cell? ⟨b10, c, none⟩ = some (.int .u64 (pr L (posT L c) (L c) : Nat)) := by rw [hW.h10.cell hlt, hcod]
        have hplt := pr_lt L (posT L c) (L c) HK.out hq hl32
        have hp32 : 2 ^ L c ≤ 4294967296 := Nat.le_trans (pow_le hl32) (Nat.le_of_eq rfl)
        have hT : 0 < NB L 32 := Nat.lt_of_le_of_lt (Nat.zero_le _) (idN_lt L (posT L c) 0 hq (by omega))
        obtain ⟨ha12, ha13⟩ := hW.h12 hT
        subst ha12 ha13
        have Hq : Hid _ := And.intro hoc hol
        clear hoc hol hcod
        go_wp2_with fail
        go_loopg [30] (L c) (fun k s30 wx => ∃ i : Nat, k = L c - i ∧ i ≤ L c ∧ s30 = .int .i64 i ∧ ∃ n, wx = W.drewN n)
        case atStart => exact ⟨0, rfl, by omega, rfl, _, rfl⟩
        case round =>
          obtain ⟨i, hk1, hi, rfl, n, rfl⟩ := hrel
          have hk2 : Hid _ := hk1
          clear hk1
          by_cases hlt2 : i < L c
          · have hlt2I : (i : Int) < (L c : Int) := by omega
            have hil : i < ol L (posT L c) := by rw [Hq.out.2]; exact hlt2
            have hidT := idN_lt L _ i hq hil
            have g6 : W.cell? ⟨PB, offT L (posT L c) + i, none⟩ = some (.int .i32 (idN L (posT L c) i : Nat)) := by rw [hW.hPB.cell (off_lt L _ i hq hil), HPI.out _ i hq hil (.inl (by omega))]
            have hshr : (pr L (posT L c) (L c) : Int) / 2 ^ (L c - i) = (pr L (posT L c) i : Int) := by rw [two_pow_cast, ← Int.natCast_ediv, pr_shift L _ (L c) i hl32 (by omega)]
            have hfind : ∀ x, Calls Try.prog 18 #[.slice (some ⟨g12, 0, none⟩) (NB L 32) c12, .slice (some ⟨g13, 0, none⟩) (NB L 32) c13, .int .i64 (i : Int), .int .u64 (pr L (posT L c) i : Int)] (W.drewN (n + x)) fun e w' => e = .returned (.int .i64 (idN L (posT L c) i : Nat)) ∧ ∃ m, w' = W.drewN (n + m) := by
              intro x
              refine (find_any (W.drewN (n + x)) g12 g13 (NB L 32) c12 c13 i (pr L (posT L c) i) (depN L) (prfN L) (by omega) (fun k hk => hW.d12 k hk) (fun k hk => hW.d13 k hk)).mono ?_
              rintro e w' ⟨⟨r, rfl, hr⟩, rfl⟩
              refine ⟨?_, x, rfl⟩
              rcases hr with ⟨k, hk, rfl, e1, e2⟩ | ⟨rfl, hno⟩
              · obtain ⟨q, y1, y2, y3, y4⟩ := find_uniq L k i _ hk e1 e2
                have : idN L (posT L c) i = k := by rw [← y4]; unfold idN; rw [y3]
                rw [this]
              · exact absurd ⟨depN_id L _ i hq hil, prfN_id L _ i hq hil⟩ (hno _ hidT)
            have HF : Hid _ := hfind
            clear hfind
            go_upto_region 65 with fail
            go_quiet ((go_at_call 18; exact HF.out _))
            go_wp2_with fail
            go_roundg (L c - (i + 1))
            case measure => have := hk2.out; omega
            case rel => exact ⟨i + 1, rfl, by omega, by go_num, _, rfl⟩
          · have hlt2I : ¬ (i : Int) < (L c : Int) := by omega
            go_wp2_with fail
            go_roundg (256 - (c + 1))
            case measure => have := hk.out; omega
            case rel => exact ⟨c + 1, rfl, by omega, by go_num, _, rfl⟩
      · have hzb : ((L c : Int) == 0) = true := by rw [beq_iff_eq]; omega
        have g4 : W.cell? ⟨b8, c, none⟩ = some (.slice none 0 0) := by rw [hW.h8.cell hlt]; unfold pthT; rw [if_neg (fun x => hz x.1)]
        go_wp2_with fail
        go_roundg (256 - (c + 1))
        case measure => have := hk.out; omega
        case rel => exact ⟨c + 1, rfl, by omega, by go_num, n, rfl⟩
    · have hltI : ¬ (c : Int) < 256 := by omega
      go_wp2_with fail
      go_ret
      exact ⟨rfl, below_drewN hbel _⟩
end Go.Proofs.Qxb6602643a
