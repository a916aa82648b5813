/- FnNewShapeMatchesCanonicalTreeModel: the nodes. -/
import Derived.Test.Qxb6602643aTmTC
namespace Go.Proofs.Qxb6602643a
open Go.RowKit
set_option linter.unusedVariables false

theorem Try.zero53 : (Try.prog.info? 53).map (fun i => i.zero.map Value.cells) = some (some (nodeA 0)) := by kernel_rfl

theorem or_low (p b : Nat) (hp : p < 2147483648) (hb : b < 2) : bits BinOp.or IntKind.u64 ((p : Int) * 2) (b : Int) = ((2 * p + b : Nat) : Int) := by
  have e1 : (BitVec.ofInt IntKind.u64.bits ((p : Int) * 2)).toNat = 2 * p := by
    rw [BitVec.toNat_ofInt]
    show (((p : Int) * 2) % (18446744073709551616 : Int)).toNat = _
    omega
  have e2 : (BitVec.ofInt IntKind.u64.bits (b : Int)).toNat = b := by
    rw [BitVec.toNat_ofInt]
    show ((b : Int) % (18446744073709551616 : Int)).toNat = _
    omega
  have e3 : (2 * p) ||| b = 2 * p + b := by
    have := Nat.shiftLeft_add_eq_or_of_lt (i := 1) (b := b) (by omega) p
    rw [Nat.shiftLeft_eq] at this
    rw [show 2 * p = p * 2 ^ 1 from by omega]
    exact this.symm
  unfold bits
  simp only [BitVec.toNat_or, e1, e2, e3]
  unfold IntKind.wrap
  simp only [IntKind.bits, IntKind.signed]
  simp
  omega

set_option maxRecDepth 100000 in
set_option maxHeartbeats 2000000 in
theorem tm_tailB {L C : Nat → Nat} {w0 W : World} {cB lB zb PB b8 b9 b10 g12 g13 c7 c12 c13 : Nat} {a12 a13 : Option Addr} {F : Nat → Nat} {ch : Nat → Nat → Int}
    (hbel : Below w0.heap.size w0 W) (hm : ∀ i, i < 256 → L i ≤ 32) (hK : SK L (lonT L 32) ≤ 2 ^ 32) (hC64 : ∀ i, i < 256 → C i < 18446744073709551616)
    (hW : TmW L C cB lB zb PB b8 b9 b10 g12 g13 a12 a13 F ch W) (hPI : PI L 32 0 F) (hCH : CH L (lonT L 32) 0 ch)
    {u2 u3 u4 u5 u6 u9 u11 u14 u15 u16 u17 u18 u19 u20 u21 u22 u23 u24 u25 u26 u27 u28 u29 u30 u31 u32 u33 u34 u35 u36 u37 u38 u39 u40 u41 u42 u43 u44 u45 u46 u47 u48 u49 u50 u51 u52 u53 u54 u55 u56 u57 u58 u59 u60 u61 u62 u63 u64 u65 u66 u67 u68 u69 u70 u71 u72 u73 u74 u75 u76 u77 u78 u79 u80 u81 u82 u83 u84 u85 u86 u87 u88 u89 u90 u91 u92 u93 u94 u95 u96 u97 u98 u99 u100 u101 u102 u103 u104 u105 u106 u107 u108 u109 u110 u111 u112 u113 u114 u115 u116 u117 u118 u119 u120 u121 u122 u123 u124 u125 u126 u127 u128 u129 u130 u131 u132 u133 u134 u135 u136 u137 u138 u139 u140 u141 u142 u143 u144 u145 u146 u147 u148 u149 u150 u151 u152 u153 u154 u155 u156 u157 u158 u159 u160 u161 u162 u163 u164 u165 u166 u167 u168 u169 u170 u171 u172 u173 u174 u175 u176 u177 u178 u179 u180 u181 u182 u183 u184 u185 u186 u187 u188 u189 u190 u191 u192 u193 u194 u195 u196 u197 u198 u199 u200 u201 u202 u203 u204 u205 u206 u207 u208 u209 u210 u211 u212 u213 u214 u215 u216 u217 u218 u219 u220 u221 u222 u223 u224 u225 u226 u227 u228 u229 u230 u231 u232 u233 u234 u235 u236 u237 u238 u239 u240 u241 u242 u243 u244 u245 u246 u247 u248 u249 u250 u251 u252 u253 u254 u255 u256 u257 u258 u259 u260 u261 u262 u263 u264 u265 u266 u267 u268 u269 u270 u271 u272 u273 u274 u275 u276 u277 u278 u279 u280 u281 u282 u283 u284 u285 u286 u287 u288 u289 u290 : Value} :
    Code.wp Try.prog (tailC 12 (Try.f6.body.getD .skip)) (bodyPost Try.prog Try.f6 (fun e w' => e = .returned (.bool true) ∧ Below w0.heap.size w0 w')) ⟨#[.pointer (some ⟨cB, 0, none⟩), .pointer (some ⟨lB, 0, none⟩), u2, u3, u4, u5, u6, .slice (some ⟨zb, 0, none⟩) (NB L 32) c7, .pointer (some ⟨b8, 0, none⟩), u9, .pointer (some ⟨b10, 0, none⟩), u11, .slice a12 (NB L 32) c12, .slice a13 (NB L 32) c13, u14, u15, u16, u17, u18, u19, u20, u21, u22, u23, u24, u25, u26, u27, u28, u29, u30, u31, u32, u33, u34, u35, u36, u37, u38, u39, u40, u41, u42, u43, u44, u45, u46, u47, u48, u49, u50, u51, u52, u53, u54, u55, u56, u57, u58, u59, u60, u61, u62, u63, u64, u65, u66, u67, u68, u69, u70, u71, u72, u73, u74, u75, u76, u77, u78, u79, u80, u81, u82, u83, u84, u85, u86, u87, u88, u89, u90, u91, u92, u93, u94, u95, u96, u97, u98, u99, u100, u101, u102, u103, u104, u105, u106, u107, u108, u109, u110, u111, u112, u113, u114, u115, u116, u117, u118, u119, u120, u121, u122, u123, u124, u125, u126, u127, u128, u129, u130, u131, u132, u133, u134, u135, u136, u137, u138, u139, u140, u141, u142, u143, u144, u145, u146, u147, u148, u149, u150, u151, u152, u153, u154, u155, u156, u157, u158, u159, u160, u161, u162, u163, u164, u165, u166, u167, u168, u169, u170, u171, u172, u173, u174, u175, u176, u177, u178, u179, u180, u181, u182, u183, u184, u185, u186, u187, u188, u189, u190, u191, u192, u193, u194, u195, u196, u197, u198, u199, u200, u201, u202, u203, u204, u205, u206, u207, u208, u209, u210, u211, u212, u213, u214, u215, u216, u217, u218, u219, u220, u221, u222, u223, u224, u225, u226, u227, u228, u229, u230, u231, u232, u233, u234, u235, u236, u237, u238, u239, u240, u241, u242, u243, u244, u245, u246, u247, u248, u249, u250, u251, u252, u253, u254, u255, u256, u257, u258, u259, u260, u261, u262, u263, u264, u265, u266, u267, u268, u269, u270, u271, u272, u273, u274, u275, u276, u277, u278, u279, u280, u281, u282, u283, u284, u285, u286, u287, u288, u289, u290], []⟩ W := by
  have bT := NB_le L 32
  have b32 := lonT_le L 32
  have HB : Hid _ := hm
  have HK : Hid _ := hK
  have HC64 : Hid _ := hC64
  have HPI : Hid _ := hPI
  have HCH : Hid _ := hCH
  have hWs := hbel.size
  clear hm hK hPI hC64 hCH
  conv => arg 2; whnf
  go_wp2_with fail
  go_loopg [14, 15] (NB L 32) (fun k s14 s15 wx => ∃ j : Nat, k = NB L 32 - j ∧ j ≤ NB L 32 ∧ s15 = .int .i64 j ∧ s14 = .int .u64 (stG L C j : Nat) ∧ Below W.heap.size W wx)
  case atStart => exact ⟨0, rfl, by omega, rfl, rfl, Below.refl _ _⟩
  case round =>
    obtain ⟨j, hk0, hj, rfl, rfl, hbx⟩ := hrel
    rename World => V
    have hk : Hid _ := hk0
    clear hk0
    have hst : stG L C j < 18446744073709551616 := by unfold stG; omega
    by_cases hlt : j < NB L 32
    · have hltI : (j : Int) < (NB L 32 : Int) := by omega
      have hltD : decide ((j : Int) < (NB L 32 : Int)) = true := by rw [decide_eq_true_eq]; omega
      obtain ⟨ha12, ha13⟩ := hW.h12 (by omega)
      subst ha12 ha13
      have hX := hW.keep hbx
      obtain ⟨q, d, hq, hd, hd32, hid⟩ := node_hit L j 32 hlt
      have e12 := hX.d12 j hlt
      have e13 := hX.d13 j hlt
      have hdep := depN_id L q d hq hd
      have hprf := prfN_id L q d hq hd
      rw [hid] at hdep hprf
      rw [hdep] at e12
      rw [hprf] at e13
      have hplt := pr_lt L q d HK.out hq (by omega)
      have hp31 : 2 ^ d ≤ 2147483648 := pow31 d (by omega)
      have HID : Hid _ := And.intro hid (And.intro hdep hprf)
      clear hid hdep hprf
      generalize hpe : pr L q d = p at *
      have HP : Hid _ := hpe
      clear hpe
      go_wp2_with fail
      go_loopg [18, 19, 20] 256 (fun k s18 s19 s20 wx => ∃ c : Nat, k = 256 - c ∧ c ≤ 256 ∧ s20 = .int .i64 c ∧ s18 = .int .u64 (lnC L C d p c : Nat) ∧ s19 = .int .u64 (onC L C d p c : Nat) ∧ V = wx)
      case atStart => exact ⟨0, rfl, by omega, rfl, rfl, rfl, rfl⟩
      case round =>
        obtain ⟨c, hk1, hc, rfl, rfl, rfl, rfl⟩ := hrel
        have hk2 : Hid _ := hk1
        clear hk1
        by_cases hlt2 : c < 256
        · have hlt2I : (c : Int) < 256 := by omega
          have hl32 := HB.out c hlt2
          have c64 := HC64.out c hlt2
          have g1 : V.cell? ⟨lB, c, none⟩ = some (.int .u8 (L c : Int)) := hX.hL.cell hlt2
          by_cases y0 : d < L c
          · have y0' : (d : Int) < (L c : Int) := by omega
            obtain ⟨hr, hoc, hol, hcod⟩ := codT_c L HB.out c hlt2 (by omega)
            have g2 : V.cell? ⟨b10, c, none⟩ = some (.int .u64 (pr L (posT L c) (L c) : Nat)) := by rw [hX.h10.cell hlt2, hcod]
            have g3 : V.cell? ⟨cB, c, none⟩ = some (.int .u64 (C c : Int)) := hX.hC.cell hlt2
            have hpl := pr_lt L (posT L c) (L c) HK.out hr hl32
            have hpl2 : 2 ^ L c ≤ 4294967296 := Nat.le_trans (pow_le hl32) (Nat.le_of_eq rfl)
            have hshr : (pr L (posT L c) (L c) : Int) / 2 ^ (L c - d) = (pr L (posT L c) d : Int) := by rw [two_pow_cast, ← Int.natCast_ediv, pr_shift L _ (L c) d hl32 (by omega)]
            have hbit : bits BinOp.and IntKind.u64 ((pr L (posT L c) (L c) : Int) / 2 ^ (L c - 1 - d)) 1 = (bitN L (posT L c) d : Int) := by
              have := bit_val L (posT L c) d hr (by omega) HK.out
              rwa [hol] at this
            clear hoc hol hcod
            by_cases y1 : pr L (posT L c) d = p
            · have y1' : ((pr L (posT L c) d : Int) == (p : Int)) = true := by rw [beq_iff_eq]; omega
              have Y1 : Hid _ := y1
              clear y1
              by_cases y2 : bitN L (posT L c) d = 1
              · have y2' : ((bitN L (posT L c) d : Int) == 1) = true := by rw [beq_iff_eq]; omega
                have Y2 : Hid _ := y2
                clear y2
                go_wp2_with fail
                go_roundg (256 - (c + 1))
                case measure => have := hk2.out; omega
                case rel => exact ⟨c + 1, rfl, by omega, by go_num, by rw [add64, lnC_yes L C d p c ⟨y0, Y1.out⟩], by rw [add64, onC_yes L C d p c ⟨y0, Y1.out, Y2.out⟩], rfl⟩
              · have y2' : ((bitN L (posT L c) d : Int) == 1) = false := by rw [beq_eq_false_iff_ne]; omega
                go_wp2_with fail
                go_roundg (256 - (c + 1))
                case measure => have := hk2.out; omega
                case rel => exact ⟨c + 1, rfl, by omega, by go_num, by rw [add64, lnC_yes L C d p c ⟨y0, Y1.out⟩], by rw [onC_no L C d p c (fun x => y2 x.2.2)], rfl⟩
            · have y1' : ((pr L (posT L c) d : Int) == (p : Int)) = false := by rw [beq_eq_false_iff_ne]; omega
              go_wp2_with fail
              go_roundg (256 - (c + 1))
              case measure => have := hk2.out; omega
              case rel => exact ⟨c + 1, rfl, by omega, by go_num, by rw [lnC_no L C d p c (fun x => y1 x.2)], by rw [onC_no L C d p c (fun x => y1 x.2.1)], rfl⟩
          · have y0' : ¬ (d : Int) < (L c : Int) := by omega
            go_wp2_with fail
            go_roundg (256 - (c + 1))
            case measure => have := hk2.out; omega
            case rel => exact ⟨c + 1, rfl, by omega, by go_num, by rw [lnC_no L C d p c (fun x => y0 x.1)], by rw [onC_no L C d p c (fun x => y0 x.1)], rfl⟩
        · have hlt2I : ¬ (c : Int) < 256 := by omega
          have hc' : c = 256 := by omega
          subst hc'
          go_wp2_with fail
          have hr49 : (V.alloc (Obj.cells #[.int .i32 0, .int .i32 0] 49)).rowIs V.heap.size 49 2 (fun x => .int .i32 (if x < 0 then ch j x else 0)) := rowIs_alloc_at rfl #[.int .i32 0, .int .i32 0] 49 _ (fun i hi => by
            have hi2 : i < 2 := hi
            match i, hi2 with
            | 0, _ => rfl
            | 1, _ => rfl)
          have hb49 := (Below.refl V.heap.size V).alloc (Nat.le_refl _) (Obj.cells #[.int .i32 0, .int .i32 0] 49)
          go_loopg [23, 24, 25, 26] 2 (fun k s23 s24 s25 s26 wx => ∃ b : Nat, k = 2 - b ∧ b ≤ 2 ∧ s23 = .int .i64 b ∧ Below V.heap.size V wx ∧ wx.rowIs V.heap.size 49 2 (fun x => .int .i32 (if x < b then ch j x else 0)))
          case atStart => exact ⟨0, rfl, by omega, rfl, hb49, hr49⟩
          case round =>
            clear hr49 hb49
            obtain ⟨b, hk1, hb, rfl, hbz, hr2⟩ := hrel
            have hk3 : Hid _ := hk1
            clear hk1
            rename World => U
            have hZ := hX.keep hbz
            have hsz := hbz.size
            by_cases hlt3 : b < 2
            · have hlt3I : (b : Int) < 2 := by omega
              obtain ⟨x, hx0⟩ : ∃ x, x = 2 * p + b := ⟨_, rfl⟩
              have hor := or_low p b (by omega) hlt3
              rw [← hx0] at hor
              have hx64 : x < 4294967296 := by omega
              have HX0 : Hid _ := hx0
              clear hx0
              go_wp2_with fail
              rw [show ((d : Int) + 1) = ((d + 1 : Nat) : Int) from by omega]
              refine (find_any U g12 g13 (NB L 32) c12 c13 (d + 1) x (depN L) (prfN L) (by omega) hZ.d12 hZ.d13).mono ?_
              rintro e w' ⟨⟨r, rfl, hr⟩, hw⟩
              rw [hw]
              clear hw
              rcases hr with ⟨r, hrT, rfl, hr1, hr3⟩ | ⟨rfl, hno⟩
              · obtain ⟨q', hq', hd', hp', hid'⟩ := find_uniq L r (d + 1) x hrT hr1 hr3
                have hcf := child_find L ch HCH.out q d b q' hlt3 hq' hd' (by rw [hp', HP.out, HX0.out])
                rw [hid', HID.out.1] at hcf
                have HCF : Hid _ := hcf
                clear hcf hr1 hr3 hid' hp' hor
                have hset := hr2.set b (.int .i32 (r : Int))
                have hbs := hbz.setCell (p := ⟨V.heap.size, b, none⟩) (Nat.le_refl _) (.int .i32 (r : Int))
                have gb : U.cell? ⟨V.heap.size, b, none⟩ = some (.int .i32 0) := by rw [hr2.cell hlt3, if_neg (Nat.lt_irrefl b)]
                have fb := hr2.frozen b
                go_wp2_with fail
                go_roundg (2 - (b + 1))
                case measure => have := hk3.out; omega
                case rel =>
                  refine ⟨b + 1, rfl, by omega, by go_num, hbs, hset.congr (fun i hi => ?_)⟩
                  by_cases y : i = b
                  · rw [if_pos y, if_pos (by omega), y, HCF.out]
                  · rw [if_neg y]
                    by_cases y' : i < b
                    · rw [if_pos y', if_pos (by omega)]
                    · rw [if_neg y', if_neg (by omega)]
              · have hcs : lfT L d x 256 = ch j b := by
                  rw [HX0.out, ← HP.out, ← HID.out.1]
                  refine child_scan L HB.out ch HCH.out q d b hq hd hlt3 (fun r hr hdr hx => ?_)
                  refine hno (idN L r (d + 1)) (idN_lt L r (d + 1) hr hdr) ⟨depN_id L r (d + 1) hr hdr, ?_⟩
                  rw [prfN_id L r (d + 1) hr hdr, hx, HX0.out, HP.out]
                have HCS : Hid _ := hcs
                clear hcs hno hor
                go_wp2_with fail
                go_loopg [26] 256 (fun k s26 wx => ∃ c : Nat, k = 256 - c ∧ c ≤ 256 ∧ s26 = .int .i64 c ∧ Below V.heap.size V wx ∧ wx.rowIs V.heap.size 49 2 (fun y => .int .i32 (if y < b then ch j y else if y = b then lfT L d x c else 0)))
                case atStart =>
                  refine ⟨0, rfl, by omega, rfl, hbz, hr2.congr (fun i hi => ?_)⟩
                  by_cases y : i < b
                  · rw [if_pos y, if_pos y]
                  · rw [if_neg y, if_neg y]; simp [lfT]
                case round =>
                  clear hZ hbz hr2 hsz
                  obtain ⟨c, hk1, hc, rfl, hbz, hr2⟩ := hrel
                  have hk2 : Hid _ := hk1
                  clear hk1
                  rename World => U
                  have hZ := hX.keep hbz
                  by_cases hlt2 : c < 256
                  · have hlt2I : (c : Int) < 256 := by omega
                    have g1 : U.cell? ⟨lB, c, none⟩ = some (.int .u8 (L c : Int)) := hZ.hL.cell hlt2
                    have g2 : U.cell? ⟨b10, c, none⟩ = some (.int .u64 (codT L (lonT L 32) c : Nat)) := hZ.h10.cell hlt2
                    have hl32 := HB.out c hlt2
                    by_cases y0 : L c = d + 1
                    · have y0' : ((L c : Int) == (d : Int) + 1) = true := by rw [beq_iff_eq]; omega
                      have Y0 : Hid _ := y0
                      clear y0
                      by_cases y1 : codT L (lonT L 32) c = x
                      · have y1' : ((codT L (lonT L 32) c : Int) == (x : Int)) = true := by rw [beq_iff_eq]; omega
                        have Y1 : Hid _ := y1
                        clear y1
                        have gb : U.cell? ⟨V.heap.size, b, none⟩ = some (.int .i32 (lfT L d x c)) := by rw [hr2.cell hlt3, if_neg (Nat.lt_irrefl b), if_pos rfl]
                        have fb := hr2.frozen b
                        have hset := hr2.set b (.int .i32 (-1 - (c : Int)))
                        have hbs := hbz.setCell (p := ⟨V.heap.size, b, none⟩) (Nat.le_refl _) (.int .i32 (-1 - (c : Int)))
                        go_wp2_with fail
                        go_roundg (256 - (c + 1))
                        case measure => have := hk2.out; omega
                        case rel =>
                          refine ⟨c + 1, rfl, by omega, by go_num, hbs, hset.congr (fun i hi => ?_)⟩
                          by_cases y : i = b
                          · rw [if_pos y, if_neg (by omega), if_pos y]; simp only [lfT]; rw [if_pos ⟨Y0.out, Y1.out⟩]
                          · rw [if_neg y, if_neg y]
                            by_cases y' : i < b
                            · rw [if_pos y', if_pos y']
                            · rw [if_neg y', if_neg y', if_neg y]
                      · have y1' : ((codT L (lonT L 32) c : Int) == (x : Int)) = false := by rw [beq_eq_false_iff_ne]; omega
                        go_wp2_with fail
                        go_roundg (256 - (c + 1))
                        case measure => have := hk2.out; omega
                        case rel =>
                          refine ⟨c + 1, rfl, by omega, by go_num, hbz, hr2.congr (fun i hi => ?_)⟩
                          simp only [lfT]; rw [if_neg (fun z : L c = d + 1 ∧ codT L (lonT L 32) c = x => y1 z.2)]
                    · have y0' : ((L c : Int) == (d : Int) + 1) = false := by rw [beq_eq_false_iff_ne]; omega
                      go_wp2_with fail
                      go_roundg (256 - (c + 1))
                      case measure => have := hk2.out; omega
                      case rel =>
                        refine ⟨c + 1, rfl, by omega, by go_num, hbz, hr2.congr (fun i hi => ?_)⟩
                        simp only [lfT]; rw [if_neg (fun z : L c = d + 1 ∧ codT L (lonT L 32) c = x => y0 z.1)]
                  · have hlt2I : ¬ (c : Int) < 256 := by omega
                    have hc' : c = 256 := by omega
                    subst hc'
                    go_wp2_with fail
                    go_roundg (2 - (b + 1))
                    case measure => have := hk3.out; omega
                    case rel =>
                      refine ⟨b + 1, rfl, by omega, by go_num, hbz, hr2.congr (fun i hi => ?_)⟩
                      rw [HCS.out]
                      by_cases y : i = b
                      · rw [if_neg (by omega), if_pos y, if_pos (by omega), y]
                      · by_cases y' : i < b
                        · rw [if_pos y', if_pos (by omega)]
                        · rw [if_neg y', if_neg y, if_neg (by omega)]
            · have hlt3I : ¬ (b : Int) < 2 := by omega
              have hb' : b = 2 := by omega
              subst hb'
              have gc0 : U.cell? ⟨V.heap.size, 0, none⟩ = some (.int .i32 (ch j 0)) := hr2.cell (i := 0) (by omega)
              have gc1 : U.cell? ⟨V.heap.size, 1, none⟩ = some (.int .i32 (ch j 1)) := hr2.cell (i := 1) (by omega)
              have hln := lnC_all L C HB.out q d hq hd
              have hon := onC_all L C HB.out q d hq hd
              rw [HP.out, HID.out.1] at hln hon
              have HSU : Hid _ := stG_succ L C j
              have hndr : U.rangeAt zb (j * 9) (ndL (stG L C j) (lnG L C (lonT L 32) 0 j) (onG L C (lonT L 32) 0 j) (depN L j) (ch j 0) (ch j 1)) := rangeAt_rowPre hZ.hnd (j * 9) 9 (by omega) _ rfl (fun i hi => by rw [ndL_get _ _ _ _ _ _ i hi, ndF_at _ _ _ _ _ _ _ hi])
              rw [HID.out.2.1] at hndr
              rw [← hln, ← hon] at hndr
              rw [← hln] at HSU
              clear hln hon
              have hUV : V.heap.size < U.heap.size := hr2.lt
              generalize stG L C j = e0 at *
              generalize lnC L C d p 256 = e1 at *
              generalize onC L C d p 256 = e2 at *
              generalize he5 : ch j 0 = e5 at *
              generalize he6 : ch j 1 = e6 at *
              have hpone := all_oneCell_toArray (ndL_one e0 e1 e2 d e5 e6)
              go_upto_region 48 with (first | refine wpList_load_mid rfl 53 _ rfl zb (j * 9) rfl (ndL e0 e1 e2 d e5 e6) _ hndr Try.underlying53 rfl Try.size53 ?_ | refine wpList_alloc rfl 53 rfl _ Try.zero53 ?_ | refine wpList_store_row rfl 53 _ _ rfl U.heap.size (ndL e0 e1 e2 d e5 e6).toArray rfl rfl 53 (nodeA 0) (heap_alloc_new _ _) Try.size53 rfl hpone ?_)
              have hc : ∀ i, i < 9 → ((U.alloc (Obj.cells (nodeA 0) 53)).setRow U.heap.size (ndL e0 e1 e2 d e5 e6).toArray).cell? ⟨U.heap.size, i, none⟩ = some (ndC e0 e1 e2 d e5 e6 i) := fun i hi => by
                rw [cell_setRow_same _ _ _ _ _ _ _ (heap_alloc_new _ _), List.getElem?_toArray, ndL_get _ _ _ _ _ _ i hi]
              have hb3 := below_setRow (hbz.alloc hsz (Obj.cells (nodeA 0) 53)) hsz (ndL e0 e1 e2 d e5 e6).toArray
              have hr3 := rowIs_setRow_other (hr2.alloc (Obj.cells (nodeA 0) 53)) (show V.heap.size ≠ U.heap.size from by omega) (ndL e0 e1 e2 d e5 e6).toArray
              generalize hSz : U.heap.size = S at *
              generalize (U.alloc (Obj.cells (nodeA 0) 53)).setRow S (ndL e0 e1 e2 d e5 e6).toArray = W3 at *
              have c0 := hc 0 (by omega)
              have c1 := hc 1 (by omega)
              have c2 := hc 2 (by omega)
              have c3 := hc 3 (by omega)
              have c4 := hc 4 (by omega)
              have c5 := hc 5 (by omega)
              have c6 := hc 6 (by omega)
              have c7 := hc 7 (by omega)
              have c8 := hc 8 (by omega)
              simp only [ndC] at c0 c1 c2 c3 c4 c5 c6 c7 c8
              have k0 : W3.cell? ⟨V.heap.size, 0, none⟩ = some (.int .i32 e5) := by rw [← he5]; exact hr3.cell (i := 0) (by omega)
              have k1 : W3.cell? ⟨V.heap.size, 1, none⟩ = some (.int .i32 e6) := by rw [← he6]; exact hr3.cell (i := 1) (by omega)
              clear hc he5 he6
              go_wp2_with fail
              go_roundg (NB L 32 - (j + 1))
              case measure => have := hk.out; omega
              case rel => exact ⟨j + 1, rfl, by omega, by go_num, by rw [add64, HSU.out], hbx.trans (hb3.mono hbx.size)⟩
    · have hltI : ¬ (j : Int) < (NB L 32 : Int) := by omega
      go_upto_if 79 with fail
      go_step
      go_step
      go_step
      go_step
      exact tm_tailC (hbel.trans (hbx.mono hWs)) HB.out HK.out (hW.keep hbx) HPI.out
end Go.Proofs.Qxb6602643a
