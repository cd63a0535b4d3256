import Derived.Test.YbulkamewTail
import Derived.Test.YbulkamewT8
namespace Go.Proofs.Ybulkamew
open Go.ChangeShapes Go.WideShapes Go.ChangeAt Go.RowKit

set_option maxRecDepth 100000 in
set_option maxHeartbeats 1600000 in
theorem t6 {B n c13 : Nat} {e : Nat → Nat} {a1 a2 a3 a4 : Option Addr} {n1 n2 n3 n4 c1 c2 c3 c4 : Nat} {f1 f2 f3 f4 : Nat → Nat} {w0 W : World} {u0 u5 u6 u7 u8 u9 u10 u14 u15 u16 u17 u18 u19 u20 u21 u22 u23 u24 u25 u26 u27 u28 u29 u30 u31 u32 u33 u34 u35 u36 u37 u38 u39 u40 u41 u42 u43 u44 u45 u46 u47 u48 u49 u50 u51 u52 u53 u54 u55 u56 u57 u58 u59 u60 u61 u62 u63 u64 u65 u66 u67 u68 u69 u70 u71 u72 u73 u74 u75 u76 u77 u78 u79 u80 u81 u82 u83 u84 u85 u86 u87 u88 u89 u90 u91 u92 u93 u94 u95 u96 u97 u98 u99 u100 u101 u102 u103 u104 u105 u106 u107 u108 u109 u110 u111 u112 u113 u114 u115 u116 u117 u118 u119 u120 u121 u122 u123 u124 u125 u126 u127 u128 u129 u130 u131 u132 u133 u134 u135 u136 u137 u138 u139 u140 u141 u142 u143 u144 u145 u146 u147 u148 u149 u150 u151 u152 u153 u154 u155 u156 u157 u158 u159 u160 u161 u162 u163 u164 u165 u166 u167 u168 u169 u170 u171 u172 u173 u174 u175 u176 u177 u178 u179 u180 u181 u182 u183 u184 u185 u186 u187 u188 u189 u190 u191 u192 u193 u194 u195 u196 u197 u198 u199 u200 u201 u202 u203 u204 u205 u206 u207 u208 u209 u210 u211 u212 u213 u214 u215 u216 u217 u218 u219 u220 u221 u222 u223 u224 u225 u226 u227 u228 u229 u230 u231 u232 u233 u234 u235 u236 u237 u238 u239 u240 u241 u242 u243 u244 u245 u246 u247 u248 u249 u250 u251 u252 u253 u254 u255 u256 u257 u258 u259 u260 u261 u262 u263 u264 u265 u266 u267 u268 u269 u270 u271 u272 u273 u274 u275 u276 u277 u278 u279 u280 u281 u282 u283 u284 u285 u286 u287 u288 u289 u290 u291 u292 u293 u294 u295 u296 u297 u298 u299 u300 u301 u302 u303 u304 u305 u306 u307 u308 u309 u310 u311 u312 u313 u314 u315 u316 u317 u318 u319 u320 u321 u322 u323 u324 u325 : Value}
    (hB : B ≤ w0.heap.size) (hn1 : 1 ≤ n) (hn2 : n ≤ 256) (he : ∀ j, e j < 2) (hE : Fill W (B + 8) n n (fun j => .int .i64 (e j))) (hP : Pool B W) (hb : Below B w0 W) (hA1 : ArgIs W a1 n1 f1) (hA2 : ArgIs W a2 n2 f2) (hA3 : ArgIs W a3 n3 f3) (hA4 : ArgIs W a4 n4 f4) (l1 : n1 ≤ 256) (l3 : n3 ≤ 256) :
    (tailN 6 (Yba.f3.body.getD .skip)).wp Yba.prog (bodyPost Yba.prog Yba.f3 (Post3 B w0)) ⟨#[u0, .slice a1 n1 c1, .slice a2 n2 c2, .slice a3 n3 c3, .slice a4 n4 c4, u5, u6, u7, u8, u9, u10, .slice (some ⟨B + 4, 0, none⟩) 4 4, .slice (some ⟨B + 7, 0, none⟩) 2 2, .slice (some ⟨B + 8, 0, none⟩) n c13, u14, u15, u16, u17, u18, u19, u20, u21, u22, u23, u24, u25, u26, u27, u28, u29, u30, u31, u32, u33, u34, u35, u36, u37, u38, u39, u40, u41, u42, u43, u44, u45, u46, u47, u48, u49, u50, u51, u52, u53, u54, u55, u56, u57, u58, u59, u60, u61, u62, u63, u64, u65, u66, u67, u68, u69, u70, u71, u72, u73, u74, u75, u76, u77, u78, u79, u80, u81, u82, u83, u84, u85, u86, u87, u88, u89, u90, u91, u92, u93, u94, u95, u96, u97, u98, u99, u100, u101, u102, u103, u104, u105, u106, u107, u108, u109, u110, u111, u112, u113, u114, u115, u116, u117, u118, u119, u120, u121, u122, u123, u124, u125, u126, u127, u128, u129, u130, u131, u132, u133, u134, u135, u136, u137, u138, u139, u140, u141, u142, u143, u144, u145, u146, u147, u148, u149, u150, u151, u152, u153, u154, u155, u156, u157, u158, u159, u160, u161, u162, u163, u164, u165, u166, u167, u168, u169, u170, u171, u172, u173, u174, u175, u176, u177, u178, u179, u180, u181, u182, u183, u184, u185, u186, u187, u188, u189, u190, u191, u192, u193, u194, u195, u196, u197, u198, u199, u200, u201, u202, u203, u204, u205, u206, u207, u208, u209, u210, u211, u212, u213, u214, u215, u216, u217, u218, u219, u220, u221, u222, u223, u224, u225, u226, u227, u228, u229, u230, u231, u232, u233, u234, u235, u236, u237, u238, u239, u240, u241, u242, u243, u244, u245, u246, u247, u248, u249, u250, u251, u252, u253, u254, u255, u256, u257, u258, u259, u260, u261, u262, u263, u264, u265, u266, u267, u268, u269, u270, u271, u272, u273, u274, u275, u276, u277, u278, u279, u280, u281, u282, u283, u284, u285, u286, u287, u288, u289, u290, u291, u292, u293, u294, u295, u296, u297, u298, u299, u300, u301, u302, u303, u304, u305, u306, u307, u308, u309, u310, u311, u312, u313, u314, u315, u316, u317, u318, u319, u320, u321, u322, u323, u324, u325], []⟩ W := by
  have HK := Hid.mk' (And.intro hA1 (And.intro hA2 (And.intro hA3 hA4)))
  clear hA1 hA2 hA3 hA4
  have hmk := fun w => mk28 n (by omega) w
  have lE := hE.lt
  show Code.wp Yba.prog (Code.seq _ _) _ _ _
  go_upto_block 2 with (fail)
  go_cut [16] (fun v wc => v = .slice (some ⟨W.heap.size, 0, none⟩) n n ∧ (∀ j, j < n → wc.cell? ⟨W.heap.size, j * 7 + 1, none⟩ = some (pN B (e j))) ∧ Below W.heap.size W wc)
  case first =>
    have hA : Fill (W.alloc (.cells (madeCells #[.nilIface, .pointer none, .pointer none, .pointer none, .pointer none, .bool false, .int .i32 0] (n * 7)) 35)) W.heap.size (n * 7) 0 (termF B e) := (Arr.made W _ (n * 7) 35).fill _
    have hB0 : Below W.heap.size W (W.alloc (.cells (madeCells #[.nilIface, .pointer none, .pointer none, .pointer none, .pointer none, .bool false, .int .i32 0] (n * 7)) 35)) := (Below.refl _ _).alloc (Nat.le_refl _) _
    have HA := Hid.mk' (And.intro hA hB0)
    clear hA hB0
    go_wp2
    go_loopw [95] (fun i wr => ∃ k : Nat, k ≤ n ∧ i = .int .i64 k ∧ Fill wr W.heap.size (n * 7) (k * 7) (termF B e) ∧ Below W.heap.size W wr) (fun i _ => n - (intOf i).toNat)
    case atStart => exact ⟨0, Nat.zero_le _, rfl, by simpa using HA.out.1, HA.out.2⟩
    case round =>
      clear HA hmk
      obtain ⟨k, hk, rfl, hF, hbr⟩ := hrel
      by_cases hlt : k < n
      · have kE := (hE.below hbr lE).cell (j := k) hlt hlt
        have kP := hP.below hbr hP.size
        have k0 := kP.e 0 (by omega)
        have k1 := kP.n (e k) (he k)
        have e0 : (0 : Int) ≤ (e k : Int) := by omega
        have e1 : (e k : Int) < 2 := by have := he k; omega
        have i0 : (0 : Int) ≤ (k : Int) := by omega
        have i1 : (k : Int) < (n : Int) := by omega
        obtain ⟨v0, d0⟩ := hF.some (j := k * 7) (by omega)
        obtain ⟨v1, d1⟩ := hF.some (j := k * 7 + 1) (by omega)
        obtain ⟨v2, d2⟩ := hF.some (j := k * 7 + 2) (by omega)
        obtain ⟨v3, d3⟩ := hF.some (j := k * 7 + 3) (by omega)
        obtain ⟨v4, d4⟩ := hF.some (j := k * 7 + 4) (by omega)
        obtain ⟨v5, d5⟩ := hF.some (j := k * 7 + 5) (by omega)
        obtain ⟨v6, d6⟩ := hF.some (j := k * 7 + 6) (by omega)
        have g0 := hF.free (j := k * 7) (by omega)
        have g1 := hF.free (j := k * 7 + 1) (by omega)
        have g2 := hF.free (j := k * 7 + 2) (by omega)
        have g3 := hF.free (j := k * 7 + 3) (by omega)
        have g4 := hF.free (j := k * 7 + 4) (by omega)
        have g5 := hF.free (j := k * 7 + 5) (by omega)
        have g6 := hF.free (j := k * 7 + 6) (by omega)
        have lF := hF.lt
        have HF := Hid.mk' hF
        have HP := Hid.mk' hP
        have HPk := Hid.mk' kP
        have HBr := Hid.mk' hbr
        have HEE := Hid.mk' hE
        have Hee := Hid.mk' he
        clear hF hP kP hbr hE he
        go_wp2
        go_still_tail 14, (by kernel_rfl)
        go_wp2
        go_roundw
        case rel =>
          obtain ⟨t0, t1, t2, t3, t4, t5, t6⟩ := termF_at B e k
          refine ⟨k + 1, by omega, by go_num, ?_, ?_⟩
          · rw [show (k + 1) * 7 = k * 7 + 1 + 1 + 1 + 1 + 1 + 1 + 1 by omega]
            exact (((((((HF.out.step (by omega) t0.symm).step (by omega) t1.symm).step (by omega) t2.symm).step (by omega) t3.symm).step (by omega) t4.symm).step (by omega) t5.symm).step (by omega) t6.symm).drew
          · exact (((((((HBr.out.setCell (by simp) _).setCell (by simp) _).setCell (by simp) _).setCell (by simp) _).setCell (by simp) _).setCell (by simp) _).setCell (by simp) _).drew
        case measure => simp [intOf]; omega
      · have hkn : k = n := by omega
        subst hkn
        have HF := Hid.mk' hF
        have HBr := Hid.mk' hbr
        clear hF hP hbr hE he
        go_wp2
        go_meet
        case rel =>
          refine ⟨rfl, fun j hj => ?_, HBr.out⟩
          rw [HF.out.cell (by omega) (by omega), (termF_at B e j).2.1]
  case rest =>
    obtain ⟨rfl, r1, hw2⟩ := hcut
    obtain ⟨hA1, hA2, hA3, hA4⟩ := HK.out
    refine go_on (by assumption) ?_
    exact t8 hB hn1 hn2 he (hE.below hw2 hE.lt) (hP.below hw2 hP.size) (hb.trans (hw2.mono (Nat.le_trans hB hb.size))) r1 (hA1.below hw2) (hA2.below hw2) (hA3.below hw2) (hA4.below hw2) l1 l3
end Go.Proofs.Ybulkamew
