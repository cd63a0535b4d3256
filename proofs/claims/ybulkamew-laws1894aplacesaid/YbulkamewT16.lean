import Derived.Test.YbulkamewTail
import Derived.Test.YbulkamewT20
namespace Go.Proofs.Ybulkamew
open Go.ChangeShapes Go.WideShapes Go.ChangeAt Go.RowKit

theorem placeIn_of {B n n1 n3 b2 b3 b6 bm bd : Nat} {e A sx ox oe : Nat → Nat} {W W' : World} (he : ∀ j, e j < 2) (hP : Pool B W) (hO : ∀ j, j < n → W.cell? ⟨b2, j * 7 + 1, none⟩ = some (pN B (e j))) (hAn : ∀ j, A j < n) (hsx : ∀ j, sx j < 4)
    (hS : Fill W b3 (n1 * 5) (n1 * 5) (sideF B A sx)) (hox : ∀ j, ox j < 4) (hoe : ∀ j, oe j < 2) (hR : Fill W b6 (n3 * 2) (n3 * 2) (origF B ox oe)) (hb : Below W.heap.size W W')
    (m1 : W'.cell? ⟨bm, 1, none⟩ = some (.slice (some ⟨b2, 0, none⟩) n n)) (m2 : W'.cell? ⟨bm, 2, none⟩ = some (.slice (some ⟨b3, 0, none⟩) n1 n1)) (d2 : W'.cell? ⟨bd, 2, none⟩ = some (.slice (some ⟨b6, 0, none⟩) n3 n3)) :
    PlaceIn B bm bd b3 b2 b6 n1 n n3 n1 n n3 A sx (fun j => e (A j)) ox oe W' := by
  have S' := hS.below hb hS.lt
  have R' := hR.below hb hR.lt
  have O' : ∀ j, j < n → W'.cell? ⟨b2, j * 7 + 1, none⟩ = some (pN B (e j)) := fun j hj => (hb.cell (p := ⟨b2, j * 7 + 1, none⟩) (World.block_lt_of_cell? W _ (hO j hj))).trans (hO j hj)
  refine ⟨m1, m2, d2, fun k hk => ⟨?_, hAn k⟩, fun k hk => ?_, fun k hk => ?_, fun k hk => ?_, fun k hk => ?_, fun k hk => O' _ (hAn k), fun k hk => ?_, fun k hk => ?_, hP.below hb hP.size, fun k _ => ⟨hsx k, he _⟩, fun k _ => ⟨hox k, hoe k⟩⟩
  · rw [S'.cell (by omega) (by omega), (sideF_at B A sx k).1]
  · rw [S'.cell (by omega) (by omega), (sideF_at B A sx k).2.1]
  · rw [S'.cell (by omega) (by omega), (sideF_at B A sx k).2.2.1]
  · rw [S'.cell (by omega) (by omega), (sideF_at B A sx k).2.2.2.1]
  · rw [S'.cell (by omega) (by omega), (sideF_at B A sx k).2.2.2.2]
  · rw [R'.cell (by omega) (by omega), (origF_at B ox oe k).1]
  · rw [R'.cell (by omega) (by omega), (origF_at B ox oe k).2]

set_option maxRecDepth 100000 in
set_option maxHeartbeats 1600000 in
theorem t16 {B n n1 n3 b2 b3 b4 b5 b6 b7 b8 : Nat} {e A sx ox oe : Nat → Nat} {w0 W : World} {u0 u1 u2 u3 u4 u5 u6 u7 u8 u9 u10 u11 u12 u13 u14 u15 u17 u21 u22 u26 u27 u28 u29 u30 u31 u32 u33 u34 u35 u36 u37 u38 u39 u40 u41 u42 u43 u44 u45 u46 u47 u48 u49 u50 u51 u52 u53 u54 u55 u56 u57 u58 u59 u60 u61 u62 u63 u64 u65 u66 u67 u68 u69 u70 u71 u72 u73 u74 u75 u76 u77 u78 u79 u80 u81 u82 u83 u84 u85 u86 u87 u88 u89 u90 u91 u92 u93 u94 u95 u96 u97 u98 u99 u100 u101 u102 u103 u104 u105 u106 u107 u108 u109 u110 u111 u112 u113 u114 u115 u116 u117 u118 u119 u120 u121 u122 u123 u124 u125 u126 u127 u128 u129 u130 u131 u132 u133 u134 u135 u136 u137 u138 u139 u140 u141 u142 u143 u144 u145 u146 u147 u148 u149 u150 u151 u152 u153 u154 u155 u156 u157 u158 u159 u160 u161 u162 u163 u164 u165 u166 u167 u168 u169 u170 u171 u172 u173 u174 u175 u176 u177 u178 u179 u180 u181 u182 u183 u184 u185 u186 u187 u188 u189 u190 u191 u192 u193 u194 u195 u196 u197 u198 u199 u200 u201 u202 u203 u204 u205 u206 u207 u208 u209 u210 u211 u212 u213 u214 u215 u216 u217 u218 u219 u220 u221 u222 u223 u224 u225 u226 u227 u228 u229 u230 u231 u232 u233 u234 u235 u236 u237 u238 u239 u240 u241 u242 u243 u244 u245 u246 u247 u248 u249 u250 u251 u252 u253 u254 u255 u256 u257 u258 u259 u260 u261 u262 u263 u264 u265 u266 u267 u268 u269 u270 u271 u272 u273 u274 u275 u276 u277 u278 u279 u280 u281 u282 u283 u284 u285 u286 u287 u288 u289 u290 u291 u292 u293 u294 u295 u296 u297 u298 u299 u300 u301 u302 u303 u304 u305 u306 u307 u308 u309 u310 u311 u312 u313 u314 u315 u316 u317 u318 u319 u320 u321 u322 u323 u324 u325 : Value}
    (hB : B ≤ w0.heap.size) (hn2 : n ≤ 256) (l1 : n1 ≤ 256) (l3 : n3 ≤ 256) (he : ∀ j, e j < 2) (hP : Pool B W) (hb : Below B w0 W)
    (hO : ∀ j, j < n → W.cell? ⟨b2, j * 7 + 1, none⟩ = some (pN B (e j))) (hAn : ∀ j, A j < n) (hsx : ∀ j, sx j < 4)
    (hS : Fill W b3 (n1 * 5) (n1 * 5) (sideF B A sx)) (hX : Fill W b4 n1 n1 (fun j => .int .i64 (sx j))) (hY : Fill W b5 n1 n1 (fun j => .int .i64 (e (A j))))
    (hox : ∀ j, ox j < 4) (hoe : ∀ j, oe j < 2) (hR : Fill W b6 (n3 * 2) (n3 * 2) (origF B ox oe)) (hU : Fill W b7 n3 n3 (fun j => .int .i64 (ox j))) (hV : Fill W b8 n3 n3 (fun j => .int .i64 (oe j))) :
    (tailN 16 (Yba.f3.body.getD .skip)).wp Yba.prog (bodyPost Yba.prog Yba.f3 (Post3 B w0)) ⟨#[u0, u1, u2, u3, u4, u5, u6, u7, u8, u9, u10, u11, u12, u13, u14, u15, .slice (some ⟨b2, 0, none⟩) n n, u17, .slice (some ⟨b3, 0, none⟩) n1 n1, .slice (some ⟨b4, 0, none⟩) n1 n1, .slice (some ⟨b5, 0, none⟩) n1 n1, u21, u22, .slice (some ⟨b6, 0, none⟩) n3 n3, .slice (some ⟨b7, 0, none⟩) n3 n3, .slice (some ⟨b8, 0, none⟩) n3 n3, u26, u27, u28, u29, u30, u31, u32, u33, u34, u35, u36, u37, u38, u39, u40, u41, u42, u43, u44, u45, u46, u47, u48, u49, u50, u51, u52, u53, u54, u55, u56, u57, u58, u59, u60, u61, u62, u63, u64, u65, u66, u67, u68, u69, u70, u71, u72, u73, u74, u75, u76, u77, u78, u79, u80, u81, u82, u83, u84, u85, u86, u87, u88, u89, u90, u91, u92, u93, u94, u95, u96, u97, u98, u99, u100, u101, u102, u103, u104, u105, u106, u107, u108, u109, u110, u111, u112, u113, u114, u115, u116, u117, u118, u119, u120, u121, u122, u123, u124, u125, u126, u127, u128, u129, u130, u131, u132, u133, u134, u135, u136, u137, u138, u139, u140, u141, u142, u143, u144, u145, u146, u147, u148, u149, u150, u151, u152, u153, u154, u155, u156, u157, u158, u159, u160, u161, u162, u163, u164, u165, u166, u167, u168, u169, u170, u171, u172, u173, u174, u175, u176, u177, u178, u179, u180, u181, u182, u183, u184, u185, u186, u187, u188, u189, u190, u191, u192, u193, u194, u195, u196, u197, u198, u199, u200, u201, u202, u203, u204, u205, u206, u207, u208, u209, u210, u211, u212, u213, u214, u215, u216, u217, u218, u219, u220, u221, u222, u223, u224, u225, u226, u227, u228, u229, u230, u231, u232, u233, u234, u235, u236, u237, u238, u239, u240, u241, u242, u243, u244, u245, u246, u247, u248, u249, u250, u251, u252, u253, u254, u255, u256, u257, u258, u259, u260, u261, u262, u263, u264, u265, u266, u267, u268, u269, u270, u271, u272, u273, u274, u275, u276, u277, u278, u279, u280, u281, u282, u283, u284, u285, u286, u287, u288, u289, u290, u291, u292, u293, u294, u295, u296, u297, u298, u299, u300, u301, u302, u303, u304, u305, u306, u307, u308, u309, u310, u311, u312, u313, u314, u315, u316, u317, u318, u319, u320, u321, u322, u323, u324, u325], []⟩ W := by
  have HK := Hid.mk' (And.intro hX (And.intro hY (And.intro hU hV)))
  have HI := fun bm bd W' => placeIn_of (bm := bm) (bd := bd) (W' := W') he hP hO hAn hsx hS hox hoe hR
  have HJ := Hid.mk' HI
  clear hX hY hU hV HI he hO hAn hsx hS hox hoe hR
  show Code.wp Yba.prog (Code.seq _ _) _ _ _
  go_upto_region 47 with (fail)
  go_cut [31, 32] (fun v31 v32 wc => OutV (placeN sx (fun j => e (A j)) n1 ox oe n3) n3 wc v31 v32 ∧ Below W.heap.size W wc)
  case first =>
    go_wp2_with fail
    refine (keeps_same B (W.heap.size + 1) (W.heap.size + 1 + 1) b3 b2 b6 n1 n n3 n1 n n3 A sx (fun j => e (A j)) ox oe _ (by omega) (by omega) (by omega) (HJ.out _ _ _ ?hb ?m1 ?m2 ?d2) ⟨W.heap.size, 0, none⟩ ?h1 ?h2).mono ?_
    case hb => exact (((Below.refl _ _).alloc (Nat.le_refl _) _).alloc (by simp) _).alloc (by simp; omega) _
    case m1 => simp [World.cell?_alloc_past, World.cell?_alloc_at]
    case m2 => simp [World.cell?_alloc_past, World.cell?_alloc_at]
    case d2 => simp [World.cell?_alloc_at]
    case h1 => simp [World.cell?_alloc_past, World.cell?_alloc_at]
    case h2 => simp [World.cell?_alloc_at]
    rintro r w' ⟨hbb, ho⟩
    have hbw : Below W.heap.size W w' := ((((Below.refl _ _).alloc (Nat.le_refl _) _).alloc (by simp) _).alloc (by simp; omega) _).trans (hbb.mono (by simp; omega))
    have HB := Hid.mk' hbw
    clear hbw hbb
    cases hr : placeN sx (fun j => e (A j)) n1 ox oe n3 with
    | none =>
      rw [hr] at ho
      have hre : r = .returned (.tuple #[.slice none 0 0, .bool false]) := ho
      subst hre
      have HR := Hid.mk' hr
      clear hr ho
      go_wp2_with fail
      go_meet
      case rel => exact ⟨Or.inl ⟨HR.out, rfl, rfl⟩, HB.out⟩
    | some acc =>
      rw [hr] at ho
      obtain ⟨hre, ha⟩ := ho
      subst hre
      have HR := Hid.mk' hr
      simp only [World.size_alloc] at ha
      have HA := Hid.mk' ha
      clear hr ha
      go_wp2_with fail
      go_meet
      case rel => exact ⟨Or.inr ⟨acc, W.heap.size + 1 + 1 + 1, HR.out, rfl, rfl, HA.out⟩, HB.out⟩
  case rest =>
    obtain ⟨ho, hw2⟩ := hcut
    obtain ⟨hX, hY, hU, hV⟩ := HK.out
    refine go_on (by assumption) ?_
    exact t20 hB l1 l3 (hb.trans (hw2.mono (Nat.le_trans hB hb.size))) ho (hX.below hw2 hX.lt) (hY.below hw2 hY.lt) (hU.below hw2 hU.lt) (hV.below hw2 hV.lt)
end Go.Proofs.Ybulkamew
