import Derived.Test.YbulkamewTail
import Derived.Test.YbulkamewT16
namespace Go.Proofs.Ybulkamew
open Go.ChangeShapes Go.WideShapes Go.ChangeAt Go.RowKit

/-- The scope that the law gives origin j. -/
def oeF (n4 : Nat) (f4 : Nat → Nat) (j : Nat) : Nat := if j < n4 then f4 j % 2 else 0
theorem rel4 {W wr : World} {B n3 n4 k p q : Nat} {f3 f4 : Nat → Nat}
    (H : Fill wr W.heap.size (n3 * 2) (k * 2) (origF B (fun j => f3 j % 4) (oeF n4 f4)) ∧ Fill wr (W.heap.size + 1) n3 k (fun j => .int .i64 ((f3 j % 4 : Nat) : Int)) ∧ Fill wr (W.heap.size + 1 + 1) n3 k (fun j => .int .i64 (oeF n4 f4 j)) ∧ Below W.heap.size W wr)
    (hlt : k < n3) (hp : p = f3 k % 4) (hq : oeF n4 f4 k = q) :
    Fill ((((wr.setCell ⟨W.heap.size + 1, k, none⟩ (.int .i64 (p : Int))).setCell ⟨W.heap.size + 1 + 1, k, none⟩ (.int .i64 (q : Int))).setCell ⟨W.heap.size, k * 2, none⟩ (.iface (eT p) (.pointer (some ⟨B + p, 0, none⟩)))).setCell ⟨W.heap.size, k * 2 + 1, none⟩ (.pointer (some ⟨B + 5 + q, 0, none⟩))).drew W.heap.size (n3 * 2) ((k + 1) * 2) (origF B (fun j => f3 j % 4) (oeF n4 f4)) ∧ Fill ((((wr.setCell ⟨W.heap.size + 1, k, none⟩ (.int .i64 (p : Int))).setCell ⟨W.heap.size + 1 + 1, k, none⟩ (.int .i64 (q : Int))).setCell ⟨W.heap.size, k * 2, none⟩ (.iface (eT p) (.pointer (some ⟨B + p, 0, none⟩)))).setCell ⟨W.heap.size, k * 2 + 1, none⟩ (.pointer (some ⟨B + 5 + q, 0, none⟩))).drew (W.heap.size + 1) n3 (k + 1) (fun j => .int .i64 ((f3 j % 4 : Nat) : Int)) ∧ Fill ((((wr.setCell ⟨W.heap.size + 1, k, none⟩ (.int .i64 (p : Int))).setCell ⟨W.heap.size + 1 + 1, k, none⟩ (.int .i64 (q : Int))).setCell ⟨W.heap.size, k * 2, none⟩ (.iface (eT p) (.pointer (some ⟨B + p, 0, none⟩)))).setCell ⟨W.heap.size, k * 2 + 1, none⟩ (.pointer (some ⟨B + 5 + q, 0, none⟩))).drew (W.heap.size + 1 + 1) n3 (k + 1) (fun j => .int .i64 (oeF n4 f4 j)) ∧ Below W.heap.size W ((((wr.setCell ⟨W.heap.size + 1, k, none⟩ (.int .i64 (p : Int))).setCell ⟨W.heap.size + 1 + 1, k, none⟩ (.int .i64 (q : Int))).setCell ⟨W.heap.size, k * 2, none⟩ (.iface (eT p) (.pointer (some ⟨B + p, 0, none⟩)))).setCell ⟨W.heap.size, k * 2 + 1, none⟩ (.pointer (some ⟨B + 5 + q, 0, none⟩))).drew := by
  obtain ⟨hF, hG, hH, hbr⟩ := H
  obtain ⟨t0, t1⟩ := origF_at B (fun j => f3 j % 4) (oeF n4 f4) k
  subst hp
  rw [hq] at t1
  refine ⟨?_, ?_, ?_, ?_⟩
  · rw [show (k + 1) * 2 = k * 2 + 1 + 1 by omega]
    exact ((((hF.setOther _ (by omega)).setOther _ (by omega)).step (by omega) t0.symm).step (by omega) t1.symm).drew
  · exact ((((hG.step hlt rfl).setOther _ (by omega)).setOther _ (by omega)).setOther _ (by omega)).drew
  · exact ((((hH.setOther _ (by omega)).step hlt (by rw [hq])).setOther _ (by omega)).setOther _ (by omega)).drew
  · exact ((((hbr.setCell (by simp) _).setCell (by simp; omega) _).setCell (by simp) _).setCell (by simp) _).drew
set_option maxRecDepth 100000 in
set_option maxHeartbeats 1600000 in
theorem t12 {B n n1 b2 b3 b4 b5 : Nat} {e A sx : Nat → Nat} {a3 a4 : Option Addr} {n3 n4 c3 c4 : Nat} {f3 f4 : Nat → Nat} {w0 W : World} {u0 u1 u2 u5 u6 u7 u8 u9 u10 u13 u14 u15 u17 u21 u22 u23 u24 u25 u26 u27 u28 u29 u30 u31 u32 u33 u34 u35 u36 u37 u38 u39 u40 u41 u42 u43 u44 u45 u46 u47 u48 u49 u50 u51 u52 u53 u54 u55 u56 u57 u58 u59 u60 u61 u62 u63 u64 u65 u66 u67 u68 u69 u70 u71 u72 u73 u74 u75 u76 u77 u78 u79 u80 u81 u82 u83 u84 u85 u86 u87 u88 u89 u90 u91 u92 u93 u94 u95 u96 u97 u98 u99 u100 u101 u102 u103 u104 u105 u106 u107 u108 u109 u110 u111 u112 u113 u114 u115 u116 u117 u118 u119 u120 u121 u122 u123 u124 u125 u126 u127 u128 u129 u130 u131 u132 u133 u134 u135 u136 u137 u138 u139 u140 u141 u142 u143 u144 u145 u146 u147 u148 u149 u150 u151 u152 u153 u154 u155 u156 u157 u158 u159 u160 u161 u162 u163 u164 u165 u166 u167 u168 u169 u170 u171 u172 u173 u174 u175 u176 u177 u178 u179 u180 u181 u182 u183 u184 u185 u186 u187 u188 u189 u190 u191 u192 u193 u194 u195 u196 u197 u198 u199 u200 u201 u202 u203 u204 u205 u206 u207 u208 u209 u210 u211 u212 u213 u214 u215 u216 u217 u218 u219 u220 u221 u222 u223 u224 u225 u226 u227 u228 u229 u230 u231 u232 u233 u234 u235 u236 u237 u238 u239 u240 u241 u242 u243 u244 u245 u246 u247 u248 u249 u250 u251 u252 u253 u254 u255 u256 u257 u258 u259 u260 u261 u262 u263 u264 u265 u266 u267 u268 u269 u270 u271 u272 u273 u274 u275 u276 u277 u278 u279 u280 u281 u282 u283 u284 u285 u286 u287 u288 u289 u290 u291 u292 u293 u294 u295 u296 u297 u298 u299 u300 u301 u302 u303 u304 u305 u306 u307 u308 u309 u310 u311 u312 u313 u314 u315 u316 u317 u318 u319 u320 u321 u322 u323 u324 u325 : Value}
    (hB : B ≤ w0.heap.size) (hn2 : n ≤ 256) (l1 : n1 ≤ 256) (he : ∀ j, e j < 2) (hP : Pool B W) (hb : Below B w0 W)
    (hO : ∀ j, j < n → W.cell? ⟨b2, j * 7 + 1, none⟩ = some (pN B (e j))) (hAn : ∀ j, A j < n) (hsx : ∀ j, sx j < 4)
    (hS : Fill W b3 (n1 * 5) (n1 * 5) (sideF B A sx)) (hX : Fill W b4 n1 n1 (fun j => .int .i64 (sx j))) (hY : Fill W b5 n1 n1 (fun j => .int .i64 (e (A j))))
    (hA3 : ArgIs W a3 n3 f3) (hA4 : ArgIs W a4 n4 f4) (l3 : n3 ≤ 256) :
    (tailN 12 (Yba.f3.body.getD .skip)).wp Yba.prog (bodyPost Yba.prog Yba.f3 (Post3 B w0)) ⟨#[u0, u1, u2, .slice a3 n3 c3, .slice a4 n4 c4, u5, u6, u7, u8, u9, u10, .slice (some ⟨B + 4, 0, none⟩) 4 4, .slice (some ⟨B + 7, 0, none⟩) 2 2, u13, u14, u15, .slice (some ⟨b2, 0, none⟩) n n, u17, .slice (some ⟨b3, 0, none⟩) n1 n1, .slice (some ⟨b4, 0, none⟩) n1 n1, .slice (some ⟨b5, 0, none⟩) n1 n1, u21, u22, u23, u24, u25, u26, u27, u28, u29, u30, u31, u32, u33, u34, u35, u36, u37, u38, u39, u40, u41, u42, u43, u44, u45, u46, u47, u48, u49, u50, u51, u52, u53, u54, u55, u56, u57, u58, u59, u60, u61, u62, u63, u64, u65, u66, u67, u68, u69, u70, u71, u72, u73, u74, u75, u76, u77, u78, u79, u80, u81, u82, u83, u84, u85, u86, u87, u88, u89, u90, u91, u92, u93, u94, u95, u96, u97, u98, u99, u100, u101, u102, u103, u104, u105, u106, u107, u108, u109, u110, u111, u112, u113, u114, u115, u116, u117, u118, u119, u120, u121, u122, u123, u124, u125, u126, u127, u128, u129, u130, u131, u132, u133, u134, u135, u136, u137, u138, u139, u140, u141, u142, u143, u144, u145, u146, u147, u148, u149, u150, u151, u152, u153, u154, u155, u156, u157, u158, u159, u160, u161, u162, u163, u164, u165, u166, u167, u168, u169, u170, u171, u172, u173, u174, u175, u176, u177, u178, u179, u180, u181, u182, u183, u184, u185, u186, u187, u188, u189, u190, u191, u192, u193, u194, u195, u196, u197, u198, u199, u200, u201, u202, u203, u204, u205, u206, u207, u208, u209, u210, u211, u212, u213, u214, u215, u216, u217, u218, u219, u220, u221, u222, u223, u224, u225, u226, u227, u228, u229, u230, u231, u232, u233, u234, u235, u236, u237, u238, u239, u240, u241, u242, u243, u244, u245, u246, u247, u248, u249, u250, u251, u252, u253, u254, u255, u256, u257, u258, u259, u260, u261, u262, u263, u264, u265, u266, u267, u268, u269, u270, u271, u272, u273, u274, u275, u276, u277, u278, u279, u280, u281, u282, u283, u284, u285, u286, u287, u288, u289, u290, u291, u292, u293, u294, u295, u296, u297, u298, u299, u300, u301, u302, u303, u304, u305, u306, u307, u308, u309, u310, u311, u312, u313, u314, u315, u316, u317, u318, u319, u320, u321, u322, u323, u324, u325], []⟩ W := by
  have hmk1 := fun w => mk42 n3 (by omega) w
  have hmk2 := fun w => mk27 n3 n3 (Nat.le_refl _) (by omega) w
  have HK := Hid.mk' (And.intro hS (And.intro hX (And.intro hY (And.intro hO (And.intro hAn (And.intro hsx he))))))
  clear hS hX hY hO hAn hsx he
  show Code.wp Yba.prog (Code.seq _ _) _ _ _
  go_upto_block 6 with (fail)
  go_cut [26] (fun _ wc => Fill wc W.heap.size (n3 * 2) (n3 * 2) (origF B (fun j => f3 j % 4) (oeF n4 f4)) ∧ Fill wc (W.heap.size + 1) n3 n3 (fun j => .int .i64 ((f3 j % 4 : Nat) : Int)) ∧ Fill wc (W.heap.size + 1 + 1) n3 n3 (fun j => .int .i64 (oeF n4 f4 j)) ∧ Below W.heap.size W wc)
  case first =>
    have s1 := ((Arr.made W #[.nilIface, .pointer none] (n3 * 2) 44).fill (origF B (fun j => f3 j % 4) (oeF n4 f4)))
    have s2 := ((Arr.made (W.alloc (.cells (madeCells #[.nilIface, .pointer none] (n3 * 2)) 44)) #[.int .i64 0] n3 3).fill (fun j => .int .i64 ((f3 j % 4 : Nat) : Int)))
    have s3 := ((Arr.made ((W.alloc (.cells (madeCells #[.nilIface, .pointer none] (n3 * 2)) 44)).alloc (.cells (madeCells #[.int .i64 0] n3) 3)) #[.int .i64 0] n3 3).fill (fun j => .int .i64 (oeF n4 f4 j)))
    rw [World.size_alloc] at s2
    rw [World.size_alloc, World.size_alloc] at s3
    have HS := Hid.mk' (And.intro ((s1.alloc (.cells (madeCells #[.int .i64 0] n3) 3)).alloc (.cells (madeCells #[.int .i64 0] n3) 3)) (And.intro (s2.alloc (.cells (madeCells #[.int .i64 0] n3) 3)) s3))
    clear s1 s2 s3
    go_wp2
    go_loopw [180] (fun i wr => ∃ k : Nat, k ≤ n3 ∧ i = .int .i64 k ∧ Fill wr W.heap.size (n3 * 2) (k * 2) (origF B (fun j => f3 j % 4) (oeF n4 f4)) ∧ Fill wr (W.heap.size + 1) n3 k (fun j => .int .i64 ((f3 j % 4 : Nat) : Int)) ∧ Fill wr (W.heap.size + 1 + 1) n3 k (fun j => .int .i64 (oeF n4 f4 j)) ∧ Below W.heap.size W wr) (fun i _ => n3 - (intOf i).toNat)
    case atStart => exact ⟨0, Nat.zero_le _, rfl, by simpa using HS.out.1, HS.out.2.1, HS.out.2.2, (((Below.refl _ _).alloc (Nat.le_refl _) _).alloc (by simp) _).alloc (by simp; omega) _⟩
    case round =>
      clear HS hmk1 hmk2
      obtain ⟨k, hk, rfl, hF, hG, hH, hbr⟩ := hrel
      by_cases hlt : k < n3
      · have kP := hP.below hbr hP.size
        have hA3r := hA3.below hbr
        have hA4r := hA4.below hbr
        have i0 : (0 : Int) ≤ (k : Int) := by omega
        have i1 : (k : Int) < (n3 : Int) := by omega
        obtain ⟨x1, rfl, xl1, cx1, bx1⟩ := hA3r k hlt
        obtain ⟨p, hp⟩ : ∃ p : Nat, p = f3 k % 4 := ⟨_, rfl⟩
        have hp4 : p < 4 := by omega
        have rp : ((f3 k : Nat) : Int) % 4 = (p : Int) := by omega
        have p0 : (0 : Int) ≤ (p : Int) := by omega
        have p1 : (p : Int) < 4 := by omega
        have kX := kP.e p hp4
        have HP4 := Hid.mk' hp
        clear hp
        obtain ⟨v0, d0⟩ := hF.some (j := k * 2) (by omega)
        have g0 := hF.free (j := k * 2) (by omega)
        obtain ⟨v1, d1⟩ := hF.some (j := k * 2 + 1) (by omega)
        have g1 := hF.free (j := k * 2 + 1) (by omega)
        obtain ⟨v5, d5⟩ := hG.some (j := k) hlt
        have g5 := hG.free (j := k) hlt
        obtain ⟨v6, d6⟩ := hH.some (j := k) hlt
        have g6 := hH.free (j := k) hlt
        have lF := hF.lt
        have lG := hG.lt
        have lH := hH.lt
        have HF := Hid.mk' (And.intro hF (And.intro hG (And.intro hH hbr)))
        have lB := hP.size
        clear hF hG hH hP hA3r hA3
        by_cases hk2 : k < n4
        · obtain ⟨x2, rfl, xl2, cx2, bx2⟩ := hA4r k hk2
          obtain ⟨q, hq⟩ : ∃ q : Nat, q = f4 k % 2 := ⟨_, rfl⟩
          have hqn : q < 2 := by omega
          have rq : ((f4 k : Nat) : Int) % 2 = (q : Int) := by omega
          have HQ : Hid (oeF n4 f4 k = q) := by unfold Hid oeF; rw [if_pos hk2, hq]
          have q0 : (0 : Int) ≤ (q : Int) := by omega
          have q1 : (q : Int) < 2 := by omega
          have kE := kP.n q hqn
          clear hq kP hA4r hA4 hbr
          go_wp2
          refine region_tail 15 (by kernel_rfl) (by kernel_rfl) ?_
          simp only [List.take_succ_cons, List.take_zero, List.drop_succ_cons, List.drop_zero]
          repeat still_step
          refine wpStill_nil ?_
          go_wp2
          go_roundw
          case rel =>
            obtain ⟨r1, r2, r3, r4⟩ := rel4 HF.out hlt HP4.out HQ.out
            exact ⟨k + 1, by omega, by go_num, r1, r2, r3, r4⟩
          case measure => simp [intOf]; omega
        · have kE := kP.n 0 (by omega)
          have HQ : Hid (oeF n4 f4 k = 0) := by unfold Hid oeF; rw [if_neg hk2]
          clear kP hA4r hA4 hbr
          go_wp2
          refine region_tail 15 (by kernel_rfl) (by kernel_rfl) ?_
          simp only [List.take_succ_cons, List.take_zero, List.drop_succ_cons, List.drop_zero]
          repeat still_step
          refine wpStill_nil ?_
          go_wp2
          go_roundw
          case rel =>
            obtain ⟨r1, r2, r3, r4⟩ := rel4 HF.out hlt HP4.out HQ.out
            exact ⟨k + 1, by omega, by go_num, r1, r2, r3, r4⟩
          case measure => simp [intOf]; omega
      · have hkn : k = n3 := by omega
        subst hkn
        have HF := Hid.mk' (And.intro hF (And.intro hG (And.intro hH hbr)))
        clear hF hG hH hP hbr hA3 hA4
        go_wp2
        go_meet
        case rel => exact HF.out
  case rest =>
    obtain ⟨r1, r2, r3, hw2⟩ := hcut
    obtain ⟨hS, hX, hY, hO, hAn, hsx, he⟩ := HK.out
    refine go_on (by assumption) ?_
    exact t16 hB hn2 l1 l3 he (hP.below hw2 hP.size) (hb.trans (hw2.mono (Nat.le_trans hB hb.size))) (fun j hj => (hw2.cell (p := ⟨b2, j * 7 + 1, none⟩) (World.block_lt_of_cell? W _ (hO j hj))).trans (hO j hj)) hAn hsx
      (hS.below hw2 hS.lt) (hX.below hw2 hX.lt) (hY.below hw2 hY.lt) (fun j => Nat.mod_lt _ (by omega)) (fun j => by unfold oeF; split <;> omega) r1 r2 r3
end Go.Proofs.Ybulkamew
