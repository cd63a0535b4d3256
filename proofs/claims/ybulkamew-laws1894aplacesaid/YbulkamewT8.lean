import Derived.Test.YbulkamewTail
import Derived.Test.YbulkamewT12
namespace Go.Proofs.Ybulkamew
open Go.ChangeShapes Go.WideShapes Go.ChangeAt Go.RowKit

/-- Where the law puts side j. -/
def atF (n n2 : Nat) (f2 : Nat → Nat) (j : Nat) : Nat := if j < n2 then f2 j % n else 0
theorem atF_lt {n n2 : Nat} {f2 : Nat → Nat} (h : 1 ≤ n) (j : Nat) : atF n n2 f2 j < n := by
  unfold atF
  split
  · exact Nat.mod_lt _ (by omega)
  · omega
theorem rel3 {W wr : World} {B n n1 n2 k p q : Nat} {e f1 f2 : Nat → Nat}
    (H : Fill wr W.heap.size (n1 * 5) (k * 5) (sideF B (atF n n2 f2) (fun j => f1 j % 4)) ∧ Fill wr (W.heap.size + 1) n1 k (fun j => .int .i64 ((f1 j % 4 : Nat) : Int)) ∧ Fill wr (W.heap.size + 1 + 1) n1 k (fun j => .int .i64 (e (atF n n2 f2 j))) ∧ Below W.heap.size W wr)
    (hlt : k < n1) (hp : p = f1 k % 4) (hq : atF n n2 f2 k = q) :
    Fill (((((((wr.setCell ⟨W.heap.size + 1, k, none⟩ (.int .i64 (p : Int))).setCell ⟨W.heap.size + 1 + 1, k, none⟩ (.int .i64 (e q : Int))).setCell ⟨W.heap.size, k * 5, none⟩ (.int .i64 (q : Int))).setCell ⟨W.heap.size, k * 5 + 1, none⟩ (.slice none 0 0)).setCell ⟨W.heap.size, k * 5 + 2, none⟩ (.bool false)).setCell ⟨W.heap.size, k * 5 + 3, none⟩ (.iface (eT p) (.pointer (some ⟨B + p, 0, none⟩)))).setCell ⟨W.heap.size, k * 5 + 4, none⟩ (.int .i64 0)) W.heap.size (n1 * 5) ((k + 1) * 5) (sideF B (atF n n2 f2) (fun j => f1 j % 4)) ∧ Fill (((((((wr.setCell ⟨W.heap.size + 1, k, none⟩ (.int .i64 (p : Int))).setCell ⟨W.heap.size + 1 + 1, k, none⟩ (.int .i64 (e q : Int))).setCell ⟨W.heap.size, k * 5, none⟩ (.int .i64 (q : Int))).setCell ⟨W.heap.size, k * 5 + 1, none⟩ (.slice none 0 0)).setCell ⟨W.heap.size, k * 5 + 2, none⟩ (.bool false)).setCell ⟨W.heap.size, k * 5 + 3, none⟩ (.iface (eT p) (.pointer (some ⟨B + p, 0, none⟩)))).setCell ⟨W.heap.size, k * 5 + 4, none⟩ (.int .i64 0)) (W.heap.size + 1) n1 (k + 1) (fun j => .int .i64 ((f1 j % 4 : Nat) : Int)) ∧ Fill (((((((wr.setCell ⟨W.heap.size + 1, k, none⟩ (.int .i64 (p : Int))).setCell ⟨W.heap.size + 1 + 1, k, none⟩ (.int .i64 (e q : Int))).setCell ⟨W.heap.size, k * 5, none⟩ (.int .i64 (q : Int))).setCell ⟨W.heap.size, k * 5 + 1, none⟩ (.slice none 0 0)).setCell ⟨W.heap.size, k * 5 + 2, none⟩ (.bool false)).setCell ⟨W.heap.size, k * 5 + 3, none⟩ (.iface (eT p) (.pointer (some ⟨B + p, 0, none⟩)))).setCell ⟨W.heap.size, k * 5 + 4, none⟩ (.int .i64 0)) (W.heap.size + 1 + 1) n1 (k + 1) (fun j => .int .i64 (e (atF n n2 f2 j))) ∧ Below W.heap.size W (((((((wr.setCell ⟨W.heap.size + 1, k, none⟩ (.int .i64 (p : Int))).setCell ⟨W.heap.size + 1 + 1, k, none⟩ (.int .i64 (e q : Int))).setCell ⟨W.heap.size, k * 5, none⟩ (.int .i64 (q : Int))).setCell ⟨W.heap.size, k * 5 + 1, none⟩ (.slice none 0 0)).setCell ⟨W.heap.size, k * 5 + 2, none⟩ (.bool false)).setCell ⟨W.heap.size, k * 5 + 3, none⟩ (.iface (eT p) (.pointer (some ⟨B + p, 0, none⟩)))).setCell ⟨W.heap.size, k * 5 + 4, none⟩ (.int .i64 0)) := by
  obtain ⟨hF, hG, hH, hbr⟩ := H
  obtain ⟨t0, t1, t2, t3, t4⟩ := sideF_at B (atF n n2 f2) (fun j => f1 j % 4) k
  subst hp
  rw [hq] at t0
  refine ⟨?_, ?_, ?_, ?_⟩
  · rw [show (k + 1) * 5 = k * 5 + 1 + 1 + 1 + 1 + 1 by omega]
    exact ((((((hF.setOther _ (by omega)).setOther _ (by omega)).step (by omega) t0.symm).step (by omega) t1.symm).step (by omega) t2.symm).step (by omega) t3.symm).step (by omega) t4.symm
  · exact ((((((hG.step hlt rfl).setOther _ (by omega)).setOther _ (by omega)).setOther _ (by omega)).setOther _ (by omega)).setOther _ (by omega)).setOther _ (by omega)
  · exact (((((((hH.setOther _ (by omega)).step hlt (by rw [hq])).setOther _ (by omega)).setOther _ (by omega)).setOther _ (by omega)).setOther _ (by omega)).setOther _ (by omega))
  · exact ((((((hbr.setCell (by simp) _).setCell (by simp; omega) _).setCell (by simp) _).setCell (by simp) _).setCell (by simp) _).setCell (by simp) _).setCell (by simp) _
set_option maxRecDepth 100000 in
set_option maxHeartbeats 1600000 in
theorem t8 {B n c13 b2 : Nat} {e : Nat → Nat} {a1 a2 a3 a4 : Option Addr} {n1 n2 n3 n4 c1 c2 c3 c4 : Nat} {f1 f2 f3 f4 : Nat → Nat} {w0 W : World} {u0 u5 u6 u7 u8 u9 u10 u14 u15 u17 u18 u19 u20 u21 u22 u23 u24 u25 u26 u27 u28 u29 u30 u31 u32 u33 u34 u35 u36 u37 u38 u39 u40 u41 u42 u43 u44 u45 u46 u47 u48 u49 u50 u51 u52 u53 u54 u55 u56 u57 u58 u59 u60 u61 u62 u63 u64 u65 u66 u67 u68 u69 u70 u71 u72 u73 u74 u75 u76 u77 u78 u79 u80 u81 u82 u83 u84 u85 u86 u87 u88 u89 u90 u91 u92 u93 u94 u95 u96 u97 u98 u99 u100 u101 u102 u103 u104 u105 u106 u107 u108 u109 u110 u111 u112 u113 u114 u115 u116 u117 u118 u119 u120 u121 u122 u123 u124 u125 u126 u127 u128 u129 u130 u131 u132 u133 u134 u135 u136 u137 u138 u139 u140 u141 u142 u143 u144 u145 u146 u147 u148 u149 u150 u151 u152 u153 u154 u155 u156 u157 u158 u159 u160 u161 u162 u163 u164 u165 u166 u167 u168 u169 u170 u171 u172 u173 u174 u175 u176 u177 u178 u179 u180 u181 u182 u183 u184 u185 u186 u187 u188 u189 u190 u191 u192 u193 u194 u195 u196 u197 u198 u199 u200 u201 u202 u203 u204 u205 u206 u207 u208 u209 u210 u211 u212 u213 u214 u215 u216 u217 u218 u219 u220 u221 u222 u223 u224 u225 u226 u227 u228 u229 u230 u231 u232 u233 u234 u235 u236 u237 u238 u239 u240 u241 u242 u243 u244 u245 u246 u247 u248 u249 u250 u251 u252 u253 u254 u255 u256 u257 u258 u259 u260 u261 u262 u263 u264 u265 u266 u267 u268 u269 u270 u271 u272 u273 u274 u275 u276 u277 u278 u279 u280 u281 u282 u283 u284 u285 u286 u287 u288 u289 u290 u291 u292 u293 u294 u295 u296 u297 u298 u299 u300 u301 u302 u303 u304 u305 u306 u307 u308 u309 u310 u311 u312 u313 u314 u315 u316 u317 u318 u319 u320 u321 u322 u323 u324 u325 : Value}
    (hB : B ≤ w0.heap.size) (hn1 : 1 ≤ n) (hn2 : n ≤ 256) (he : ∀ j, e j < 2) (hE : Fill W (B + 8) n n (fun j => .int .i64 (e j))) (hP : Pool B W) (hb : Below B w0 W)
    (hO : ∀ j, j < n → W.cell? ⟨b2, j * 7 + 1, none⟩ = some (pN B (e j))) (hA1 : ArgIs W a1 n1 f1) (hA2 : ArgIs W a2 n2 f2) (hA3 : ArgIs W a3 n3 f3) (hA4 : ArgIs W a4 n4 f4) (l1 : n1 ≤ 256) (l3 : n3 ≤ 256) :
    (tailN 8 (Yba.f3.body.getD .skip)).wp Yba.prog (bodyPost Yba.prog Yba.f3 (Post3 B w0)) ⟨#[u0, .slice a1 n1 c1, .slice a2 n2 c2, .slice a3 n3 c3, .slice a4 n4 c4, u5, u6, u7, u8, u9, u10, .slice (some ⟨B + 4, 0, none⟩) 4 4, .slice (some ⟨B + 7, 0, none⟩) 2 2, .slice (some ⟨B + 8, 0, none⟩) n c13, u14, u15, .slice (some ⟨b2, 0, none⟩) n n, u17, u18, u19, u20, u21, u22, u23, u24, u25, u26, u27, u28, u29, u30, u31, u32, u33, u34, u35, u36, u37, u38, u39, u40, u41, u42, u43, u44, u45, u46, u47, u48, u49, u50, u51, u52, u53, u54, u55, u56, u57, u58, u59, u60, u61, u62, u63, u64, u65, u66, u67, u68, u69, u70, u71, u72, u73, u74, u75, u76, u77, u78, u79, u80, u81, u82, u83, u84, u85, u86, u87, u88, u89, u90, u91, u92, u93, u94, u95, u96, u97, u98, u99, u100, u101, u102, u103, u104, u105, u106, u107, u108, u109, u110, u111, u112, u113, u114, u115, u116, u117, u118, u119, u120, u121, u122, u123, u124, u125, u126, u127, u128, u129, u130, u131, u132, u133, u134, u135, u136, u137, u138, u139, u140, u141, u142, u143, u144, u145, u146, u147, u148, u149, u150, u151, u152, u153, u154, u155, u156, u157, u158, u159, u160, u161, u162, u163, u164, u165, u166, u167, u168, u169, u170, u171, u172, u173, u174, u175, u176, u177, u178, u179, u180, u181, u182, u183, u184, u185, u186, u187, u188, u189, u190, u191, u192, u193, u194, u195, u196, u197, u198, u199, u200, u201, u202, u203, u204, u205, u206, u207, u208, u209, u210, u211, u212, u213, u214, u215, u216, u217, u218, u219, u220, u221, u222, u223, u224, u225, u226, u227, u228, u229, u230, u231, u232, u233, u234, u235, u236, u237, u238, u239, u240, u241, u242, u243, u244, u245, u246, u247, u248, u249, u250, u251, u252, u253, u254, u255, u256, u257, u258, u259, u260, u261, u262, u263, u264, u265, u266, u267, u268, u269, u270, u271, u272, u273, u274, u275, u276, u277, u278, u279, u280, u281, u282, u283, u284, u285, u286, u287, u288, u289, u290, u291, u292, u293, u294, u295, u296, u297, u298, u299, u300, u301, u302, u303, u304, u305, u306, u307, u308, u309, u310, u311, u312, u313, u314, u315, u316, u317, u318, u319, u320, u321, u322, u323, u324, u325], []⟩ W := by
  have HK := Hid.mk' (And.intro hA3 hA4)
  clear hA3 hA4
  have hmk1 := fun w => mk36 n1 (by omega) w
  have hmk2 := fun w => mk27 n1 n1 (Nat.le_refl _) (by omega) w
  have lE := hE.lt
  show Code.wp Yba.prog (Code.seq _ _) _ _ _
  go_upto_block 4 with (fail)
  go_cut [21] (fun _ wc => Fill wc W.heap.size (n1 * 5) (n1 * 5) (sideF B (atF n n2 f2) (fun j => f1 j % 4)) ∧ Fill wc (W.heap.size + 1) n1 n1 (fun j => .int .i64 ((f1 j % 4 : Nat) : Int)) ∧ Fill wc (W.heap.size + 1 + 1) n1 n1 (fun j => .int .i64 (e (atF n n2 f2 j))) ∧ Below W.heap.size W wc)
  case first =>
    have s1 := ((Arr.made W #[.int .i64 0, .slice none 0 0, .bool false, .nilIface, .int .i64 0] (n1 * 5) 41).fill (sideF B (atF n n2 f2) (fun j => f1 j % 4)))
    have s2 := ((Arr.made (W.alloc (.cells (madeCells #[.int .i64 0, .slice none 0 0, .bool false, .nilIface, .int .i64 0] (n1 * 5)) 41)) #[.int .i64 0] n1 3).fill (fun j => .int .i64 ((f1 j % 4 : Nat) : Int)))
    have s3 := ((Arr.made ((W.alloc (.cells (madeCells #[.int .i64 0, .slice none 0 0, .bool false, .nilIface, .int .i64 0] (n1 * 5)) 41)).alloc (.cells (madeCells #[.int .i64 0] n1) 3)) #[.int .i64 0] n1 3).fill (fun j => .int .i64 (e (atF n n2 f2 j))))
    rw [World.size_alloc] at s2
    rw [World.size_alloc, World.size_alloc] at s3
    have HS := Hid.mk' (And.intro ((s1.alloc (.cells (madeCells #[.int .i64 0] n1) 3)).alloc (.cells (madeCells #[.int .i64 0] n1) 3)) (And.intro (s2.alloc (.cells (madeCells #[.int .i64 0] n1) 3)) s3))
    clear s1 s2 s3
    go_wp2
    go_loopw [124] (fun i wr => ∃ k : Nat, k ≤ n1 ∧ i = .int .i64 k ∧ Fill wr W.heap.size (n1 * 5) (k * 5) (sideF B (atF n n2 f2) (fun j => f1 j % 4)) ∧ Fill wr (W.heap.size + 1) n1 k (fun j => .int .i64 ((f1 j % 4 : Nat) : Int)) ∧ Fill wr (W.heap.size + 1 + 1) n1 k (fun j => .int .i64 (e (atF n n2 f2 j))) ∧ Below W.heap.size W wr) (fun i _ => n1 - (intOf i).toNat)
    case atStart => exact ⟨0, Nat.zero_le _, rfl, by simpa using HS.out.1, HS.out.2.1, HS.out.2.2, (((Below.refl _ _).alloc (Nat.le_refl _) _).alloc (by simp) _).alloc (by simp; omega) _⟩
    case round =>
      clear HS hmk1 hmk2
      obtain ⟨k, hk, rfl, hF, hG, hH, hbr⟩ := hrel
      by_cases hlt : k < n1
      · have kP := hP.below hbr hP.size
        have hA1r := hA1.below hbr
        have hA2r := hA2.below hbr
        have i0 : (0 : Int) ≤ (k : Int) := by omega
        have i1 : (k : Int) < (n1 : Int) := by omega
        obtain ⟨x1, rfl, xl1, cx1, bx1⟩ := hA1r k hlt
        obtain ⟨p, hp⟩ : ∃ p : Nat, p = f1 k % 4 := ⟨_, rfl⟩
        have hp4 : p < 4 := by omega
        have rp : ((f1 k : Nat) : Int) % 4 = (p : Int) := by omega
        have p0 : (0 : Int) ≤ (p : Int) := by omega
        have p1 : (p : Int) < 4 := by omega
        have kX := kP.e p hp4
        have HP4 := Hid.mk' hp
        clear hp
        obtain ⟨v0, d0⟩ := hF.some (j := k * 5) (by omega)
        have g0 := hF.free (j := k * 5) (by omega)
        obtain ⟨v1, d1⟩ := hF.some (j := k * 5 + 1) (by omega)
        have g1 := hF.free (j := k * 5 + 1) (by omega)
        obtain ⟨v2, d2⟩ := hF.some (j := k * 5 + 2) (by omega)
        have g2 := hF.free (j := k * 5 + 2) (by omega)
        obtain ⟨v3, d3⟩ := hF.some (j := k * 5 + 3) (by omega)
        have g3 := hF.free (j := k * 5 + 3) (by omega)
        obtain ⟨v4, d4⟩ := hF.some (j := k * 5 + 4) (by omega)
        have g4 := hF.free (j := k * 5 + 4) (by omega)
        obtain ⟨v5, d5⟩ := hG.some (j := k) hlt
        have g5 := hG.free (j := k) hlt
        obtain ⟨v6, d6⟩ := hH.some (j := k) hlt
        have g6 := hH.free (j := k) hlt
        have lF := hF.lt
        have lG := hG.lt
        have lH := hH.lt
        have HF := Hid.mk' (And.intro hF (And.intro hG (And.intro hH hbr)))
        have HEr := hE.below hbr lE
        clear hF hG hH hP kP hA1r hA1 hE
        by_cases hk2 : k < n2
        · obtain ⟨x2, rfl, xl2, cx2, bx2⟩ := hA2r k hk2
          obtain ⟨q, hq⟩ : ∃ q : Nat, q = f2 k % n := ⟨_, rfl⟩
          have hqn : q < n := by rw [hq]; exact Nat.mod_lt _ (by omega)
          have rq : ((f2 k : Nat) : Int) % (n : Int) = (q : Int) := by rw [hq]; rfl
          have HQ : Hid (atF n n2 f2 k = q) := by unfold Hid atF; rw [if_pos hk2, hq]
          have q0 : (0 : Int) ≤ (q : Int) := by omega
          have q1 : (q : Int) < (n : Int) := by omega
          have kE := HEr.cell (j := q) hqn hqn
          have HEE := Hid.mk' HEr
          clear hq HEr hA2r hA2 hbr he hO
          go_wp2
          go_roundw
          case rel =>
            obtain ⟨r1, r2, r3, r4⟩ := rel3 (e := e) HF.out hlt HP4.out HQ.out
            exact ⟨k + 1, by omega, by go_num, r1, r2, r3, r4⟩
          case measure => simp [intOf]; omega
        · have kE := HEr.cell (j := 0) (by omega) (by omega)
          have HQ : Hid (atF n n2 f2 k = 0) := by unfold Hid atF; rw [if_neg hk2]
          have q1 : (0 : Int) < (n : Int) := by omega
          have HEE := Hid.mk' HEr
          clear HEr hA2r hA2 hbr he hO
          go_wp2
          go_roundw
          case rel =>
            obtain ⟨r1, r2, r3, r4⟩ := rel3 (e := e) HF.out hlt HP4.out HQ.out
            exact ⟨k + 1, by omega, by go_num, r1, r2, r3, r4⟩
          case measure => simp [intOf]; omega
      · have hkn : k = n1 := by omega
        subst hkn
        have HF := Hid.mk' (And.intro hF (And.intro hG (And.intro hH hbr)))
        clear hF hG hH hP hbr hE he hA1 hA2 hO
        go_wp2
        go_meet
        case rel => exact HF.out
  case rest =>
    obtain ⟨r1, r2, r3, hw2⟩ := hcut
    obtain ⟨hA3, hA4⟩ := HK.out
    refine go_on (by assumption) ?_
    exact t12 hB hn2 l1 he (hP.below hw2 hP.size) (hb.trans (hw2.mono (Nat.le_trans hB hb.size))) (fun j hj => (hw2.cell (p := ⟨b2, j * 7 + 1, none⟩) (World.block_lt_of_cell? W _ (hO j hj))).trans (hO j hj))
      (atF_lt hn1) (fun j => Nat.mod_lt _ (by omega)) r1 r2 r3 (hA3.below hw2) (hA4.below hw2) l3
end Go.Proofs.Ybulkamew
