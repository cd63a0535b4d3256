import Derived.Test.YbulkamewTail
import Derived.Test.YbulkamewT24
namespace Go.Proofs.Ybulkamew
open Go.ChangeShapes Go.WideShapes Go.ChangeAt Go.RowKit

theorem Arr.drewN {w : World} {b n : Nat} {f : Nat → Value} (h : Arr w b n f) (x : Nat) : Arr (w.drewN x) b n f := h
theorem Fill.drewN {w : World} {b n k : Nat} {F : Nat → Value} (h : Fill w b n k F) (x : Nat) : Fill (w.drewN x) b n k F := let ⟨f, a, e⟩ := h; ⟨f, a.drewN x, e⟩
theorem Fill.congr {w : World} {b n k : Nat} {F G : Nat → Value} (h : Fill w b n k F) (q : ∀ j, j < k → F j = G j) : Fill w b n k G := let ⟨f, a, e⟩ := h; ⟨f, a, fun j hj => (e j hj).trans (q j hj)⟩
theorem hasN_snoc (acc : List Nat) (k j : Nat) : hasN (acc ++ [k]) j = (hasN acc j || j == k) := by
  unfold hasN
  rw [Bool.eq_iff_iff]
  simp
theorem rel5 {W wo : World} {n1 n3 i k x : Nat} {sx se ox oe : Nat → Nat} {acc : List Nat} (hacc : placeN sx se n1 ox oe i = some acc)
    (H : Arr wo W.heap.size n1 (fun j => .bool (hasN acc j)) ∧ Fill wo (W.heap.size + 1) n3 i (fun j => .int .i64 ((acc[j]?.getD 0 : Nat) : Int)) ∧ Below W.heap.size W wo)
    (hlt : i < n3) (hkn : k < n1) (hx : sx k = ox i) (hz : se k = oe i) (hu : hasN acc k = false) (hno : ∀ j, j < k → hitB sx se (ox i) (oe i) acc j = false) :
    placeN sx se n1 ox oe (i + 1) = some (acc ++ [k]) ∧ Arr (((wo.drewN x).setCell ⟨W.heap.size, k, none⟩ (.bool true)).setCell ⟨W.heap.size + 1, i, none⟩ (.int .i64 (k : Int))) W.heap.size n1 (fun j => .bool (hasN (acc ++ [k]) j)) ∧ Fill (((wo.drewN x).setCell ⟨W.heap.size, k, none⟩ (.bool true)).setCell ⟨W.heap.size + 1, i, none⟩ (.int .i64 (k : Int))) (W.heap.size + 1) n3 (i + 1) (fun j => .int .i64 (((acc ++ [k])[j]?.getD 0 : Nat) : Int)) ∧ Below W.heap.size W (((wo.drewN x).setCell ⟨W.heap.size, k, none⟩ (.bool true)).setCell ⟨W.heap.size + 1, i, none⟩ (.int .i64 (k : Int))) := by
  obtain ⟨hA, hW, hb⟩ := H
  have hl := placeN_length hacc
  refine ⟨placeN_step hacc (firstHit_some hkn (by simp [hitB, hx, hz, hu]) hno), ?_, ?_, ?_⟩
  · refine (((hA.drewN x).set hkn (.bool true)).setOther _ (by omega)).congr (fun j hj => ?_)
    rw [hasN_snoc]
    by_cases e : j = k
    · subst e; rw [put_same]; simp
    · rw [put_other _ _ _ _ e]; simp [e]
  · refine Fill.step (((hW.drewN x).setOther _ (by omega)).congr (fun j hj => ?_)) hlt ?_
    · rw [List.getElem?_append_left (by omega)]
    · subst hl; simp
  · exact ((bel_drewN hb x).setCell (by simp) _).setCell (by simp) _

set_option maxRecDepth 100000 in
set_option maxHeartbeats 1600000 in
theorem t20 {B n1 n3 b3 b4 b5 b6 b7 b8 : Nat} {sx se ox oe : Nat → Nat} {w0 W : World} {v31 v32 : Value} {u0 u1 u2 u3 u4 u5 u6 u7 u8 u9 u10 u11 u12 u13 u14 u15 u16 u17 u21 u22 u26 u27 u28 u29 u30 u33 u34 u35 u36 u37 u38 u39 u40 u41 u42 u43 u44 u45 u46 u47 u48 u49 u50 u51 u52 u53 u54 u55 u56 u57 u58 u59 u60 u61 u62 u63 u64 u65 u66 u67 u68 u69 u70 u71 u72 u73 u74 u75 u76 u77 u78 u79 u80 u81 u82 u83 u84 u85 u86 u87 u88 u89 u90 u91 u92 u93 u94 u95 u96 u97 u98 u99 u100 u101 u102 u103 u104 u105 u106 u107 u108 u109 u110 u111 u112 u113 u114 u115 u116 u117 u118 u119 u120 u121 u122 u123 u124 u125 u126 u127 u128 u129 u130 u131 u132 u133 u134 u135 u136 u137 u138 u139 u140 u141 u142 u143 u144 u145 u146 u147 u148 u149 u150 u151 u152 u153 u154 u155 u156 u157 u158 u159 u160 u161 u162 u163 u164 u165 u166 u167 u168 u169 u170 u171 u172 u173 u174 u175 u176 u177 u178 u179 u180 u181 u182 u183 u184 u185 u186 u187 u188 u189 u190 u191 u192 u193 u194 u195 u196 u197 u198 u199 u200 u201 u202 u203 u204 u205 u206 u207 u208 u209 u210 u211 u212 u213 u214 u215 u216 u217 u218 u219 u220 u221 u222 u223 u224 u225 u226 u227 u228 u229 u230 u231 u232 u233 u234 u235 u236 u237 u238 u239 u240 u241 u242 u243 u244 u245 u246 u247 u248 u249 u250 u251 u252 u253 u254 u255 u256 u257 u258 u259 u260 u261 u262 u263 u264 u265 u266 u267 u268 u269 u270 u271 u272 u273 u274 u275 u276 u277 u278 u279 u280 u281 u282 u283 u284 u285 u286 u287 u288 u289 u290 u291 u292 u293 u294 u295 u296 u297 u298 u299 u300 u301 u302 u303 u304 u305 u306 u307 u308 u309 u310 u311 u312 u313 u314 u315 u316 u317 u318 u319 u320 u321 u322 u323 u324 u325 : Value}
    (hB : B ≤ w0.heap.size) (l1 : n1 ≤ 256) (l3 : n3 ≤ 256) (hb : Below B w0 W) (hOut : OutV (placeN sx se n1 ox oe n3) n3 W v31 v32)
    (hX : Fill W b4 n1 n1 (fun j => .int .i64 (sx j))) (hY : Fill W b5 n1 n1 (fun j => .int .i64 (se j)))
    (hU : Fill W b7 n3 n3 (fun j => .int .i64 (ox j))) (hV : Fill W b8 n3 n3 (fun j => .int .i64 (oe j))) :
    (tailN 20 (Yba.f3.body.getD .skip)).wp Yba.prog (bodyPost Yba.prog Yba.f3 (Post3 B w0)) ⟨#[u0, u1, u2, u3, u4, u5, u6, u7, u8, u9, u10, u11, u12, u13, u14, u15, u16, u17, .slice (some ⟨b3, 0, none⟩) n1 n1, .slice (some ⟨b4, 0, none⟩) n1 n1, .slice (some ⟨b5, 0, none⟩) n1 n1, u21, u22, .slice (some ⟨b6, 0, none⟩) n3 n3, .slice (some ⟨b7, 0, none⟩) n3 n3, .slice (some ⟨b8, 0, none⟩) n3 n3, u26, u27, u28, u29, u30, v31, v32, u33, u34, u35, u36, u37, u38, u39, u40, u41, u42, u43, u44, u45, u46, u47, u48, u49, u50, u51, u52, u53, u54, u55, u56, u57, u58, u59, u60, u61, u62, u63, u64, u65, u66, u67, u68, u69, u70, u71, u72, u73, u74, u75, u76, u77, u78, u79, u80, u81, u82, u83, u84, u85, u86, u87, u88, u89, u90, u91, u92, u93, u94, u95, u96, u97, u98, u99, u100, u101, u102, u103, u104, u105, u106, u107, u108, u109, u110, u111, u112, u113, u114, u115, u116, u117, u118, u119, u120, u121, u122, u123, u124, u125, u126, u127, u128, u129, u130, u131, u132, u133, u134, u135, u136, u137, u138, u139, u140, u141, u142, u143, u144, u145, u146, u147, u148, u149, u150, u151, u152, u153, u154, u155, u156, u157, u158, u159, u160, u161, u162, u163, u164, u165, u166, u167, u168, u169, u170, u171, u172, u173, u174, u175, u176, u177, u178, u179, u180, u181, u182, u183, u184, u185, u186, u187, u188, u189, u190, u191, u192, u193, u194, u195, u196, u197, u198, u199, u200, u201, u202, u203, u204, u205, u206, u207, u208, u209, u210, u211, u212, u213, u214, u215, u216, u217, u218, u219, u220, u221, u222, u223, u224, u225, u226, u227, u228, u229, u230, u231, u232, u233, u234, u235, u236, u237, u238, u239, u240, u241, u242, u243, u244, u245, u246, u247, u248, u249, u250, u251, u252, u253, u254, u255, u256, u257, u258, u259, u260, u261, u262, u263, u264, u265, u266, u267, u268, u269, u270, u271, u272, u273, u274, u275, u276, u277, u278, u279, u280, u281, u282, u283, u284, u285, u286, u287, u288, u289, u290, u291, u292, u293, u294, u295, u296, u297, u298, u299, u300, u301, u302, u303, u304, u305, u306, u307, u308, u309, u310, u311, u312, u313, u314, u315, u316, u317, u318, u319, u320, u321, u322, u323, u324, u325], []⟩ W := by
  have hmk1 := fun w => mk62 n1 (by omega) w
  have hmk2 := fun w => mk27 n3 n3 (Nat.le_refl _) (by omega) w
  have HO := Hid.mk' hOut
  clear hOut
  show Code.wp Yba.prog (Code.seq _ _) _ _ _
  go_upto_block 8 with (fail)
  go_cut [35] (fun v35 wc => WantV (placeN sx se n1 ox oe n3) n3 (W.heap.size + 1) wc v35 ∧ Below W.heap.size W wc)
  case first =>
    have s1 := Arr.made W #[.bool false] n1 4
    have s2 := (Arr.made (W.alloc (.cells (madeCells #[.bool false] n1) 4)) #[.int .i64 0] n3 3).fill (fun j => .int .i64 ((([] : List Nat)[j]?.getD 0 : Nat) : Int))
    rw [World.size_alloc] at s2
    have HS := Hid.mk' (And.intro (s1.alloc (.cells (madeCells #[.int .i64 0] n3) 3)) s2)
    clear s1 s2
    go_wp2
    go_loopw [35, 247] (fun v i wr => ∃ (k : Nat) (acc : List Nat), k ≤ n3 ∧ i = .int .i64 k ∧ v = .bool true ∧ placeN sx se n1 ox oe k = some acc ∧ Arr wr W.heap.size n1 (fun j => .bool (hasN acc j)) ∧ Fill wr (W.heap.size + 1) n3 k (fun j => .int .i64 ((acc[j]?.getD 0 : Nat) : Int)) ∧ Below W.heap.size W wr)
      (fun _ i _ => n3 - (intOf i).toNat)
    case atStart => exact ⟨0, [], Nat.zero_le _, rfl, rfl, rfl, HS.out.1.congr (fun j hj => by simp [hasN, Nat.mod_one]), HS.out.2, ((Below.refl _ _).alloc (Nat.le_refl _) _).alloc (by simp) _⟩
    case round =>
      clear HS hmk1 hmk2
      obtain ⟨wo, hwo⟩ : ∃ x, x = wr := ⟨_, rfl⟩
      subst hwo
      obtain ⟨i, acc, hi, rfl, rfl, hacc, hA, hW, hbr⟩ := hrel
      have HA := Hid.mk' hacc
      clear hacc
      by_cases hlt : i < n3
      · have kU := (hU.below hbr hU.lt).cell (j := i) hlt hlt
        have kV := (hV.below hbr hV.lt).cell (j := i) hlt hlt
        have i0 : (0 : Int) ≤ (i : Int) := by omega
        have i1 : (i : Int) < (n3 : Int) := by omega
        have HX := Hid.mk' (hX.below hbr hX.lt)
        have HY := Hid.mk' (hY.below hbr hY.lt)
        have HW := Hid.mk' (And.intro hA (And.intro hW hbr))
        clear hX hY hU hV hA hW hbr
        go_wp2
        go_loopw [37, 252] (fun fd kk w2 => ∃ k : Nat, k ≤ n1 ∧ kk = .int .i64 k ∧ fd = .int .i64 (-1) ∧ (∀ j, j < k → hitB sx se (ox i) (oe i) acc j = false) ∧ ∃ m, w2 = wo.drewN m) (fun _ kk _ => n1 - (intOf kk).toNat)
        case atStart => exact ⟨0, Nat.zero_le _, rfl, rfl, fun j hj => absurd hj (by omega), 0, rfl⟩
        case round =>
          obtain ⟨k, hk, rfl, rfl, hno, m, rfl⟩ := hrel
          have HN := Hid.mk' hno
          clear hno
          by_cases hkn : k < n1
          · have kX := HX.out.cell (j := k) hkn hkn
            have kY := HY.out.cell (j := k) hkn hkn
            have kA := HW.out.1.cell (j := k) hkn
            have k0 : (0 : Int) ≤ (k : Int) := by omega
            have k1 : (k : Int) < (n1 : Int) := by omega
            cases hu : hasN acc k with
            | true =>
              rw [hu] at kA
              have Hu := Hid.mk' hu
              clear hu
              go_wp2
              go_quiet (fail)
              go_wp2
              go_roundw
              case rel => exact ⟨k + 1, by omega, by go_num, rfl, no_step HN.out (by simp [hitB, Hu.out]), _, rfl⟩
              case measure => simp [intOf]; omega
            | false =>
              rw [hu] at kA
              have Hu := Hid.mk' hu
              clear hu
              by_cases hx : sx k = ox i
              · have Hx := Hid.mk' hx
                have hxb : ((sx k : Int) == (ox i : Int)) = true := by simp [hx]
                clear hx
                by_cases hz : se k = oe i
                · have Hz := Hid.mk' hz
                  have hzb : ((se k : Int) == (oe i : Int)) = true := by simp [hz]
                  have fA := HW.out.1.free (j := k) hkn
                  obtain ⟨vw, kW⟩ := HW.out.2.1.some (j := i) hlt
                  have fW := HW.out.2.1.free (j := i) hlt
                  have lA := HW.out.1.lt
                  have lW := HW.out.2.1.lt
                  clear hz
                  go_wp2
                  go_quiet (fail)
                  go_wp2
                  go_roundw
                  case rel =>
                    obtain ⟨r1, r2, r3, r4⟩ := rel5 (x := m + nq) HA.out HW.out hlt hkn Hx.out Hz.out Hu.out HN.out
                    exact ⟨i + 1, acc ++ [k], by omega, by go_num, rfl, r1, r2, r3, r4⟩
                  case measure => simp [intOf]; omega
                · have Hz := Hid.mk' hz
                  have hzb : ((se k : Int) == (oe i : Int)) = false := by simpa using fun e => hz (by omega)
                  clear hz
                  go_wp2
                  go_quiet (fail)
                  go_wp2
                  go_roundw
                  case rel => exact ⟨k + 1, by omega, by go_num, rfl, no_step HN.out (by simp [hitB, Hz.out]), _, rfl⟩
                  case measure => simp [intOf]; omega
              · have Hx := Hid.mk' hx
                have hxb : ((sx k : Int) == (ox i : Int)) = false := by simpa using fun e => hx (by omega)
                clear hx
                go_wp2
                go_quiet (fail)
                go_wp2
                go_roundw
                case rel => exact ⟨k + 1, by omega, by go_num, rfl, no_step HN.out (by simp [hitB, Hx.out]), _, rfl⟩
                case measure => simp [intOf]; omega
          · have hnone : Hid (placeN sx se n1 ox oe n3 = none) := placeN_none (placeN_stop HA.out (firstHit_none (fun j hj => HN.out j (by omega)))) (by omega)
            go_wp2
            go_meet
            case rel => exact ⟨Or.inl ⟨hnone.out, rfl⟩, bel_drewN HW.out.2.2 _⟩
      · have hin : i = n3 := by omega
        subst hin
        have HW := Hid.mk' (And.intro hW hbr)
        clear hX hY hU hV hA hW hbr
        go_wp2
        go_meet
        case rel => exact ⟨Or.inr ⟨acc, HA.out, rfl, HW.out.1⟩, HW.out.2⟩
  case rest =>
    obtain ⟨hw1, hw2⟩ := hcut
    refine go_on (by assumption) ?_
    refine t24 l3 (hb.trans (hw2.mono (Nat.le_trans hB hb.size))) ?_ hw1
    rcases HO.out with ⟨o1, o2, o3⟩ | ⟨acc, ba, o1, o2, o3, o4⟩
    · exact Or.inl ⟨o1, o2, o3⟩
    · exact Or.inr ⟨acc, ba, o1, o2, o3, o4.below hw2 o4.lt⟩
end Go.Proofs.Ybulkamew
