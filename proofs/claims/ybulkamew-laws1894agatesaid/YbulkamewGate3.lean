import Derived.Test.YbulkamewGate2
import Derived.Lib.LazyBuf
namespace Go.Proofs.Ybulkamew
open Go.ChangeShapes Go.WideShapes Go.ChangeAt Go.RowKit

/-- A value of w's that v lacks, and that is no reference alone. -/
def badB (n1 : Nat) (f0 f1 : Nat → Nat) (i : Nat) : Bool := !decide (f0 i % 4 < 2) && !anyB (fun j => decide (f1 j % 4 = f0 i % 4) && decide (f1 j / 4 % 2 = f0 i / 4 % 2)) n1
/-- The two results of keepsOut. -/
def GateV (T : Bool) (v12 v13 : Value) : Prop := (T = true ∧ v13 = .bool true ∧ ∃ h : Nat, v12 = .slice (some ⟨h, 0, none⟩) 0 0) ∨ (T = false ∧ v13 = .bool false ∧ v12 = .slice none 0 0)

set_option maxRecDepth 100000 in
set_option maxHeartbeats 800000 in
theorem g11 {T : Bool} {B : Nat} {w0 W : World} {v12 v13 : Value} {u0 u1 u2 u3 u4 u5 u6 u7 u8 u9 u10 u11 u15 u16 u17 u18 u19 u20 u21 u22 u23 u24 u25 u26 u27 u28 u29 u30 u31 u32 u33 u34 u35 u36 u37 u38 u39 u40 u41 u42 u43 u44 u45 u46 u47 u48 u49 u50 u51 u52 u53 u54 u55 u56 u57 u58 u59 u60 u61 u62 u63 u64 u65 u66 u67 u68 u69 u70 u71 u72 u73 u74 u75 u76 u77 u78 u79 u80 u81 u82 u83 u84 u85 u86 u87 u88 u89 u90 u91 u92 u93 u94 u95 u96 u97 u98 u99 u100 u101 u102 u103 u104 u105 u106 u107 u108 : Value}
    (hb : Below B w0 W) (hv : GateV T v12 v13) :
    (tailN 11 (Yba.f4.body.getD .skip)).wp Yba.prog (bodyPost Yba.prog Yba.f4 (Post3 B w0)) ⟨#[u0, u1, u2, u3, u4, u5, u6, u7, u8, u9, u10, u11, v12, v13, .bool T, u15, u16, u17, u18, u19, u20, u21, u22, u23, u24, u25, u26, u27, u28, u29, u30, u31, u32, u33, u34, u35, u36, u37, u38, u39, u40, u41, u42, u43, u44, u45, u46, u47, u48, u49, u50, u51, u52, u53, u54, u55, u56, u57, u58, u59, u60, u61, u62, u63, u64, u65, u66, u67, u68, u69, u70, u71, u72, u73, u74, u75, u76, u77, u78, u79, u80, u81, u82, u83, u84, u85, u86, u87, u88, u89, u90, u91, u92, u93, u94, u95, u96, u97, u98, u99, u100, u101, u102, u103, u104, u105, u106, u107, u108], []⟩ W := by
  have hnil := fun (a : Option Addr) (w : World) => run_eql_slice_nil (P := Yba.prog) w 27 3 a 0 0 Yba.underlying27
  have hnot := fun (a : Option Addr) (w : World) => run_neq_slice_nil (P := Yba.prog) w 27 3 a 0 0 Yba.underlying27
  rcases hv with ⟨rfl, rfl, h, rfl⟩ | ⟨rfl, rfl, rfl⟩
  · show Code.wp Yba.prog (Code.seq _ _) _ _ _
    go_wp2
    go_ret
    exact ⟨rfl, hb⟩
  · show Code.wp Yba.prog (Code.seq _ _) _ _ _
    go_wp2
    go_ret
    exact ⟨rfl, hb⟩

set_option maxRecDepth 100000 in
set_option maxHeartbeats 1600000 in
theorem g9 {T : Bool} {B n0 n1 c0 c1 : Nat} {a0 a1 : Option Addr} {f0 f1 : Nat → Nat} {w0 W : World} {v12 v13 : Value} {u2 u3 u4 u5 u6 u7 u8 u9 u10 u11 u14 u15 u16 u17 u18 u19 u20 u21 u22 u23 u24 u25 u26 u27 u28 u29 u30 u31 u32 u33 u34 u35 u36 u37 u38 u39 u40 u41 u42 u43 u44 u45 u46 u47 u48 u49 u50 u51 u52 u53 u54 u55 u56 u57 u58 u59 u60 u61 u62 u63 u64 u65 u66 u67 u68 u69 u70 u71 u72 u73 u74 u75 u76 u77 u78 u79 u80 u81 u82 u83 u84 u85 u86 u87 u88 u89 u90 u91 u92 u93 u94 u95 u96 u97 u98 u99 u100 u101 u102 u103 u104 u105 u106 u107 u108 : Value}
    (l0 : n0 ≤ 1024) (l1 : n1 ≤ 1024) (hb : Below B w0 W) (h0 : ArgIs W a0 n0 f0) (h1 : ArgIs W a1 n1 f1) (hT : T = !anyB (badB n1 f0 f1) n0) (hv : GateV T v12 v13) :
    (tailN 9 (Yba.f4.body.getD .skip)).wp Yba.prog (bodyPost Yba.prog Yba.f4 (Post3 B w0)) ⟨#[.slice a0 n0 c0, .slice a1 n1 c1, u2, u3, u4, u5, u6, u7, u8, u9, u10, u11, v12, v13, u14, u15, u16, u17, u18, u19, u20, u21, u22, u23, u24, u25, u26, u27, u28, u29, u30, u31, u32, u33, u34, u35, u36, u37, u38, u39, u40, u41, u42, u43, u44, u45, u46, u47, u48, u49, u50, u51, u52, u53, u54, u55, u56, u57, u58, u59, u60, u61, u62, u63, u64, u65, u66, u67, u68, u69, u70, u71, u72, u73, u74, u75, u76, u77, u78, u79, u80, u81, u82, u83, u84, u85, u86, u87, u88, u89, u90, u91, u92, u93, u94, u95, u96, u97, u98, u99, u100, u101, u102, u103, u104, u105, u106, u107, u108], []⟩ W := by
  have HT := Hid.mk' hT
  have HV := Hid.mk' hv
  clear hT hv
  show Code.wp Yba.prog (Code.seq _ _) _ _ _
  go_upto_block 0 with (fail)
  go_cut [14] (fun v14 wc => v14 = .bool T ∧ wc = W)
  case first =>
    go_wp2
    go_loop [14, 59] (fun v i => ∃ k : Nat, k ≤ n0 ∧ i = .int .i64 k ∧ v = .bool true ∧ (∀ j, j < k → badB n1 f0 f1 j = false)) (fun _ i => n0 - (intOf i).toNat)
    case atStart => exact ⟨0, Nat.zero_le _, rfl, rfl, fun j hj => absurd hj (by omega)⟩
    case round =>
      obtain ⟨i, hi, rfl, rfl, hno⟩ := hrel
      have HN := Hid.mk' hno
      clear hno
      by_cases hlt : i < n0
      · obtain ⟨x0, hx0, xl0, cx0, bx0⟩ := h0 i hlt
        subst hx0
        obtain ⟨p, hp⟩ : ∃ p : Nat, p = f0 i % 4 := ⟨_, rfl⟩
        obtain ⟨q, hq⟩ : ∃ q : Nat, q = f0 i / 4 % 2 := ⟨_, rfl⟩
        have rp : ((f0 i : Nat) : Int) % 4 = (p : Int) := by omega
        have rq : ((f0 i : Nat) : Int) / 4 % 2 = (q : Int) := by omega
        have HP := Hid.mk' hp
        have HQ := Hid.mk' hq
        have H0 := Hid.mk' h0
        have H1 := Hid.mk' h1
        clear hp hq h0 h1
        by_cases hp2 : p < 2
        · have hbad : Hid (badB n1 f0 f1 i = false) := by unfold Hid badB; rw [← HP.out]; simp [hp2]
          have hp2' : (p : Int) < 2 := by omega
          go_wp2
          go_round
          case rel => exact ⟨i + 1, by omega, by go_num, rfl, no_step HN.out hbad.out⟩
          case measure => simp [intOf]; omega
        · have hp2' : ¬ (p : Int) < 2 := by omega
          go_wp2
          go_loop [19, 74] (fun v kk => ∃ k : Nat, k ≤ n1 ∧ kk = .int .i64 k ∧ v = .bool false ∧ (∀ j, j < k → (decide (f1 j % 4 = p) && decide (f1 j / 4 % 2 = q)) = false)) (fun _ kk => n1 - (intOf kk).toNat)
          case atStart => exact ⟨0, Nat.zero_le _, rfl, rfl, fun j hj => absurd hj (by omega)⟩
          case round =>
            obtain ⟨k, hk, rfl, rfl, hnk⟩ := hrel
            have HK := Hid.mk' hnk
            clear hnk
            by_cases hkn : k < n1
            · obtain ⟨x1, hx1, xl1, cx1, bx1⟩ := H1.out k hkn
              subst hx1
              obtain ⟨r, hr⟩ : ∃ r : Nat, r = f1 k % 4 := ⟨_, rfl⟩
              obtain ⟨t, ht⟩ : ∃ t : Nat, t = f1 k / 4 % 2 := ⟨_, rfl⟩
              have rr : ((f1 k : Nat) : Int) % 4 = (r : Int) := by omega
              have rt : ((f1 k : Nat) : Int) / 4 % 2 = (t : Int) := by omega
              have HR := Hid.mk' hr
              have HS := Hid.mk' ht
              clear hr ht
              by_cases e1 : r = p
              · have E1 := Hid.mk' e1
                have e1b : ((r : Int) == (p : Int)) = true := by simp [e1]
                clear e1
                by_cases e2 : t = q
                · have E2 := Hid.mk' e2
                  have e2b : ((t : Int) == (q : Int)) = true := by simp [e2]
                  clear e2
                  have hbad : Hid (badB n1 f0 f1 i = false) := by
                    have ha : anyB (fun j => decide (f1 j % 4 = f0 i % 4) && decide (f1 j / 4 % 2 = f0 i / 4 % 2)) n1 = true := by
                      rw [anyB_here hkn (by simp; exact ⟨by rw [← HR.out, ← HP.out]; exact E1.out, by rw [← HS.out, ← HQ.out]; exact E2.out⟩)]
                      simp
                    unfold Hid badB
                    rw [ha]; simp
                  go_wp2
                  go_round
                  case rel => exact ⟨i + 1, by omega, by go_num, rfl, no_step HN.out hbad.out⟩
                  case measure => simp [intOf]; omega
                · have E2 := Hid.mk' e2
                  have e2b : ((t : Int) == (q : Int)) = false := by simpa using fun e => e2 (by omega)
                  clear e2
                  go_wp2
                  go_round
                  case rel => exact ⟨k + 1, by omega, by go_num, rfl, no_step HK.out (by rw [← HS.out]; simp [E2.out])⟩
                  case measure => simp [intOf]; omega
              · have E1 := Hid.mk' e1
                have e1b : ((r : Int) == (p : Int)) = false := by simpa using fun e => e1 (by omega)
                clear e1
                go_wp2
                go_round
                case rel => exact ⟨k + 1, by omega, by go_num, rfl, no_step HK.out (by rw [← HR.out]; simp [E1.out])⟩
                case measure => simp [intOf]; omega
            · have hTf : Hid (T = false) := by
                have ha : anyB (fun j => decide (f1 j % 4 = f0 i % 4) && decide (f1 j / 4 % 2 = f0 i / 4 % 2)) n1 = false := by
                  rw [anyB_none (fun j hj => by rw [← HP.out, ← HQ.out]; exact HK.out j (by omega))]; rfl
                have hbad : badB n1 f0 f1 i = true := by
                  unfold badB; rw [ha, ← HP.out]; simp [hp2]
                have hany : anyB (badB n1 f0 f1) n0 = true := by rw [anyB_here hlt hbad]; simp
                unfold Hid; rw [HT.out, hany]; rfl
              go_wp2
              go_meet
              case rel => exact ⟨by rw [hTf.out], rfl⟩
      · have hTt : Hid (T = true) := by
          have hany : anyB (badB n1 f0 f1) n0 = false := by rw [anyB_none (fun j hj => HN.out j (by omega))]; rfl
          unfold Hid; rw [HT.out, hany]; rfl
        go_wp2
        go_meet
        case rel => exact ⟨by rw [hTt.out], rfl⟩
  case rest =>
    obtain ⟨rfl, rfl⟩ := hcut
    refine go_on (by assumption) ?_
    exact g11 hb HV.out
end Go.Proofs.Ybulkamew
