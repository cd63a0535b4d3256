import Derived.Test.YbulkamgmGet
import Derived.Test.YbulkamgmShelf
import Derived.Deep.DeepCutAuto
namespace Go.Proofs.Ybulkamgm
open Go.ChangeShapes Go.WideShapes Go.ChangeAt Go.RowKit

/-- What stands behind the first n statements of a sequence. -/
def tailN : Nat → Code → Code
  | 0, c => c
  | n + 1, .seq _ b => tailN n b
  | _ + 1, c => c
/-- On to what follows. -/
theorem go_on {P : Program} {c : Code} {Q : Exit → Act → World → Prop} {K : Act → World → Prop} {a : Act} {w : World} (h : ∀ a w, c.wp P Q a w → K a w) (hc : c.wp P Q a w) : K a w := h a w hc
/-- The law's post. -/
def Post6 (w0 : World) (e : Ending) (w' : World) : Prop := e = .returned (.bool true) ∧ Below w0.heap.size w0 w'

/-- The text of one byte. -/
def one (c : Int) : ByteArray := ByteArray.empty.push (UInt8.ofNat c.toNat)
theorem conv1 (c : Int) (w : World) : (convert 32 9 (.slice (some ⟨w.heap.size, 0, none⟩) 1 1)).run Yba.prog (w.alloc (.cells #[.int .u8 c] 5)) = .ok (.string (one c)) (w.alloc (.cells #[.int .u8 c] 5)) := by
  have hl : (loadCells ⟨w.heap.size, 0, none⟩ 1).run Yba.prog (w.alloc (.cells #[.int .u8 c] 5)) = .ok (([c].map (Value.int .u8)).toArray) (w.alloc (.cells #[.int .u8 c] 5)) :=
    run_loadCells_list (P := Yba.prog) _ ⟨w.heap.size, 0, none⟩ [.int .u8 c] (fun j v hv => by
      match j, hv with
      | 0, hv =>
        simp at hv
        subst hv
        show World.cell? _ ⟨w.heap.size, 0, none⟩ = _
        rw [World.cell?_alloc_at _ _ _ _ rfl]; rfl)
  rw [run_convert_bytes_string _ 32 9 5 _ 1 1 Yba.underlying32 Yba.underlying5 Yba.underlying9, run_bytesToString _ _ 1 1 [c] hl]
  rfl
/-- n times that byte. -/
def many (c : Int) (n : Nat) : ByteArray := ⟨(Lib.repeatL (one c).data.toList n).toArray⟩
theorem one_list (c : Int) : (one c).data.toList = [UInt8.ofNat c.toNat] := rfl
theorem repeat_list (x : UInt8) (n : Nat) : Lib.repeatL [x] n = List.replicate n x := by
  induction n with
  | zero => rfl
  | succ n ih => simp [Lib.repeatL, ih, List.replicate_succ]
theorem many_size (c : Int) (n : Nat) : (many c n).size = n := by
  show (Lib.repeatL (one c).data.toList n).toArray.size = n
  rw [one_list, repeat_list]; simp
theorem many_run (c : Int) (n : Nat) : Run (many c n) := by
  have h : ∀ (i : Nat) (hi : i < (many c n).size), (many c n)[i] = UInt8.ofNat c.toNat := by
    intro i hi
    show ((Lib.repeatL (one c).data.toList n).toArray)[i]'(by exact hi) = _
    have hl : Lib.repeatL (one c).data.toList n = List.replicate n (UInt8.ofNat c.toNat) := by rw [one_list, repeat_list]
    simp [hl]
  intro i j hi hj
  rw [h i hi, h j hj]

/-- What zzs1897cget then hands back. -/
def GetOK (n : Nat) (w : World) (e : Ending) (w' : World) : Prop := ∃ h : Nat, e = .returned (.tuple #[.slice (some ⟨h, 0, none⟩) n n, .bool true]) ∧ Fill w' h n n (fun j => .int .i64 (j : Int)) ∧ Below w.heap.size w w'
/-- newBorderTable of a run: a table that zzs1897cget reads back as 0, 1, 2 .. -/
theorem table_get (s : ByteArray) (n : Nat) (w : World) (hs : s.size = n) (hn : n ≤ 100000) (hR : Run s) :
    Calls Yba.prog 10 #[.string s] w fun e w' => ∃ (ax ay az : Option Addr) (lx cx ly cy lz cz : Nat), e = .returned (.agg #[.slice ax lx cx, .slice ay ly cy, .slice az lz cz]) ∧ Below w.heap.size w w' ∧
      ∀ w'', Below w'.heap.size w' w'' → Calls Yba.prog 11 #[.agg #[.slice ax lx cx, .slice ay ly cy, .slice az lz cz], .int .i64 n, .int .i64 ((n : Int) - 1)] w'' (GetOK n w'') := by
  by_cases h8 : n ≤ 256
  · refine (table8 s n w hs h8 hR).mono ?_
    rintro e w' ⟨b, rfl, hF, hb⟩
    exact ⟨_, _, _, _, _, _, _, _, _, rfl, hb, fun w'' h => get8 b n w'' h8 (hF.below h hF.lt)⟩
  · by_cases h16 : n ≤ 65536
    · refine (table16 s n w hs (by omega) h16 hR).mono ?_
      rintro e w' ⟨b, rfl, hF, hb⟩
      exact ⟨_, _, _, _, _, _, _, _, _, rfl, hb, fun w'' h => get16 b n w'' (by omega) h16 (hF.below h hF.lt)⟩
    · refine (table64 s n w hs (by omega) hn hR).mono ?_
      rintro e w' ⟨b, rfl, hF, hb⟩
      exact ⟨_, _, _, _, _, _, _, _, _, rfl, hb, fun w'' h => get64 b n w'' (by omega) hn (hF.below h hF.lt)⟩

set_option maxRecDepth 100000 in
set_option maxHeartbeats 800000 in
theorem run5 {c : Int} {n : Nat} {w0 W : World} {u1 u2 u3 u4 u5 u6 u8 u9 u10 u11 u12 u13 u14 u15 u16 u17 u18 u19 u20 u21 u22 u23 u24 u25 u26 u27 u28 u29 u30 u31 u32 u33 u34 u35 u36 u37 u38 u39 u40 u41 u42 u43 u44 u45 u46 u47 u48 u49 u50 u51 u52 u53 u54 u55 u56 : Value} (hn : n ≤ 100000) (hb : Below w0.heap.size w0 W) :
    (tailN 5 (Yba.f6.body.getD .skip)).wp Yba.prog (bodyPost Yba.prog Yba.f6 (Post6 w0)) ⟨#[.int .u8 c, u1, u2, u3, u4, u5, u6, .int .i64 n, u8, u9, u10, u11, u12, u13, u14, u15, u16, u17, u18, u19, u20, u21, u22, u23, u24, u25, u26, u27, u28, u29, u30, u31, u32, u33, u34, u35, u36, u37, u38, u39, u40, u41, u42, u43, u44, u45, u46, u47, u48, u49, u50, u51, u52, u53, u54, u55, u56], []⟩ W := by
  have hconv := conv1 c W
  have hB1 : Below w0.heap.size w0 (W.alloc (.cells #[.int .u8 c] 5)) := hb.alloc hb.size _
  have HB1 := Hid.mk' hB1
  clear hB1 hb
  show Code.wp Yba.prog (Code.seq _ _) _ _ _
  go_wp2_with fail
  refine (Yba.strings_Repeat (one c) n _ (by omega) (by simp [one]; omega)).mono ?_
  rintro e w1 ⟨rfl, hb1⟩
  obtain ⟨s, hs⟩ : ∃ s, s = many c n := ⟨_, rfl⟩
  have hsz : s.size = n := by rw [hs]; exact many_size c n
  have hrun : Run s := by rw [hs]; exact many_run c n
  rw [show (⟨(Lib.repeatL (one c).data.toList n).toArray⟩ : ByteArray) = s by rw [hs]; rfl]
  have HB2 := Hid.mk' (HB1.out.trans (hb1.mono HB1.out.size))
  have HS := Hid.mk' (And.intro hsz hrun)
  clear hconv hb1 HB1 hs hsz hrun
  go_wp2_with fail
  refine (table_get s n w1 HS.out.1 hn HS.out.2).mono ?_
  rintro e w2 ⟨ax, ay, az, lx, cx, ly, cy, lz, cz, rfl, hb2, hg⟩
  have HB3 := Hid.mk' (HB2.out.trans (hb2.mono HB2.out.size))
  have HG := Hid.mk' hg
  clear hb2 hg HB2
  go_wp2_with fail
  have b23 : Below w2.heap.size w2 (w2.alloc (.cells #[.slice ax lx cx, .slice ay ly cy, .slice az lz cz] 35)) := (Below.refl _ _).alloc (Nat.le_refl _) _
  refine (HG.out _ b23).mono ?_
  rintro e w3 ⟨h, rfl, hF, hb3⟩
  have HB4 := Hid.mk' (HB3.out.trans ((b23.trans (hb3.mono b23.size)).mono HB3.out.size))
  have HF := Hid.mk' hF
  clear hF hb3 b23 HG HB3
  go_wp2
  go_loop [12] (fun ii => ∃ k : Nat, k ≤ n ∧ ii = .int .i64 k) (fun ii => n - (intOf ii).toNat)
  case atStart => exact ⟨0, Nat.zero_le _, rfl⟩
  case round =>
    obtain ⟨k, hk, rfl⟩ := hrel
    by_cases hlt : k < n
    · have ck := HF.out.cell (j := k) hlt hlt
      have i0 : (0 : Int) ≤ (k : Int) := by omega
      have i1 : (k : Int) < (n : Int) := by omega
      go_wp2
      go_round
      case rel => exact ⟨k + 1, by omega, by go_num⟩
      case measure => simp [intOf]; omega
    · go_wp2
      go_ret
      exact ⟨rfl, HB4.out⟩

set_option maxRecDepth 100000 in
set_option maxHeartbeats 800000 in
theorem law_run (c m : Int) (w : World) (hm0 : 0 ≤ m) (hm1 : m < 4294967296) : Calls Yba.prog 6 #[.int .u8 c, .int .u32 m] w (Post6 w) := by
  obtain ⟨q, hq⟩ : ∃ q : Nat, (q : Int) = m / 3 % 300 := ⟨(m / 3 % 300).toNat, by omega⟩
  have rq : m / 3 % 300 = (q : Int) := hq.symm
  have hq3 : (q : Int) < 300 := by omega
  clear hq
  go_enter Yba.func6, Yba.ntmps6
  go_upto_if 22 with (fail)
  go_cut [7] (fun v wc => ∃ n : Nat, n ≤ 100000 ∧ v = .int .i64 n ∧ wc = w)
  case first =>
    by_cases h1 : m % 3 = 1
    · go_wp2
      go_meet
      case rel => exact ⟨257 + q, by omega, by go_num, rfl⟩
    · have e1 : (m % 3 == 1) = false := by simpa using h1
      by_cases h2 : m % 3 = 2
      · go_wp2
        go_meet
        case rel => exact ⟨65537 + q, by omega, by go_num, rfl⟩
      · have e2 : (m % 3 == 2) = false := by simpa using h2
        go_wp2
        go_meet
        case rel => exact ⟨q, by omega, rfl, rfl⟩
  case rest =>
    obtain ⟨n, hn, rfl, rfl⟩ := hcut
    refine go_on (by assumption) ?_
    exact run5 hn (Below.refl _ _)
end Go.Proofs.Ybulkamgm
