import Derived.Test.YbulkamewOrigin
import Derived.Test.YbulkamewEql
import Derived.Test.YbulkamewQuiet
import Derived.Test.YbulkamewArr
import Derived.Test.YbulkamewPlain
namespace Go.Proofs.Ybulkamew
open Go.ChangeShapes Go.WideShapes Go.ChangeAt Go.RowKit

/-- What a call of (m).place(d) reads. -/
structure PlaceIn (B bm bd bs bo bO ns no nO cs co cO : Nat) (A sx se ox oe : Nat → Nat) (w : World) : Prop where
  m1 : w.cell? ⟨bm, 1, none⟩ = some (.slice (some ⟨bo, 0, none⟩) no co)
  m2 : w.cell? ⟨bm, 2, none⟩ = some (.slice (some ⟨bs, 0, none⟩) ns cs)
  d2 : w.cell? ⟨bd, 2, none⟩ = some (.slice (some ⟨bO, 0, none⟩) nO cO)
  s0 : ∀ k, k < ns → w.cell? ⟨bs, k * 5, none⟩ = some (.int .i64 (A k)) ∧ A k < no
  s1 : ∀ k, k < ns → w.cell? ⟨bs, k * 5 + 1, none⟩ = some (.slice none 0 0)
  s2 : ∀ k, k < ns → w.cell? ⟨bs, k * 5 + 2, none⟩ = some (.bool false)
  s3 : ∀ k, k < ns → w.cell? ⟨bs, k * 5 + 3, none⟩ = some (pE B (sx k))
  s4 : ∀ k, k < ns → w.cell? ⟨bs, k * 5 + 4, none⟩ = some (.int .i64 0)
  o1 : ∀ k, k < ns → w.cell? ⟨bo, A k * 7 + 1, none⟩ = some (pN B (se k))
  O0 : ∀ i, i < nO → w.cell? ⟨bO, i * 2, none⟩ = some (pE B (ox i))
  O1 : ∀ i, i < nO → w.cell? ⟨bO, i * 2 + 1, none⟩ = some (pN B (oe i))
  pool : Pool B w
  bx : ∀ k, k < ns → sx k < 4 ∧ se k < 2
  by_ : ∀ i, i < nO → ox i < 4 ∧ oe i < 2

theorem PlaceIn.below {B bm bd bs bo bO ns no nO cs co cO C : Nat} {A sx se ox oe : Nat → Nat} {w w' : World} (h : PlaceIn B bm bd bs bo bO ns no nO cs co cO A sx se ox oe w) (hb : Below C w w')
    (hC : w.heap.size ≤ C) : PlaceIn B bm bd bs bo bO ns no nO cs co cO A sx se ox oe w' := by
  have go : ∀ {a v}, w.cell? a = some v → w'.cell? a = some v := fun {a v} hv => (hb.cell (p := a) (Nat.lt_of_lt_of_le (World.block_lt_of_cell? w _ hv) hC)).trans hv
  exact ⟨go h.m1, go h.m2, go h.d2, fun k hk => ⟨go (h.s0 k hk).1, (h.s0 k hk).2⟩, fun k hk => go (h.s1 k hk), fun k hk => go (h.s2 k hk), fun k hk => go (h.s3 k hk), fun k hk => go (h.s4 k hk), fun k hk => go (h.o1 k hk), fun k hk => go (h.O0 k hk), fun k hk => go (h.O1 k hk), h.pool.below hb (Nat.le_trans h.pool.size hC), h.bx, h.by_⟩

theorem PlaceIn.drew {B bm bd bs bo bO ns no nO cs co cO : Nat} {A sx se ox oe : Nat → Nat} {w : World} (h : PlaceIn B bm bd bs bo bO ns no nO cs co cO A sx se ox oe w) : PlaceIn B bm bd bs bo bO ns no nO cs co cO A sx se ox oe w.drew :=
  ⟨h.m1, h.m2, h.d2, h.s0, h.s1, h.s2, h.s3, h.s4, h.o1, h.O0, h.O1, h.pool.drew, h.bx, h.by_⟩

theorem no_step {p : Nat → Bool} {k : Nat} (h : ∀ j, j < k → p j = false) (e : p k = false) : ∀ j, j < k + 1 → p j = false := fun j hj => by
  by_cases q : j = k
  · rw [q]; exact e
  · exact h j (by omega)
/-- What (m).place(d) hands back, by the plain answer. -/
def PlaceOut (r : Option (List Nat)) (nO : Nat) (w : World) (e : Ending) (w' : World) : Prop :=
  match r with
  | none => e = .returned (.tuple #[.slice none 0 0, .bool false])
  | some acc => e = .returned (.tuple #[.slice (some ⟨w.heap.size, 0, none⟩) nO nO, .bool true]) ∧ Arr w' w.heap.size nO (fun j => .int .i64 ((acc[j]?.getD 0 : Nat) : Int))
theorem Hid.mk' {p : Prop} (h : p) : Hid p := h
theorem rel_hit {sx se ox oe : Nat → Nat} {ns nO i k : Nat} {acc : List Nat} {g : Nat → Int} {w w3 : World} (hacc : placeN sx se ns ox oe i = some acc) (hg : ∀ j, j < i → g j = ((acc[j]?.getD 0 : Nat) : Int)) (hkn : k < ns)
    (h1 : sx k = ox i ∧ se k = oe i) (hc : hasN acc k = false) (hno : ∀ j, j < k → hitB sx se (ox i) (oe i) acc j = false) (hlt : i < nO) (hb : Below w.heap.size w w3)
    (ha : Arr w3 w.heap.size nO (put (fun j => .int .i64 (g j)) i (.int .i64 (-1)))) :
    ∃ g' : Nat → Int, placeN sx se ns ox oe (i + 1) = some (acc ++ [k]) ∧ Below w.heap.size w (w3.setCell ⟨w.heap.size, i, none⟩ (.int .i64 k)) ∧
      Arr (w3.setCell ⟨w.heap.size, i, none⟩ (.int .i64 k)) w.heap.size nO (fun j => .int .i64 (g' j)) ∧ ∀ j, j < i + 1 → g' j = (((acc ++ [k])[j]?.getD 0 : Nat) : Int) := by
  have hl := placeN_length hacc
  refine ⟨fun j => if j = i then (k : Int) else g j, placeN_step hacc (firstHit_some hkn (by simp [hitB, h1.1, h1.2, hc]) hno), hb.setCell (Nat.le_refl _) _, (ha.set hlt _).congr ?_, ?_⟩
  · intro j hj
    by_cases e : j = i
    · subst e; rw [put_same]; simp
    · rw [put_other _ _ _ _ e, put_other _ _ _ _ e]; simp [e]
  · intro j hj
    by_cases e : j = i
    · subst e; subst hl; simp
    · show (if j = i then (k : Int) else g j) = _
      rw [if_neg e, hg j (by omega), List.getElem?_append_left (by omega)]
/-- What holds in the inner loop of place. -/
structure Inn (B bm bd bs bo bO ns no nO cs co cO : Nat) (A sx se ox oe : Nat → Nat) (w : World) (bw i : Nat) (f : Nat → Value) (wr : World) : Prop where
  b : Below w.heap.size w wr
  a : Arr wr w.heap.size nO f
  q0 : wr.cell? ⟨bw, 0, none⟩ = some (pE B (ox i))
  q1 : wr.cell? ⟨bw, 1, none⟩ = some (pN B (oe i))
theorem Inn.drew {B bm bd bs bo bO ns no nO cs co cO : Nat} {A sx se ox oe : Nat → Nat} {w : World} {bw i : Nat} {f : Nat → Value} {wr : World} (h : Inn B bm bd bs bo bO ns no nO cs co cO A sx se ox oe w bw i f wr) : Inn B bm bd bs bo bO ns no nO cs co cO A sx se ox oe w bw i f wr.drew :=
  ⟨h.b.drew, h.a.drew, h.q0, h.q1⟩
theorem Inn.below {B bm bd bs bo bO ns no nO cs co cO : Nat} {A sx se ox oe : Nat → Nat} {w : World} {bw i : Nat} {f : Nat → Value} {wr w' : World} (h : Inn B bm bd bs bo bO ns no nO cs co cO A sx se ox oe w bw i f wr) (hb : Below wr.heap.size wr w') : Inn B bm bd bs bo bO ns no nO cs co cO A sx se ox oe w bw i f w' :=
  ⟨h.b.trans (hb.mono h.b.size), h.a.below hb h.a.lt, (hb.cell (p := ⟨bw, 0, none⟩) (World.block_lt_of_cell? wr _ h.q0)).trans h.q0, (hb.cell (p := ⟨bw, 1, none⟩) (World.block_lt_of_cell? wr _ h.q1)).trans h.q1⟩

set_option maxHeartbeats 1600000 in
theorem place_any (B bm bd bs bo bO ns no nO cs co cO : Nat) (A sx se ox oe : Nat → Nat) (w : World) (hns : ns ≤ 1000) (hno0 : no ≤ 1000) (hnO : nO ≤ 1000)
    (H : PlaceIn B bm bd bs bo bO ns no nO cs co cO A sx se ox oe w) :
    Calls Yba.prog 9 #[.pointer (some ⟨bm, 0, none⟩), .pointer (some ⟨bd, 0, none⟩)] w fun e w' => Below w.heap.size w w' ∧ PlaceOut (placeN sx se ns ox oe nO) nO w e w' := by
  have hmk := fun w => mk27 nO nO (Nat.le_refl _) (by omega) w
  have hd2 := H.d2
  have hm2 := H.m2
  have lm : bm < w.heap.size := World.block_lt_of_cell? w _ hm2
  have ld : bd < w.heap.size := World.block_lt_of_cell? w _ hd2
  go_enter Yba.func9, Yba.ntmps9
  go_wp2
  go_loopw [21] (fun i wr => ∃ (k : Nat) (acc : List Nat) (g : Nat → Int), k ≤ nO ∧ i = .int .i64 k ∧ placeN sx se ns ox oe k = some acc ∧ Below w.heap.size w wr ∧ Arr wr w.heap.size nO (fun j => .int .i64 (g j)) ∧ ∀ j, j < k → g j = ((acc[j]?.getD 0 : Nat) : Int))
    (fun i _ => nO - (intOf i).toNat)
  case atStart =>
    exact ⟨0, [], fun _ => 0, Nat.zero_le _, rfl, rfl, (Below.refl _ _).alloc (Nat.le_refl _) _, (Arr.made w #[.int .i64 0] nO 3).congr (by intro j hj; simp [Nat.mod_one]), fun j hj => absurd hj (by omega)⟩
  case round =>
    obtain ⟨wo, hwo⟩ : ∃ x, x = wr := ⟨_, rfl⟩
    subst hwo
    obtain ⟨i, acc, g, hi, rfl, hacc, hbel, harr, hg⟩ := hrel
    have HA : Hid (placeN sx se ns ox oe i = some acc) := hacc
    have HG : Hid (∀ j, j < i → g j = ((acc[j]?.getD 0 : Nat) : Int)) := hg
    clear hacc hg
    by_cases hlt : i < nO
    · have Hr := H.below hbel (Nat.le_refl _)
      have c0 := Hr.O0 i hlt
      have c1 := Hr.O1 i hlt
      have c2 := Hr.m2
      have l2 : bm < wo.heap.size := World.block_lt_of_cell? wo _ c2
      have la := harr.lt
      have ca := harr.cell hlt
      have fa := harr.free hlt
      have A1 : Arr ((wo.setCell ⟨w.heap.size, i, none⟩ (.int .i64 (-1))).alloc (.cells #[pE B (ox i), pN B (oe i)] 44)) w.heap.size nO (put (fun j => .int .i64 (g j)) i (.int .i64 (-1))) := (harr.set hlt _).alloc _
      have B1 : Below w.heap.size w ((wo.setCell ⟨w.heap.size, i, none⟩ (.int .i64 (-1))).alloc (.cells #[pE B (ox i), pN B (oe i)] 44)) := (hbel.setCell (Nat.le_refl _) _).alloc (by simp; omega) _
      have R1 : Hid (Arr ((wo.setCell ⟨w.heap.size, i, none⟩ (.int .i64 (-1))).alloc (.cells #[pE B (ox i), pN B (oe i)] 44)) w.heap.size nO (put (fun j => .int .i64 (g j)) i (.int .i64 (-1)))) := A1
      have R2 : Hid (Below w.heap.size w ((wo.setCell ⟨w.heap.size, i, none⟩ (.int .i64 (-1))).alloc (.cells #[pE B (ox i), pN B (oe i)] 44))) := B1
      clear A1 B1
      go_wp2
      go_loopw [34] (fun kk w2 => ∃ k : Nat, k ≤ ns ∧ kk = .int .i64 k ∧ (∀ j, j < k → hitB sx se (ox i) (oe i) acc j = false) ∧ Below w.heap.size w w2 ∧ Arr w2 w.heap.size nO (put (fun j => .int .i64 (g j)) i (.int .i64 (-1))) ∧
          w2.cell? ⟨wo.heap.size, 0, none⟩ = some (pE B (ox i)) ∧ w2.cell? ⟨wo.heap.size, 1, none⟩ = some (pN B (oe i)))
        (fun kk _ => ns - (intOf kk).toNat)
      case atStart => exact ⟨0, Nat.zero_le _, rfl, fun j hj => absurd hj (by omega), R2.out, R1.out, by simp [World.cell?_alloc_at], by simp [World.cell?_alloc_at]⟩
      case round =>
        clear R1 R2
        obtain ⟨k, hk, rfl, hno, hb2, ha2, q0, q1⟩ := hrel
        have HN : Hid (∀ j, j < k → hitB sx se (ox i) (oe i) acc j = false) := hno
        clear hno
        by_cases hkn : k < ns
        · have H2 := H.below hb2 (Nat.le_refl _)
          have H3 := H2.drew
          have lo2 : wo.heap.size < wr.heap.size := World.block_lt_of_cell? wr _ q0
          have la2 : w.heap.size < wr.heap.size := ha2.lt
          clear c0 c1 c2 ca fa Hr hd2 hm2 hmk harr hbel
          obtain ⟨b1, b3⟩ := H3.bx k hkn
          obtain ⟨b2, b4⟩ := H3.by_ i hlt
          have hgd := fun p q w => guard44 B (sx k) (ox i) (se k) (oe i) p q w
          have he2 := eqE 9997 B (sx k) (ox i) b1 b2 wr.drew H3.pool
          have hn2 := eqN 9998 B (se k) (oe i) b3 b4 wr.drew H3.pool
          clear he2 hn2 H3
          have I0 : Inn B bm bd bs bo bO ns no nO cs co cO A sx se ox oe w wo.heap.size i (put (fun j => .int .i64 (g j)) i (.int .i64 (-1))) wr := ⟨hb2, ha2, q0, q1⟩
          by_cases h1 : sx k = ox i ∧ se k = oe i
          · have hi0 : (0 : Int) ≤ (i : Int) := by omega
            have hi1 : (i : Int) ≤ (nO : Int) := by omega
            have H1 : Hid (sx k = ox i ∧ se k = oe i) := h1
            clear h1
            go_wp2
            refine region_kind (Inn B bm bd bs bo bO ns no nO cs co cO A sx se ox oe w wo.heap.size i (put (fun j => .int .i64 (g j)) i (.int .i64 (-1)))) (by kernel_rfl) (by kernel_rfl) I0.drew ?_
            refine wpQuiet_step (fun K hK => ?_)
            go_simp
            refine ⟨_, fun _ _ => rfl, hK _ ?_⟩
            clear hK K
            refine wpQuiet_step (fun K hK => ?_)
            go_simp
            refine ⟨_, fun _ _ => rfl, hK _ ?_⟩
            clear hK K
            refine wpQuiet_step (fun K hK => ?_)
            go_simp
            refine ⟨.agg #[pE B (sx k), pN B (se k)], fun w' hI => ?_, hK _ ?_⟩
            · have H4 := H.below hI.b (Nat.le_refl _)
              refine (origin_any B bm bs bo ns cs no co k (A k) (sx k) (se k) w' hkn (H4.s0 k hkn).2 hns hno0 H4.m1 H4.m2 (H4.s0 k hkn).1 (H4.s1 k hkn) (H4.s2 k hkn) (H4.s3 k hkn) (H4.s4 k hkn) (H4.o1 k hkn)).mono ?_
              rintro e w3 ⟨rfl, hb3⟩
              exact ⟨rfl, hI.below hb3⟩
            clear hK K
            refine wpQuiet_step (fun K hK => ?_)
            rw [if_pos (by rfl)]
            refine ⟨.agg #[pE B (ox i), pN B (oe i)], fun w' hI => ?_, hK _ ?_⟩
            · have z0 := hI.q0
              have z1 := hI.q1
              clear hK K
              go_simp
            clear hK K
            refine wpQuiet_step (fun K hK => ?_)
            rw [if_pos (by rfl)]
            refine ⟨.bool true, fun w' hI => ?_, hK _ ?_⟩
            · have H4 := H.below hI.b (Nat.le_refl _)
              have z0 : (Op.equalIn 9999 30 (pE B (sx k)) (pE B (ox i))).run Yba.prog w' = .ok (decide (sx k = ox i)) w' := eqE 9997 B (sx k) (ox i) b1 b2 w' H4.pool
              have z1 : (Op.equalIn 9999 31 (pN B (se k)) (pN B (oe i))).run Yba.prog w' = .ok (decide (se k = oe i)) w' := eqN 9998 B (se k) (oe i) b3 b4 w' H4.pool
              clear hK K
              go_simp
              rw [if_pos H1.out.1, if_pos H1.out.2]; exact ⟨rfl, rfl⟩
            clear hK K
            refine wpQuiet_step (fun K hK => ?_)
            go_simp
            refine ⟨_, fun _ _ => rfl, hK _ ?_⟩
            clear hK K
            refine wpQuiet_step (fun K hK => ?_)
            go_simp
            refine ⟨_, fun _ _ => rfl, hK _ ?_⟩
            clear hK K
            refine wpQuiet_step (fun K hK => ?_)
            go_simp
            refine ⟨_, fun _ _ => rfl, hK _ ?_⟩
            clear hK K
            refine wpQuiet_step (fun K hK => ?_)
            go_simp
            refine ⟨_, fun _ _ => rfl, hK _ ?_⟩
            clear hK K
            refine wpQuiet_step (fun K hK => ?_)
            go_simp
            refine ⟨_, fun _ _ => rfl, hK _ ?_⟩
            clear hK K
            refine wpQuiet_step (fun K hK => ?_)
            go_simp
            refine ⟨.bool (hasN acc k), fun w' hI => ?_, hK _ ?_⟩
            · refine (contains_nat ⟨w.heap.size, 0, none⟩ nO i acc k w' (placeN_length HA.out) (by omega) ?_).mono ?_
              · intro j hj
                have := hI.a.cell (j := j) (by omega)
                rw [put_other _ _ _ _ (by omega), HG.out j hj] at this
                rw [Addr.add_mid, Nat.zero_add]; exact this
              · rintro e w3 ⟨rfl, rfl⟩
                exact ⟨rfl, hI⟩
            clear hK K
            refine wpQuiet_step (fun K hK => ?_)
            go_simp
            refine ⟨_, fun _ _ => rfl, hK _ ?_⟩
            clear hK K
            refine wpQuiet_step (fun K hK => ?_)
            go_simp
            refine ⟨_, fun _ _ => rfl, hK _ ?_⟩
            clear hK K
            refine wpQuiet_nil ?_
            intro w3 hI3
            by_cases hc : hasN acc k = true
            · have hn : (!hasN acc k) = false := by rw [hc]; rfl
              rw [hn]
              go_wp2
              go_roundw
              case rel => exact ⟨k + 1, by omega, by go_num, no_step HN.out (by simp only [hitB, hc]; simp), hI3.b, hI3.a, hI3.q0, hI3.q1⟩
              case measure => simp [intOf]; omega
            · have hc' : hasN acc k = false := by simpa using hc
              have hn : (!hasN acc k) = true := by rw [hc']; rfl
              have cA := hI3.a.cell hlt
              have fA := hI3.a.free hlt
              have R := rel_hit (sx := sx) (se := se) (ox := ox) (oe := oe) (ns := ns) HA.out HG.out hkn H1.out hc' HN.out hlt hI3.b hI3.a
              obtain ⟨g', R⟩ := R
              have HR := Hid.mk' R
              clear R hc hc'
              rw [hn]
              go_wp2
              go_roundw
              case rel => exact ⟨i + 1, acc ++ [k], g', by omega, by go_num, HR.out.1, HR.out.2.1, HR.out.2.2.1, HR.out.2.2.2⟩
              case measure => simp [intOf]; omega
          · go_wp2
            refine region_kind (Inn B bm bd bs bo bO ns no nO cs co cO A sx se ox oe w wo.heap.size i (put (fun j => .int .i64 (g j)) i (.int .i64 (-1)))) (by kernel_rfl) (by kernel_rfl) I0.drew ?_
            refine wpQuiet_step (fun K hK => ?_)
            go_simp
            refine ⟨_, fun _ _ => rfl, hK _ ?_⟩
            clear hK K
            refine wpQuiet_step (fun K hK => ?_)
            go_simp
            refine ⟨_, fun _ _ => rfl, hK _ ?_⟩
            clear hK K
            refine wpQuiet_step (fun K hK => ?_)
            go_simp
            refine ⟨.agg #[pE B (sx k), pN B (se k)], fun w' hI => ?_, hK _ ?_⟩
            · have H4 := H.below hI.b (Nat.le_refl _)
              refine (origin_any B bm bs bo ns cs no co k (A k) (sx k) (se k) w' hkn (H4.s0 k hkn).2 hns hno0 H4.m1 H4.m2 (H4.s0 k hkn).1 (H4.s1 k hkn) (H4.s2 k hkn) (H4.s3 k hkn) (H4.s4 k hkn) (H4.o1 k hkn)).mono ?_
              rintro e w3 ⟨rfl, hb3⟩
              exact ⟨rfl, hI.below hb3⟩
            clear hK K
            refine wpQuiet_step (fun K hK => ?_)
            rw [if_pos (by rfl)]
            refine ⟨.agg #[pE B (ox i), pN B (oe i)], fun w' hI => ?_, hK _ ?_⟩
            · have z0 := hI.q0
              have z1 := hI.q1
              clear hK K
              go_simp
            clear hK K
            refine wpQuiet_step (fun K hK => ?_)
            rw [if_pos (by rfl)]
            refine ⟨.bool false, fun w' hI => ?_, hK _ ?_⟩
            · have H4 := H.below hI.b (Nat.le_refl _)
              have z0 : (Op.equalIn 9999 30 (pE B (sx k)) (pE B (ox i))).run Yba.prog w' = .ok (decide (sx k = ox i)) w' := eqE 9997 B (sx k) (ox i) b1 b2 w' H4.pool
              have z1 : (Op.equalIn 9999 31 (pN B (se k)) (pN B (oe i))).run Yba.prog w' = .ok (decide (se k = oe i)) w' := eqN 9998 B (se k) (oe i) b3 b4 w' H4.pool
              clear hK K
              go_simp
              by_cases e1 : sx k = ox i
              · rw [if_pos e1, if_neg (fun e2 => h1 ⟨e1, e2⟩)]; exact ⟨rfl, rfl⟩
              · rw [if_neg e1]; exact ⟨rfl, rfl⟩
            clear hK K
            refine wpQuiet_step (fun K hK => ?_)
            go_simp
            refine ⟨_, fun _ _ => rfl, hK _ ?_⟩
            clear hK K
            refine wpQuiet_step (fun K hK => ?_)
            go_simp
            refine hK _ ?_
            clear hK K
            refine wpQuiet_step (fun K hK => ?_)
            go_simp
            refine hK _ ?_
            clear hK K
            refine wpQuiet_step (fun K hK => ?_)
            go_simp
            refine hK _ ?_
            clear hK K
            refine wpQuiet_step (fun K hK => ?_)
            go_simp
            refine hK _ ?_
            clear hK K
            refine wpQuiet_step (fun K hK => ?_)
            go_simp
            refine hK _ ?_
            clear hK K
            refine wpQuiet_step (fun K hK => ?_)
            go_simp
            refine hK _ ?_
            clear hK K
            refine wpQuiet_step (fun K hK => ?_)
            go_simp
            refine ⟨_, fun _ _ => rfl, hK _ ?_⟩
            clear hK K
            refine wpQuiet_nil ?_
            intro w3 hI3
            go_wp2
            go_roundw
            case rel => exact ⟨k + 1, by omega, by go_num, no_step HN.out (by simp only [hitB]; rw [Bool.and_eq_false_iff]; left; rw [← Bool.not_eq_true]; simpa using h1), hI3.b, hI3.a, hI3.q0, hI3.q1⟩
            case measure => simp [intOf]; omega
        · have cA := ha2.cell hlt
          rw [put_same] at cA
          have hnone : placeN sx se ns ox oe nO = none := placeN_none (placeN_stop HA.out (firstHit_none (fun j hj => HN.out j (by omega)))) (by omega)
          have HP := Hid.mk' hnone
          clear hnone
          go_wp2
          go_ret2
          refine ⟨hb2, ?_⟩
          rw [HP.out]
          rfl
    · have hin : i = nO := by omega
      subst hin
      go_wp2
      go_ret2
      refine ⟨hbel, ?_⟩
      rw [HA.out]
      exact ⟨rfl, harr.congr (fun j hj => by rw [HG.out j hj])⟩
end Go.Proofs.Ybulkamew
