import Derived.Test.YbulkamewFind
namespace Go.Proofs.Ybulkamew
open Go.ChangeShapes Go.WideShapes Go.ChangeAt Go.RowKit

theorem eql30 (B x y : Nat) (hx : x < 4) (hy : y < 4) (w : World) (hP : Pool B w) : (binOp .eql 30 (pE B x) (pE B y)).run Yba.prog w = .ok (.bool (decide (x = y))) w := by
  have h : (Op.equalIn 10000 30 (pE B x) (pE B y)).run Yba.prog w = .ok (decide (x = y)) w := eqE 9998 B x y hx hy w hP
  simp only [binOp]
  simp only [Op.equal, Op.maxDepth, Sem.run_bind, h, Result.andThen_ok, Sem.run_pure]
theorem eql31 (B e f : Nat) (he : e < 2) (hf : f < 2) (w : World) (hP : Pool B w) : (binOp .eql 31 (pN B e) (pN B f)).run Yba.prog w = .ok (.bool (decide (e = f))) w := by
  have h : (Op.equalIn 10000 31 (pN B e) (pN B f)).run Yba.prog w = .ok (decide (e = f)) w := eqN 9999 B e f he hf w hP
  simp only [binOp]
  simp only [Op.equal, Op.maxDepth, Sem.run_bind, h, Result.andThen_ok, Sem.run_pure]

set_option maxHeartbeats 400000 in
/-- The inner closure of takesAll: t.x == u.x && t.env == u.env. -/
theorem sameTerm (B a b x e bu : Nat) (ha : a < 4) (hb : b < 2) (hx : x < 4) (he : e < 2) (w : World) (hP : Pool B w) (c0 : w.cell? ⟨bu, 0, none⟩ = some (pE B x)) (c1 : w.cell? ⟨bu, 1, none⟩ = some (pN B e)) :
    Calls Yba.prog 13 #[termV B a b, .pointer (some ⟨bu, 0, none⟩)] w fun r w' => r = .returned (.bool (decide (a = x) && decide (b = e))) ∧ Below w.heap.size w w' := by
  have lu : bu < w.heap.size := World.block_lt_of_cell? w _ c0
  have hB0 : Below w.heap.size w (w.alloc (.cells #[pE B a, pN B b, .pointer none, .pointer none, .pointer none, .bool false, .int .i32 0] 35)) := (Below.refl _ _).alloc (Nat.le_refl _) _
  have e1 := eql30 B a x ha hx _ (hP.below hB0 hP.size)
  have e2 := eql31 B b e hb he _ (hP.below hB0 hP.size)
  have HB := Hid.mk' hB0
  clear hB0 hP
  by_cases h : a = x
  · have hd : decide (a = x) = true := by simpa using h
    rw [hd] at e1
    have H := Hid.mk' h
    clear h hd
    go_enter Yba.func13, Yba.ntmps13
    go_wp2
    go_ret
    exact ⟨by simp [H.out], HB.out⟩
  · have hd : decide (a = x) = false := by simpa using h
    rw [hd] at e1
    have H := Hid.mk' h
    clear h hd
    go_enter Yba.func13, Yba.ntmps13
    go_wp2
    go_ret
    exact ⟨by simp [H.out], HB.out⟩

/-- What the outer closure of takesAll keeps. -/
structure OuterC (B x e : Nat) (w w' : World) : Prop where
  b : Below w.heap.size w w'
  u0 : w'.cell? ⟨w.heap.size, 0, none⟩ = some (pE B x)
  u1 : w'.cell? ⟨w.heap.size, 1, none⟩ = some (pN B e)
theorem OuterC.below {B x e : Nat} {w w' w'' : World} (h : OuterC B x e w w') (hb : Below w'.heap.size w' w'') : OuterC B x e w w'' :=
  ⟨h.b.trans (hb.mono h.b.size), (hb.cell (p := ⟨w.heap.size, 0, none⟩) (World.block_lt_of_cell? w' _ h.u0)).trans h.u0, (hb.cell (p := ⟨w.heap.size, 1, none⟩) (World.block_lt_of_cell? w' _ h.u1)).trans h.u1⟩

set_option maxHeartbeats 400000 in
/-- The closure of takesAll: u is no reference alone, and not among v's terms. -/
theorem lacks (B x e bv v bt n c : Nat) (a b : Nat → Nat) (w : World) (hx : x < 4) (he : e < 2) (ha : ∀ j, a j < 4) (hb : ∀ j, b j < 2) (hn : n ≤ 100000) (hP : Pool B w) (cv : w.cell? ⟨bv, 0, none⟩ = some (.pointer (some ⟨v, 0, none⟩)))
    (cg : w.cell? ⟨v, 2, none⟩ = some (.slice (some ⟨bt, 0, none⟩) n c)) (hF : Fill w bt (n * 7) (n * 7) (termG B a b)) :
    Calls Yba.prog 11 #[termV B x e, .pointer (some ⟨bv, 0, none⟩)] w fun r w' => r = .returned (.bool (!decide (x < 2) && !anyB (fun j => decide (a j = x) && decide (b j = e)) n)) ∧ Below w.heap.size w w' := by
  have I0 : OuterC B x e w (w.alloc (.cells #[pE B x, pN B e, .pointer none, .pointer none, .pointer none, .bool false, .int .i32 0] 35)) := ⟨(Below.refl _ _).alloc (Nat.le_refl _) _, by simp [World.cell?_alloc_at], by simp [World.cell?_alloc_at]⟩
  by_cases h : x < 2
  · have hd : decide (x < 2) = true := by simpa using h
    have H := Hid.mk' h
    clear h
    go_enter Yba.func11, Yba.ntmps11
    go_wp2_with fail
    refine (isPure B x _).mono ?_
    rintro r w1 ⟨rfl, hb1⟩
    rw [hd]
    have I1 := I0.below hb1
    go_wp2_with fail
    go_ret
    exact ⟨by rw [hd]; rfl, I1.b⟩
  · have hd : decide (x < 2) = false := by simpa using h
    have H := Hid.mk' h
    clear h
    go_enter Yba.func11, Yba.ntmps11
    go_wp2_with fail
    refine (isPure B x _).mono ?_
    rintro r w1 ⟨rfl, hb1⟩
    rw [hd]
    have I1 := I0.below hb1
    have lv : bv < w.heap.size := World.block_lt_of_cell? w _ cv
    have lg : v < w.heap.size := World.block_lt_of_cell? w _ cg
    have cv1 : w1.cell? ⟨bv, 0, none⟩ = some (.pointer (some ⟨v, 0, none⟩)) := (I1.b.cell (p := ⟨bv, 0, none⟩) lv).trans cv
    have cg1 : w1.cell? ⟨v, 2, none⟩ = some (.slice (some ⟨bt, 0, none⟩) n c) := (I1.b.cell (p := ⟨v, 2, none⟩) lg).trans cg
    have HC := Hid.mk' (containsFunc13 ⟨w.heap.size, 0, none⟩ B bt n c a b (fun j => decide (a j = x) && decide (b j = e)) (OuterC B x e w) w1 hn I1 (fun w' hC => hF.below hC.b hF.lt)
      (fun w' j hC hj => (sameTerm B (a j) (b j) x e w.heap.size (ha j) (hb j) hx he w' (hP.below hC.b hP.size) hC.u0 hC.u1).mono fun r w'' ⟨h1, h2⟩ => ⟨h1, hC.below h2⟩))
    clear hF hb1 I0 I1 hP ha hb cv cg
    go_wp2_with fail
    refine HC.out.mono ?_
    rintro r w2 ⟨rfl, I2⟩
    go_wp2_with fail
    go_ret
    exact ⟨by rw [hd]; rfl, I2.b⟩

set_option maxHeartbeats 400000 in
/-- (v).takesAll(w): every value given for w but the references alone is given for v. -/
theorem takesAll (B vv ww bt n c bs m d : Nat) (a b x e : Nat → Nat) (w : World) (hx : ∀ j, x j < 4) (he : ∀ j, e j < 2) (ha : ∀ j, a j < 4) (hb : ∀ j, b j < 2) (hn : n ≤ 100000) (hm : m ≤ 100000) (hP : Pool B w)
    (cv : w.cell? ⟨vv, 2, none⟩ = some (.slice (some ⟨bt, 0, none⟩) n c)) (cw : w.cell? ⟨ww, 2, none⟩ = some (.slice (some ⟨bs, 0, none⟩) m d)) (hF : Fill w bt (n * 7) (n * 7) (termG B a b)) (hG : Fill w bs (m * 7) (m * 7) (termG B x e)) :
    Calls Yba.prog 8 #[.pointer (some ⟨vv, 0, none⟩), .pointer (some ⟨ww, 0, none⟩)] w fun r w' =>
      r = .returned (.bool (!anyB (fun i => !decide (x i < 2) && !anyB (fun j => decide (a j = x i) && decide (b j = e i)) n) m)) ∧ Below w.heap.size w w' := by
  have hB0 : Below w.heap.size w (w.alloc (.cells #[.pointer (some ⟨vv, 0, none⟩)] 33)) := (Below.refl _ _).alloc (Nat.le_refl _) _
  have hc0 : (w.alloc (.cells #[.pointer (some ⟨vv, 0, none⟩)] 33)).cell? ⟨w.heap.size, 0, none⟩ = some (.pointer (some ⟨vv, 0, none⟩)) := by simp [World.cell?_alloc_at]
  have lw : ww < w.heap.size := World.block_lt_of_cell? w _ cw
  have lv : vv < w.heap.size := World.block_lt_of_cell? w _ cv
  have HC := Hid.mk' (containsFunc11 ⟨w.heap.size, 0, none⟩ B bs m d x e (fun i => !decide (x i < 2) && !anyB (fun j => decide (a j = x i) && decide (b j = e i)) n)
    (fun w' => Below w.heap.size w w' ∧ w'.cell? ⟨w.heap.size, 0, none⟩ = some (.pointer (some ⟨vv, 0, none⟩))) _ hm ⟨hB0, hc0⟩ (fun w' hC => hG.below hC.1 hG.lt)
    (fun w' i hC hi => (lacks B (x i) (e i) w.heap.size vv bt n c a b w' (hx i) (he i) ha hb hn (hP.below hC.1 hP.size) hC.2 ((hC.1.cell (p := ⟨vv, 2, none⟩) lv).trans cv) (hF.below hC.1 hF.lt)).mono
      fun r w'' ⟨h1, h2⟩ => ⟨h1, hC.1.trans (h2.mono hC.1.size), (h2.cell (p := ⟨w.heap.size, 0, none⟩) (World.block_lt_of_cell? w' _ hC.2)).trans hC.2⟩))
  clear hF hG hP ha hb hx he hB0 hc0
  go_enter Yba.func8, Yba.ntmps8
  go_wp2_with fail
  refine HC.out.mono ?_
  rintro r w2 ⟨rfl, I2⟩
  go_wp2_with fail
  go_ret
  exact ⟨rfl, I2.1⟩
end Go.Proofs.Ybulkamew
