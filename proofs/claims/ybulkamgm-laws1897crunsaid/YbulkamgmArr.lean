import Derived.Test.YbulkamgmProg
import Derived.WalkKit
import Derived.ProofKit
namespace Go.Proofs.Ybulkamgm
open Go.ChangeShapes Go.WideShapes Go.ChangeAt Go.RowKit

/-- Block b holds n cells that may be written; the j-th holds f j. -/
def Arr (w : World) (b n : Nat) (f : Nat → Value) : Prop := b < w.heap.size ∧ ∀ j, j < n → w.cell? ⟨b, j, none⟩ = some (f j) ∧ w.frozen? ⟨b, j, none⟩ = false
/-- f, but v at j. -/
def put (f : Nat → Value) (j : Nat) (v : Value) : Nat → Value := fun i => if i = j then v else f i

theorem put_same (f : Nat → Value) (j : Nat) (v : Value) : put f j v j = v := by simp [put]
theorem put_other (f : Nat → Value) (j i : Nat) (v : Value) (h : i ≠ j) : put f j v i = f i := by simp [put, h]

theorem Arr.lt {w : World} {b n : Nat} {f : Nat → Value} (h : Arr w b n f) : b < w.heap.size := h.1
theorem Arr.cell {w : World} {b n : Nat} {f : Nat → Value} (h : Arr w b n f) {j : Nat} (hj : j < n) : w.cell? ⟨b, j, none⟩ = some (f j) := (h.2 j hj).1
theorem Arr.free {w : World} {b n : Nat} {f : Nat → Value} (h : Arr w b n f) {j : Nat} (hj : j < n) : w.frozen? ⟨b, j, none⟩ = false := (h.2 j hj).2
theorem Arr.drew {w : World} {b n : Nat} {f : Nat → Value} (h : Arr w b n f) : Arr w.drew b n f := h
theorem Arr.congr {w : World} {b n : Nat} {f g : Nat → Value} (h : Arr w b n f) (e : ∀ j, j < n → f j = g j) : Arr w b n g :=
  ⟨h.1, fun j hj => by rw [← e j hj]; exact h.2 j hj⟩
theorem Arr.shorter {w : World} {b n m : Nat} {f : Nat → Value} (h : Arr w b n f) (hm : m ≤ n) : Arr w b m f := ⟨h.1, fun j hj => h.2 j (by omega)⟩
theorem Arr.alloc {w : World} {b n : Nat} {f : Nat → Value} (h : Arr w b n f) (o : Obj) : Arr (w.alloc o) b n f :=
  ⟨by have := h.1; simp; omega, fun j hj => ⟨by rw [World.cell?_alloc_past _ _ _ h.1]; exact h.cell hj, by rw [World.frozen?_alloc_past _ _ _ h.1]; exact h.free hj⟩⟩
theorem Arr.below {w w' : World} {b n B : Nat} {f : Nat → Value} (h : Arr w b n f) (hb : Below B w w') (hB : b < B) : Arr w' b n f :=
  ⟨Nat.lt_of_lt_of_le h.1 hb.size, fun j hj => ⟨(hb.cell (p := ⟨b, j, none⟩) hB).trans (h.cell hj), (hb.frozen (p := ⟨b, j, none⟩) hB).trans (h.free hj)⟩⟩
theorem Arr.setOther {w : World} {b n b' j' : Nat} {f : Nat → Value} (h : Arr w b n f) (v : Value) (hb : b ≠ b') : Arr (w.setCell ⟨b', j', none⟩ v) b n f :=
  ⟨by simpa using h.1, fun j hj => ⟨by rw [World.cell?_setCell_other _ _ _ _ (fun he => hb (by cases he; rfl))]; exact h.cell hj, by rw [World.frozen?_setCell]; exact h.free hj⟩⟩
theorem Arr.set {w : World} {b n j : Nat} {f : Nat → Value} (h : Arr w b n f) (hj : j < n) (v : Value) : Arr (w.setCell ⟨b, j, none⟩ v) b n (put f j v) := by
  refine ⟨by simpa using h.1, fun i hi => ⟨?_, by rw [World.frozen?_setCell]; exact h.free hi⟩⟩
  by_cases e : i = j
  · subst e; rw [World.cell?_setCell_same _ _ _ (h.cell hi), put_same]
  · rw [World.cell?_setCell_other _ _ _ _ (fun he => e (by cases he; rfl)), put_other _ _ _ _ e]; exact h.cell hi

/-- Block b holds n cells that may be written; the first k of them hold what F says. -/
def Fill (w : World) (b n k : Nat) (F : Nat → Value) : Prop := ∃ f, Arr w b n f ∧ ∀ j, j < k → f j = F j
theorem Fill.lt {w : World} {b n k : Nat} {F : Nat → Value} (h : Fill w b n k F) : b < w.heap.size := let ⟨_, a, _⟩ := h; a.lt
theorem Fill.cell {w : World} {b n k : Nat} {F : Nat → Value} (h : Fill w b n k F) {j : Nat} (hj : j < k) (hn : j < n) : w.cell? ⟨b, j, none⟩ = some (F j) := by
  obtain ⟨f, a, e⟩ := h; rw [← e j hj]; exact a.cell hn
theorem Fill.some {w : World} {b n k : Nat} {F : Nat → Value} (h : Fill w b n k F) {j : Nat} (hn : j < n) : ∃ v, w.cell? ⟨b, j, none⟩ = some v := by
  obtain ⟨f, a, e⟩ := h; exact ⟨_, a.cell hn⟩
theorem Fill.free {w : World} {b n k : Nat} {F : Nat → Value} (h : Fill w b n k F) {j : Nat} (hn : j < n) : w.frozen? ⟨b, j, none⟩ = false := by
  obtain ⟨f, a, e⟩ := h; exact a.free hn
theorem Fill.alloc {w : World} {b n k : Nat} {F : Nat → Value} (h : Fill w b n k F) (o : Obj) : Fill (w.alloc o) b n k F := let ⟨f, a, e⟩ := h; ⟨f, a.alloc o, e⟩
theorem Fill.drew {w : World} {b n k : Nat} {F : Nat → Value} (h : Fill w b n k F) : Fill w.drew b n k F := let ⟨f, a, e⟩ := h; ⟨f, a.drew, e⟩
theorem Fill.below {w w' : World} {b n k B : Nat} {F : Nat → Value} (h : Fill w b n k F) (hb : Below B w w') (hB : b < B) : Fill w' b n k F := let ⟨f, a, e⟩ := h; ⟨f, a.below hb hB, e⟩
theorem Fill.setOther {w : World} {b n k b' j' : Nat} {F : Nat → Value} (h : Fill w b n k F) (v : Value) (hb : b ≠ b') : Fill (w.setCell ⟨b', j', none⟩ v) b n k F := let ⟨f, a, e⟩ := h; ⟨f, a.setOther v hb, e⟩
theorem Fill.step {w : World} {b n k : Nat} {F : Nat → Value} (h : Fill w b n k F) (hk : k < n) {v : Value} (hv : v = F k) : Fill (w.setCell ⟨b, k, none⟩ v) b n (k + 1) F := by
  obtain ⟨f, a, e⟩ := h
  refine ⟨put f k v, a.set hk v, fun j hj => ?_⟩
  by_cases q : j = k
  · subst q; rw [put_same]; exact hv
  · rw [put_other _ _ _ _ q]; exact e j (by omega)
theorem Fill.arr {w : World} {b n : Nat} {F : Nat → Value} (h : Fill w b n n F) : Arr w b n F := let ⟨_, a, e⟩ := h; a.congr e
theorem Arr.fill {w : World} {b n : Nat} {f : Nat → Value} (h : Arr w b n f) (F : Nat → Value) : Fill w b n 0 F := ⟨f, h, fun j hj => absurd hj (by omega)⟩

theorem Fill.cut {w : World} {b n k m : Nat} {F G : Nat → Value} (h : Fill w b n k F) (hn : m ≤ n) (hk : m ≤ k) (q : ∀ j, j < m → F j = G j) : Fill w b m m G :=
  let ⟨f, a, e⟩ := h; ⟨f, a.shorter hn, fun j hj => (e j (by omega)).trans (q j hj)⟩
theorem Fill.again {w : World} {b n k : Nat} {F : Nat → Value} (h : Fill w b n k F) (G : Nat → Value) : Fill w b n 0 G := let ⟨_, a, _⟩ := h; a.fill G
theorem made_get (z : Array Value) (n j : Nat) (hj : j < n) : (madeCells z n)[j]? = some (z[j % z.size]!) := by
  simp [madeCells, hj]
/-- A block just made by 'make'. -/
theorem Arr.made (w : World) (z : Array Value) (n : Nat) (e : TypeId) : Arr (w.alloc (.cells (madeCells z n) e)) w.heap.size n (fun j => z[j % z.size]!) :=
  ⟨by simp, fun j hj => ⟨by rw [World.cell?_alloc_at _ _ _ _ rfl, made_get _ _ _ hj], World.frozen?_alloc_at _ _ _ _ rfl⟩⟩

/-- What 'make([]T, n)' does, at each of the slice types of these laws. -/
theorem mk_of (t e : TypeId) (i : TypeInfo) (z : Value) (n m size : Nat) (ht : Yba.prog.underlying t = some (.slice e)) (hi : Yba.prog.info? e = some i) (hz : i.zero = some z) (hs : i.size = size) (hb : i.bytes ≤ 100) (hn : n ≤ m) (hm : m ≤ 100000) (w : World) :
    (Instr.makeSlice t (.int .i64 n) (.int .i64 m)).run Yba.prog w = .ok (.slice (some ⟨w.heap.size, 0, none⟩) n m) (w.alloc (.cells (madeCells z.cells (m * size)) e)) := by
  have h1 : i.bytes * m ≤ 100 * 100000 := Nat.mul_le_mul hb hm
  have h2 : ((i.bytes * m : Nat) : Int) ≤ 10000000 := by omega
  have hr := run_make (P := Yba.prog) w t e i z ht hi hz .i64 .i64 n m (by omega) (by omega) (by rw [← Int.natCast_mul]; omega) (by omega)
  simp only [Int.toNat_natCast, hs] at hr
  exact hr

theorem info3 : (Yba.prog.info? 3).map (fun i => (i.zero, i.size, i.bytes)) = some (some (.int .i64 0), 1, 8) := by kernel_rfl
theorem info5 : (Yba.prog.info? 5).map (fun i => (i.zero, i.size, i.bytes)) = some (some (.int .u8 0), 1, 1) := by kernel_rfl
theorem info27 : (Yba.prog.info? 27).map (fun i => (i.zero, i.size, i.bytes)) = some (some (.int .u16 0), 1, 2) := by kernel_rfl

theorem mk30 (n : Nat) (hm : n ≤ 100000) (w : World) : (Instr.makeSlice 30 (.int .i64 n) (.int .i64 n)).run Yba.prog w = .ok (.slice (some ⟨w.heap.size, 0, none⟩) n n) (w.alloc (.cells (madeCells #[.int .i64 0] n) 3)) := by
  obtain ⟨i0, hi, hz0, hz1, hz2⟩ := info_parts info3
  have := mk_of 30 3 i0 _ n n 1 Yba.underlying30 hi hz0 hz1 (by omega) (Nat.le_refl _) hm w
  simpa [Value.cells] using this
theorem mk32 (n : Nat) (hm : n ≤ 100000) (w : World) : (Instr.makeSlice 32 (.int .i64 n) (.int .i64 n)).run Yba.prog w = .ok (.slice (some ⟨w.heap.size, 0, none⟩) n n) (w.alloc (.cells (madeCells #[.int .u8 0] n) 5)) := by
  obtain ⟨i0, hi, hz0, hz1, hz2⟩ := info_parts info5
  have := mk_of 32 5 i0 _ n n 1 Yba.underlying32 hi hz0 hz1 (by omega) (Nat.le_refl _) hm w
  simpa [Value.cells] using this
theorem mk33 (n : Nat) (hm : n ≤ 100000) (w : World) : (Instr.makeSlice 33 (.int .i64 n) (.int .i64 n)).run Yba.prog w = .ok (.slice (some ⟨w.heap.size, 0, none⟩) n n) (w.alloc (.cells (madeCells #[.int .u16 0] n) 27)) := by
  obtain ⟨i0, hi, hz0, hz1, hz2⟩ := info_parts info27
  have := mk_of 33 27 i0 _ n n 1 Yba.underlying33 hi hz0 hz1 (by omega) (Nat.le_refl _) hm w
  simpa [Value.cells] using this
theorem Hid.mk' {p : Prop} (h : p) : Hid p := h
end Go.Proofs.Ybulkamgm
