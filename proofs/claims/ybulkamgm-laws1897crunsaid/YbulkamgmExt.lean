import Derived.Test.YbulkamgmArr
namespace Go.Proofs.Ybulkamgm
open Go.ChangeShapes Go.WideShapes Go.ChangeAt Go.RowKit

set_option maxHeartbeats 400000 in
/-- extendStart where the byte is the one that stands at k. -/
theorem ext22 (s : ByteArray) (v : Value) (k : Nat) (x : Int) (hk : k < s.size) (hs : s.size ≤ 100000) (hx : x = ((s[k]'hk).toNat : Int)) (w : World) :
    Calls Yba.prog 22 #[.string s, v, .int .i64 k, .int .u8 x] w fun e w' => e = .returned (.int .i64 ((k : Int) + 1)) ∧ w' = w := by
  have hb1 : (x == ((s[k]'hk).toNat : Int)) = true := by simp [hx]
  have hb2 : (x != ((s[k]'hk).toNat : Int)) = false := by simp [hx]
  clear hx
  by_cases hk0 : k = 0
  · subst hk0
    go_enter Yba.func22, Yba.ntmps22
    go_wp2
    refine wp_loop_rounds 1 ?_
    rw [rounds_succ]
    go_wp2
    go_ret
    exact ⟨rfl, rfl⟩
  · have hk1 : (0 : Int) < (k : Int) := by omega
    clear hk0
    go_enter Yba.func22, Yba.ntmps22
    go_wp2
    refine wp_loop_rounds 1 ?_
    rw [rounds_succ]
    go_wp2
    go_ret
    exact ⟨rfl, rfl⟩
set_option maxHeartbeats 400000 in
/-- extendStart where the byte is the one that stands at k. -/
theorem ext23 (s : ByteArray) (v : Value) (k : Nat) (x : Int) (hk : k < s.size) (hs : s.size ≤ 100000) (hx : x = ((s[k]'hk).toNat : Int)) (w : World) :
    Calls Yba.prog 23 #[.string s, v, .int .i64 k, .int .u8 x] w fun e w' => e = .returned (.int .i64 ((k : Int) + 1)) ∧ w' = w := by
  have hb1 : (x == ((s[k]'hk).toNat : Int)) = true := by simp [hx]
  have hb2 : (x != ((s[k]'hk).toNat : Int)) = false := by simp [hx]
  clear hx
  by_cases hk0 : k = 0
  · subst hk0
    go_enter Yba.func23, Yba.ntmps23
    go_wp2
    refine wp_loop_rounds 1 ?_
    rw [rounds_succ]
    go_wp2
    go_ret
    exact ⟨rfl, rfl⟩
  · have hk1 : (0 : Int) < (k : Int) := by omega
    clear hk0
    go_enter Yba.func23, Yba.ntmps23
    go_wp2
    refine wp_loop_rounds 1 ?_
    rw [rounds_succ]
    go_wp2
    go_ret
    exact ⟨rfl, rfl⟩
set_option maxHeartbeats 400000 in
/-- extendStart where the byte is the one that stands at k. -/
theorem ext24 (s : ByteArray) (v : Value) (k : Nat) (x : Int) (hk : k < s.size) (hs : s.size ≤ 100000) (hx : x = ((s[k]'hk).toNat : Int)) (w : World) :
    Calls Yba.prog 24 #[.string s, v, .int .i64 k, .int .u8 x] w fun e w' => e = .returned (.int .i64 ((k : Int) + 1)) ∧ w' = w := by
  have hb1 : (x == ((s[k]'hk).toNat : Int)) = true := by simp [hx]
  have hb2 : (x != ((s[k]'hk).toNat : Int)) = false := by simp [hx]
  clear hx
  by_cases hk0 : k = 0
  · subst hk0
    go_enter Yba.func24, Yba.ntmps24
    go_wp2
    refine wp_loop_rounds 1 ?_
    rw [rounds_succ]
    go_wp2
    go_ret
    exact ⟨rfl, rfl⟩
  · have hk1 : (0 : Int) < (k : Int) := by omega
    clear hk0
    go_enter Yba.func24, Yba.ntmps24
    go_wp2
    refine wp_loop_rounds 1 ?_
    rw [rounds_succ]
    go_wp2
    go_ret
    exact ⟨rfl, rfl⟩
end Go.Proofs.Ybulkamgm
