/- The walks of zzLayout and zzMaxWorkerOf. -/
import Derived.Test.Qxb6612894aWalkA
namespace Go.Proofs.Qxb6612894a.MaxW
open Go.RowKit
set_option linter.unusedVariables false

/-- what the call of zzLayout lays: a Layout whose worker field is the k-th of three, of x bits at the shift sh -/
def Laid (w w' : World) (k : Int) (o : Nat) (x sh : Int) : Prop :=
  Grown w w' ∧ w.heap.size + 4 < w'.heap.size ∧ w'.cell? ⟨w.heap.size + 4, 0, none⟩ = some (.slice (some ⟨w.heap.size + 3, 0, none⟩) 3 3)
    ∧ w'.cell? ⟨w.heap.size + 4, 2, none⟩ = some (.int .i64 k)
    ∧ w'.cell? ⟨w.heap.size + 3, o, none⟩ = some (.string ⟨#[119, 111, 114, 107, 101, 114]⟩) ∧ w'.cell? ⟨w.heap.size + 3, o + 1, none⟩ = some (.int .i64 x)
    ∧ w'.cell? ⟨w.heap.size + 3, o + 2, none⟩ = some (.int .i64 sh) ∧ w'.cell? ⟨w.heap.size + 3, o + 3, none⟩ = some (.int .i64 0)

set_option maxHeartbeats 1000000 in
theorem layout_top (t x s : Int) (w : World) (t1 : 1 ≤ t) (t2 : t ≤ 64) (x1 : 1 ≤ x) (x2 : x ≤ 64) (s1 : 1 ≤ s) (s2 : s ≤ 64) :
    Calls Try.prog 4 #[.int .i64 t, .int .i64 x, .int .i64 s, .bool true] w fun e w' => e = .returned (.pointer (some ⟨w.heap.size + 4, 0, none⟩)) ∧ Laid w w' 0 0 x (t + s) := by
  go_enter Try.func4, Try.ntmps4
  go_wp2
  go_ret
  refine ⟨rfl, ?_, ?_, ?_, ?_, ?_, ?_, ?_, ?_⟩
  · repeat (first | exact Grown.refl _ | apply Grown.drew | apply Grown.alloc)
  all_goals simp [go_sem]

set_option maxHeartbeats 1000000 in
theorem layout_mid (t x s : Int) (w : World) (t1 : 1 ≤ t) (t2 : t ≤ 64) (x1 : 1 ≤ x) (x2 : x ≤ 64) (s1 : 1 ≤ s) (s2 : s ≤ 64) :
    Calls Try.prog 4 #[.int .i64 t, .int .i64 x, .int .i64 s, .bool false] w fun e w' => e = .returned (.pointer (some ⟨w.heap.size + 4, 0, none⟩)) ∧ Laid w w' 1 4 x s := by
  go_enter Try.func4, Try.ntmps4
  go_wp2
  go_ret
  refine ⟨rfl, ?_, ?_, ?_, ?_, ?_, ?_, ?_, ?_⟩
  · repeat (first | exact Grown.refl _ | apply Grown.drew | apply Grown.alloc)
  all_goals simp [go_sem]

set_option maxHeartbeats 400000 in
theorem of_full (t x s : Int) (w : World) (t1 : 1 ≤ t) (t2 : t ≤ 64) (x1 : 1 ≤ x) (x2 : x ≤ 62) (s1 : 1 ≤ s) (s2 : s ≤ 64) (h : (t + x + s == 64) = true) :
    Calls Try.prog 6 #[.int .i64 t, .int .i64 x, .int .i64 s, .bool true] w fun e w' => e = .returned (.int .i64 (pw (x.toNat - 1))) ∧ w' = w := by
  go_enter Try.func6, Try.ntmps6
  go_wp2
  go_ret
  exact ⟨ret_int (pw_i64 _ (by omega)), rfl⟩
set_option maxHeartbeats 400000 in
theorem of_less (t x s : Int) (w : World) (t1 : 1 ≤ t) (t2 : t ≤ 64) (x1 : 1 ≤ x) (x2 : x ≤ 62) (s1 : 1 ≤ s) (s2 : s ≤ 64) (h : (t + x + s == 64) = false) :
    Calls Try.prog 6 #[.int .i64 t, .int .i64 x, .int .i64 s, .bool true] w fun e w' => e = .returned (.int .i64 (pw x.toNat)) ∧ w' = w := by
  go_enter Try.func6, Try.ntmps6
  go_wp2
  go_ret
  exact ⟨ret_int (pw_i64 _ (by omega)), rfl⟩
set_option maxHeartbeats 400000 in
theorem of_mid (t x s : Int) (w : World) (x1 : 1 ≤ x) (x2 : x ≤ 62) :
    Calls Try.prog 6 #[.int .i64 t, .int .i64 x, .int .i64 s, .bool false] w fun e w' => e = .returned (.int .i64 (pw x.toNat)) ∧ w' = w := by
  go_enter Try.func6, Try.ntmps6
  go_wp2
  go_ret
  exact ⟨ret_int (pw_i64 _ (by omega)), rfl⟩
end Go.Proofs.Qxb6612894a.MaxW
