/- The walks of the region functions: end, holds, ZZregionHolds, ZZnewRegion, zzHoldsAt, zzInCopies. -/
import Derived.Test.Qxb6613362aRows
import Derived.WalkKit
import Derived.WalkSpells
import Derived.WalkLawsBesides
import Derived.Deep.QuietTactic
import Derived.BigQuiet
import Derived.Deep.RegionWith
namespace Go.Proofs.Qxb6613362a.RegionW
open Go.RowKit
set_option linter.unusedVariables false

def inR (f s c p : Int) : Bool := decide (f ≤ p ∧ p < f + c * s)

theorem ret_bool {a b : Bool} (h : a = b) : Ending.returned (.bool a) = .returned (.bool b) := by rw [h]
theorem inR_mk {f s c p : Int} {b : Bool} (h : b = true ↔ f ≤ p ∧ p < f + c * s) : b = inR f s c p := by
  unfold inR; rw [Bool.eq_iff_iff, h]; simp

set_option maxHeartbeats 400000 in
theorem end_any (b : Nat) (f s c : Int) (w : World) (hf : 0 ≤ f) (hf2 : f ≤ 2147483648) (hm : 0 ≤ c * s) (hm2 : c * s ≤ 2147483648)
    (c0 : w.cell? ⟨b, 0, none⟩ = some (.int .i64 f)) (c1 : w.cell? ⟨b, 1, none⟩ = some (.int .i64 s)) (c2 : w.cell? ⟨b, 2, none⟩ = some (.int .i64 c)) :
    Calls Try.prog 44 #[.pointer (some ⟨b, 0, none⟩)] w fun e w' => e = .returned (.int .i64 (f + c * s)) ∧ ∃ n, w' = w.drewN n := by
  go_enter Try.func44, Try.ntmps44
  go_wp2
  go_quiet (fail)
  go_wp2
  go_ret
  exact ⟨rfl, _, rfl⟩

set_option maxHeartbeats 400000 in
theorem holds_any (b : Nat) (f s c p : Int) (w : World) (hf : 0 ≤ f) (hf2 : f ≤ 2147483648) (hm : 0 ≤ c * s) (hm2 : c * s ≤ 2147483648)
    (c0 : w.cell? ⟨b, 0, none⟩ = some (.int .i64 f)) (c1 : w.cell? ⟨b, 1, none⟩ = some (.int .i64 s)) (c2 : w.cell? ⟨b, 2, none⟩ = some (.int .i64 c)) :
    Calls Try.prog 42 #[.pointer (some ⟨b, 0, none⟩), .int .i64 p] w fun e w' => e = .returned (.bool (inR f s c p)) ∧ ∃ n, w' = w.drewN n := by
  by_cases h : f ≤ p
  · go_enter Try.func42, Try.ntmps42
    go_wp2_with fail
    refine (end_any b f s c _ hf hf2 hm hm2 c0 c1 c2).mono ?_
    rintro e w' ⟨rfl, nq, rfl⟩
    go_wp2
    go_ret
    refine ⟨ret_bool (inR_mk ?_), _, rfl⟩
    simp [h]
  · go_enter Try.func42, Try.ntmps42
    go_wp2_with fail
    go_ret
    refine ⟨ret_bool (inR_mk ?_), 0, rfl⟩
    simp; omega
theorem div_lt (f s c p : Int) (hs : 1 ≤ s) : (p - f) / s < c ↔ p < f + c * s := by
  rw [Int.ediv_lt_iff_lt_mul (by omega)]; omega
set_option maxHeartbeats 400000 in
theorem inCopies_any (f s c p : Int) (w : World) (hf : 0 ≤ f) (hf2 : f ≤ 2147483648) (hs : 1 ≤ s) (hs2 : s ≤ 16384) (hp : -1073741824 ≤ p) (hp2 : p ≤ 1073741824) :
    Calls Try.prog 19 #[.int .i64 f, .int .i64 s, .int .i64 c, .int .i64 p] w fun e w' => e = .returned (.bool (inR f s c p)) ∧ w' = w := by
  by_cases h : f ≤ p
  · go_enter Try.func19, Try.ntmps19
    go_wp2_with fail
    go_ret
    refine ⟨ret_bool (inR_mk ?_), rfl⟩
    show decide ((p - f) / s < c) = true ↔ _
    rw [decide_eq_true_iff, div_lt f s c p hs]; simp [h]
  · go_enter Try.func19, Try.ntmps19
    go_wp2_with fail
    go_ret
    refine ⟨ret_bool (inR_mk ?_), rfl⟩
    simp; omega

set_option maxHeartbeats 400000 in
theorem holdsAt_any (f s c k a p : Int) (w : World) (hf : 0 ≤ f) (hf2 : f ≤ 2147483648) (hm : 0 ≤ c * s) (hm2 : c * s ≤ 2147483648) :
    Calls Try.prog 18 #[.int .i64 f, .int .i64 s, .int .i64 c, .int .i64 k, .int .i64 a, .int .i64 p] w fun e w' => e = .returned (.bool (inR f s c p)) ∧ Grown w w' := by
  go_enter Try.func18, Try.ntmps18
  go_wp2_with (first | (go_at_call 42; refine (holds_any _ f s c p _ hf hf2 hm hm2 (by simp [go_sem]) (by simp [go_sem]) (by simp [go_sem])).mono ?_; rintro e w' ⟨rfl, nq, rfl⟩) | go_in)
  go_ret
  exact ⟨rfl, (Grown.refl w).alloc _ _⟩
end Go.Proofs.Qxb6613362a.RegionW
