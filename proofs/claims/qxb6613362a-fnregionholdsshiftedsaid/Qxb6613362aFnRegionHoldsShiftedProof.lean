/- The proof of Rows.FnRegionHoldsShiftedSaid: the frame is the seat's given shell; the walk is ours. -/
import Derived.Test.Qxb6613362aRows
import Derived.WalkKit
import Derived.ProofKit
import Derived.OpenShut
import Derived.ShutString
import Derived.Test.Qxb6613362aRegionWalks
namespace Go.Proofs.Qxb6613362a.fnRegionHoldsShifted
open Go.ChangeShapes Go.WideShapes Go.ChangeAt Go.RowKit
open Go.ChangeMaps (open_string shut_string)
set_option linter.unusedVariables false      -- a walk need not use every 'w<i>' (that an integer argument fits its kind)

theorem own : ownKnob Try.prog.godebug = none := by kernel_rfl

/-! ### STEP 1: THE WALK -/
theorem grown_trans {a b c : World} (h : Grown a b) (k : Grown b c) : Grown a c :=
  ⟨World.keptBut_trans h.1 (World.keptBut_mono (fun _ f => f) k.1), fun x => (k.2.1 x).trans (h.2.1 x), Nat.le_trans h.2.2 k.2.2⟩

theorem mul_bd (c s : Int) (hc : 0 ≤ c) (hc2 : c ≤ 32768) (hs : 1 ≤ s) (hs2 : s ≤ 16384) : 0 ≤ c * s ∧ c * s ≤ 536870912 := by
  refine ⟨Int.mul_nonneg hc (by omega), ?_⟩
  have := Int.mul_le_mul hc2 hs2 (by omega) (by omega)
  omega

open RegionW in
theorem shifted (f s c p d : Int) : inR (f + d) s c (p + d) = inR f s c p := by
  unfold inR; congr 1; apply propext; omega

open RegionW in
set_option maxHeartbeats 1000000 in
theorem walk_in (a0 a1 a2 a3 a4 a5 a6 : Int) (f1 : 0 ≤ a0) (f2 : a0 ≤ 536870912) (s1 : 1 ≤ a1) (s2 : a1 ≤ 16384) (c1 : 0 ≤ a2) (c2 : a2 ≤ 32768) (p1 : -1073741824 ≤ a6) (p2 : a6 ≤ 1073741824) (d1 : 0 ≤ a5) (d2 : a5 ≤ 536870912) (w : World) :
    Calls Try.prog 8 #[.int .i64 a0, .int .i64 a1, .int .i64 a2, .int .i64 a3, .int .i64 a4, .int .i64 a5, .int .i64 a6] w fun e w' => e = .returned (.bool true) ∧ Grown w w' := by
  obtain ⟨m1, m2⟩ := mul_bd a2 a1 c1 c2 s1 s2
  have hsh : Hid (inR (a0 + a5) a1 a2 (a6 + a5) = inR a0 a1 a2 a6) := shifted a0 a1 a2 a6 a5
  cases hb : inR a0 a1 a2 a6
  all_goals
    go_enter Try.func8, Try.ntmps8
    go_wp2_with fail
    refine (holdsAt_any a0 a1 a2 a3 a4 a6 _ f1 (by omega) m1 (by omega)).mono ?_
    rintro e wa ⟨rfl, ga⟩
    go_wp2_with fail
    refine (holdsAt_any (a0 + a5) a1 a2 a3 a4 (a6 + a5) _ (by omega) (by omega) m1 (by omega)).mono ?_
    rintro e wb ⟨rfl, gb⟩
    rw [hsh.out]
    go_wp2_with fail
    refine (inCopies_any a0 a1 a2 a6 _ f1 (by omega) s1 s2 p1 p2).mono ?_
    rintro e w' ⟨rfl, rfl⟩
    go_wp2_with fail
    go_ret
    exact ⟨rfl, grown_trans ga gb⟩

set_option maxHeartbeats 1000000 in
theorem walk_out (a0 a1 a2 a3 a4 a5 a6 : Int) (h : ¬ (0 ≤ a0 ∧ a0 ≤ 536870912 ∧ 1 ≤ a1 ∧ a1 ≤ 16384 ∧ 0 ≤ a2 ∧ a2 ≤ 32768 ∧ -1073741824 ≤ a6 ∧ a6 ≤ 1073741824 ∧ 0 ≤ a5 ∧ a5 ≤ 536870912)) (w : World) :
    Calls Try.prog 8 #[.int .i64 a0, .int .i64 a1, .int .i64 a2, .int .i64 a3, .int .i64 a4, .int .i64 a5, .int .i64 a6] w fun e w' => e = .returned (.bool true) ∧ Grown w w' := by
  go_enter Try.func8, Try.ntmps8
  go_wp2_with fail
  all_goals
    go_ret
    exact ⟨rfl, Grown.refl _⟩

theorem walk (a0 : Int) (a1 : Int) (a2 : Int) (a3 : Int) (a4 : Int) (a5 : Int) (a6 : Int) (w0 : (Lit.int .i64 a0).wf = true) (w1 : (Lit.int .i64 a1).wf = true) (w2 : (Lit.int .i64 a2).wf = true) (w3 : (Lit.int .i64 a3).wf = true) (w4 : (Lit.int .i64 a4).wf = true) (w5 : (Lit.int .i64 a5).wf = true) (w6 : (Lit.int .i64 a6).wf = true) (w : World) :
    Calls Try.prog 8 #[.int .i64 a0, .int .i64 a1, .int .i64 a2, .int .i64 a3, .int .i64 a4, .int .i64 a5, .int .i64 a6] w fun e w' => e = .returned (.bool true) ∧ Grown w w' := by
  by_cases h : 0 ≤ a0 ∧ a0 ≤ 536870912 ∧ 1 ≤ a1 ∧ a1 ≤ 16384 ∧ 0 ≤ a2 ∧ a2 ≤ 32768 ∧ -1073741824 ≤ a6 ∧ a6 ≤ 1073741824 ∧ 0 ≤ a5 ∧ a5 ≤ 536870912
  · obtain ⟨r0, r1, r2, r3, r4, r5, r6, r7, r8, r9⟩ := h
    exact walk_in a0 a1 a2 a3 a4 a5 a6 r0 r1 r2 r3 r4 r5 r6 r7 r8 r9 w
  · exact walk_out a0 a1 a2 a3 a4 a5 a6 h w

/-! ### THE ROW's STEP: WRITTEN OUT: LEAVE IT -/
set_option maxRecDepth 100000 in
theorem lifted (os : Os) (started : os.Started) (H : Type) (enc : TypeId × Value → H) :
    ReturnsInHanded {} Try.checked os 8 .any (Rows.fnRegionHoldsShiftedSpec.pre6 enc Try.prog Try.f8 Rows.fnRegionHoldsShiftedRow.domain false) (Rows.fnRegionHoldsShiftedSpec.post enc Try.prog Try.f8 false true false false) := by
  refine returnsInHanded_of_change (C := Try.checked) own started (by kernel_rfl) Try.func8
    (ChangeSpec.witness6 (enc := enc) (C := Try.checked) false ⟨#[], #[.int .i64 0, .int .i64 0, .int .i64 0, .int .i64 0, .int .i64 0, .int .i64 0, .int .i64 0], []⟩ 8 (by kernel_rfl) (by kernel_rfl) (by kernel_rfl) (by kernel_rfl)) ?_
  intro W base args ds gs before hval0 hW hcnd _
  have hval : ∀ (j : Nat) t v, Try.f8.params[j]? = some t → args[j]? = some v → Value.okWide Try.prog W .any base t v := hval0
  have hW' := hW
  obtain ⟨p, q, hA0, hV, rfl, hfz, hnd⟩ := hW
  have hA : DataW.TrodAll enc Try.prog W 0 (fun _ => true) true Try.f8.params.toList args.toList ds p := hA0
  rw [Try.params8] at hA hval
  obtain ⟨v0, vs0, d0, ds0, p0, q0, hargs, rfl, rfl, h0, r0⟩ := trodAll_cons hA
  obtain ⟨v1, vs1, d1, ds1, p1, q1, rfl, rfl, rfl, h1, r1⟩ := trodAll_cons r0
  obtain ⟨v2, vs2, d2, ds2, p2, q2, rfl, rfl, rfl, h2, r2⟩ := trodAll_cons r1
  obtain ⟨v3, vs3, d3, ds3, p3, q3, rfl, rfl, rfl, h3, r3⟩ := trodAll_cons r2
  obtain ⟨v4, vs4, d4, ds4, p4, q4, rfl, rfl, rfl, h4, r4⟩ := trodAll_cons r3
  obtain ⟨v5, vs5, d5, ds5, p5, q5, rfl, rfl, rfl, h5, r5⟩ := trodAll_cons r4
  obtain ⟨v6, vs6, d6, ds6, p6, q6, rfl, rfl, rfl, h6, r6⟩ := trodAll_cons r5
  obtain ⟨rfl, rfl, rfl⟩ := trodAll_nil r6
  obtain rfl : args = #[v0, v1, v2, v3, v4, v5, v6] := by cases args; simp_all
  obtain ⟨rfl, rfl⟩ := trodVars_none hV
  obtain ⟨a0, rfl, rfl, rfl, w0⟩ := open_int Try.underlying3 (hval 0 3 v0 rfl rfl) h0
  obtain ⟨a1, rfl, rfl, rfl, w1⟩ := open_int Try.underlying3 (hval 1 3 v1 rfl rfl) h1
  obtain ⟨a2, rfl, rfl, rfl, w2⟩ := open_int Try.underlying3 (hval 2 3 v2 rfl rfl) h2
  obtain ⟨a3, rfl, rfl, rfl, w3⟩ := open_int Try.underlying3 (hval 3 3 v3 rfl rfl) h3
  obtain ⟨a4, rfl, rfl, rfl, w4⟩ := open_int Try.underlying3 (hval 4 3 v4 rfl rfl) h4
  obtain ⟨a5, rfl, rfl, rfl, w5⟩ := open_int Try.underlying3 (hval 5 3 v5 rfl rfl) h5
  obtain ⟨a6, rfl, rfl, rfl, w6⟩ := open_int Try.underlying3 (hval 6 3 v6 rfl rfl) h6
  clear hA0 hval0
  simp only [List.append_nil] at hW'
  refine (walk a0 a1 a2 a3 a4 a5 a6 w0 w1 w2 w3 w4 w5 w6 W).mono fun e W' ⟨he, hg⟩ => ?_
  subst he
  exact ⟨_, rfl, post_of_same (pa := []) (pv := []) hW' (fun _ _ _ => (trodAll_cons_mk (shut_bool Try.underlying4 _) trodAll_mk0)) (fun sp _ => (trodAll_cons_mk (shut_int Try.underlying3 w0) (trodAll_cons_mk (shut_int Try.underlying3 w1) (trodAll_cons_mk (shut_int Try.underlying3 w2) (trodAll_cons_mk (shut_int Try.underlying3 w3) (trodAll_cons_mk (shut_int Try.underlying3 w4) (trodAll_cons_mk (shut_int Try.underlying3 w5) (trodAll_cons_mk (shut_int Try.underlying3 w6) trodAll_mk0)))))))) (fun _ _ => rfl) rfl
    (hg.frame _) hg.2.1 (ok_one (by kernel_rfl) rfl (okWide_bool_mk Try.underlying4 _))⟩

theorem over : Rows.fnRegionHoldsShiftedRow.holds Try.pinned (OpenSpec.ofChange Rows.fnRegionHoldsShiftedSpec) :=
  OpenClaim.holds_of_wide 8 Try.f8 rfl rfl rfl rfl rfl rfl rfl ⟨rfl, rfl, rfl, rfl, rfl⟩ rfl rfl rfl rfl rfl (by kernel_rfl) Try.func8 (by kernel_rfl)
    (of_decide_eq_true (by kernel_rfl)) (by unfold Func.isWrapper; first | (rw [if_pos (by decide +kernel)]; kernel_rfl) | (rw [if_neg (by decide +kernel)]; exact ⟨rfl, rfl⟩))
    (fun os started H enc _ => lifted os started H enc)

/-- ████ THE STATEMENT ████ -/
theorem proved : Rows.FnRegionHoldsShiftedSaid :=
  over
end Go.Proofs.Qxb6613362a.fnRegionHoldsShifted
