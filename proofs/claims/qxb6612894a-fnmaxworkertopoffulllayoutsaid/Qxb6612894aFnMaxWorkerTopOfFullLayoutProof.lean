/- The proof of Rows.FnMaxWorkerTopOfFullLayoutSaid: the frame is the seat's given shell; the walk is ours. -/
import Derived.Test.Qxb6612894aRows
import Derived.WalkKit
import Derived.ProofKit
import Derived.OpenShut
import Derived.ShutString
import Derived.Test.Qxb6612894aWalkB
namespace Go.Proofs.Qxb6612894a.fnMaxWorkerTopOfFullLayout
open Go.ChangeShapes Go.WideShapes Go.ChangeAt Go.RowKit
open Go.ChangeMaps (open_string shut_string)
set_option linter.unusedVariables false      -- a walk need not use every 'w<i>' (that an integer argument fits its kind)

theorem own : ownKnob Try.prog.godebug = none := by kernel_rfl

/-! ### STEP 1: THE WALK -/
open MaxW in
theorem grown_trans {a b c : World} (h : Grown a b) (k : Grown b c) : Grown a c :=
  ⟨World.keptBut_trans h.1 (World.keptBut_mono (fun _ f => f) k.1), fun x => (k.2.1 x).trans (h.2.1 x), Nat.le_trans h.2.2 k.2.2⟩

open MaxW in
set_option maxHeartbeats 1000000 in
theorem walk_full (a0 : Int) (a1 : Int) (a2 : Int) (t1 : 1 ≤ a0) (t2 : a0 ≤ 64) (x1 : 1 ≤ a1) (x2 : a1 ≤ 62) (s1 : 1 ≤ a2) (s2 : a2 ≤ 64) (hsum : a0 + a1 + a2 ≤ 64) (hf : (a0 + a1 + a2 == 64) = true) (w : World) :
    Calls Try.prog 3 #[.int .i64 a0, .int .i64 a1, .int .i64 a2] w fun e w' => e = .returned (.bool true) ∧ Grown w w' := by
  have X : Hid (a0 + a1 + a2 = 64) := by simp at hf; exact hf
  have hqm : ¬ (9223372036854775807 : Int) / 2 ^ a2.toNat < pw a1.toNat := by
    have := qt_room a1.toNat a2.toNat (by omega)
    unfold qt at this; omega
  have ef : qt (a0 + a2).toNat = pw (a1.toNat - 1) := qt_full a1.toNat (a0 + a2).toNat (by omega) (by have := X.out; omega)
  have hqt : (9223372036854775807 : Int) / 2 ^ (a0 + a2).toNat < pw a1.toNat := by
    have := pw_mono a1.toNat (by omega)
    unfold qt at ef; omega
  have EF : Hid (qt (a0 + a2).toNat = pw (a1.toNat - 1)) := ef
  clear ef
  have HM : Hid (pw a1.toNat ≤ (9223372036854775807 : Int) / 2 ^ a2.toNat) := Int.not_lt.mp hqm
  have HT : Hid (_) := hqt
  clear hqm hqt
  go_enter Try.func3, Try.ntmps3
  go_wp2_with fail
  refine (layout_top a0 a1 a2 _ t1 t2 x1 (by omega) s1 s2).mono ?_
  rintro e wa ⟨rfl, ga, za, l0, l2, m0, m1, m2, m3⟩
  go_wp2_with fail
  refine (worker0_cap (w.heap.size + 4) (w.heap.size + 3) _ a1 (a0 + a2) 0 _ x1 x2 (by omega) (by omega) (by omega) (by omega) HT.out l0 l2 m0 m1 m2 m3).mono ?_
  rintro e wb ⟨rfl, gb⟩
  rw [EF.out]
  clear l0 l2 m0 m1 m2 m3 za
  go_wp2_with fail
  refine (layout_mid a0 a1 a2 _ t1 t2 x1 (by omega) s1 s2).mono ?_
  rintro e wc ⟨rfl, gc, zc, l0, l2, m0, m1, m2, m3⟩
  go_wp2_with fail
  refine (worker1_own (wb.heap.size + 4) (wb.heap.size + 3) _ a1 a2 0 _ x1 x2 s1 (by omega) (by omega) (by omega) (Int.not_lt.mpr HM.out) l0 l2 m0 m1 m2 m3).mono ?_
  rintro e wd ⟨rfl, gd⟩
  clear l0 l2 m0 m1 m2 m3 zc
  go_wp2_with fail
  refine (of_full a0 a1 a2 _ t1 t2 x1 x2 s1 s2 hf).mono ?_
  rintro e w' ⟨rfl, rfl⟩
  go_wp2_with fail
  refine (of_mid a0 a1 a2 _ x1 x2).mono ?_
  rintro e w' ⟨rfl, rfl⟩
  go_wp2
  go_ret
  refine ⟨?_, grown_trans ga (grown_trans gb (grown_trans gc gd))⟩
  show Ending.returned (.bool (pw (a1.toNat - 1) == pw a1.toNat / 2)) = _
  rw [pw_half a1.toNat (by omega)]; simp

open MaxW in
set_option maxHeartbeats 1000000 in
theorem walk_less (a0 : Int) (a1 : Int) (a2 : Int) (t1 : 1 ≤ a0) (t2 : a0 ≤ 64) (x1 : 1 ≤ a1) (x2 : a1 ≤ 62) (s1 : 1 ≤ a2) (s2 : a2 ≤ 64) (hsum : a0 + a1 + a2 ≤ 64) (hf : (a0 + a1 + a2 == 64) = false) (w : World) :
    Calls Try.prog 3 #[.int .i64 a0, .int .i64 a1, .int .i64 a2] w fun e w' => e = .returned (.bool true) ∧ Grown w w' := by
  have X : Hid (a0 + a1 + a2 < 64) := by have : ¬ a0 + a1 + a2 = 64 := by simpa using hf
                                         show a0 + a1 + a2 < 64; omega
  have hqm : ¬ (9223372036854775807 : Int) / 2 ^ a2.toNat < pw a1.toNat := by
    have := qt_room a1.toNat a2.toNat (by omega)
    unfold qt at this; omega
  have hqt : ¬ (9223372036854775807 : Int) / 2 ^ (a0 + a2).toNat < pw a1.toNat := by
    have := qt_room a1.toNat (a0 + a2).toNat (by have := X.out; omega)
    unfold qt at this; omega
  have HM : Hid (pw a1.toNat ≤ (9223372036854775807 : Int) / 2 ^ a2.toNat) := Int.not_lt.mp hqm
  have HT : Hid (_) := hqt
  clear hqm hqt
  go_enter Try.func3, Try.ntmps3
  go_wp2_with fail
  refine (layout_top a0 a1 a2 _ t1 t2 x1 (by omega) s1 s2).mono ?_
  rintro e wa ⟨rfl, ga, za, l0, l2, m0, m1, m2, m3⟩
  go_wp2_with fail
  refine (worker0_own (w.heap.size + 4) (w.heap.size + 3) _ a1 (a0 + a2) 0 _ x1 x2 (by omega) (by omega) (by omega) (by omega) HT.out l0 l2 m0 m1 m2 m3).mono ?_
  rintro e wb ⟨rfl, gb⟩
  clear l0 l2 m0 m1 m2 m3 za
  go_wp2_with fail
  refine (layout_mid a0 a1 a2 _ t1 t2 x1 (by omega) s1 s2).mono ?_
  rintro e wc ⟨rfl, gc, zc, l0, l2, m0, m1, m2, m3⟩
  go_wp2_with fail
  refine (worker1_own (wb.heap.size + 4) (wb.heap.size + 3) _ a1 a2 0 _ x1 x2 s1 (by omega) (by omega) (by omega) (Int.not_lt.mpr HM.out) l0 l2 m0 m1 m2 m3).mono ?_
  rintro e wd ⟨rfl, gd⟩
  clear l0 l2 m0 m1 m2 m3 zc
  go_wp2_with fail
  refine (of_less a0 a1 a2 _ t1 t2 x1 x2 s1 s2 hf).mono ?_
  rintro e w' ⟨rfl, rfl⟩
  go_wp2_with fail
  refine (of_mid a0 a1 a2 _ x1 x2).mono ?_
  rintro e w' ⟨rfl, rfl⟩
  go_wp2
  go_ret
  exact ⟨rfl, grown_trans ga (grown_trans gb (grown_trans gc gd))⟩

open MaxW in
set_option maxHeartbeats 400000 in
theorem walk_out (a0 : Int) (a1 : Int) (a2 : Int) (w : World) (h : ¬ (1 ≤ a0 ∧ a0 ≤ 64 ∧ 1 ≤ a1 ∧ a1 ≤ 64 ∧ 1 ≤ a2 ∧ a2 ≤ 64 ∧ a0 + a1 + a2 ≤ 64)) :
    Calls Try.prog 3 #[.int .i64 a0, .int .i64 a1, .int .i64 a2] w fun e w' => e = .returned (.bool true) ∧ Grown w w' := by
  go_enter Try.func3, Try.ntmps3
  go_wp2_with fail
  all_goals
    go_ret
    exact ⟨rfl, Grown.refl _⟩

theorem walk (a0 : Int) (a1 : Int) (a2 : Int) (w0 : (Lit.int .i64 a0).wf = true) (w1 : (Lit.int .i64 a1).wf = true) (w2 : (Lit.int .i64 a2).wf = true) (w : World) :
    Calls Try.prog 3 #[.int .i64 a0, .int .i64 a1, .int .i64 a2] w fun e w' => e = .returned (.bool true) ∧ Grown w w' := by
  by_cases h : 1 ≤ a0 ∧ a0 ≤ 64 ∧ 1 ≤ a1 ∧ a1 ≤ 64 ∧ 1 ≤ a2 ∧ a2 ≤ 64 ∧ a0 + a1 + a2 ≤ 64
  · obtain ⟨t1, t2, x1, x2, s1, s2, hs⟩ := h
    cases hf : (a0 + a1 + a2 == 64)
    · exact walk_less a0 a1 a2 t1 t2 x1 (by omega) s1 s2 hs hf w
    · exact walk_full a0 a1 a2 t1 t2 x1 (by omega) s1 s2 hs hf w
  · exact walk_out a0 a1 a2 w h

/-! ### THE ROW's STEP: WRITTEN OUT: LEAVE IT -/
set_option maxRecDepth 100000 in
theorem lifted (os : Os) (started : os.Started) (H : Type) (enc : TypeId × Value → H) :
    ReturnsInHanded {} Try.checked os 3 .any (Rows.fnMaxWorkerTopOfFullLayoutSpec.pre6 enc Try.prog Try.f3 Rows.fnMaxWorkerTopOfFullLayoutRow.domain false) (Rows.fnMaxWorkerTopOfFullLayoutSpec.post enc Try.prog Try.f3 false true false false) := by
  refine returnsInHanded_of_change (C := Try.checked) own started (by kernel_rfl) Try.func3
    (ChangeSpec.witness6 (enc := enc) (C := Try.checked) false ⟨#[], #[.int .i64 0, .int .i64 0, .int .i64 0], []⟩ 8 (by kernel_rfl) (by kernel_rfl) (by kernel_rfl) (by kernel_rfl)) ?_
  intro W base args ds gs before hval0 hW hcnd _
  have hval : ∀ (j : Nat) t v, Try.f3.params[j]? = some t → args[j]? = some v → Value.okWide Try.prog W .any base t v := hval0
  have hW' := hW
  obtain ⟨p, q, hA0, hV, rfl, hfz, hnd⟩ := hW
  have hA : DataW.TrodAll enc Try.prog W 0 (fun _ => true) true Try.f3.params.toList args.toList ds p := hA0
  rw [Try.params3] at hA hval
  obtain ⟨v0, vs0, d0, ds0, p0, q0, hargs, rfl, rfl, h0, r0⟩ := trodAll_cons hA
  obtain ⟨v1, vs1, d1, ds1, p1, q1, rfl, rfl, rfl, h1, r1⟩ := trodAll_cons r0
  obtain ⟨v2, vs2, d2, ds2, p2, q2, rfl, rfl, rfl, h2, r2⟩ := trodAll_cons r1
  obtain ⟨rfl, rfl, rfl⟩ := trodAll_nil r2
  obtain rfl : args = #[v0, v1, v2] := by cases args; simp_all
  obtain ⟨rfl, rfl⟩ := trodVars_none hV
  obtain ⟨a0, rfl, rfl, rfl, w0⟩ := open_int Try.underlying3 (hval 0 3 v0 rfl rfl) h0
  obtain ⟨a1, rfl, rfl, rfl, w1⟩ := open_int Try.underlying3 (hval 1 3 v1 rfl rfl) h1
  obtain ⟨a2, rfl, rfl, rfl, w2⟩ := open_int Try.underlying3 (hval 2 3 v2 rfl rfl) h2
  clear hA0 hval0
  simp only [List.append_nil] at hW'
  refine (walk a0 a1 a2 w0 w1 w2 W).mono fun e W' ⟨he, hg⟩ => ?_
  subst he
  exact ⟨_, rfl, post_of_same (pa := []) (pv := []) hW' (fun _ _ _ => (trodAll_cons_mk (shut_bool Try.underlying4 _) trodAll_mk0)) (fun sp _ => (trodAll_cons_mk (shut_int Try.underlying3 w0) (trodAll_cons_mk (shut_int Try.underlying3 w1) (trodAll_cons_mk (shut_int Try.underlying3 w2) trodAll_mk0)))) (fun _ _ => rfl) rfl
    (hg.frame _) hg.2.1 (ok_one (by kernel_rfl) rfl (okWide_bool_mk Try.underlying4 _))⟩

theorem over : Rows.fnMaxWorkerTopOfFullLayoutRow.holds Try.pinned (OpenSpec.ofChange Rows.fnMaxWorkerTopOfFullLayoutSpec) :=
  OpenClaim.holds_of_wide 3 Try.f3 rfl rfl rfl rfl rfl rfl rfl ⟨rfl, rfl, rfl, rfl, rfl⟩ rfl rfl rfl rfl rfl (by kernel_rfl) Try.func3 (by kernel_rfl)
    (of_decide_eq_true (by kernel_rfl)) (by unfold Func.isWrapper; first | (rw [if_pos (by decide +kernel)]; kernel_rfl) | (rw [if_neg (by decide +kernel)]; exact ⟨rfl, rfl⟩))
    (fun os started H enc _ => lifted os started H enc)

/-- ████ THE STATEMENT ████ -/
theorem proved : Rows.FnMaxWorkerTopOfFullLayoutSaid :=
  over
end Go.Proofs.Qxb6612894a.fnMaxWorkerTopOfFullLayout
