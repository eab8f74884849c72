/- The proof of Rows.FnPrefixKeyNamesPrefixAndFieldAloneSaid: the frame as the guide's template has it, at this function's types; the walk is ours. -/
import Derived.Test.Qxb6612924aWalkA
import Derived.Test.Qxb6612924aWalkB
import Derived.Test.Qxb6612924aWalkC
import Derived.Test.Qxb6612924aWalkD
import Derived.ProofKit
import Derived.OpenShut
import Derived.ShutString
namespace Go.Proofs.Qxb6612924a.fnPrefixKeyNamesPrefixAndFieldAlone
open Go.ChangeShapes Go.WideShapes Go.ChangeAt Go.RowKit
open Go.ChangeMaps (open_string shut_string)
set_option linter.unusedVariables false

theorem own : ownKnob Try.prog.godebug = none := by kernel_rfl

/-! ### STEP 1: THE WALK -/
open PrefixKey in
set_option maxHeartbeats 1000000 in
theorem walk_no (a0 a3 : ByteArray) (a1 a4 : Int) (a2 a5 : Nat) (w0 : a0.size ≤ maxLen) (w3 : a3.size ≤ maxLen) (h : 1048576 < a0.size + a3.size) (w : World) :
    Calls Try.prog 5 #[.string a0, .int .i64 a1, .float .f64 a2, .string a3, .int .i64 a4, .float .f64 a5] w fun e w' => e = .returned (.bool true) ∧ Grown w w' := by
  go_enter Try.func5, Try.ntmps5
  go_wp2_with fail
  refine (bytes_no _ _ _ _ _ _ _ w0 w3 h).mono ?_
  rintro e w' ⟨rfl, rfl⟩
  go_wp2
  go_ret
  exact ⟨rfl, Grown.refl _⟩

open PrefixKey in
set_option maxHeartbeats 1000000 in
theorem walk_long (a0 a3 : ByteArray) (a1 a4 : Int) (a2 a5 : Nat) (h : a0.size + a3.size ≤ 1048576) (hl : 65536 < a0.size ∨ 65536 < a3.size) (w : World) :
    Calls Try.prog 5 #[.string a0, .int .i64 a1, .float .f64 a2, .string a3, .int .i64 a4, .float .f64 a5] w fun e w' => e = .returned (.bool true) ∧ Grown w w' := by
  go_enter Try.func5, Try.ntmps5
  go_wp2_with fail
  refine (bytes_yes _ _ _ _ _ _ _ h).mono ?_
  rintro e w' ⟨rfl, rfl⟩
  go_wp2
  all_goals
    go_ret
    exact ⟨rfl, Grown.refl _⟩

theorem toList_inj {a b : ByteArray} (h : a.toList = b.toList) : a = b := by
  rw [ByteArray.toList_eq, ByteArray.toList_eq] at h
  apply ByteArray.ext; exact Array.ext' h

theorem walk (a0 : ByteArray) (a1 : Int) (a2 : Nat) (a3 : ByteArray) (a4 : Int) (a5 : Nat) (w0 : a0.size ≤ maxLen) (w3 : a3.size ≤ maxLen) (w : World) :
    Calls Try.prog 5 #[.string a0, .int .i64 a1, .float .f64 a2, .string a3, .int .i64 a4, .float .f64 a5] w fun e w' => e = .returned (.bool true) ∧ Grown w w' := by
  by_cases h : a0.size + a3.size ≤ 1048576
  · by_cases hl : 65536 < a0.size ∨ 65536 < a3.size
    · exact walk_long a0 a3 a1 a4 a2 a5 h hl w
    · cases ht : (a0.toList == a3.toList)
      · exact walk_text a0 a3 a1 a4 a2 a5 (by omega) (by omega) ht w
      · have e0 := toList_inj (by simpa using ht)
        subst e0
        cases hi : (a1 == a4)
        · exact walk_field a0 a1 a4 a2 a5 (by omega) hi w
        · have e1 : a1 = a4 := by simpa using hi
          subst e1
          exact walk_same a0 a1 a2 a5 (by omega) w
  · exact walk_no a0 a3 a1 a4 a2 a5 w0 w3 (by omega) w

/-! ### THE ROW's STEP -/
set_option maxRecDepth 100000 in
theorem lifted (os : Os) (started : os.Started) (H : Type) (enc : TypeId × Value → H) :
    ReturnsInHanded {} Try.checked os 5 .any (Rows.fnPrefixKeyNamesPrefixAndFieldAloneSpec.pre6 enc Try.prog Try.f5 Rows.fnPrefixKeyNamesPrefixAndFieldAloneRow.domain false) (Rows.fnPrefixKeyNamesPrefixAndFieldAloneSpec.post enc Try.prog Try.f5 false true false false) := by
  refine returnsInHanded_of_change (C := Try.checked) own started (by kernel_rfl) Try.func5
    (ChangeSpec.witness6 (enc := enc) (C := Try.checked) false ⟨#[], #[.string ByteArray.empty, .int .i64 0, .float .f64 0, .string ByteArray.empty, .int .i64 0, .float .f64 0], []⟩ 8 (by kernel_rfl) (by kernel_rfl) (by kernel_rfl) (by kernel_rfl)) ?_
  intro W base args ds gs before hval0 hW hcnd _
  have hval : ∀ (j : Nat) t v, Try.f5.params[j]? = some t → args[j]? = some v → Value.okWide Try.prog W .any base t v := hval0
  have hW' := hW
  obtain ⟨p, q, hA0, hV, rfl, hfz, hnd⟩ := hW
  have hA : DataW.TrodAll enc Try.prog W 0 (fun _ => true) true Try.f5.params.toList args.toList ds p := hA0
  rw [Try.params5] at hA hval
  obtain ⟨v0, vs0, d0, ds0, p0, q0, hargs, rfl, rfl, h0, r0⟩ := trodAll_cons hA
  obtain ⟨v1, vs1, d1, ds1, p1, q1, rfl, rfl, rfl, h1, r1⟩ := trodAll_cons r0
  obtain ⟨v2, vs2, d2, ds2, p2, q2, rfl, rfl, rfl, h2, r2⟩ := trodAll_cons r1
  obtain ⟨v3, vs3, d3, ds3, p3, q3, rfl, rfl, rfl, h3, r3⟩ := trodAll_cons r2
  obtain ⟨v4, vs4, d4, ds4, p4, q4, rfl, rfl, rfl, h4, r4⟩ := trodAll_cons r3
  obtain ⟨v5, vs5, d5, ds5, p5, q5, rfl, rfl, rfl, h5, r5⟩ := trodAll_cons r4
  obtain ⟨rfl, rfl, rfl⟩ := trodAll_nil r5
  obtain rfl : args = #[v0, v1, v2, v3, v4, v5] := by cases args; simp_all
  obtain ⟨rfl, rfl⟩ := trodVars_none hV
  obtain ⟨a0, rfl, rfl, rfl, w0⟩ := open_string Try.underlying9 (hval 0 9 v0 rfl rfl) h0
  obtain ⟨a1, rfl, rfl, rfl, w1⟩ := open_int Try.underlying3 (hval 1 3 v1 rfl rfl) h1
  obtain ⟨a2, rfl, rfl, rfl, w2⟩ := open_float Try.underlying22 (hval 2 22 v2 rfl rfl) h2
  obtain ⟨a3, rfl, rfl, rfl, w3⟩ := open_string Try.underlying9 (hval 3 9 v3 rfl rfl) h3
  obtain ⟨a4, rfl, rfl, rfl, w4⟩ := open_int Try.underlying3 (hval 4 3 v4 rfl rfl) h4
  obtain ⟨a5, rfl, rfl, rfl, w5⟩ := open_float Try.underlying22 (hval 5 22 v5 rfl rfl) h5
  clear hA0 hval0
  simp only [List.append_nil] at hW'
  refine (walk a0 a1 a2 a3 a4 a5 w0 w3 W).mono fun e W' ⟨he, hg⟩ => ?_
  subst he
  exact ⟨_, rfl, post_of_same (pa := []) (pv := []) hW' (fun _ _ _ => (trodAll_cons_mk (shut_bool Try.underlying4 _) trodAll_mk0)) (fun sp _ => (trodAll_cons_mk (shut_string Try.underlying9 w0) (trodAll_cons_mk (shut_int Try.underlying3 w1) (trodAll_cons_mk (shut_float Try.underlying22 w2) (trodAll_cons_mk (shut_string Try.underlying9 w3) (trodAll_cons_mk (shut_int Try.underlying3 w4) (trodAll_cons_mk (shut_float Try.underlying22 w5) trodAll_mk0))))))) (fun _ _ => rfl) rfl
    (hg.frame _) hg.2.1 (ok_one (by kernel_rfl) rfl (okWide_bool_mk Try.underlying4 _))⟩

theorem over : Rows.fnPrefixKeyNamesPrefixAndFieldAloneRow.holds Try.pinned (OpenSpec.ofChange Rows.fnPrefixKeyNamesPrefixAndFieldAloneSpec) :=
  OpenClaim.holds_of_wide 5 Try.f5 rfl rfl rfl rfl rfl rfl rfl ⟨rfl, rfl, rfl, rfl, rfl⟩ rfl rfl rfl rfl rfl (by kernel_rfl) Try.func5 (by kernel_rfl)
    (of_decide_eq_true (by kernel_rfl)) (by unfold Func.isWrapper; first | (rw [if_pos (by decide +kernel)]; kernel_rfl) | (rw [if_neg (by decide +kernel)]; exact ⟨rfl, rfl⟩))
    (fun os started H enc _ => lifted os started H enc)

/-- ████ THE STATEMENT ████ -/
theorem proved : Rows.FnPrefixKeyNamesPrefixAndFieldAloneSaid :=
  over
end Go.Proofs.Qxb6612924a.fnPrefixKeyNamesPrefixAndFieldAlone
