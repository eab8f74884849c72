/- One way of the walk of FnPrefixKeyNamesPrefixAndFieldAlone. -/
import Derived.Test.Qxb6612924aWalkA
namespace Go.Proofs.Qxb6612924a.fnPrefixKeyNamesPrefixAndFieldAlone
open Go.RowKit
set_option linter.unusedVariables false

open PrefixKey in
set_option maxHeartbeats 2000000 in
theorem walk_text (a0 a3 : ByteArray) (a1 a4 : Int) (a2 a5 : Nat) (h0 : a0.size ≤ 65536) (h3 : a3.size ≤ 65536) (hne : (a0.toList == a3.toList) = false) (w : World) :
    Calls Try.prog 5 #[.string a0, .int .i64 a1, .float .f64 a2, .string a3, .int .i64 a4, .float .f64 a5] w fun e w' => e = .returned (.bool true) ∧ Grown w w' := by
  go_enter Try.func5, Try.ntmps5
  go_wp2_with fail
  refine (bytes_yes _ _ _ _ _ _ _ (by omega)).mono ?_
  rintro e w' ⟨rfl, rfl⟩
  go_wp2_with fail
  refine (prefix_any _ _ _ _).mono ?_
  rintro e w' ⟨rfl, rfl⟩
  go_wp2_with fail
  refine (prefix_any _ _ _ _).mono ?_
  rintro e w' ⟨rfl, rfl⟩
  go_wp2
  go_ret
  exact ⟨rfl, by repeat (first | exact Grown.refl _ | apply Grown.drew | apply Grown.alloc)⟩

end Go.Proofs.Qxb6612924a.fnPrefixKeyNamesPrefixAndFieldAlone
