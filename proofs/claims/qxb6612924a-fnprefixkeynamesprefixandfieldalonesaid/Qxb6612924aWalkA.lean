/- The walks of the callees on the road of FnPrefixKeyNamesPrefixAndFieldAlone. -/
import Derived.Test.Qxb6612924aRows
import Derived.WalkKit
import Derived.WalkSpells
import Derived.WalkLawsBesides
import Derived.Deep.QuietTactic
import Derived.BigQuiet
import Derived.Deep.RegionWith
namespace Go.Proofs.Qxb6612924a.PrefixKey
open Go.RowKit
set_option linter.unusedVariables false

set_option maxHeartbeats 400000 in
theorem bytes_yes (a b : ByteArray) (i j : Int) (f g : Nat) (w : World) (h : a.size + b.size ≤ 1048576) :
    Calls Try.prog 12 #[.string a, .int .i64 i, .float .f64 f, .string b, .int .i64 j, .float .f64 g] w fun e w' => e = .returned (.bool true) ∧ w' = w := by
  go_enter Try.func12, Try.ntmps12
  go_wp2
  go_ret
  exact ⟨rfl, rfl⟩

set_option maxHeartbeats 400000 in
theorem bytes_no (a b : ByteArray) (i j : Int) (f g : Nat) (w : World) (ha : a.size ≤ maxLen) (hb : b.size ≤ maxLen) (h : 1048576 < a.size + b.size) :
    Calls Try.prog 12 #[.string a, .int .i64 i, .float .f64 f, .string b, .int .i64 j, .float .f64 g] w fun e w' => e = .returned (.bool false) ∧ w' = w := by
  unfold maxLen at ha hb
  go_enter Try.func12, Try.ntmps12
  go_wp2
  all_goals
    go_ret
    exact ⟨rfl, rfl⟩

set_option maxHeartbeats 400000 in
theorem key_any (b : Nat) (a : ByteArray) (i : Int) (w : World) (hb : b < w.heap.size) (c0 : w.cell? ⟨b, 0, none⟩ = some (.string a)) (c1 : w.cell? ⟨b, 1, none⟩ = some (.int .i64 i)) :
    Calls Try.prog 18 #[.pointer (some ⟨b, 0, none⟩)] w fun e w' => e = .returned (.agg #[.int .u8 42, .int .i64 i, .string a]) ∧ (w.alloc (.cells #[.int .u8 42, .int .i64 i, .string a] 33)).drew = w' := by
  go_enter Try.func18, Try.ntmps18
  go_wp2
  go_region
  all_goals go_wp2
  all_goals exact bodyPost_ret (v := .agg #[.int .u8 42, .int .i64 i, .string a]) (by simp [results, Try.results18, go_sem]) rfl ⟨rfl, rfl⟩

set_option maxHeartbeats 400000 in
theorem prefix_any (a : ByteArray) (i : Int) (f : Nat) (w : World) :
    Calls Try.prog 13 #[.string a, .int .i64 i, .float .f64 f] w fun e w' => e = .returned (.agg #[.int .u8 42, .int .i64 i, .string a])
      ∧ (((w.alloc (.cells #[.int .u8 42, .int .i64 i, .string a] 33)).alloc (.cells #[.string a, .int .i64 i, .float .f64 f] 40)).alloc (.cells #[.int .u8 42, .int .i64 i, .string a] 33)).drew = w' := by
  go_enter Try.func13, Try.ntmps13
  go_wp2_with fail
  refine (key_any (w.heap.size + 1) a i _ (by simp) (by simp [go_sem]) (by simp [go_sem])).mono ?_
  rintro e w' ⟨rfl, rfl⟩
  go_wp2
  exact bodyPost_ret (v := .agg #[.int .u8 42, .int .i64 i, .string a]) (by simp [results, Try.results13, go_sem]) rfl ⟨rfl, rfl⟩
end Go.Proofs.Qxb6612924a.PrefixKey
