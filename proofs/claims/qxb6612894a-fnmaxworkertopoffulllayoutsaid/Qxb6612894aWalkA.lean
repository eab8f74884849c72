/- The walks of the callees on the road of FnMaxWorkerTopOfFullLayout. -/
import Derived.Test.Qxb6612894aRows
import Derived.Test.Qxb6612894aPlain
import Derived.WalkKit
import Derived.WalkSpells
import Derived.WalkLawsBesides
import Derived.Deep.QuietTactic
import Derived.BigQuiet
import Derived.Deep.RegionWith
namespace Go.Proofs.Qxb6612894a.MaxW
open Go.RowKit

theorem ret_int {k : IntKind} {a b : Int} (h : a = b) : Ending.returned (.int k a) = .returned (.int k b) := by rw [h]

set_option maxHeartbeats 400000 in
theorem max_any (nm : ByteArray) (n sh tk : Int) (w : World) (hn : 1 ≤ n) (hn2 : n ≤ 62) :
    Calls Try.prog 8 #[.agg #[.string nm, .int .i64 n, .int .i64 sh, .int .i64 tk]] w fun e w' => e = .returned (.int .u64 (pw n.toNat)) ∧ w.alloc (.cells #[.string nm, .int .i64 n, .int .i64 sh, .int .i64 tk] 30) = w' := by
  go_enter Try.func8, Try.ntmps8
  go_wp2
  go_ret
  exact ⟨ret_int (pw_u64 _ (by omega)), rfl⟩

set_option maxHeartbeats 1000000 in
theorem worker0_own (b fb : Nat) (nm : ByteArray) (n sh tk : Int) (w : World) (hn : 1 ≤ n) (hn2 : n ≤ 62) (hs : 1 ≤ sh) (hs2 : sh ≤ 63)
    (hb : b < w.heap.size) (hfb : fb < w.heap.size) (hq : ¬ (9223372036854775807 : Int) / 2 ^ sh.toNat < pw n.toNat)
    (h0 : w.cell? ⟨b, 0, none⟩ = some (.slice (some ⟨fb, 0, none⟩) 3 3)) (h2 : w.cell? ⟨b, 2, none⟩ = some (.int .i64 0))
    (c0 : w.cell? ⟨fb, 0, none⟩ = some (.string nm)) (c1 : w.cell? ⟨fb, 1, none⟩ = some (.int .i64 n))
    (c2 : w.cell? ⟨fb, 2, none⟩ = some (.int .i64 sh)) (c3 : w.cell? ⟨fb, 3, none⟩ = some (.int .i64 tk)) :
    Calls Try.prog 5 #[.pointer (some ⟨b, 0, none⟩)] w fun e w' => e = .returned (.int .i64 (pw n.toNat)) ∧ Grown w w' := by
  have hp := pw_bd n.toNat (by omega)
  have hq' := qt_le sh.toNat
  have X : Hid (0 ≤ pw n.toNat ∧ pw n.toNat < 4611686018427387904) := hp
  have Y : Hid (0 ≤ qt sh.toNat ∧ qt sh.toNat ≤ 9223372036854775807) := hq'
  have k1 : ¬ (9223372036854775807 < pw n.toNat) := by omega
  have k2 : ¬ (9223372036854775807 < (9223372036854775807 : Int) / 2 ^ sh.toNat) := by unfold qt at hq'; omega
  clear hp hq'
  go_enter Try.func5, Try.ntmps5
  go_wp2
  go_region
  all_goals go_wp2
  go_region_with (go_at_call 8; refine (max_any nm n sh tk _ hn hn2).mono ?_; rintro e w' ⟨rfl, rfl⟩)
  all_goals go_wp2
  all_goals go_ret
  all_goals refine ⟨ret_int (wrapI _ X.out.1 (by have := X.out.2; omega)), ?_⟩
  all_goals repeat (first | exact Grown.refl _ | apply Grown.drew | apply Grown.alloc)

set_option maxHeartbeats 1000000 in
theorem worker0_cap (b fb : Nat) (nm : ByteArray) (n sh tk : Int) (w : World) (hn : 1 ≤ n) (hn2 : n ≤ 62) (hs : 1 ≤ sh) (hs2 : sh ≤ 63)
    (hb : b < w.heap.size) (hfb : fb < w.heap.size) (hq : (9223372036854775807 : Int) / 2 ^ sh.toNat < pw n.toNat)
    (h0 : w.cell? ⟨b, 0, none⟩ = some (.slice (some ⟨fb, 0, none⟩) 3 3)) (h2 : w.cell? ⟨b, 2, none⟩ = some (.int .i64 0))
    (c0 : w.cell? ⟨fb, 0, none⟩ = some (.string nm)) (c1 : w.cell? ⟨fb, 1, none⟩ = some (.int .i64 n))
    (c2 : w.cell? ⟨fb, 2, none⟩ = some (.int .i64 sh)) (c3 : w.cell? ⟨fb, 3, none⟩ = some (.int .i64 tk)) :
    Calls Try.prog 5 #[.pointer (some ⟨b, 0, none⟩)] w fun e w' => e = .returned (.int .i64 (qt sh.toNat)) ∧ Grown w w' := by
  have hp := pw_bd n.toNat (by omega)
  have hq' := qt_le sh.toNat
  have X : Hid (0 ≤ pw n.toNat ∧ pw n.toNat < 4611686018427387904) := hp
  have Y : Hid (0 ≤ qt sh.toNat ∧ qt sh.toNat ≤ 9223372036854775807) := hq'
  have k1 : ¬ (9223372036854775807 < pw n.toNat) := by omega
  have k2 : ¬ (9223372036854775807 < (9223372036854775807 : Int) / 2 ^ sh.toNat) := by unfold qt at hq'; omega
  clear hp hq'
  go_enter Try.func5, Try.ntmps5
  go_wp2
  go_region
  all_goals go_wp2
  go_region_with (go_at_call 8; refine (max_any nm n sh tk _ hn hn2).mono ?_; rintro e w' ⟨rfl, rfl⟩)
  all_goals go_wp2
  all_goals go_ret
  all_goals refine ⟨ret_int (wrapI _ Y.out.1 Y.out.2), ?_⟩
  all_goals repeat (first | exact Grown.refl _ | apply Grown.drew | apply Grown.alloc)

set_option maxHeartbeats 1000000 in
theorem worker1_own (b fb : Nat) (nm : ByteArray) (n sh tk : Int) (w : World) (hn : 1 ≤ n) (hn2 : n ≤ 62) (hs : 1 ≤ sh) (hs2 : sh ≤ 63)
    (hb : b < w.heap.size) (hfb : fb < w.heap.size) (hq : ¬ (9223372036854775807 : Int) / 2 ^ sh.toNat < pw n.toNat)
    (h0 : w.cell? ⟨b, 0, none⟩ = some (.slice (some ⟨fb, 0, none⟩) 3 3)) (h2 : w.cell? ⟨b, 2, none⟩ = some (.int .i64 1))
    (c0 : w.cell? ⟨fb, 4, none⟩ = some (.string nm)) (c1 : w.cell? ⟨fb, 5, none⟩ = some (.int .i64 n))
    (c2 : w.cell? ⟨fb, 6, none⟩ = some (.int .i64 sh)) (c3 : w.cell? ⟨fb, 7, none⟩ = some (.int .i64 tk)) :
    Calls Try.prog 5 #[.pointer (some ⟨b, 0, none⟩)] w fun e w' => e = .returned (.int .i64 (pw n.toNat)) ∧ Grown w w' := by
  have hp := pw_bd n.toNat (by omega)
  have hq' := qt_le sh.toNat
  have X : Hid (0 ≤ pw n.toNat ∧ pw n.toNat < 4611686018427387904) := hp
  have Y : Hid (0 ≤ qt sh.toNat ∧ qt sh.toNat ≤ 9223372036854775807) := hq'
  have k1 : ¬ (9223372036854775807 < pw n.toNat) := by omega
  have k2 : ¬ (9223372036854775807 < (9223372036854775807 : Int) / 2 ^ sh.toNat) := by unfold qt at hq'; omega
  clear hp hq'
  go_enter Try.func5, Try.ntmps5
  go_wp2
  go_region
  all_goals go_wp2
  go_region_with (go_at_call 8; refine (max_any nm n sh tk _ hn hn2).mono ?_; rintro e w' ⟨rfl, rfl⟩)
  all_goals go_wp2
  all_goals go_ret
  all_goals refine ⟨ret_int (wrapI _ X.out.1 (by have := X.out.2; omega)), ?_⟩
  all_goals repeat (first | exact Grown.refl _ | apply Grown.drew | apply Grown.alloc)
end Go.Proofs.Qxb6612894a.MaxW
