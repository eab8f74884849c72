/- The walks of the callees on the road of FnDirtyBitmapParsesBack. -/
import Derived.Test.Qxb6612841aRows
import Derived.WalkKit
import Derived.WalkSpells
import Derived.WalkLawsBesides
import Derived.Deep.QuietTactic
import Derived.BigQuiet
namespace Go.Proofs.Qxb6612841a.DirtyB
open Go.RowKit

def pre : ByteArray := ⟨#[113, 101, 109, 117, 58, 100, 105, 114, 116, 121, 45, 98, 105, 116, 109, 97, 112, 58]⟩

set_option maxHeartbeats 400000 in
theorem bytes_yes (a b : ByteArray) (w : World) (h : a.size + b.size ≤ 1048576) :
    Calls Try.prog 4 #[.string a, .string b] w fun e w' => e = .returned (.bool true) ∧ w' = w := by
  go_enter Try.func4, Try.ntmps4
  go_wp2
  go_ret
  exact ⟨rfl, rfl⟩

set_option maxHeartbeats 400000 in
theorem bytes_no (a b : ByteArray) (w : World) (ha : a.size ≤ maxLen) (hb : b.size ≤ maxLen) (h : 1048576 < a.size + b.size) :
    Calls Try.prog 4 #[.string a, .string b] w fun e w' => e = .returned (.bool false) ∧ w' = w := by
  unfold maxLen at ha hb
  go_enter Try.func4, Try.ntmps4
  go_wp2
  all_goals
    go_ret
    exact ⟨rfl, rfl⟩

set_option maxHeartbeats 400000 in
theorem dirty_any (a : ByteArray) (w : World) (ha : a.size ≤ 1048576) :
    Calls Try.prog 5 #[.string a] w fun e w' => e = .returned (.string (pre ++ a)) ∧ w' = w := by
  go_enter Try.func5, Try.ntmps5
  go_wp2
  go_ret
  exact ⟨rfl, rfl⟩

theorem results_tmp4 {fn : Func} {t u v x : Tmp} (h : fn.results = #[.tmp t, .tmp u, .tmp v, .tmp x]) (tmps : Array Value) (P : Program) (w : World) :
    (results fn tmps).run P w = .ok (.tuple #[tmps.getD t undef, tmps.getD u undef, tmps.getD v undef, tmps.getD x undef]) w := by
  simp [results, h]

set_option maxHeartbeats 1000000 in
theorem split_any (s : ByteArray) (w : World) (hs : s.size ≤ 2097152) (h18 : 18 ≤ s.size)
    (hn : ∀ k (h : k < s.size), k < 17 → k ≠ 4 → ((s[k].toNat : Int) != 58) = true) (h4 : ∀ k (h : k < s.size), k = 4 ∨ k = 17 → ((s[k].toNat : Int) != 58) = false) :
    Calls Try.prog 6 #[.string s] w fun e w' => e = .returned (.tuple #[.string (s.extract 0 4), .string (s.extract 5 17), .string (s.extract 18 s.size), .bool true]) ∧ ∃ n, w' = w.drewN n := by
  go_enter Try.func6, Try.ntmps6
  go_wp2
  go_loop [6] (fun i => ∃ k : Nat, k ≤ 4 ∧ i = .int .i64 k) (fun i => 4 - (intOf i).toNat)
  case atStart => exact ⟨0, by omega, rfl⟩
  case round =>
    obtain ⟨k, hk, rfl⟩ := hrel
    have hlt : k < s.size := by omega
    by_cases hk4 : k < 4
    · have hne := hn k hlt (by omega) (by omega)
      clear hn h4
      go_wp2
      go_round
      case rel => exact ⟨k + 1, by omega, by go_num⟩
      case measure => simp [intOf]; omega
    · have e4 : k = 4 := by omega
      subst e4
      have hne := h4 4 hlt (Or.inl rfl)
      clear hk4 hk
      go_wp2
      go_loop [7] (fun i => ∃ k : Nat, 5 ≤ k ∧ k ≤ 17 ∧ i = .int .i64 k) (fun i => 17 - (intOf i).toNat)
      case atStart => exact ⟨5, by omega, by omega, rfl⟩
      case round =>
        obtain ⟨k, hk5, hk, rfl⟩ := hrel
        have hlt' : k < s.size := by omega
        by_cases hk17 : k < 17
        · have hne := hn k hlt' (by omega) (by omega)
          clear hn h4
          go_wp2
          go_round
          case rel => exact ⟨k + 1, by omega, by omega, by go_num⟩
          case measure => simp [intOf]; omega
        · have e17 : k = 17 := by omega
          subst e17
          have hne' := h4 17 hlt' (Or.inr rfl)
          clear hk17 hk hk5 hn h4
          go_wp2
          go_quiet (fail)
          go_wp2
          refine bodyPost_ret (results_tmp4 rfl _ _ _) rfl ?_
          exact ⟨rfl, _, rfl⟩
end Go.Proofs.Qxb6612841a.DirtyB
