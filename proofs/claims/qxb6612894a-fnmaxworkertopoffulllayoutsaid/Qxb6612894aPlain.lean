/- Plain numbers: 2^n - 1, its wraps, its shifts. -/
import Derived.WalkKit
namespace Go.Proofs.Qxb6612894a.MaxW
open Go.RowKit

def pw (n : Nat) : Int := 2 ^ n - 1

theorem pow_bd (n : Nat) (h : n ≤ 62) : (1 : Int) ≤ 2 ^ n ∧ (2 : Int) ^ n ≤ 4611686018427387904 := by
  have h1 : (2 : Nat) ^ n ≤ 2 ^ 62 := Nat.pow_le_pow_right (by omega) h
  have h2 : (1 : Nat) ≤ 2 ^ n := Nat.one_le_two_pow
  have e : ((2 ^ n : Nat) : Int) = (2 : Int) ^ n := by simp
  have e62 : (2 : Nat) ^ 62 = 4611686018427387904 := by decide
  omega

theorem pw_i64 (n : Nat) (h : n ≤ 62) : wrap64 (wrap64 (2 ^ n) - 1) = pw n := by
  have := pow_bd n h
  unfold wrap64 pw; omega

theorem wrapU (x : Int) (h0 : 0 ≤ x) (h : x < 18446744073709551616) : IntKind.u64.wrap x = x := by
  simp [IntKind.wrap, IntKind.bits, IntKind.signed]; omega

theorem pw_u64 (n : Nat) (h : n ≤ 62) : IntKind.u64.wrap (IntKind.u64.wrap (2 ^ n) - 1) = pw n := by
  have := pow_bd n h
  rw [wrapU (2 ^ n) (by omega) (by omega), wrapU _ (by omega) (by omega)]; rfl

def qt (sh : Nat) : Int := 9223372036854775807 / 2 ^ sh

theorem qt_le (sh : Nat) : 0 ≤ qt sh ∧ qt sh ≤ 9223372036854775807 := by
  unfold qt
  exact ⟨Int.ediv_nonneg (by omega) (by have : (0 : Int) < 2 ^ sh := Int.pow_pos (by omega)
                                        omega), Int.ediv_le_self _ (by omega)⟩

theorem wrapI (x : Int) (h0 : 0 ≤ x) (h : x ≤ 9223372036854775807) : IntKind.i64.wrap x = x := by
  simp [IntKind.wrap, IntKind.bits, IntKind.signed]; omega

theorem pw_bd (n : Nat) (h : n ≤ 62) : 0 ≤ pw n ∧ pw n < 4611686018427387904 := by
  have := pow_bd n h
  unfold pw; omega

theorem pow_cast (n : Nat) : ((2 ^ n : Nat) : Int) = (2 : Int) ^ n := by simp

/-- the top field of a layout of 64 bits -/
theorem qt_full (n sh : Nat) (h1 : 1 ≤ n) (h : n + sh = 64) : qt sh = pw (n - 1) := by
  have e63 : (2 : Nat) ^ 63 = 2 ^ (n - 1) * 2 ^ sh := by rw [← Nat.pow_add]; congr 1; omega
  have e63' : (2 : Nat) ^ 63 = 9223372036854775808 := by decide
  have hp : (1 : Nat) ≤ 2 ^ sh := Nat.one_le_two_pow
  have hp1 : (1 : Nat) ≤ 2 ^ (n - 1) := Nat.one_le_two_pow
  have key : (9223372036854775807 : Nat) / 2 ^ sh = 2 ^ (n - 1) - 1 := by
    rw [Nat.div_eq_iff (by omega)]
    generalize ha : (2 : Nat) ^ (n - 1) = a at *
    generalize hb : (2 : Nat) ^ sh = b at *
    have e : (a - 1) * b + b = a * b := by
      have : (a - 1 + 1) * b = (a - 1) * b + 1 * b := Nat.add_mul _ _ _
      rw [show a - 1 + 1 = a by omega] at this; omega
    omega
  unfold qt pw
  rw [← pow_cast, ← pow_cast]
  have : ((9223372036854775807 : Int) / ((2 ^ sh : Nat) : Int)) = (((9223372036854775807 : Nat) / 2 ^ sh : Nat) : Int) := by simp
  rw [this, key]; omega

/-- room above the field: the field's own greatest value is the least of the three -/
theorem qt_room (n sh : Nat) (h : n + sh ≤ 63) : pw n ≤ qt sh := by
  unfold qt pw
  have hp : (1 : Nat) ≤ 2 ^ sh := Nat.one_le_two_pow
  have hp1 : (1 : Nat) ≤ 2 ^ n := Nat.one_le_two_pow
  have hle : (2 : Nat) ^ n * 2 ^ sh ≤ 2 ^ 63 := by rw [← Nat.pow_add]; exact Nat.pow_le_pow_right (by omega) h
  have e63' : (2 : Nat) ^ 63 = 9223372036854775808 := by decide
  rw [← pow_cast, ← pow_cast]
  rw [Int.le_ediv_iff_mul_le (by omega)]
  generalize ha : (2 : Nat) ^ n = a at *
  generalize hb : (2 : Nat) ^ sh = b at *
  have e : ((a : Int) - 1) * (b : Int) = ((a * b : Nat) : Int) - b := by rw [Int.sub_mul]; simp
  rw [e]; omega

theorem pw_half (n : Nat) (h1 : 1 ≤ n) : pw n / 2 = pw (n - 1) := by
  have e : (2 : Nat) ^ n = 2 ^ (n - 1) * 2 := by rw [← Nat.pow_succ]; congr 1; omega
  unfold pw
  rw [← pow_cast, ← pow_cast, e]
  have hp1 : (1 : Nat) ≤ 2 ^ (n - 1) := Nat.one_le_two_pow
  omega
theorem pw_mono (n : Nat) (h1 : 1 ≤ n) : pw (n - 1) < pw n := by
  have e : (2 : Nat) ^ n = 2 ^ (n - 1) * 2 := by rw [← Nat.pow_succ]; congr 1; omega
  unfold pw
  rw [← pow_cast, ← pow_cast, e]
  have hp1 : (1 : Nat) ≤ 2 ^ (n - 1) := Nat.one_le_two_pow
  omega
end Go.Proofs.Qxb6612894a.MaxW
