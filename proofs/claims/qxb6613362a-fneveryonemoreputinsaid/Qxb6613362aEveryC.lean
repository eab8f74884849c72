/- The walk of FnEveryAtAnyCut. -/
import Derived.Test.Qxb6613362aEveryB
import Derived.OpenShut
namespace Go.Proofs.Qxb6613362a.EveryW
open Go.RowKit
set_option linter.unusedVariables false

theorem NodeRow.front {B : Nat} {w : World} {rb off : Nat} {zs : List Int} (h : NodeRow B w rb off zs) (c : Nat) : NodeRow B w rb off (zs.take c) := by
  refine ⟨h.1, fun i hi => ?_⟩
  simp only [List.length_take] at hi
  obtain ⟨pb, h1, h2, h3⟩ := h.2 i (by omega)
  refine ⟨pb, h1, h2, ?_⟩
  rw [h3, getD_at zs i (by omega), getD_at (zs.take c) i (by simp only [List.length_take]; omega)]; simp
theorem NodeRow.back {B : Nat} {w : World} {rb off : Nat} {zs : List Int} (h : NodeRow B w rb off zs) (c : Nat) : NodeRow B w rb (off + c) (zs.drop c) := by
  refine ⟨h.1, fun i hi => ?_⟩
  simp only [List.length_drop] at hi
  obtain ⟨pb, h1, h2, h3⟩ := h.2 (c + i) (by omega)
  refine ⟨pb, h1, by rw [Nat.add_assoc]; exact h2, ?_⟩
  rw [h3, getD_at zs (c + i) (by omega), getD_at (zs.drop c) i (by simp only [List.length_drop]; omega)]; simp
theorem NodeRow.nothing {B : Nat} {w : World} {rb off off' : Nat} {zs : List Int} (h : NodeRow B w rb off zs) : NodeRow B w rb off' [] :=
  ⟨h.1, fun i hi => absurd hi (by simp)⟩
theorem NodeRow.up {B B' : Nat} {w : World} {rb off : Nat} {zs : List Int} (h : NodeRow B w rb off zs) (hb : B ≤ B') : NodeRow B' w rb off zs := by
  refine ⟨Nat.lt_of_lt_of_le h.1 hb, fun i hi => ?_⟩
  obtain ⟨pb, h1, h2, h3⟩ := h.2 i hi
  exact ⟨pb, Nat.lt_of_lt_of_le h1 hb, h2, h3⟩
theorem all_cut (o : Int) (zs : List Int) (c : Nat) : allB o zs = (allB o (zs.take c) && allB o (zs.drop c)) := by
  unfold allB; rw [← List.all_append, List.take_append_drop]

set_option maxHeartbeats 400000 in
theorem bytesA_yes (a0 : Option Addr) (len cap : Nat) (o c : Int) (w : World) (h : len ≤ 1048576) :
    Calls Try.prog 13 #[.slice a0 len cap, .int .u8 o, .int .i64 c] w fun e w' => e = .returned (.bool true) ∧ w' = w := by
  go_enter Try.func13, Try.ntmps13
  go_wp2
  go_ret
  exact ⟨rfl, rfl⟩
set_option maxHeartbeats 400000 in
theorem bytesA_no (a0 : Option Addr) (len cap : Nat) (o c : Int) (w : World) (h : 1048576 < len) (hm : len ≤ maxLen) :
    Calls Try.prog 13 #[.slice a0 len cap, .int .u8 o, .int .i64 c] w fun e w' => e = .returned (.bool false) ∧ w' = w := by
  unfold maxLen at hm
  go_enter Try.func13, Try.ntmps13
  go_wp2
  go_ret
  exact ⟨rfl, rfl⟩

set_option maxHeartbeats 4000000 in
theorem cut_mid (a0 : Option Addr) (len cap : Nat) (o : Int) (c : Nat) (zs : List Int) (w : World) (hr : OpsRow w.heap.size w a0 len zs) (hle : len ≤ 65536) (hc : c < len) (bt bd : Bool)
    (ht : allB o (zs.take c) = bt) (hd : allB o (zs.drop c) = bd) (hw : allB o zs = (bt && bd)) :
    Calls Try.prog 5 #[.slice a0 len cap, .int .u8 o, .int .i64 c] w fun e w' => e = .returned (.bool true) ∧ Below w.heap.size w w' := by
  have HL : Hid (zs.length = len) := hr.1
  have HR : Hid (OpsRow w.heap.size w a0 len zs) := hr
  clear hr
  cases bt <;> cases bd
  all_goals
    simp only [Bool.and_true, Bool.and_false, Bool.and_self] at hw
    go_enter Try.func5, Try.ntmps5
    go_wp2_with fail
    refine (bytesA_yes _ _ _ _ _ _ (by omega)).mono ?_
    rintro e w' ⟨rfl, hw'⟩
    have hq := hw'.symm
    clear hw'
    subst hq
    go_wp2_with fail
    refine (nodes_any a0 len cap zs _ HR.out (by omega)).mono ?_
    rintro e w1 ⟨rfl, hn, hb1⟩
    have HN : Hid (NodeRow w1.heap.size w1 w.heap.size 0 zs) := hn
    have HB1 : Hid (_) := hb1
    clear hn hb1
    go_wp2_with fail
    refine (opIs_any w1.heap.size _ 0 len len o zs w1 HN.out (Nat.le_refl _) HL.out (by omega)).mono ?_
    rintro e w2 ⟨rfl, hb2⟩
    have HB2 : Hid (_) := hb2
    clear hb2
    rw [hw]
    go_wp2_with fail
    refine (opIs_any w1.heap.size _ 0 c len o (zs.take c) w2 ((HN.out.keep HB2.out).front c) HB2.out.size (by rw [List.length_take, HL.out]; omega) (by omega)).mono ?_
    rintro e w3 ⟨rfl, hb3⟩
    have HB3 : Hid (_) := hb3
    clear hb3
    rw [ht]
    go_wp2_with fail
    refine (opIs_any w1.heap.size _ c (len - c) (len - c) o (zs.drop c) w3 ((by have := ((HN.out.keep HB2.out).keep (HB3.out.mono HB2.out.size)).back c; rwa [Nat.zero_add] at this)) (Nat.le_trans HB2.out.size HB3.out.size) (by rw [List.length_drop, HL.out]) (by omega)).mono ?_
    rintro e w4 ⟨rfl, hb4⟩
    have HB4 : Hid (_) := hb4
    clear hb4
    rw [hd]
    go_wp2_with fail
    refine (allAre_any w.heap.size a0 len cap o zs w4 (HR.out.keep (((HB1.out.trans (HB2.out.mono HB1.out.size)).trans (HB3.out.mono (Nat.le_trans HB1.out.size HB2.out.size))).trans (HB4.out.mono (Nat.le_trans HB1.out.size (Nat.le_trans HB2.out.size HB3.out.size))))) (by omega)).mono ?_
    rintro e w5 ⟨rfl, hw5⟩
    have hq := hw5.symm
    clear hw5
    subst hq
    rw [hw]
    go_wp2_with fail
    go_ret
    exact ⟨rfl, ((HB1.out.trans (HB2.out.mono HB1.out.size)).trans (HB3.out.mono (Nat.le_trans HB1.out.size HB2.out.size))).trans (HB4.out.mono (Nat.le_trans HB1.out.size (Nat.le_trans HB2.out.size HB3.out.size)))⟩

set_option maxHeartbeats 4000000 in
theorem cut_end (a0 : Option Addr) (len cap : Nat) (o : Int) (zs : List Int) (w : World) (hr : OpsRow w.heap.size w a0 len zs) (hle : len ≤ 65536) (bt bd : Bool)
    (ht : allB o (zs.take len) = bt) (hd : allB o (zs.drop len) = bd) (hw : allB o zs = (bt && bd)) :
    Calls Try.prog 5 #[.slice a0 len cap, .int .u8 o, .int .i64 len] w fun e w' => e = .returned (.bool true) ∧ Below w.heap.size w w' := by
  have HL : Hid (zs.length = len) := hr.1
  have HR : Hid (OpsRow w.heap.size w a0 len zs) := hr
  clear hr
  cases bt <;> cases bd
  all_goals
    simp only [Bool.and_true, Bool.and_false, Bool.and_self] at hw
    go_enter Try.func5, Try.ntmps5
    go_wp2_with fail
    refine (bytesA_yes _ _ _ _ _ _ (by omega)).mono ?_
    rintro e w' ⟨rfl, hw'⟩
    have hq := hw'.symm
    clear hw'
    subst hq
    go_wp2_with fail
    refine (nodes_any a0 len cap zs _ HR.out (by omega)).mono ?_
    rintro e w1 ⟨rfl, hn, hb1⟩
    have HN : Hid (NodeRow w1.heap.size w1 w.heap.size 0 zs) := hn
    have HB1 : Hid (_) := hb1
    clear hn hb1
    go_wp2_with fail
    refine (opIs_any w1.heap.size _ 0 len len o zs w1 HN.out (Nat.le_refl _) HL.out (by omega)).mono ?_
    rintro e w2 ⟨rfl, hb2⟩
    have HB2 : Hid (_) := hb2
    clear hb2
    rw [hw]
    go_wp2_with fail
    refine (opIs_any w1.heap.size _ 0 len len o (zs.take len) w2 ((HN.out.keep HB2.out).front len) HB2.out.size (by rw [List.length_take, HL.out]; omega) (by omega)).mono ?_
    rintro e w3 ⟨rfl, hb3⟩
    have HB3 : Hid (_) := hb3
    clear hb3
    rw [ht]
    go_wp2_with fail
    refine (opIs_any w1.heap.size _ 0 0 0 o (zs.drop len) w3 (by rw [List.drop_of_length_le (by rw [HL.out]; exact Nat.le_refl _)]; exact ((HN.out.keep HB2.out).keep (HB3.out.mono HB2.out.size)).nothing) (Nat.le_trans HB2.out.size HB3.out.size) (by rw [List.length_drop, HL.out]; omega) (by omega)).mono ?_
    rintro e w4 ⟨rfl, hb4⟩
    have HB4 : Hid (_) := hb4
    clear hb4
    rw [hd]
    go_wp2_with fail
    refine (allAre_any w.heap.size a0 len cap o zs w4 (HR.out.keep (((HB1.out.trans (HB2.out.mono HB1.out.size)).trans (HB3.out.mono (Nat.le_trans HB1.out.size HB2.out.size))).trans (HB4.out.mono (Nat.le_trans HB1.out.size (Nat.le_trans HB2.out.size HB3.out.size))))) (by omega)).mono ?_
    rintro e w5 ⟨rfl, hw5⟩
    have hq := hw5.symm
    clear hw5
    subst hq
    rw [hw]
    go_wp2_with fail
    go_ret
    exact ⟨rfl, ((HB1.out.trans (HB2.out.mono HB1.out.size)).trans (HB3.out.mono (Nat.le_trans HB1.out.size HB2.out.size))).trans (HB4.out.mono (Nat.le_trans HB1.out.size (Nat.le_trans HB2.out.size HB3.out.size)))⟩

set_option maxHeartbeats 1000000 in
theorem cut_long (a0 : Option Addr) (len cap : Nat) (o c : Int) (w : World) (hm : len ≤ maxLen) (h : 65536 < len) :
    Calls Try.prog 5 #[.slice a0 len cap, .int .u8 o, .int .i64 c] w fun e w' => e = .returned (.bool true) ∧ Below w.heap.size w w' := by
  by_cases h20 : len ≤ 1048576
  · go_enter Try.func5, Try.ntmps5
    go_wp2_with fail
    refine (bytesA_yes _ _ _ _ _ _ h20).mono ?_
    rintro e w' ⟨rfl, rfl⟩
    go_wp2_with fail
    go_ret
    exact ⟨rfl, Below.refl _ _⟩
  · have HM : Hid (len ≤ maxLen) := hm
    unfold maxLen at hm
    go_enter Try.func5, Try.ntmps5
    go_wp2_with fail
    refine (bytesA_no _ _ _ _ _ _ (by omega) HM.out).mono ?_
    rintro e w' ⟨rfl, rfl⟩
    go_wp2_with fail
    go_ret
    exact ⟨rfl, Below.refl _ _⟩

set_option maxHeartbeats 1000000 in
theorem cut_off (a0 : Option Addr) (len cap : Nat) (o c : Int) (w : World) (hle : len ≤ 65536) (h : c < 0 ∨ (len : Int) < c) :
    Calls Try.prog 5 #[.slice a0 len cap, .int .u8 o, .int .i64 c] w fun e w' => e = .returned (.bool true) ∧ Below w.heap.size w w' := by
  go_enter Try.func5, Try.ntmps5
  go_wp2_with fail
  refine (bytesA_yes _ _ _ _ _ _ (by omega)).mono ?_
  rintro e w' ⟨rfl, rfl⟩
  go_wp2_with fail
  all_goals
    go_ret
    exact ⟨rfl, Below.refl _ _⟩

theorem cut_all (a0 : Option Addr) (len cap : Nat) (o c : Int) (zs : List Int) (w : World) (hr : OpsRow w.heap.size w a0 len zs) (hm : len ≤ maxLen) :
    Calls Try.prog 5 #[.slice a0 len cap, .int .u8 o, .int .i64 c] w fun e w' => e = .returned (.bool true) ∧ Below w.heap.size w w' := by
  by_cases hle : len ≤ 65536
  · by_cases h : c < 0 ∨ (len : Int) < c
    · exact cut_off a0 len cap o c w hle h
    · obtain ⟨n, hn⟩ : ∃ n : Nat, c = (n : Int) := ⟨c.toNat, by omega⟩
      subst hn
      by_cases e : n = len
      · subst e
        exact cut_end a0 n cap o zs w hr hle _ _ rfl rfl (all_cut o zs n)
      · exact cut_mid a0 len cap o n zs w hr hle (by omega) _ _ rfl rfl (all_cut o zs n)
  · exact cut_long a0 len cap o c w hm (by omega)

theorem block_old {w : World} {a : Addr} {v : Value} (h : w.cell? a = some v) : a.block < w.heap.size := by
  by_cases k : a.block < w.heap.size
  · exact k
  · have : w.heap[a.block]? = none := by simp; omega
    simp [World.cell?, this] at h

theorem ops_of {w : World} {x : Addr} {len cap : Nat} {zs : List Int} (hl : len ≤ cap) (hz : zs.length = cap)
    (hcell : ∀ i, i < zs.length → w.cell? (x.add i) = some (.int .u8 (zs.getD i 0))) : OpsRow w.heap.size w (some x) len (zs.take len) := by
  refine ⟨by rw [List.length_take]; omega, fun i hi => ?_⟩
  obtain ⟨b, off, rfl, hc⟩ := ints_at hcell (by omega)
  have h := hc i (by omega)
  refine ⟨b, off, rfl, block_old h, ?_⟩
  rw [h, getD_at zs i (by omega), getD_at (zs.take len) i (by rw [List.length_take]; omega)]; simp
end Go.Proofs.Qxb6613362a.EveryW
