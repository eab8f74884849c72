/- The walks of every and what it calls: the two closures, slices.IndexFunc, slices.ContainsFunc, every, ZZeveryOpIs. -/
import Derived.Test.Qxb6613362aRows
import Derived.WalkKit
import Derived.WalkSpells
import Derived.WalkLawsBesides
import Derived.Deep.QuietTactic
import Derived.BigQuiet
import Derived.Deep.RegionWith
namespace Go.Proofs.Qxb6613362a.EveryW
open Go.RowKit
set_option linter.unusedVariables false

theorem ret_bool {a b : Bool} (h : a = b) : Ending.returned (.bool a) = .returned (.bool b) := by rw [h]

def allB (o : Int) (zs : List Int) : Bool := zs.all fun z => z == o

/-- the cells from ⟨rb, off⟩ on are pointers to nodes whose ops are zs; all of it lies below block B -/
def NodeRow (B : Nat) (w : World) (rb off : Nat) (zs : List Int) : Prop :=
  rb < B ∧ ∀ i, i < zs.length → ∃ pb, pb < B ∧ w.cell? ⟨rb, off + i, none⟩ = some (.pointer (some ⟨pb, 0, none⟩)) ∧ w.cell? ⟨pb, 0, none⟩ = some (.int .u8 (zs.getD i 0))

set_option maxHeartbeats 400000 in
theorem clo33 (pb ob : Nat) (z o : Int) (w : World) (hz : w.cell? ⟨pb, 0, none⟩ = some (.int .u8 z)) (ho : w.cell? ⟨ob, 0, none⟩ = some (.int .u8 o)) :
    Calls Try.prog 33 #[.pointer (some ⟨pb, 0, none⟩), .pointer (some ⟨ob, 0, none⟩)] w fun e w' => e = .returned (.bool (z == o)) ∧ ∃ n, w' = w.drewN n := by
  go_enter Try.func33, Try.ntmps33
  go_wp2
  go_quiet (fail)
  go_wp2
  go_ret
  exact ⟨rfl, _, rfl⟩

set_option maxHeartbeats 400000 in
theorem clo41 (pb fb ob : Nat) (z o : Int) (w : World) (hz : w.cell? ⟨pb, 0, none⟩ = some (.int .u8 z)) (hf : w.cell? ⟨fb, 0, none⟩ = some (.func (.func 33) #[] #[.pointer (some ⟨ob, 0, none⟩)])) (ho : w.cell? ⟨ob, 0, none⟩ = some (.int .u8 o)) :
    Calls Try.prog 41 #[.pointer (some ⟨pb, 0, none⟩), .pointer (some ⟨fb, 0, none⟩)] w fun e w' => e = .returned (.bool (!(z == o))) ∧ ∃ n, w' = w.drewN n := by
  go_enter Try.func41, Try.ntmps41
  go_wp2_with (go_at_call 33; refine (clo33 pb ob z o _ hz ho).mono ?_; rintro e w' ⟨rfl, nq, rfl⟩)
  go_ret
  exact ⟨rfl, _, rfl⟩
theorem getD_at (zs : List Int) (k : Nat) (h : k < zs.length) : zs.getD k 0 = zs[k] := by
  simp [List.getD, List.getElem?_eq_getElem h]
theorem all_hit (o : Int) (zs : List Int) (k : Nat) (h : k < zs.length) (ha : allB o (zs.take k) = true) (hb : (zs.getD k 0 == o) = true) : allB o (zs.take (k + 1)) = true := by
  rw [getD_at zs k h] at hb
  unfold allB at *
  rw [List.take_succ_eq_append_getElem h, List.all_append, ha]; simpa using hb
theorem all_miss (o : Int) (zs : List Int) (k : Nat) (h : k < zs.length) (hb : (zs.getD k 0 == o) = false) : decide ((0 : Int) ≤ (k : Int)) = !(allB o zs) := by
  rw [getD_at zs k h] at hb
  have : allB o zs = false := by
    unfold allB; rw [List.all_eq_false]
    exact ⟨zs[k], List.getElem_mem h, by simpa using hb⟩
  rw [this]; simp

set_option maxHeartbeats 1000000 in
theorem index_any (B rb off fb ob len cap : Nat) (o : Int) (zs : List Int) (w : World) (hr : NodeRow B w rb off zs) (hl : zs.length = len) (hle : len ≤ 1048576)
    (hf : w.cell? ⟨fb, 0, none⟩ = some (.func (.func 33) #[] #[.pointer (some ⟨ob, 0, none⟩)])) (ho : w.cell? ⟨ob, 0, none⟩ = some (.int .u8 o)) :
    Calls Try.prog 43 #[.slice (some ⟨rb, off, none⟩) len cap, .func (.func 41) #[] #[.pointer (some ⟨fb, 0, none⟩)]] w
      fun e w' => (∃ r : Int, e = .returned (.int .i64 r) ∧ decide (0 ≤ r) = !(allB o zs)) ∧ ∃ n, w' = w.drewN n := by
  obtain ⟨_, hr⟩ := hr
  subst hl
  go_enter Try.func43, Try.ntmps43
  go_wp2
  go_loopw [5, 8] (fun _ i wr => ∃ k : Nat, k ≤ zs.length ∧ i = .int .i64 k ∧ allB o (zs.take k) = true ∧ ∃ m, wr = w.drewN m) (fun _ i _ => zs.length - (intOf i).toNat)
  case atStart => exact ⟨0, by omega, rfl, rfl, 0, rfl⟩
  case round =>
    obtain ⟨k, hk, rfl, hall, m, rfl⟩ := hrel
    by_cases hlt : k < zs.length
    · obtain ⟨pb, _, hp, hz⟩ := hr k hlt
      have HA : Hid (allB o (zs.take k) = true) := hall
      clear hall hr
      obtain ⟨z, hzd⟩ : ∃ z, z = zs.getD k 0 := ⟨_, rfl⟩
      rw [← hzd] at hz
      have HZ : Hid (z = zs.getD k 0) := hzd
      clear hzd
      cases hb : (z == o)
      · go_wp2_with (go_at_call 41; refine (clo41 pb fb ob z o (w.drewN m) hz hf ho).mono ?_; rintro e w' ⟨rfl, nq, rfl⟩)
        go_ret
        exact ⟨⟨_, rfl, all_miss o zs k hlt (by rw [← HZ.out]; exact hb)⟩, _, rfl⟩
      · go_wp2_with (go_at_call 41; refine (clo41 pb fb ob z o (w.drewN m) hz hf ho).mono ?_; rintro e w' ⟨rfl, nq, rfl⟩)
        go_roundw
        case rel => exact ⟨k + 1, by omega, by go_num, all_hit o zs k hlt HA.out (by rw [← HZ.out]; exact hb), _, rfl⟩
        case measure => simp [intOf]; omega
    · go_wp2
      go_ret
      refine ⟨⟨_, rfl, ?_⟩, _, rfl⟩
      rw [List.take_of_length_le (by omega)] at hall
      rw [hall]; rfl

set_option maxHeartbeats 400000 in
theorem contains_any (B rb off fb ob len cap : Nat) (o : Int) (zs : List Int) (w : World) (hr : NodeRow B w rb off zs) (hl : zs.length = len) (hle : len ≤ 1048576)
    (hf : w.cell? ⟨fb, 0, none⟩ = some (.func (.func 33) #[] #[.pointer (some ⟨ob, 0, none⟩)])) (ho : w.cell? ⟨ob, 0, none⟩ = some (.int .u8 o)) :
    Calls Try.prog 40 #[.slice (some ⟨rb, off, none⟩) len cap, .func (.func 41) #[] #[.pointer (some ⟨fb, 0, none⟩)]] w
      fun e w' => e = .returned (.bool (!(allB o zs))) ∧ ∃ n, w' = w.drewN n := by
  go_enter Try.func40, Try.ntmps40
  go_wp2_with fail
  refine (index_any B rb off fb ob len cap o zs w hr hl hle hf ho).mono ?_
  rintro e w' ⟨⟨r, rfl, hR⟩, nq, rfl⟩
  have HR : Hid (decide (0 ≤ r) = !(allB o zs)) := hR
  clear hR hr hl
  go_wp2
  go_ret
  exact ⟨ret_bool HR.out, _, rfl⟩

theorem NodeRow.keep {B : Nat} {w w' : World} {rb off : Nat} {zs : List Int} (h : NodeRow B w rb off zs) (hb : Below B w w') : NodeRow B w' rb off zs := by
  obtain ⟨h1, h2⟩ := h
  refine ⟨h1, fun i hi => ?_⟩
  obtain ⟨pb, k1, k2, k3⟩ := h2 i hi
  exact ⟨pb, k1, (hb.cell (p := ⟨rb, off + i, none⟩) h1).trans k2, (hb.cell (p := ⟨pb, 0, none⟩) k1).trans k3⟩

set_option maxHeartbeats 400000 in
theorem every_any (B rb off ob len cap : Nat) (o : Int) (zs : List Int) (w : World) (hr : NodeRow B w rb off zs) (hB : B ≤ w.heap.size) (hl : zs.length = len) (hle : len ≤ 1048576)
    (hob : ob < w.heap.size) (ho : w.cell? ⟨ob, 0, none⟩ = some (.int .u8 o)) :
    Calls Try.prog 32 #[.slice (some ⟨rb, off, none⟩) len cap, .func (.func 33) #[] #[.pointer (some ⟨ob, 0, none⟩)]] w
      fun e w' => e = .returned (.bool (allB o zs)) ∧ Below w.heap.size w w' := by
  have HR : Hid (NodeRow B w rb off zs) := hr
  have HL : Hid (zs.length = len) := hl
  clear hr hl
  go_enter Try.func32, Try.ntmps32
  go_wp2_with fail
  refine (contains_any B rb off w.heap.size ob len cap o zs _ (HR.out.keep ((Below.refl _ _).alloc hB _)) HL.out hle (by simp [go_sem]) (by simp [go_sem, hob, ho])).mono ?_
  rintro e w' ⟨rfl, nq, rfl⟩
  go_wp2
  go_ret
  exact ⟨rfl, below_drewN ((Below.refl _ _).alloc (Nat.le_refl _) _) _⟩

set_option maxHeartbeats 400000 in
theorem opIs_any (B rb off len cap : Nat) (o : Int) (zs : List Int) (w : World) (hr : NodeRow B w rb off zs) (hB : B ≤ w.heap.size) (hl : zs.length = len) (hle : len ≤ 1048576) :
    Calls Try.prog 15 #[.slice (some ⟨rb, off, none⟩) len cap, .int .u8 o] w
      fun e w' => e = .returned (.bool (allB o zs)) ∧ Below w.heap.size w w' := by
  have HR : Hid (NodeRow B w rb off zs) := hr
  have HL : Hid (zs.length = len) := hl
  clear hr hl
  go_enter Try.func15, Try.ntmps15
  go_wp2_with fail
  refine (every_any B rb off w.heap.size len cap o zs _ (HR.out.keep ((Below.refl _ _).alloc hB _)) (by simp; omega) HL.out hle (by simp) (by simp [go_sem])).mono ?_
  rintro e w' ⟨rfl, hb⟩
  go_wp2
  go_ret
  exact ⟨rfl, ((Below.refl _ _).alloc (Nat.le_refl _) _).trans (hb.mono (by simp))⟩
end Go.Proofs.Qxb6613362a.EveryW
