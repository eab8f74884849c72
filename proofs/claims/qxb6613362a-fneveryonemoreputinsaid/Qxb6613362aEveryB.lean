/- The walks of zzNodes and zzAllAre. -/
import Derived.Test.Qxb6613362aEveryA
namespace Go.Proofs.Qxb6613362a.EveryW
open Go.RowKit
set_option linter.unusedVariables false

/-- the slice at a0 of len bytes reads zs; its cells lie in old blocks -/
def OpsRow (B : Nat) (w : World) (a0 : Option Addr) (len : Nat) (zs : List Int) : Prop :=
  zs.length = len ∧ ∀ i, i < len → ∃ b off, a0 = some ⟨b, off, none⟩ ∧ b < B ∧ w.cell? ⟨b, off + i, none⟩ = some (.int .u8 (zs.getD i 0))

theorem OpsRow.keep {B : Nat} {w w' : World} {a0 : Option Addr} {len : Nat} {zs : List Int} (h : OpsRow B w a0 len zs) (hb : Below B w w') : OpsRow B w' a0 len zs := by
  refine ⟨h.1, fun i hi => ?_⟩
  obtain ⟨b, off, e, h1, h2⟩ := h.2 i hi
  exact ⟨b, off, e, h1, (hb.cell (p := ⟨b, off + i, none⟩) h1).trans h2⟩

theorem info35 : (Try.prog.info? 35).map (fun i => (i.zero, i.size, i.bytes)) = some (some (.pointer none), 1, 8) := by kernel_rfl

/-- zzNodes's loop at its k-th round: the row nb is the call's own; its first k cells are pointers to nodes of ops zs -/
def Inv (w : World) (len : Nat) (zs : List Int) (k : Nat) (wr : World) : Prop :=
  Below w.heap.size w wr ∧ w.heap.size < wr.heap.size ∧ (∀ i, i < len → (∃ v, wr.cell? ⟨w.heap.size, i, none⟩ = some v) ∧ wr.frozen? ⟨w.heap.size, i, none⟩ = false)
    ∧ ∀ i, i < k → ∃ pb, w.heap.size < pb ∧ pb < wr.heap.size ∧ wr.cell? ⟨w.heap.size, i, none⟩ = some (.pointer (some ⟨pb, 0, none⟩)) ∧ wr.cell? ⟨pb, 0, none⟩ = some (.int .u8 (zs.getD i 0))

theorem inv_start {w w' : World} {len : Nat} {zs : List Int}
    (hown : w'.ownsRow w.heap.size 35 1 (.slice (some ⟨w.heap.size, 0, none⟩) len len) len (madeCells #[.pointer none] len).toList) (hg : w.grownBy w' none) : Inv w len zs 0 w' := by
  refine ⟨(Below.refl _ _).grown hg (Nat.le_refl _) (fun k h => by cases h), (hown.lt _ rfl).2, fun i hi => ⟨?_, hown.frozenAt i⟩, fun i hi => absurd hi (by omega)⟩
  rw [hown.cellAt i (by omega)]
  have : i < (madeCells #[.pointer none] len).toList.length := by simp [size_madeCells]; exact hi
  exact ⟨_, List.getElem?_eq_getElem this⟩

theorem inv_step {w wr : World} {len k : Nat} {zs : List Int} {c : Array Value} {t : TypeId} (h : Inv w len zs k wr) (hk : k < len) (hc : c[0]? = some (.int .u8 (zs.getD k 0))) :
    Inv w len zs (k + 1) ((wr.setCell ⟨w.heap.size, k, none⟩ (.pointer (some ⟨wr.heap.size, 0, none⟩))).alloc (.cells c t)) := by
  obtain ⟨hb, hs, hf, hd⟩ := h
  have hz : (wr.setCell ⟨w.heap.size, k, none⟩ (.pointer (some ⟨wr.heap.size, 0, none⟩))).heap.size = wr.heap.size := by simp [World.setCell]
  have hsz2 : ((wr.setCell ⟨w.heap.size, k, none⟩ (.pointer (some ⟨wr.heap.size, 0, none⟩))).alloc (.cells c t)).heap.size = wr.heap.size + 1 := by simp [World.setCell]
  have old : ∀ b i, b < wr.heap.size → ((wr.setCell ⟨w.heap.size, k, none⟩ (.pointer (some ⟨wr.heap.size, 0, none⟩))).alloc (.cells c t)).cell? ⟨b, i, none⟩
      = (wr.setCell ⟨w.heap.size, k, none⟩ (.pointer (some ⟨wr.heap.size, 0, none⟩))).cell? ⟨b, i, none⟩ := fun b i h => World.cell?_alloc_past _ _ _ (by rw [hz]; exact h)
  refine ⟨(hb.setCell (Nat.le_refl _) _).alloc (by rw [hz]; exact hb.size) _, by omega, fun i hi => ?_, fun i hi => ?_⟩
  · refine ⟨?_, ?_⟩
    · obtain ⟨v, hv⟩ := (hf i hi).1
      rw [old _ _ hs]
      exact cell?_setCell_some hv
    · rw [World.frozen?_alloc_past _ _ _ (by rw [hz]; exact hs), World.frozen?_setCell]; exact (hf i hi).2
  · by_cases e : i = k
    · subst e
      obtain ⟨v, hv⟩ := (hf i hk).1
      refine ⟨wr.heap.size, hs, by omega, ?_, ?_⟩
      · rw [old _ _ hs]; exact World.cell?_setCell_same _ _ _ hv
      · rw [World.cell?_alloc_at _ _ _ _ hz.symm]; exact hc
    · obtain ⟨pb, p1, p2, p3, p4⟩ := hd i (by omega)
      refine ⟨pb, p1, by omega, ?_, ?_⟩
      · rw [old _ _ hs, World.cell?_setCell_other _ _ _ _ (by intro h; simp only [Addr.mk.injEq] at h; omega)]; exact p3
      · rw [old _ _ p2, World.cell?_setCell_other _ _ _ _ (by intro h; simp only [Addr.mk.injEq] at h; omega)]; exact p4

theorem inv_end {w wr : World} {len : Nat} {zs : List Int} (h : Inv w len zs len wr) (hl : zs.length = len) : NodeRow wr.heap.size wr w.heap.size 0 zs := by
  refine ⟨h.2.1, fun i hi => ?_⟩
  obtain ⟨pb, p1, p2, p3, p4⟩ := h.2.2.2 i (by omega)
  exact ⟨pb, p2, by rw [Nat.zero_add]; exact p3, p4⟩

set_option maxHeartbeats 1000000 in
theorem nodes_any (a0 : Option Addr) (len cap : Nat) (zs : List Int) (w : World) (hr : OpsRow w.heap.size w a0 len zs) (hle : len ≤ 65536) :
    Calls Try.prog 14 #[.slice a0 len cap] w fun e w' => e = .returned (.slice (some ⟨w.heap.size, 0, none⟩) len len) ∧ NodeRow w'.heap.size w' w.heap.size 0 zs ∧ Below w.heap.size w w' := by
  obtain ⟨i0, hi, hz0, hz1, hz2⟩ := info_parts info35
  have HR : Hid (OpsRow w.heap.size w a0 len zs) := hr
  clear hr
  go_enter Try.func14, Try.ntmps14
  go_wp2_with (at_make; refine wpList_make_full _ rfl _ _ 29 rfl w.heap.size 35 i0 (.pointer none) 1 Try.underlying29 hi hz0 hz1 .i64 .i64 _ _ len rfl rfl rfl rfl ?b2 ?b3 ?b4 ?_)
  case b2 => rw [hz2]; omega
  case b3 => unfold maxLen; omega
  case b4 => omega
  intro w1 hown hgrow
  have HI : Hid (Inv w len zs 0 w1) := inv_start hown hgrow
  clear hown hgrow hi hz0 hz1 hz2
  go_wp2
  go_loopw [4] (fun i wr => ∃ k : Nat, k ≤ len ∧ i = .int .i64 k ∧ Inv w len zs k wr) (fun i _ => len - (intOf i).toNat)
  case atStart => exact ⟨0, by omega, rfl, HI.out⟩
  case round =>
    clear HI
    obtain ⟨k, hk, rfl, hinv⟩ := hrel
    have HV : Hid (Inv w len zs k wr) := hinv
    by_cases hlt : k < len
    · obtain ⟨b, off, rfl, hbo, hc⟩ := (HR.out.keep hinv.1).2 k hlt
      obtain ⟨⟨v0, hv0⟩, hfz⟩ := hinv.2.2.1 k hlt
      have hnb : w.heap.size < wr.heap.size := hinv.2.1
      have hbw : b < wr.heap.size := by omega
      clear hinv
      obtain ⟨z, hzd⟩ : ∃ z, z = zs.getD k 0 := ⟨_, rfl⟩
      rw [← hzd] at hc
      have HZ : Hid (z = zs.getD k 0) := hzd
      clear hzd
      go_wp2
      go_roundw
      case rel => exact ⟨k + 1, by omega, by go_num, inv_step HV.out hlt (by rw [← HZ.out]; rfl)⟩
      case measure => simp [intOf]; omega
    · clear hinv
      have ek : k = len := by omega
      subst ek
      go_wp2
      go_ret
      exact ⟨rfl, inv_end HV.out HR.out.1, HV.out.1⟩

set_option maxHeartbeats 1000000 in
theorem allAre_any (B : Nat) (a0 : Option Addr) (len cap : Nat) (o : Int) (zs : List Int) (w : World) (hr : OpsRow B w a0 len zs) (hle : len ≤ 65536) :
    Calls Try.prog 16 #[.slice a0 len cap, .int .u8 o] w fun e w' => e = .returned (.bool (allB o zs)) ∧ w' = w := by
  have HR : Hid (OpsRow B w a0 len zs) := hr
  clear hr
  go_enter Try.func16, Try.ntmps16
  go_wp2
  go_loop [5] (fun i => ∃ k : Nat, k ≤ len ∧ i = .int .i64 k ∧ allB o (zs.take k) = true) (fun i => len - (intOf i).toNat)
  case atStart => exact ⟨0, by omega, rfl, rfl⟩
  case round =>
    obtain ⟨k, hk, rfl, hall⟩ := hrel
    have HA : Hid (allB o (zs.take k) = true) := hall
    clear hall
    by_cases hlt : k < len
    · obtain ⟨b, off, rfl, hbo, hc⟩ := HR.out.2 k hlt
      obtain ⟨z, hzd⟩ : ∃ z, z = zs.getD k 0 := ⟨_, rfl⟩
      rw [← hzd] at hc
      have HZ : Hid (z = zs.getD k 0) := hzd
      clear hzd
      have hlz : k < zs.length := by rw [HR.out.1]; exact hlt
      have HLZ : Hid (k < zs.length) := hlz
      clear hlz
      cases hb : (z != o)
      · go_wp2
        go_round
        case rel => exact ⟨k + 1, by omega, by go_num, all_hit o zs k HLZ.out HA.out (by rw [← HZ.out]; simpa using hb)⟩
        case measure => simp [intOf]; omega
      · go_wp2
        go_ret
        refine ⟨ret_bool ?_, rfl⟩
        have := all_miss o zs k HLZ.out (by rw [← HZ.out]; simpa using hb)
        revert this; cases allB o zs <;> simp
    · go_wp2
      go_ret
      refine ⟨ret_bool ?_, rfl⟩
      have := HA.out
      rw [List.take_of_length_le (by rw [HR.out.1]; omega)] at this
      exact this.symm
end Go.Proofs.Qxb6613362a.EveryW
