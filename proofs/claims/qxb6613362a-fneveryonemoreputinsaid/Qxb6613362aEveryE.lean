/- The walk of FnEveryOneMorePutIn. -/
import Derived.Test.Qxb6613362aEveryD
namespace Go.Proofs.Qxb6613362a.EveryW
open Go.RowKit
set_option linter.unusedVariables false

set_option maxHeartbeats 400000 in
theorem bytesB_yes (a0 : Option Addr) (len cap : Nat) (o c x : Int) (w : World) (h : len ≤ 1048576) :
    Calls Try.prog 17 #[.slice a0 len cap, .int .u8 o, .int .i64 c, .int .u8 x] w fun e w' => e = .returned (.bool true) ∧ w' = w := by
  go_enter Try.func17, Try.ntmps17
  go_wp2
  go_ret
  exact ⟨rfl, rfl⟩
set_option maxHeartbeats 400000 in
theorem bytesB_no (a0 : Option Addr) (len cap : Nat) (o c x : Int) (w : World) (h : 1048576 < len) (hm : len ≤ maxLen) :
    Calls Try.prog 17 #[.slice a0 len cap, .int .u8 o, .int .i64 c, .int .u8 x] w fun e w' => e = .returned (.bool false) ∧ w' = w := by
  unfold maxLen at hm
  go_enter Try.func17, Try.ntmps17
  go_wp2
  go_ret
  exact ⟨rfl, rfl⟩

theorem one_new (w : World) (v : Value) (t : TypeId) : ∀ (j : Nat) (u : Value), [v][j]? = some u → (w.alloc (.cells #[v] t)).cell? ((⟨w.heap.size, 0, none⟩ : Addr).add j) = some u := by
  intro j u hj
  match j, hj with
  | 0, hj => simp at hj; subst hj; simp [Addr.add]
theorem two_new (w : World) (o : Obj) (v : Value) (t : TypeId) : ∀ (j : Nat) (u : Value), [v][j]? = some u → ((w.alloc o).alloc (.cells #[v] t)).cell? ((⟨w.heap.size + 1, 0, none⟩ : Addr).add j) = some u := by
  have h := one_new (w.alloc o) v t
  rw [World.size_alloc] at h
  exact h
theorem one_cell (pb : Nat) : ∀ u ∈ [ptr pb], u.oneCell' = true := by
  intro u hu; simp at hu; subst hu; rfl

set_option maxRecDepth 100000 in
set_option maxHeartbeats 2000000 in
theorem put_mid (a0 : Option Addr) (len cap : Nat) (o : Int) (c : Nat) (x : Int) (zs : List Int) (w : World) (hr : OpsRow w.heap.size w a0 len zs) (hle : len ≤ 65536) (hc : c ≤ len) :
    Calls Try.prog 6 #[.slice a0 len cap, .int .u8 o, .int .i64 c, .int .u8 x] w fun e w' => e = .returned (.bool true) ∧ Below w.heap.size w w' := by
  obtain ⟨i0, hi, hz0, hz1, hz2⟩ := info_parts info35
  have HL : Hid (zs.length = len) := hr.1
  have HR : Hid (OpsRow w.heap.size w a0 len zs) := hr
  clear hr
  go_enter Try.func6, Try.ntmps6
  go_wp2_with fail
  refine (bytesB_yes a0 len cap o c x w (by omega)).mono ?_
  rintro e w' ⟨rfl, hw'⟩
  have hq := hw'.symm
  clear hw'
  subst hq
  go_wp2_with fail
  refine (nodes_any a0 len cap zs _ HR.out (by omega)).mono ?_
  rintro e w1 ⟨rfl, hn, hb1⟩
  obtain ⟨ps, hps⟩ := blk_of hn
  have HN : Hid (Blk w1.heap.size w1 w.heap.size zs ps) := hps
  have HB1 : Hid (Below w.heap.size w w1) := hb1
  clear hn hb1 hps
  go_wp2_with (at_make; refine wpList_make_own _ rfl _ _ 29 rfl w1.heap.size 35 i0 (.pointer none) 1 Try.underlying29 hi hz0 hz1 .i64 .i64 _ (len + 1) rfl rfl (by omega) ?b2 ?b3 ?b4 ?_)
  case b2 => rw [hz2]; omega
  case b3 => unfold maxLen; omega
  case b4 => omega
  intro w2 hown hgrow
  have HP : Hid (P1 w1 len ps 0 w2) := p1_start hown hgrow
  clear hown hgrow
  go_wp2_with fail
  go_loopw [10, 11] (fun v i wr => ∃ k : Nat, k ≤ c ∧ i = .int .i64 k ∧ v = .slice (some ⟨w1.heap.size, 0, none⟩) k (len + 1) ∧ P1 w1 len ps k wr) (fun _ i _ => c - (intOf i).toNat)
  case atStart => exact ⟨0, by omega, rfl, rfl, HP.out⟩
  case round =>
    clear HP
    obtain ⟨k, hk, rfl, rfl, hp⟩ := hrel
    have HP : Hid (P1 w1 len ps k wr) := hp
    by_cases hlt : k < c
    · have hblk := (HN.out.keep hp.2).2.2 k (by rw [HL.out]; omega)
      have hpc := hblk.2.1
      have hkp : k < ps.length := by rw [HN.out.1, HL.out]; omega
      have HKP : Hid (k < ps.length) := hkp
      have HW : Hid (w1.heap.size ≤ wr.heap.size) := hp.2.size
      have HO : Hid (wr.ownsRow w1.heap.size 35 1 (.slice (some ⟨w1.heap.size, 0, none⟩) k (len + 1)) k (vals ps k)) := hp.1
      clear hblk hp hkp
      obtain ⟨pb, hpb⟩ : ∃ pb, pb = ps.getD k 0 := ⟨_, rfl⟩
      rw [← hpb] at hpc
      have HPB : Hid (pb = ps.getD k 0) := hpb
      clear hpb
      go_wp2_with (at_builtin; refine wpList_append_fits _ rfl (.tmp 43) (.tmp 48) 29 rfl w1.heap.size 35 i0 1 Try.underlying29 hi hz1 w1.heap.size k (len + 1) _ rfl (HO.out.alloc _) ⟨wr.heap.size, 0, none⟩ 1 1 [ptr pb] rfl rfl ?c1 ?c2 ?c3 ?_)
      case c1 => exact one_new _ _ _
      case c2 => exact one_cell _
      case c3 => omega
      intro wn hown hgrow
      have HP' : Hid (P1 w1 len ps (k + 1) wn) := p1_step HP.out HKP.out HPB.out hown hgrow
      clear hown hgrow hpc HO
      go_wp2
      go_roundw
      case rel => exact ⟨k + 1, by omega, by go_num, rfl, HP'.out⟩
      case measure => simp [intOf]; omega
    · have ek : k = c := by omega
      subst ek
      have HO : Hid (wr.ownsRow w1.heap.size 35 1 (.slice (some ⟨w1.heap.size, 0, none⟩) k (len + 1)) k (vals ps k)) := hp.1
      have hkl : k ≤ ps.length := by rw [HN.out.1, HL.out]; omega
      have HKL : Hid (k ≤ ps.length) := hkl
      clear hp hkl
      go_wp2_with (at_builtin; refine wpList_append_fits _ rfl (.tmp 50) (.tmp 54) 29 rfl w1.heap.size 35 i0 1 Try.underlying29 hi hz1 w1.heap.size k (len + 1) _ rfl ((HO.out.alloc _).alloc _) ⟨wr.heap.size + 1, 0, none⟩ 1 1 [ptr wr.heap.size] rfl rfl ?d1 ?d2 ?d3 ?_)
      case d1 => exact two_new _ _ _ _
      case d2 => exact one_cell _
      case d3 => omega
      intro wn hown hgrow
      have hq2 : P2 w1 len ps k wr.heap.size x k wn := p2_start HP.out HKL.out rfl hown hgrow
      clear hown hgrow HP HO hk hlt
      obtain ⟨pb, hpb⟩ : ∃ pb, pb = wr.heap.size := ⟨_, rfl⟩
      rw [← hpb] at hq2
      clear hpb
      have HQ : Hid (P2 w1 len ps k pb x k wn) := hq2
      clear hq2
      go_wp2_with fail
      go_loopw [10, 12] (fun v i wr => ∃ m : Nat, k ≤ m ∧ m ≤ len ∧ i = .int .i64 m ∧ v = .slice (some ⟨w1.heap.size, 0, none⟩) (m + 1) (len + 1) ∧ P2 w1 len ps k pb x m wr) (fun _ i _ => len - (intOf i).toNat)
      case atStart => exact ⟨k, by omega, hc, rfl, rfl, HQ.out⟩
      case round =>
        clear HQ
        obtain ⟨m, hkm, hml, rfl, rfl, hp⟩ := hrel
        have HP : Hid (P2 w1 len ps k pb x m wr) := hp
        by_cases hlt : m < len
        · have hblk := (HN.out.keep hp.2.1).2.2 m (by rw [HL.out]; omega)
          have hpc := hblk.2.1
          have hkp : m < ps.length := by rw [HN.out.1, HL.out]; omega
          have HKP : Hid (m < ps.length) := hkp
          have HO : Hid (wr.ownsRow w1.heap.size 35 1 (.slice (some ⟨w1.heap.size, 0, none⟩) (m + 1) (len + 1)) (m + 1) (vals (put ps k pb) (m + 1))) := hp.1
          clear hblk hp hkp
          obtain ⟨q, hqd⟩ : ∃ q, q = ps.getD m 0 := ⟨_, rfl⟩
          rw [← hqd] at hpc
          have HQD : Hid (q = ps.getD m 0) := hqd
          clear hqd
          go_wp2_with (at_builtin; refine wpList_append_fits _ rfl (.tmp 63) (.tmp 68) 29 rfl w1.heap.size 35 i0 1 Try.underlying29 hi hz1 w1.heap.size (m + 1) (len + 1) _ rfl (HO.out.alloc _) ⟨wr.heap.size, 0, none⟩ 1 1 [ptr q] rfl rfl ?e1 ?e2 ?e3 ?_)
          case e1 => exact one_new _ _ _
          case e2 => exact one_cell _
          case e3 => omega
          intro wm hown hgrow
          have HP' : Hid (P2 w1 len ps k pb x (m + 1) wm) := p2_step HP.out HKL.out hkm HKP.out HQD.out hown hgrow
          clear hown hgrow hpc HO
          go_wp2
          go_roundw
          case rel => exact ⟨m + 1, by omega, by omega, by go_num, rfl, HP'.out⟩
          case measure => simp [intOf]; omega
        · have em : m = len := by omega
          subst em
          have HNR : Hid (NodeRow wr.heap.size wr w1.heap.size 0 (put zs k x)) := p2_end HP.out HN.out HL.out hc
          have HNN : Hid (NodeRow w1.heap.size wr w.heap.size 0 zs) := (HN.out.keep hp.2.1).row
          have HBW : Hid (Below w1.heap.size w1 wr) := hp.2.1
          have hput := put_all o zs k x
          have HPL : Hid ((put zs k x).length = m + 1) := by have := put_length zs k x (by rw [HL.out]; exact hc); rw [HL.out] at this; exact this
          clear hp HP hlt hkm hml
          cases hbz : allB o zs <;> cases hbx : (x == o)
          all_goals
            rw [hbz, hbx] at hput
            simp only [Bool.and_true, Bool.and_false, Bool.and_self] at hput
            go_wp2_with fail
            refine (opIs_any w1.heap.size _ 0 m m o zs wr HNN.out HBW.out.size HL.out (by omega)).mono ?_
            rintro e w3 ⟨rfl, hb3⟩
            have HB3 : Hid (Below wr.heap.size wr w3) := hb3
            clear hb3
            rw [hbz]
            go_wp2_with fail
            refine (opIs_any wr.heap.size _ 0 (m + 1) (m + 1) o (put zs k x) w3 (HNR.out.keep HB3.out) HB3.out.size HPL.out (by omega)).mono ?_
            rintro e w4 ⟨rfl, hb4⟩
            have HB4 : Hid (Below w3.heap.size w3 w4) := hb4
            clear hb4
            rw [hput]
            have HBA : Hid (Below w.heap.size w w4) := ((HB1.out.trans (HBW.out.mono HB1.out.size)).trans (HB3.out.mono (Nat.le_trans HB1.out.size HBW.out.size))).trans (HB4.out.mono (Nat.le_trans HB1.out.size (Nat.le_trans HBW.out.size HB3.out.size)))
            go_wp2_with fail
            refine (allAre_any w.heap.size a0 m cap o zs w4 (HR.out.keep HBA.out) (by omega)).mono ?_
            rintro e w5 ⟨rfl, hw5⟩
            have hq := hw5.symm
            clear hw5
            subst hq
            rw [hbz]
            go_wp2_with fail
            go_ret
            exact ⟨rfl, HBA.out⟩

set_option maxRecDepth 100000 in
set_option maxHeartbeats 1000000 in
theorem put_long (a0 : Option Addr) (len cap : Nat) (o c x : Int) (w : World) (hm : len ≤ maxLen) (h : 65536 < len) :
    Calls Try.prog 6 #[.slice a0 len cap, .int .u8 o, .int .i64 c, .int .u8 x] w fun e w' => e = .returned (.bool true) ∧ Below w.heap.size w w' := by
  by_cases h20 : len ≤ 1048576
  · go_enter Try.func6, Try.ntmps6
    go_wp2_with fail
    refine (bytesB_yes _ _ _ _ _ _ _ h20).mono ?_
    rintro e w' ⟨rfl, rfl⟩
    go_wp2_with fail
    go_ret
    exact ⟨rfl, Below.refl _ _⟩
  · have HM : Hid (len ≤ maxLen) := hm
    unfold maxLen at hm
    go_enter Try.func6, Try.ntmps6
    go_wp2_with fail
    refine (bytesB_no _ _ _ _ _ _ _ (by omega) HM.out).mono ?_
    rintro e w' ⟨rfl, rfl⟩
    go_wp2_with fail
    go_ret
    exact ⟨rfl, Below.refl _ _⟩

set_option maxRecDepth 100000 in
set_option maxHeartbeats 1000000 in
theorem put_off (a0 : Option Addr) (len cap : Nat) (o c x : Int) (w : World) (hle : len ≤ 65536) (h : c < 0 ∨ (len : Int) < c) :
    Calls Try.prog 6 #[.slice a0 len cap, .int .u8 o, .int .i64 c, .int .u8 x] w fun e w' => e = .returned (.bool true) ∧ Below w.heap.size w w' := by
  go_enter Try.func6, Try.ntmps6
  go_wp2_with fail
  refine (bytesB_yes _ _ _ _ _ _ _ (by omega)).mono ?_
  rintro e w' ⟨rfl, rfl⟩
  go_wp2_with fail
  all_goals
    go_ret
    exact ⟨rfl, Below.refl _ _⟩

theorem put_any (a0 : Option Addr) (len cap : Nat) (o c x : Int) (zs : List Int) (w : World) (hr : OpsRow w.heap.size w a0 len zs) (hm : len ≤ maxLen) :
    Calls Try.prog 6 #[.slice a0 len cap, .int .u8 o, .int .i64 c, .int .u8 x] w fun e w' => e = .returned (.bool true) ∧ Below w.heap.size w w' := by
  by_cases hle : len ≤ 65536
  · by_cases h : c < 0 ∨ (len : Int) < c
    · exact put_off a0 len cap o c x w hle h
    · obtain ⟨n, hn⟩ : ∃ n : Nat, c = (n : Int) := ⟨c.toNat, by omega⟩
      subst hn
      exact put_mid a0 len cap o n x zs w hr hle (by omega)
  · exact put_long a0 len cap o c x w hm (by omega)
end Go.Proofs.Qxb6613362a.EveryW
