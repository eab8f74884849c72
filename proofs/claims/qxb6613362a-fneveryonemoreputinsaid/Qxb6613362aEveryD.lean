/- Lemmas for FnEveryOneMorePutIn: the list of the nodes' blocks, what a round of each append loop does. -/
import Derived.Test.Qxb6613362aEveryC
namespace Go.Proofs.Qxb6613362a.EveryW
open Go.RowKit
set_option linter.unusedVariables false

abbrev ptr (pb : Nat) : Value := .pointer (some ⟨pb, 0, none⟩)

/-- the row at rb holds pointers to the blocks ps, whose first cells are zs -/
def Blk (B : Nat) (w : World) (rb : Nat) (zs : List Int) (ps : List Nat) : Prop :=
  ps.length = zs.length ∧ rb < B ∧ ∀ i, i < zs.length → ps.getD i 0 < B ∧ w.cell? ⟨rb, i, none⟩ = some (ptr (ps.getD i 0)) ∧ w.cell? ⟨ps.getD i 0, 0, none⟩ = some (.int .u8 (zs.getD i 0))

theorem blk_of {B : Nat} {w : World} {rb : Nat} {zs : List Int} (h : NodeRow B w rb 0 zs) : ∃ ps, Blk B w rb zs ps := by
  obtain ⟨h1, h2⟩ := h
  have hex : ∀ i, ∃ pb, i < zs.length → pb < B ∧ w.cell? ⟨rb, i, none⟩ = some (ptr pb) ∧ w.cell? ⟨pb, 0, none⟩ = some (.int .u8 (zs.getD i 0)) := by
    intro i
    by_cases hi : i < zs.length
    · obtain ⟨pb, k1, k2, k3⟩ := h2 i hi
      rw [Nat.zero_add] at k2
      exact ⟨pb, fun _ => ⟨k1, k2, k3⟩⟩
    · exact ⟨0, fun k => absurd k hi⟩
  refine ⟨(List.range zs.length).map fun i => Classical.choose (hex i), by simp, h1, fun i hi => ?_⟩
  have e : ((List.range zs.length).map fun i => Classical.choose (hex i)).getD i 0 = Classical.choose (hex i) := by
    simp [List.getD, hi]
  rw [e]
  exact Classical.choose_spec (hex i) hi

theorem Blk.row {B : Nat} {w : World} {rb : Nat} {zs : List Int} {ps : List Nat} (h : Blk B w rb zs ps) : NodeRow B w rb 0 zs := by
  refine ⟨h.2.1, fun i hi => ?_⟩
  obtain ⟨k1, k2, k3⟩ := h.2.2 i hi
  exact ⟨_, k1, by rw [Nat.zero_add]; exact k2, k3⟩

theorem Blk.keep {B : Nat} {w w' : World} {rb : Nat} {zs : List Int} {ps : List Nat} (h : Blk B w rb zs ps) (hb : Below B w w') : Blk B w' rb zs ps := by
  refine ⟨h.1, h.2.1, fun i hi => ?_⟩
  obtain ⟨k1, k2, k3⟩ := h.2.2 i hi
  exact ⟨k1, (hb.cell (p := ⟨rb, i, none⟩) h.2.1).trans k2, (hb.cell (p := ⟨ps.getD i 0, 0, none⟩) k1).trans k3⟩

/-- the first k pointers, as cells -/
def vals (ps : List Nat) (k : Nat) : List Value := (ps.take k).map ptr

theorem vals_step (ps : List Nat) (k : Nat) (h : k < ps.length) : vals ps (k + 1) = vals ps k ++ [ptr (ps.getD k 0)] := by
  unfold vals
  rw [List.take_succ_eq_append_getElem h, List.map_append]
  simp [List.getD, List.getElem?_eq_getElem h]

theorem vals_at (ps : List Nat) (k i : Nat) (h : i < k) (hk : k ≤ ps.length) : (vals ps k)[i]? = some (ptr (ps.getD i 0)) := by
  unfold vals
  rw [List.getElem?_map, List.getElem?_take_of_lt h]
  simp [List.getD, List.getElem?_eq_getElem (show i < ps.length by omega)]

/-- the list with one more put in at c -/
def put {α : Type} (xs : List α) (c : Nat) (x : α) : List α := xs.take c ++ x :: xs.drop c

theorem put_length {α : Type} (xs : List α) (c : Nat) (x : α) (h : c ≤ xs.length) : (put xs c x).length = xs.length + 1 := by
  unfold put; simp; omega
theorem put_lt? {α : Type} (xs : List α) (c : Nat) (x : α) (h : c ≤ xs.length) (i : Nat) (hi : i < c) : (put xs c x)[i]? = xs[i]? := by
  unfold put
  rw [List.getElem?_append_left (by rw [List.length_take]; omega), List.getElem?_take_of_lt hi]
theorem put_at? {α : Type} (xs : List α) (c : Nat) (x : α) (h : c ≤ xs.length) : (put xs c x)[c]? = some x := by
  unfold put
  rw [List.getElem?_append_right (by rw [List.length_take]; omega), List.length_take, show c - min c xs.length = 0 by omega]; rfl
theorem put_gt? {α : Type} (xs : List α) (c : Nat) (x : α) (h : c ≤ xs.length) (i : Nat) (hi : c ≤ i) : (put xs c x)[i + 1]? = xs[i]? := by
  unfold put
  rw [List.getElem?_append_right (by rw [List.length_take]; omega), List.length_take, show i + 1 - min c xs.length = (i - c) + 1 by omega, List.getElem?_cons_succ, List.getElem?_drop, show c + (i - c) = i by omega]
theorem put_lt {α : Type} (d : α) (xs : List α) (c : Nat) (x : α) (h : c ≤ xs.length) (i : Nat) (hi : i < c) : (put xs c x).getD i d = xs.getD i d := by
  unfold List.getD; rw [put_lt? xs c x h i hi]
theorem put_at {α : Type} (d : α) (xs : List α) (c : Nat) (x : α) (h : c ≤ xs.length) : (put xs c x).getD c d = x := by
  unfold List.getD; rw [put_at? xs c x h]; rfl
theorem put_gt {α : Type} (d : α) (xs : List α) (c : Nat) (x : α) (h : c ≤ xs.length) (i : Nat) (hi : c ≤ i) : (put xs c x).getD (i + 1) d = xs.getD i d := by
  unfold List.getD; rw [put_gt? xs c x h i hi]
theorem put_take {α : Type} (xs : List α) (c : Nat) (x : α) (h : c ≤ xs.length) : (put xs c x).take c = xs.take c := by
  unfold put
  rw [List.take_append_of_le_length (by rw [List.length_take]; omega), List.take_take]; simp
theorem put_all (o : Int) (xs : List Int) (c : Nat) (x : Int) : allB o (put xs c x) = (allB o xs && (x == o)) := by
  have e := all_cut o xs c
  have e2 : allB o (put xs c x) = (allB o (xs.take c) && ((x == o) && allB o (xs.drop c))) := by
    unfold allB put; rw [List.all_append, List.all_cons]
  rw [e, e2]
  cases allB o (xs.take c) <;> cases (x == o) <;> cases allB o (xs.drop c) <;> rfl

theorem vals_put (ps : List Nat) (c pb : Nat) (h : c ≤ ps.length) : vals (put ps c pb) (c + 1) = vals ps c ++ [ptr pb] := by
  rw [vals_step _ _ (by rw [put_length ps c pb h]; omega), put_at 0 ps c pb h]
  unfold vals; rw [put_take ps c pb h]

/-- the first loop's relation at k -/
def P1 (w1 : World) (len : Nat) (ps : List Nat) (k : Nat) (wr : World) : Prop :=
  wr.ownsRow w1.heap.size 35 1 (.slice (some ⟨w1.heap.size, 0, none⟩) k (len + 1)) k (vals ps k) ∧ Below w1.heap.size w1 wr

theorem p1_start {w1 w2 : World} {len : Nat} {ps : List Nat} (hown : w2.ownsRow w1.heap.size 35 1 (.slice (some ⟨w1.heap.size, 0, none⟩) 0 (len + 1)) 0 []) (hg : w1.grownBy w2 none) : P1 w1 len ps 0 w2 :=
  ⟨hown, (Below.refl _ _).grown hg (Nat.le_refl _) (fun k h => by cases h)⟩

theorem p1_step {w1 wr w' : World} {len k pb : Nat} {ps : List Nat} {o : Obj} (h : P1 w1 len ps k wr) (hk : k < ps.length) (hpb : pb = ps.getD k 0)
    (hown : w'.ownsRow w1.heap.size 35 1 (.slice (some ⟨w1.heap.size, 0, none⟩) (k + 1) (len + 1)) (k + 1) (vals ps k ++ [ptr pb])) (hg : (wr.alloc o).grownBy w' (some w1.heap.size)) : P1 w1 len ps (k + 1) w' := by
  subst hpb
  refine ⟨by rw [vals_step ps k hk]; exact hown, (h.2.alloc h.2.size _).grown hg (by have := h.2.size; simp; omega) (fun j e => by cases e; exact Nat.le_refl _)⟩

/-- the second loop's relation at k -/
def P2 (w1 : World) (len : Nat) (ps : List Nat) (c pb : Nat) (x : Int) (k : Nat) (wr : World) : Prop :=
  wr.ownsRow w1.heap.size 35 1 (.slice (some ⟨w1.heap.size, 0, none⟩) (k + 1) (len + 1)) (k + 1) (vals (put ps c pb) (k + 1)) ∧ Below w1.heap.size w1 wr
    ∧ w1.heap.size < pb ∧ pb < wr.heap.size ∧ wr.cell? ⟨pb, 0, none⟩ = some (.int .u8 x)

theorem p2_start {w1 wr w' : World} {len c : Nat} {x : Int} {ps : List Nat} {cs : Array Value} {t : TypeId} {o : Obj} (h : P1 w1 len ps c wr) (hc : c ≤ ps.length) (hx : cs[0]? = some (.int .u8 x))
    (hown : w'.ownsRow w1.heap.size 35 1 (.slice (some ⟨w1.heap.size, 0, none⟩) (c + 1) (len + 1)) (c + 1) (vals ps c ++ [ptr wr.heap.size])) (hg : ((wr.alloc (.cells cs t)).alloc o).grownBy w' (some w1.heap.size)) :
    P2 w1 len ps c wr.heap.size x c w' := by
  have hlt : w1.heap.size < wr.heap.size := (h.1.lt _ rfl).2
  have hsz := hg.size
  simp only [World.size_alloc] at hsz
  refine ⟨by rw [vals_put ps c _ hc]; exact hown, ((h.2.alloc h.2.size _).alloc (by have := h.2.size; simp; omega) _).grown hg (by have := h.2.size; simp; omega) (fun j e => by cases e; exact Nat.le_refl _), hlt, by omega, ?_⟩
  have hb := hg.block wr.heap.size (by simp; omega) (by intro e; have := Option.some.inj e; omega)
  rw [World.cell?_of_block (w := (wr.alloc (.cells cs t)).alloc o) (a := ⟨wr.heap.size, 0, none⟩) hb, World.cell?_alloc_past _ _ _ (by simp), World.cell?_alloc_at _ _ _ _ rfl]
  exact hx

theorem p2_step {w1 wr w' : World} {len c pb k q : Nat} {x : Int} {ps : List Nat} {o : Obj} (h : P2 w1 len ps c pb x k wr) (hc : c ≤ ps.length) (hck : c ≤ k) (hk : k < ps.length) (hq : q = ps.getD k 0)
    (hown : w'.ownsRow w1.heap.size 35 1 (.slice (some ⟨w1.heap.size, 0, none⟩) (k + 1 + 1) (len + 1)) (k + 1 + 1) (vals (put ps c pb) (k + 1) ++ [ptr q])) (hg : (wr.alloc o).grownBy w' (some w1.heap.size)) :
    P2 w1 len ps c pb x (k + 1) w' := by
  subst hq
  obtain ⟨h1, h2, h3, h4, h5⟩ := h
  have hsz := hg.size
  simp only [World.size_alloc] at hsz
  refine ⟨by rw [vals_step _ _ (by rw [put_length ps c pb hc]; omega), put_gt 0 ps c pb hc k hck]; exact hown, (h2.alloc h2.size _).grown hg (by have := h2.size; simp; omega) (fun j e => by cases e; exact Nat.le_refl _), h3, by omega, ?_⟩
  have hb := hg.block pb (by simp; omega) (by intro e; have := Option.some.inj e; omega)
  rw [World.cell?_of_block (w := wr.alloc o) (a := ⟨pb, 0, none⟩) hb, World.cell?_alloc_past _ _ _ h4]
  exact h5

theorem p2_end {w1 wr : World} {rb len c pb : Nat} {x : Int} {zs : List Int} {ps : List Nat} (h : P2 w1 len ps c pb x len wr) (hn : Blk w1.heap.size w1 rb zs ps) (hl : zs.length = len) (hc : c ≤ len) :
    NodeRow wr.heap.size wr w1.heap.size 0 (put zs c x) := by
  obtain ⟨h1, h2, h3, h4, h5⟩ := h
  have hpl : ps.length = len := hn.1.trans hl
  have hn2 := hn.keep h2
  have hs := h2.size
  refine ⟨by omega, fun i hi => ?_⟩
  rw [put_length zs c x (by omega)] at hi
  have hv : wr.cell? ⟨w1.heap.size, 0 + i, none⟩ = some (ptr ((put ps c pb).getD i 0)) := by
    rw [Nat.zero_add, h1.cellAt i (by omega)]
    exact vals_at _ _ _ (by omega) (by rw [put_length ps c pb (by omega)]; omega)
  refine ⟨_, ?_, hv, ?_⟩
  · rcases Nat.lt_trichotomy i c with e | e | e
    · rw [put_lt 0 ps c pb (by omega) i e]; have := (hn2.2.2 i (by omega)).1; omega
    · subst e; rw [put_at 0 ps i pb (by omega)]; exact h4
    · obtain ⟨j, rfl⟩ : ∃ j, i = j + 1 := ⟨i - 1, by omega⟩
      rw [put_gt 0 ps c pb (by omega) j (by omega)]; have := (hn2.2.2 j (by omega)).1; omega
  · rcases Nat.lt_trichotomy i c with e | e | e
    · rw [put_lt 0 ps c pb (by omega) i e, put_lt 0 zs c x (by omega) i e]; exact (hn2.2.2 i (by omega)).2.2
    · subst e; rw [put_at 0 ps i pb (by omega), put_at 0 zs i x (by omega)]; exact h5
    · obtain ⟨j, rfl⟩ : ∃ j, i = j + 1 := ⟨i - 1, by omega⟩
      rw [put_gt 0 ps c pb (by omega) j (by omega), put_gt 0 zs c x (by omega) j (by omega)]; exact (hn2.2.2 j (by omega)).2.2
end Go.Proofs.Qxb6613362a.EveryW
