/- Plain facts on byte strings: what the pieces of pre ++ a are. -/
import Derived.Test.Qxb6612841aWalkA
namespace Go.Proofs.Qxb6612841a.DirtyB

theorem pre_size : pre.size = 18 := rfl

theorem ext_list {x y : ByteArray} (h : x.data.toList = y.data.toList) : x = y := by
  apply ByteArray.ext; exact Array.ext' h

theorem piece1 (a : ByteArray) : (pre ++ a).extract 0 4 = ⟨#[113, 101, 109, 117]⟩ := by
  apply ext_list; simp [ByteArray.data_append, pre]
theorem piece2 (a : ByteArray) : (pre ++ a).extract 5 17 = ⟨#[100, 105, 114, 116, 121, 45, 98, 105, 116, 109, 97, 112]⟩ := by
  apply ext_list; simp [ByteArray.data_append, pre]
theorem piece3 (a : ByteArray) : (pre ++ a).extract 18 (pre ++ a).size = a := by
  have e : (pre ++ a).size = 18 + a.size := by rw [ByteArray.size_append, pre_size]
  have h : a.size = a.data.toList.length := by simp
  rw [e]; apply ext_list; simp [ByteArray.data_append, pre]; rw [h]; exact List.take_length
theorem get_pre (a : ByteArray) (k : Nat) (h : k < (pre ++ a).size) (hk : k < 18) : (pre ++ a)[k] = pre[k]'(by rw [pre_size]; exact hk) := by
  rw [ByteArray.getElem_append_left]
theorem hn (a : ByteArray) : ∀ k (h : k < (pre ++ a).size), k < 17 → k ≠ 4 → (((pre ++ a)[k].toNat : Int) != 58) = true := by
  intro k h h1 h2
  rw [get_pre a k h (by omega)]
  have : ∀ k : Fin 18, k.val < 17 → k.val ≠ 4 → (((pre[k.val]'(k.isLt)).toNat : Int) != 58) = true := by decide
  exact this ⟨k, by omega⟩ h1 h2
theorem h4 (a : ByteArray) : ∀ k (h : k < (pre ++ a).size), k = 4 ∨ k = 17 → (((pre ++ a)[k].toNat : Int) != 58) = false := by
  intro k h h1
  rw [get_pre a k h (by omega)]
  have : ∀ k : Fin 18, k.val = 4 ∨ k.val = 17 → (((pre[k.val]'(k.isLt)).toNat : Int) != 58) = false := by decide
  exact this ⟨k, by omega⟩ h1
theorem toList_data (s : ByteArray) : s.toList = s.data.toList := by
  have := ByteArray.toList_loop_eq s s.size 0 [] (by omega) (by omega)
  simpa [ByteArray.toList] using this
theorem same (a b : ByteArray) : (((pre ++ a).toList == (pre ++ b).toList) == (a.toList == b.toList)) = true := by
  have h : ((pre ++ a).toList == (pre ++ b).toList) = (a.toList == b.toList) := by
    simp only [toList_data]
    rw [Bool.eq_iff_iff]; simp only [beq_iff_eq]
    constructor
    · intro h
      have := ext_list h
      rw [← piece3 a, ← piece3 b, this]
    · intro h; rw [ext_list h]
  rw [h]; simp
end Go.Proofs.Qxb6612841a.DirtyB
