/-
  PLAIN FACTS ON STRINGS: p ++ slash ++ q, its bytes and its cuts.
-/
import Derived.WalkKit
namespace Go.Proofs.Qxb6605604aMods

/-- The byte of the path's separator, as a string. -/
def slash : ByteArray := ⟨#[47]⟩
theorem slash_size : slash.size = 1 := rfl

theorem isEmpty_size (p : ByteArray) : p.toList.isEmpty = decide (p.size = 0) := by
  rw [ByteArray.toList_eq]
  obtain ⟨⟨l⟩⟩ := p
  cases l <;> simp [ByteArray.size]

theorem join_size (p q : ByteArray) : (p ++ slash ++ q).size = p.size + 1 + q.size := by
  rw [ByteArray.size_append, ByteArray.size_append, slash_size]
theorem join_size2 (p : ByteArray) : (p ++ slash).size = p.size + 1 := by
  rw [ByteArray.size_append, slash_size]

theorem at_left (p q : ByteArray) : ∃ h : p.size < (p ++ slash ++ q).size, (p ++ slash ++ q)[p.size] = 47 := by
  have e1 := join_size p q
  have e2 := join_size2 p
  refine ⟨by omega, ?_⟩
  rw [ByteArray.getElem_append_left (by omega), ByteArray.getElem_append_right (by omega)]
  simp only [Nat.sub_self]
  rfl

theorem at_right (p q : ByteArray) (hno : ∀ k (h : k < q.size), q[k] ≠ 47) : ∀ k (h : k < (p ++ slash ++ q).size), p.size < k → (p ++ slash ++ q)[k] ≠ 47 := by
  intro k h hk
  have e1 := join_size p q
  have e2 := join_size2 p
  rw [ByteArray.getElem_append_right (by omega)]
  exact hno _ _

theorem cut_left (p q : ByteArray) : (p ++ slash ++ q).extract 0 p.size = p := by
  rw [ByteArray.append_assoc]
  ext1
  simp

theorem cut_right (p q : ByteArray) (n : Nat) (hn : (p ++ slash ++ q).size ≤ n) : (p ++ slash ++ q).extract (p.size + 1) n = q := by
  have e1 := join_size p q
  have e2 := join_size2 p
  rw [← e2]
  generalize p ++ slash = r at *
  apply ByteArray.ext
  simp only [ByteArray.data_extract, ByteArray.data_append]
  have hr : r.data.size = r.size := rfl
  have hq : q.data.size = q.size := rfl
  rw [Array.extract_append, Array.extract_eq_empty_of_le (by omega), Array.empty_append, hr, Nat.sub_self]
  exact Array.extract_eq_self_of_le (by omega)

end Go.Proofs.Qxb6605604aMods
