import Derived.Laws.Strings
/- The plain facts on byte arrays: no Go in sight. -/
namespace Go.Proofs.Ybulkcpbu.Plain

theorem ext_list {a b : ByteArray} (h : a.data.toList = b.data.toList) : a = b := by
  apply ByteArray.ext
  exact Array.ext' h

theorem len (p : ByteArray) : p.size = p.data.toList.length := by
  rw [Array.length_toList]
  rfl

theorem extract_list (s : ByteArray) (i j : Nat) : (s.extract i j).data.toList = (s.data.toList.take j).drop i := by
  simp [ByteArray.data_extract, List.extract_eq_take_drop, List.drop_take]

theorem cut_head (p q : ByteArray) : (p ++ q).extract 0 p.size = p := by
  apply ext_list
  rw [extract_list, ByteArray.data_append, Array.toList_append, len p, List.take_left, List.drop_zero]

theorem cut_mid (p q r : ByteArray) : (p ++ q ++ r).extract p.size (p.size + q.size) = q := by
  apply ext_list
  rw [extract_list]
  have e2 : p.size + q.size = (p.data.toList ++ q.data.toList).length := by rw [List.length_append, ← len, ← len]
  rw [ByteArray.data_append, Array.toList_append, ByteArray.data_append, Array.toList_append, e2, List.take_left, len p, List.drop_left]

theorem cut_tail (p q : ByteArray) : (p ++ q).extract p.size (p.size + q.size) = q := by
  have h := cut_mid p q ByteArray.empty
  rwa [ByteArray.append_empty] at h

theorem at_mid (p q : ByteArray) (c : UInt8) (h : p.size + q.size < (p ++ q ++ ⟨#[c]⟩).size) : (p ++ q ++ ⟨#[c]⟩)[p.size + q.size]'h = c := by
  show (p ++ q ++ ⟨#[c]⟩).data[p.size + q.size]'_ = c
  simp only [ByteArray.data_append]
  rw [Array.getElem_append_right (by rw [Array.size_append]; exact Nat.le_refl _)]
  simp
end Go.Proofs.Ybulkcpbu.Plain
