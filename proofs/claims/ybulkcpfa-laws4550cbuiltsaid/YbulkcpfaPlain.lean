import Derived.Laws.Strings
/- The plain facts: which byte strings are digits. No Go in sight. -/
namespace Go.Proofs.Ybulkcpfa

/-- The k-th byte as a number. -/
def nthB (s : ByteArray) (k : Nat) : Int := ((s.data.toList.getD k 0).toNat : Int)

/-- Not empty, and every byte is an ASCII digit. -/
def digB (s : ByteArray) : Bool := s.data.toList.all (fun c => decide (48 ≤ (c.toNat : Int)) && decide ((c.toNat : Int) ≤ 57)) && !s.data.toList.isEmpty

/-- The first k bytes are digits. -/
def Pre (s : ByteArray) (k : Nat) : Prop := ∀ j, j < k → 48 ≤ nthB s j ∧ nthB s j ≤ 57

theorem len (s : ByteArray) : s.data.toList.length = s.size := by rw [Array.length_toList]; rfl

theorem nthB_at (s : ByteArray) (k : Nat) (h : k < s.size) : nthB s k = (s[k].toNat : Int) := by
  have h' : k < s.data.toList.length := by rw [len]; exact h
  unfold nthB
  rw [List.getD_eq_getElem?_getD, List.getElem?_eq_getElem h']
  rfl

theorem Pre.zero (s : ByteArray) : Pre s 0 := fun j h => absurd h (Nat.not_lt_zero j)
theorem Pre.step {s : ByteArray} {k : Nat} (h : Pre s k) (h1 : 48 ≤ nthB s k) (h2 : nthB s k ≤ 57) : Pre s (k + 1) := by
  intro j hj
  rcases Nat.lt_or_ge j k with h' | h'
  · exact h j h'
  · obtain rfl : j = k := by omega
    exact ⟨h1, h2⟩

theorem digB_no (s : ByteArray) (k : Nat) (hk : k < s.size) (h : nthB s k < 48 ∨ 57 < nthB s k) : digB s = false := by
  have h' : k < s.data.toList.length := by rw [len]; exact hk
  have hb : s.data.toList.all (fun c => decide (48 ≤ (c.toNat : Int)) && decide ((c.toNat : Int) ≤ 57)) = false := by
    rw [List.all_eq_false]
    refine ⟨s.data.toList[k], List.getElem_mem h', ?_⟩
    have e : nthB s k = ((s.data.toList[k]).toNat : Int) := by
      unfold nthB
      rw [List.getD_eq_getElem?_getD, List.getElem?_eq_getElem h']
      rfl
    rw [e] at h
    simp only [Bool.and_eq_true, decide_eq_true_eq]
    omega
  unfold digB
  rw [hb]
  rfl

theorem digB_end (s : ByteArray) (h : Pre s s.size) : digB s = !s.toList.isEmpty := by
  have hb : s.data.toList.all (fun c => decide (48 ≤ (c.toNat : Int)) && decide ((c.toNat : Int) ≤ 57)) = true := by
    rw [List.all_eq_true]
    intro c hc
    obtain ⟨k, hk, rfl⟩ := List.getElem_of_mem hc
    have hk' : k < s.size := by rw [← len]; exact hk
    have e : nthB s k = ((s.data.toList[k]).toNat : Int) := by
      unfold nthB
      rw [List.getD_eq_getElem?_getD, List.getElem?_eq_getElem hk]
      rfl
    have := h k hk'
    rw [e] at this
    simp only [Bool.and_eq_true, decide_eq_true_eq]
    exact this
  unfold digB
  rw [hb, ByteArray.toList_eq]
  rfl

theorem isEmpty_size (a : ByteArray) : a.toList.isEmpty = decide (a.size = 0) := by
  rw [ByteArray.toList_eq, ← len]
  cases a.data.toList <;> simp

theorem digB_full (s : ByteArray) (h : Pre s s.size) (h0 : 0 < s.size) : digB s = true := by
  rw [digB_end s h, isEmpty_size, decide_eq_false (by omega)]
  rfl

theorem digB_empty (s : ByteArray) (h : s.size = 0) : digB s = false := by
  rw [digB_end s (by rw [h]; exact Pre.zero s), isEmpty_size]
  simp [h]

end Go.Proofs.Ybulkcpfa
