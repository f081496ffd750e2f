import Derived.Test.YbulkcpfaRows
import Derived.Test.YbulkcpfaPlain
import Derived.WalkKit
import Derived.WalkSpells
import Derived.WalkLawsBesides
import Derived.Laws.IdiomStrings
namespace Go.Proofs.Ybulkcpfa
open Go.RowKit

theorem ret_bool {a b : Bool} (h : a = b) : Ending.returned (.bool a) = .returned (.bool b) := by rw [h]

theorem conv_ex (w : World) (s : ByteArray) : ∃ cap C, (convert 9 23 (.string s)).run Yba.prog w = .ok (.slice (some ⟨w.heap.size, 0, none⟩) s.size cap) (w.drew.alloc (.cells C 5 (C.size, C.size + 1))) ∧
    ∀ j, j < s.size → (w.alloc (.cells C 5 (C.size, C.size + 1))).cell? ⟨w.heap.size, j, none⟩ = some (.int .u8 (nthB s j)) := by
  refine ⟨_, _, run_bytes_of_string (P := Yba.prog) w 9 23 5 s Yba.underlying9 Yba.underlying23 Yba.underlying5, fun j hj => ?_⟩
  rw [World.cell?_alloc_mark, bytesRow_at s _ j hj, nthB_at s j hj]
  rfl

set_option maxHeartbeats 400000 in
theorem isDigits_any (s : ByteArray) (w : World) (hs : s.size ≤ 2097152) :
    Calls Yba.prog 5 #[.string s] w fun e w' => e = .returned (.bool (digB s)) ∧ Below w.heap.size w w' := by
  obtain ⟨cap, C, hconv, hcell⟩ := conv_ex w s
  go_enter Yba.func5, Yba.ntmps5
  go_wp2
  go_loop [8] (fun i => ∃ k : Nat, k ≤ s.size ∧ i = .int .i64 k ∧ Pre s k) (fun i => s.size - (intOf i).toNat)
  case atStart => exact ⟨0, Nat.zero_le _, rfl, Pre.zero s⟩
  case round =>
    obtain ⟨k, hk, rfl, hp⟩ := hrel
    by_cases hlt : k < s.size
    · have hck := hcell k hlt
      clear hcell hconv
      rcases (show nthB s k < 48 ∨ 57 < nthB s k ∨ (48 ≤ nthB s k ∧ nthB s k ≤ 57) from by omega) with h1 | h1 | ⟨h1, h2⟩
      · go_wp2
        go_ret
        exact ⟨ret_bool (digB_no s k hlt (.inl h1)).symm, ((Below.refl _ _).alloc (Nat.le_refl _) _).drew⟩
      · go_wp2
        go_ret
        exact ⟨ret_bool (digB_no s k hlt (.inr h1)).symm, ((Below.refl _ _).alloc (Nat.le_refl _) _).drew⟩
      · go_wp2
        go_round
        case rel => exact ⟨k + 1, hlt, by go_num, hp.step h1 h2⟩
        case measure => simp [intOf]; omega
    · clear hcell hconv
      go_wp2
      go_ret
      obtain rfl : k = s.size := by omega
      exact ⟨ret_bool (digB_end s hp).symm, ((Below.refl _ _).alloc (Nat.le_refl _) _).drew⟩

set_option maxHeartbeats 400000 in
theorem model_any (s : ByteArray) (w : World) (hs : s.size ≤ 2097152) :
    Calls Yba.prog 6 #[.string s] w fun e w' => e = .returned (.bool (digB s)) ∧ w' = w := by
  by_cases h0 : s.size = 0
  · have HB : Hid (digB s = false) := digB_empty s h0
    go_enter Yba.func6, Yba.ntmps6
    go_wp2
    go_ret
    exact ⟨ret_bool HB.out.symm, rfl⟩
  · have h0' : ((s.size : Int) == 0) = false := by rw [beq_eq_false_iff_ne]; omega
    go_enter Yba.func6, Yba.ntmps6
    go_wp2
    go_loop [3] (fun i => ∃ k : Nat, k ≤ s.size ∧ i = .int .i64 k ∧ Pre s k) (fun i => s.size - (intOf i).toNat)
    case atStart => exact ⟨0, Nat.zero_le _, rfl, Pre.zero s⟩
    case round =>
      obtain ⟨k, hk, rfl, hp⟩ := hrel
      by_cases hlt : k < s.size
      · have HN : Hid (nthB s k = (s[k].toNat : Int)) := nthB_at s k hlt
        rcases (show (s[k].toNat : Int) < 48 ∨ 57 < (s[k].toNat : Int) ∨ (48 ≤ (s[k].toNat : Int) ∧ (s[k].toNat : Int) ≤ 57) from by omega) with h1 | h1 | ⟨h1, h2⟩
        · go_wp2
          go_ret
          exact ⟨ret_bool (digB_no s k hlt (.inl (by rw [HN.out]; exact h1))).symm, rfl⟩
        · have h1' : decide ((s[k].toNat : Int) ≤ 57) = false := decide_eq_false (by omega)
          go_wp2
          go_ret
          exact ⟨ret_bool (digB_no s k hlt (.inr (by rw [HN.out]; exact h1))).symm, rfl⟩
        · go_wp2
          go_round
          case rel => exact ⟨k + 1, hlt, by go_num, hp.step (by rw [HN.out]; exact h1) (by rw [HN.out]; exact h2)⟩
          case measure => simp [intOf]; omega
      · go_wp2
        go_ret
        obtain rfl : k = s.size := by omega
        exact ⟨ret_bool (digB_full s hp (by omega)).symm, rfl⟩
end Go.Proofs.Ybulkcpfa
