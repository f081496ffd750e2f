import Derived.Test.YbulkcpbuRows
import Derived.WalkKit
import Derived.WalkSpells
import Derived.WalkLawsBesides
namespace Go.Proofs.Ybulkcpbu
open Go.RowKit

set_option maxHeartbeats 400000 in
theorem str_one (c d : ByteArray) (w : World) (hc : c.size ≤ 1048576) (h : d.toList.isEmpty = true) :
    Calls Yba.prog 5 #[.agg #[.string c, .string d]] w fun e w' => e = .returned (.string (⟨#[99, 97, 117, 115, 101, 58, 32]⟩ ++ c)) ∧ w' = w.alloc (.cells #[.string c, .string d] 23) := by
  go_enter Yba.func5, Yba.ntmps5
  go_wp2
  go_ret
  exact ⟨rfl, rfl⟩

set_option maxHeartbeats 400000 in
theorem str_two (c d : ByteArray) (w : World) (hc : c.size ≤ 1048576) (hd : d.size ≤ 1048576) (h : d.toList.isEmpty = false) :
    Calls Yba.prog 5 #[.agg #[.string c, .string d]] w fun e w' => e = .returned (.string (⟨#[99, 97, 117, 115, 101, 58, 32]⟩ ++ c ++ ⟨#[32]⟩ ++ d)) ∧ w' = w.alloc (.cells #[.string c, .string d] 23) := by
  go_enter Yba.func5, Yba.ntmps5
  go_wp2
  go_ret
  exact ⟨rfl, rfl⟩
end Go.Proofs.Ybulkcpbu
