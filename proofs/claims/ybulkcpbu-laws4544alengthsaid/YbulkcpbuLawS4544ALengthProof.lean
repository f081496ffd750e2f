/-
  The proof of 'Rows.LawS4544ALengthSaid'. The frame is the kit's own shell (its writer: a program), the hole filled.
-/
import Derived.Test.YbulkcpbuRows
import Derived.Test.YbulkcpbuPlain
import Derived.Test.YbulkcpbuStr
import Derived.WalkKit
import Derived.ProofKit
import Derived.OpenShut
import Derived.ShutString
namespace Go.Proofs.Ybulkcpbu.lawS4544ALength
open Go.ChangeShapes Go.WideShapes Go.ChangeAt Go.RowKit
open Go.ChangeMaps (open_string shut_string)
set_option linter.unusedVariables false      -- a walk need not use every 'w<i>' (that an integer argument fits its kind)

theorem own : ownKnob Yba.prog.godebug = none := by kernel_rfl

/-! ### STEP 1: THE WALK: the Go text returns true. 'Grown w w'': the world has at most new blocks (Derived/RowKit3.lean). Part the cases AHEAD of 'go_enter' where a test parts the walk; take each callee by a contract of your own. -/
set_option maxHeartbeats 400000 in
theorem walk_big1 (a0 : ByteArray) (a1 : ByteArray) (w : World) (h : 1048576 < a0.size) :
    Calls Yba.prog 4 #[.string a0, .string a1] w fun e w' => e = .returned (.bool true) ∧ Grown w w' := by
  go_enter Yba.func4, Yba.ntmps4
  go_wp2
  go_ret
  exact ⟨rfl, by repeat (first | exact Grown.refl _ | apply Grown.drew | apply Grown.alloc)⟩
set_option maxHeartbeats 400000 in
theorem walk_big2 (a0 : ByteArray) (a1 : ByteArray) (w : World) (h0 : a0.size ≤ 1048576) (h : 1048576 < a1.size) :
    Calls Yba.prog 4 #[.string a0, .string a1] w fun e w' => e = .returned (.bool true) ∧ Grown w w' := by
  go_enter Yba.func4, Yba.ntmps4
  go_wp2
  go_ret
  exact ⟨rfl, by repeat (first | exact Grown.refl _ | apply Grown.drew | apply Grown.alloc)⟩
set_option maxHeartbeats 400000 in
theorem walk_one (a0 : ByteArray) (a1 : ByteArray) (w : World) (h0 : a0.size ≤ 1048576) (h : a1.size ≤ 1048576) (he : a1.toList.isEmpty = true) :
    Calls Yba.prog 4 #[.string a0, .string a1] w fun e w' => e = .returned (.bool true) ∧ Grown w w' := by
  have e1 : (({ data := #[99, 97, 117, 115, 101, 58, 32] } : ByteArray) ++ a0).extract 0 7 = { data := #[99, 97, 117, 115, 101, 58, 32] } := Plain.cut_head _ _
  have e2 : (({ data := #[99, 97, 117, 115, 101, 58, 32] } : ByteArray) ++ a0).extract 7 (7 + a0.size) = a0 := Plain.cut_tail _ _
  go_enter Yba.func4, Yba.ntmps4
  go_wp2_with (go_at_call 5; refine (str_one _ _ _ h0 he).mono ?_; rintro e w' ⟨rfl, rfl⟩)
  go_ret
  exact ⟨rfl, by repeat (first | exact Grown.refl _ | apply Grown.drew | apply Grown.alloc)⟩
set_option maxHeartbeats 400000 in
theorem walk_two (a0 : ByteArray) (a1 : ByteArray) (w : World) (h0 : a0.size ≤ 1048576) (h : a1.size ≤ 1048576) (he : a1.toList.isEmpty = false) :
    Calls Yba.prog 4 #[.string a0, .string a1] w fun e w' => e = .returned (.bool true) ∧ Grown w w' := by
  have e0 : ((7 : Int) + a0.size + 1 + a1.size != 7 + a0.size + (1 + a1.size)) = false := by simp; omega
  have e1 : (({ data := #[99, 97, 117, 115, 101, 58, 32] } : ByteArray) ++ a0 ++ { data := #[32] } ++ a1).extract 0 7 = { data := #[99, 97, 117, 115, 101, 58, 32] } := by
    rw [ByteArray.append_assoc, ByteArray.append_assoc]; exact Plain.cut_head _ _
  have e2 : (({ data := #[99, 97, 117, 115, 101, 58, 32] } : ByteArray) ++ a0 ++ { data := #[32] } ++ a1).extract 7 (7 + a0.size) = a0 := by
    rw [ByteArray.append_assoc]; exact Plain.cut_mid _ _ _
  have e3 : ∀ h, ((({ data := #[99, 97, 117, 115, 101, 58, 32] } : ByteArray) ++ a0 ++ { data := #[32] })[7 + a0.size]'h) = 32 := fun h => Plain.at_mid { data := #[99, 97, 117, 115, 101, 58, 32] } a0 32 h
  have e4 : (({ data := #[99, 97, 117, 115, 101, 58, 32] } : ByteArray) ++ a0 ++ { data := #[32] } ++ a1).extract (8 + a0.size) (7 + a0.size + 1 + a1.size) = a1 := by
    have e := Plain.cut_tail (({ data := #[99, 97, 117, 115, 101, 58, 32] } : ByteArray) ++ a0 ++ { data := #[32] }) a1
    have es : (({ data := #[99, 97, 117, 115, 101, 58, 32] } : ByteArray) ++ a0 ++ { data := #[32] }).size = 7 + a0.size + 1 := by rw [ByteArray.size_append, ByteArray.size_append]; rfl
    rw [es] at e
    rwa [show 8 + a0.size = 7 + a0.size + 1 by omega]
  go_enter Yba.func4, Yba.ntmps4
  go_wp2_with (go_at_call 5; refine (str_two _ _ _ h0 h he).mono ?_; rintro e w' ⟨rfl, rfl⟩)
  go_ret
  exact ⟨rfl, by repeat (first | exact Grown.refl _ | apply Grown.drew | apply Grown.alloc)⟩
theorem walk (a0 : ByteArray) (a1 : ByteArray) (w0 : a0.size ≤ maxLen) (w1 : a1.size ≤ maxLen) (w : World) :
    Calls Yba.prog 4 #[.string a0, .string a1] w fun e w' => e = .returned (.bool true) ∧ Grown w w' := by
  by_cases h0 : a0.size ≤ 1048576
  · by_cases h1 : a1.size ≤ 1048576
    · cases he : a1.toList.isEmpty
      · exact walk_two a0 a1 w h0 h1 he
      · exact walk_one a0 a1 w h0 h1 he
    · exact walk_big2 a0 a1 w h0 (by omega)
  · exact walk_big1 a0 a1 w (by omega)

/-! ### THE ROW's STEP: WRITTEN OUT: LEAVE IT -/
set_option maxRecDepth 100000 in
theorem lifted (os : Os) (started : os.Started) (H : Type) (enc : TypeId × Value → H) :
    ReturnsInHanded {} Yba.checked os 4 .any (Rows.lawS4544ALengthSpec.pre6 enc Yba.prog Yba.f4 Rows.lawS4544ALengthRow.domain false) (Rows.lawS4544ALengthSpec.post enc Yba.prog Yba.f4 false true false false) := by
  refine returnsInHanded_of_change (C := Yba.checked) own started (by kernel_rfl) Yba.func4
    (ChangeSpec.witness6 (enc := enc) (C := Yba.checked) false ⟨#[], #[.string ByteArray.empty, .string ByteArray.empty], []⟩ 8 (by kernel_rfl) (by kernel_rfl) (by kernel_rfl) (by kernel_rfl)) ?_
  intro W base args ds gs before hval0 hW hcnd _
  have hval : ∀ (j : Nat) t v, Yba.f4.params[j]? = some t → args[j]? = some v → Value.okWide Yba.prog W .any base t v := hval0
  have hW' := hW
  obtain ⟨p, q, hA0, hV, rfl, hfz, hnd⟩ := hW
  have hA : DataW.TrodAll enc Yba.prog W 0 (fun _ => true) true Yba.f4.params.toList args.toList ds p := hA0
  rw [Yba.params4] at hA hval
  obtain ⟨v0, vs0, d0, ds0, p0, q0, hargs, rfl, rfl, h0, r0⟩ := trodAll_cons hA
  obtain ⟨v1, vs1, d1, ds1, p1, q1, rfl, rfl, rfl, h1, r1⟩ := trodAll_cons r0
  obtain ⟨rfl, rfl, rfl⟩ := trodAll_nil r1
  obtain rfl : args = #[v0, v1] := by cases args; simp_all
  obtain ⟨rfl, rfl⟩ := trodVars_none hV
  obtain ⟨a0, rfl, rfl, rfl, w0⟩ := open_string Yba.underlying9 (hval 0 9 v0 rfl rfl) h0
  obtain ⟨a1, rfl, rfl, rfl, w1⟩ := open_string Yba.underlying9 (hval 1 9 v1 rfl rfl) h1
  clear hA0 hval0
  simp only [List.append_nil] at hW'
  refine (walk a0 a1 w0 w1 W).mono fun e W' ⟨he, hg⟩ => ?_
  subst he
  exact ⟨_, rfl, post_of_same (pa := []) (pv := []) hW' (fun _ _ _ => (trodAll_cons_mk (shut_bool Yba.underlying4 _) trodAll_mk0)) (fun sp _ => (trodAll_cons_mk (shut_string Yba.underlying9 w0) (trodAll_cons_mk (shut_string Yba.underlying9 w1) trodAll_mk0))) (fun _ _ => rfl) rfl
    (hg.frame _) hg.2.1 (ok_one (by kernel_rfl) rfl (okWide_bool_mk Yba.underlying4 _))⟩

theorem over : Rows.lawS4544ALengthRow.holds Yba.pinned (OpenSpec.ofChange Rows.lawS4544ALengthSpec) :=
  OpenClaim.holds_of_wide 4 Yba.f4 rfl rfl rfl rfl rfl rfl rfl ⟨rfl, rfl, rfl, rfl, rfl⟩ rfl rfl rfl rfl rfl (by kernel_rfl) Yba.func4 (by kernel_rfl)
    (of_decide_eq_true (by kernel_rfl)) (by unfold Func.isWrapper; first | (rw [if_pos (by decide +kernel)]; kernel_rfl) | (rw [if_neg (by decide +kernel)]; exact ⟨rfl, rfl⟩))
    (fun os started H enc _ => lifted os started H enc)

/-- ████ THE STATEMENT ████ -/
theorem proved : Rows.LawS4544ALengthSaid :=
  over
#print axioms proved
end Go.Proofs.Ybulkcpbu.lawS4544ALength
