/-
  The proof of 'Rows.LawS4544AExactSaid'. The frame is the kit's own shell (its writer: a program), the hole filled.
-/
import Derived.Test.YbulkcpbuRows
import Derived.Test.YbulkcpbuStr
import Derived.Test.YbulkcpbuExpect
import Derived.WalkKit
import Derived.ProofKit
import Derived.OpenShut
import Derived.ShutString
import Derived.Below
namespace Go.Proofs.Ybulkcpbu.lawS4544AExact
open Go.ChangeShapes Go.WideShapes Go.ChangeAt Go.RowKit
open Go.ChangeMaps (open_string shut_string)
set_option linter.unusedVariables false      -- a walk need not use every 'w<i>' (that an integer argument fits its kind)

theorem own : ownKnob Yba.prog.godebug = none := by kernel_rfl

/-! ### STEP 1: THE WALK: the Go text returns true. 'Grown w w'': the world has at most new blocks (Derived/RowKit3.lean). Part the cases AHEAD of 'go_enter' where a test parts the walk; take each callee by a contract of your own. -/
set_option maxHeartbeats 400000 in
theorem walk_big1 (a0 : ByteArray) (a1 : ByteArray) (w : World) (h : 1048576 < a0.size) :
    Calls Yba.prog 3 #[.string a0, .string a1] w fun e w' => e = .returned (.bool true) ∧ Below w.heap.size w w' := by
  go_enter Yba.func3, Yba.ntmps3
  go_wp2
  go_ret
  exact ⟨rfl, Below.refl _ _⟩
set_option maxHeartbeats 400000 in
theorem walk_big2 (a0 : ByteArray) (a1 : ByteArray) (w : World) (h0 : a0.size ≤ 1048576) (h : 1048576 < a1.size) :
    Calls Yba.prog 3 #[.string a0, .string a1] w fun e w' => e = .returned (.bool true) ∧ Below w.heap.size w w' := by
  go_enter Yba.func3, Yba.ntmps3
  go_wp2
  go_ret
  exact ⟨rfl, Below.refl _ _⟩
theorem bcell {W w1 : World} (hb : Below W.heap.size W w1) : (∀ b o, b < W.heap.size → w1.cell? ⟨b, o, none⟩ = W.cell? ⟨b, o, none⟩) :=
  fun b o h => hb.cell (p := ⟨b, o, none⟩) h
set_option maxHeartbeats 400000 in
theorem walk_one (a0 : ByteArray) (a1 : ByteArray) (w : World) (h0 : a0.size ≤ 1048576) (h : a1.size ≤ 1048576) (he : a1.toList.isEmpty = true) (hz : a1.size = 0) :
    Calls Yba.prog 3 #[.string a0, .string a1] w fun e w' => e = .returned (.bool true) ∧ Below w.heap.size w w' := by
  have HZ : Hid (a1.size = 0) := hz
  clear hz
  go_enter Yba.func3, Yba.ntmps3
  go_wp2_with (first
    | (go_at_call 5; refine (str_one _ _ _ h0 he).mono ?_; rintro e w' ⟨rfl, rfl⟩)
    | (go_at_call 6; refine (expect_one _ _ _ h0 HZ.out).mono ?_; rintro e w1 ⟨rfl, hb⟩; have hc := bcell hb))
  go_ret
  exact ⟨rfl, ((((Below.refl _ _).alloc (Nat.le_refl _) _).alloc (by simp) _).trans (hb.mono (by simp; omega)))⟩
set_option maxHeartbeats 400000 in
theorem walk_two (a0 : ByteArray) (a1 : ByteArray) (w : World) (h0 : a0.size ≤ 1048576) (h : a1.size ≤ 1048576) (he : a1.toList.isEmpty = false) (hz : 0 < a1.size) :
    Calls Yba.prog 3 #[.string a0, .string a1] w fun e w' => e = .returned (.bool true) ∧ Below w.heap.size w w' := by
  go_enter Yba.func3, Yba.ntmps3
  go_wp2_with (first
    | (go_at_call 5; refine (str_two _ _ _ h0 h he).mono ?_; rintro e w' ⟨rfl, rfl⟩)
    | (go_at_call 6; refine (expect_two _ _ _ h0 hz h).mono ?_; rintro e w1 ⟨rfl, hb⟩; have hc := bcell hb))
  go_ret
  exact ⟨rfl, ((((Below.refl _ _).alloc (Nat.le_refl _) _).alloc (by simp) _).trans (hb.mono (by simp; omega)))⟩
theorem isEmpty_size (a : ByteArray) : a.toList.isEmpty = decide (a.size = 0) := by
  have hl : a.size = a.data.toList.length := by rw [Array.length_toList]; rfl
  rw [ByteArray.toList_eq, hl]
  cases a.data.toList <;> simp
theorem walk (a0 : ByteArray) (a1 : ByteArray) (w0 : a0.size ≤ maxLen) (w1 : a1.size ≤ maxLen) (w : World) :
    Calls Yba.prog 3 #[.string a0, .string a1] w fun e w' => e = .returned (.bool true) ∧ Below w.heap.size w w' := by
  by_cases h0 : a0.size ≤ 1048576
  · by_cases h1 : a1.size ≤ 1048576
    · by_cases hz : a1.size = 0
      · exact walk_one a0 a1 w h0 h1 (by rw [isEmpty_size]; simp [hz]) hz
      · exact walk_two a0 a1 w h0 h1 (by rw [isEmpty_size]; simp [hz]) (by omega)
    · exact walk_big2 a0 a1 w h0 (by omega)
  · exact walk_big1 a0 a1 w (by omega)

/-! ### THE ROW's STEP: WRITTEN OUT: LEAVE IT -/
set_option maxRecDepth 100000 in
theorem lifted (os : Os) (started : os.Started) (H : Type) (enc : TypeId × Value → H) :
    ReturnsInHanded {} Yba.checked os 3 .any (Rows.lawS4544AExactSpec.pre6 enc Yba.prog Yba.f3 Rows.lawS4544AExactRow.domain false) (Rows.lawS4544AExactSpec.post enc Yba.prog Yba.f3 false true false false) := by
  refine returnsInHanded_of_change (C := Yba.checked) own started (by kernel_rfl) Yba.func3
    (ChangeSpec.witness6 (enc := enc) (C := Yba.checked) false ⟨#[], #[.string ByteArray.empty, .string ByteArray.empty], []⟩ 8 (by kernel_rfl) (by kernel_rfl) (by kernel_rfl) (by kernel_rfl)) ?_
  intro W base args ds gs before hval0 hW hcnd _
  have hval : ∀ (j : Nat) t v, Yba.f3.params[j]? = some t → args[j]? = some v → Value.okWide Yba.prog W .any base t v := hval0
  have hW' := hW
  obtain ⟨p, q, hA0, hV, rfl, hfz, hnd⟩ := hW
  have hA : DataW.TrodAll enc Yba.prog W 0 (fun _ => true) true Yba.f3.params.toList args.toList ds p := hA0
  rw [Yba.params3] at hA hval
  obtain ⟨v0, vs0, d0, ds0, p0, q0, hargs, rfl, rfl, h0, r0⟩ := trodAll_cons hA
  obtain ⟨v1, vs1, d1, ds1, p1, q1, rfl, rfl, rfl, h1, r1⟩ := trodAll_cons r0
  obtain ⟨rfl, rfl, rfl⟩ := trodAll_nil r1
  obtain rfl : args = #[v0, v1] := by cases args; simp_all
  obtain ⟨rfl, rfl⟩ := trodVars_none hV
  obtain ⟨a0, rfl, rfl, rfl, w0⟩ := open_string Yba.underlying9 (hval 0 9 v0 rfl rfl) h0
  obtain ⟨a1, rfl, rfl, rfl, w1⟩ := open_string Yba.underlying9 (hval 1 9 v1 rfl rfl) h1
  clear hA0 hval0
  simp only [List.append_nil] at hW'
  refine (walk a0 a1 w0 w1 W).mono fun e W' ⟨he, hg⟩ => ?_
  subst he
  exact ⟨_, rfl, _, _, _, [], [], [], hW', trodAll_mk1 (shut_bool Yba.underlying4 _), (trodAll_cons_mk (shut_string Yba.underlying9 w0) (trodAll_cons_mk (shut_string Yba.underlying9 w1) trodAll_mk0)), rfl, hg.frame _, fun h => by cases h⟩

theorem over : Rows.lawS4544AExactRow.holds Yba.pinned (OpenSpec.ofChange Rows.lawS4544AExactSpec) :=
  OpenClaim.holds_of_wide 3 Yba.f3 rfl rfl rfl rfl rfl rfl rfl ⟨rfl, rfl, rfl, rfl, rfl⟩ rfl rfl rfl rfl rfl (by kernel_rfl) Yba.func3 (by kernel_rfl)
    (of_decide_eq_true (by kernel_rfl)) (by unfold Func.isWrapper; first | (rw [if_pos (by decide +kernel)]; kernel_rfl) | (rw [if_neg (by decide +kernel)]; exact ⟨rfl, rfl⟩))
    (fun os started H enc _ => lifted os started H enc)

/-- ████ THE STATEMENT ████ -/
theorem proved : Rows.LawS4544AExactSaid :=
  over
#print axioms proved
end Go.Proofs.Ybulkcpbu.lawS4544AExact
