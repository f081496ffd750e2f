/-
  The proof of 'Rows.LawS4551AModelSaid'. No shell was given for it: the frame is typed after the kit's shells, at six parameters, two of them slices of structs.
-/
import Derived.Test.YbulkcpfoRows
import Derived.Test.YbulkcpfoWalk
import Derived.Test.YbulkcpfoOpen
import Derived.WalkKit
import Derived.ProofKit
import Derived.OpenShut
import Derived.ShutString
import Derived.ChangeOld
import Derived.Below
namespace Go.Proofs.Ybulkcpfo.lawS4551AModel
open Go.ChangeShapes Go.WideShapes Go.ChangeAt Go.RowKit
open Go.ChangeMaps (open_string shut_string)
set_option linter.unusedVariables false

theorem own : ownKnob Yba.prog.godebug = none := by kernel_rfl
theorem laidOut : laidOutB Yba.prog = true := by kernel_rfl

/-! ### the index, at a slice of either type -/
theorem view_mk (t : TypeId) (ht : Yba.prog.underlying t = some (.slice (Yba.prog.elem t))) (hsz : ∀ w, (sizeOf (Yba.prog.elem t)).run Yba.prog w = .ok 4 w) {a : Option Addr} {n c b off : Nat} (h : n = 0 ∨ a = some ⟨b, off, none⟩) : View t a n c b off := by
  intro k hk w
  rcases h with h | rfl
  · omega
  · rw [run_indexAt_slice w t ⟨b, off, none⟩ n c .i64 k ht, if_pos (by omega), hsz]
    simp [Addr.add_lit, Result.andThen]
theorem sz22 (w : World) : (sizeOf (Yba.prog.elem 22)).run Yba.prog w = .ok 4 w := by kernel_rfl
theorem sz23 (w : World) : (sizeOf (Yba.prog.elem 23)).run Yba.prog w = .ok 4 w := by kernel_rfl

set_option maxRecDepth 100000 in
set_option maxHeartbeats 400000 in
theorem walk_big0 (a0 a1 : Option Addr) (n m c0 c1 : Nat) (br hr : Bool) (sel : Int) (q : ByteArray) (w : World) (h : 1024 < n) :
    Calls Yba.prog 3 #[.slice a0 n c0, .slice a1 m c1, .bool br, .bool hr, .int .u8 sel, .string q] w fun e w' => e = .returned (.bool true) ∧ Below w.heap.size w w' := by
  go_enter Yba.func3, Yba.ntmps3
  go_wp2
  go_ret
  exact ⟨rfl, (Below.refl _ _).alloc (Nat.le_refl _) _⟩
set_option maxRecDepth 100000 in
set_option maxHeartbeats 400000 in
theorem walk_big1 (a0 a1 : Option Addr) (n m c0 c1 : Nat) (br hr : Bool) (sel : Int) (q : ByteArray) (w : World) (hn : n ≤ 1024) (h : 1024 < m) :
    Calls Yba.prog 3 #[.slice a0 n c0, .slice a1 m c1, .bool br, .bool hr, .int .u8 sel, .string q] w fun e w' => e = .returned (.bool true) ∧ Below w.heap.size w w' := by
  go_enter Yba.func3, Yba.ntmps3
  go_wp2
  go_ret
  exact ⟨rfl, (Below.refl _ _).alloc (Nat.le_refl _) _⟩

/-- THE WALK, from what the row's step hands over. -/
theorem walk {H : Type} {enc : TypeId × Value → H} {base : Nat} {spare : Nat → Bool} {held : Bool} (a0 a1 : Option Addr) (n m c0 c1 : Nat) (br hr : Bool) (sel : Int) (q : ByteArray) (w : World) {f0 f1 : Nat} {x0 x1 : DataW H × List MemPlace}
    (h0 : DataW.trod enc Yba.prog w base spare held f0 22 [.slice a0 n c0] = some x0) (h1 : DataW.trod enc Yba.prog w base spare held f1 23 [.slice a1 m c1] = some x1) (ws : (Lit.int .u8 sel).wf = true) (hq : q.size ≤ maxLen) :
    Calls Yba.prog 3 #[.slice a0 n c0, .slice a1 m c1, .bool br, .bool hr, .int .u8 sel, .string q] w fun e w' => e = .returned (.bool true) ∧ Below w.heap.size w w' := by
  by_cases hn : n ≤ 1024
  · by_cases hm : m ≤ 1024
    · have bs := bounds_u8 ws
      obtain ⟨b0, o0, Nm, Dc, Va, Ro, s0, hI, hN⟩ := open_four Yba.underlying22 Yba.underlying25 (by kernel_rfl) rfl rfl rfl rfl rfl rfl rfl rfl h0
      obtain ⟨b1, o1, RNm, ROk, RVa, RRo, s1, hR, _⟩ := open_four Yba.underlying23 Yba.underlying53 (by kernel_rfl) rfl rfl rfl rfl rfl rfl rfl rfl h1
      exact law_walk a0 a1 n m c0 c1 b0 o0 b1 o1 br hr sel q Nm Dc Va Ro w hn hm bs.1 bs.2 hq (view_mk 22 Yba.underlying22 sz22 s0) (view_mk 23 Yba.underlying23 sz23 s1) hI hN RNm ROk RVa RRo hR s1
    · exact walk_big1 a0 a1 n m c0 c1 br hr sel q w hn (by omega)
  · exact walk_big0 a0 a1 n m c0 c1 br hr sel q w (by omega)

/-! ### THE ROW's STEP -/
set_option maxRecDepth 100000 in
theorem lifted (os : Os) (started : os.Started) (H : Type) (enc : TypeId × Value → H) :
    ReturnsInHanded {} Yba.checked os 3 .any (Rows.lawS4551AModelSpec.pre6 enc Yba.prog Yba.f3 Rows.lawS4551AModelRow.domain false) (Rows.lawS4551AModelSpec.post enc Yba.prog Yba.f3 false true false false) := by
  refine returnsInHanded_of_change (C := Yba.checked) own started (by kernel_rfl) Yba.func3
    (ChangeSpec.witness6 (enc := enc) (C := Yba.checked) false ⟨#[], #[.slice none 0 0, .slice none 0 0, .bool false, .bool false, .int .u8 0, .string ByteArray.empty], []⟩ 8 (by kernel_rfl) (by kernel_rfl) (by kernel_rfl) (by kernel_rfl)) ?_
  intro W base args ds gs before hval0 hW hcnd _
  have hval : ∀ (j : Nat) t v, Yba.f3.params[j]? = some t → args[j]? = some v → Value.okWide Yba.prog W .any base t v := hval0
  have hW' := hW
  obtain ⟨p, q, hA0, hV, rfl, hfz, hnd⟩ := hW
  have hA : DataW.TrodAll enc Yba.prog W 0 (fun _ => true) true Yba.f3.params.toList args.toList ds p := hA0
  rw [Yba.params3] at hA hval
  obtain ⟨v0, vs0, d0, ds0, p0, q0, hargs, rfl, rfl, h0, r0⟩ := trodAll_cons hA
  obtain ⟨v1, vs1, d1, ds1, p1, q1, rfl, rfl, rfl, h1, r1⟩ := trodAll_cons r0
  obtain ⟨v2, vs2, d2, ds2, p2, q2, rfl, rfl, rfl, h2, r2⟩ := trodAll_cons r1
  obtain ⟨v3, vs3, d3, ds3, p3, q3, rfl, rfl, rfl, h3, r3⟩ := trodAll_cons r2
  obtain ⟨v4, vs4, d4, ds4, p4, q4, rfl, rfl, rfl, h4, r4⟩ := trodAll_cons r3
  obtain ⟨v5, vs5, d5, ds5, p5, q5, rfl, rfl, rfl, h5, r5⟩ := trodAll_cons r4
  obtain ⟨rfl, rfl, rfl⟩ := trodAll_nil r5
  obtain rfl : args = #[v0, v1, v2, v3, v4, v5] := by cases args; simp_all
  obtain ⟨rfl, rfl⟩ := trodVars_none hV
  obtain ⟨a0, len0, cap0, rfl⟩ := okWide_slice Yba.underlying22 (hval 0 22 v0 rfl rfl)
  obtain ⟨a1, len1, cap1, rfl⟩ := okWide_slice Yba.underlying23 (hval 1 23 v1 rfl rfl)
  have k0 := h0
  have k1 := h1
  have lt0 : ∀ x ∈ p0, x.block < W.heap.size := by obtain ⟨m, hm⟩ := k0; exact DataW.trod_lt m _ _ _ hm
  have lt1 : ∀ x ∈ p1, x.block < W.heap.size := by obtain ⟨m, hm⟩ := k1; exact DataW.trod_lt m _ _ _ hm
  obtain ⟨fu0, hf0⟩ := h0
  obtain ⟨fu1, hf1⟩ := h1
  obtain ⟨a2, rfl, rfl, rfl⟩ := open_bool Yba.underlying4 (hval 2 4 v2 rfl rfl) h2
  obtain ⟨a3, rfl, rfl, rfl⟩ := open_bool Yba.underlying4 (hval 3 4 v3 rfl rfl) h3
  obtain ⟨a4, rfl, rfl, rfl, w4⟩ := open_int Yba.underlying5 (hval 4 5 v4 rfl rfl) h4
  obtain ⟨a5, rfl, rfl, rfl, w5⟩ := open_string Yba.underlying9 (hval 5 9 v5 rfl rfl) h5
  clear hA0 hval0
  refine (walk a0 a1 len0 len1 cap0 cap1 a2 a3 a4 a5 W (by simpa [Value.cells] using hf0) (by simpa [Value.cells] using hf1) w4 w5).mono fun e W' ⟨he, bel⟩ => ?_
  subst he
  exact ⟨_, rfl, _, _, _, [], _, [], hW', trodAll_mk1 (shut_bool Yba.underlying4 _), (trodAll_cons_mk (Below.trod laidOut (by kernel_rfl) (of_decide_eq_true (by kernel_rfl)) k0 bel lt0) (trodAll_cons_mk (Below.trod laidOut (by kernel_rfl) (of_decide_eq_true (by kernel_rfl)) k1 bel lt1) (trodAll_cons_mk (shut_bool Yba.underlying4 _) (trodAll_cons_mk (shut_bool Yba.underlying4 _) (trodAll_cons_mk (shut_int Yba.underlying5 w4) (trodAll_cons_mk (shut_string Yba.underlying9 w5) trodAll_mk0)))))), rfl, bel.frame _, fun h => by cases h⟩

theorem over : Rows.lawS4551AModelRow.holds Yba.pinned (OpenSpec.ofChange Rows.lawS4551AModelSpec) :=
  OpenClaim.holds_of_wide 3 Yba.f3 rfl rfl rfl rfl rfl rfl rfl ⟨rfl, rfl, rfl, rfl, rfl⟩ rfl rfl rfl rfl rfl (by kernel_rfl) Yba.func3 (by kernel_rfl)
    (of_decide_eq_true (by kernel_rfl)) (by unfold Func.isWrapper; first | (rw [if_pos (by decide +kernel)]; kernel_rfl) | (rw [if_neg (by decide +kernel)]; exact ⟨rfl, rfl⟩))
    (fun os started H enc _ => lifted os started H enc)

/-- ████ THE STATEMENT ████ -/
theorem proved : Rows.LawS4551AModelSaid := over
#print axioms proved
end Go.Proofs.Ybulkcpfo.lawS4551AModel
