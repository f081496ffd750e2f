import Derived.Test.YbulkcpgqRen
import Derived.RegionTactic
import Derived.Lib.SliceRun
import Derived.Deep.RegionLaw
namespace Go.Proofs.Ybulkcpgq
open Go.RowKit

/-- What slices.Delete(s, d, d+1) leaves of the row, which had N + 1 pointers: the d-th is gone, those behind it have moved up. -/
def DelPost (w w' : World) (bq N d : Nat) (Z : Array Value) : Prop :=
  ∃ Z' : Array Value, Z'.size = N + 1 ∧ w'.heap[bq]? = some (.cells Z' 25 (0, 0)) ∧ (∀ j, j < N → Z'[j]? = if j < d then Z[j]? else Z[j + 1]?) ∧ w'.heap.size = w.heap.size ∧ w.grownBy w' (some bq)

theorem zero25 (w : World) : (zeroValue 25).run Yba.prog w = .ok (.pointer none) w := by kernel_rfl

/-- 'append(s[:d], s[d+1:]...)'. -/
theorem del_app {w : World} {bq N d : Nat} {Z : Array Value} (hh : w.heap[bq]? = some (.cells Z 25 (0, 0))) (hZ : Z.size = N + 1) (hone : ∀ (j : Nat) (v : Value), Z[j]? = some v → v.oneCell' = true) (hd : d < N) :
    ∃ w1, (∀ ty, (Builtin.append_ #[24, 24] ty #[.slice (some ⟨bq, 0, none⟩) d (N + 1), .slice (some ⟨bq, d + 1, none⟩) (N - d) (N - d)]).run Yba.prog w.drew = .ok (.slice (some ⟨bq, 0, none⟩) N (N + 1)) w1) ∧ DelPost w w1 bq N d Z := by
  obtain ⟨i0, hi, hz0, hz1, hz2⟩ := info_parts Yba.info25
  have hl : (Z.toList.drop (d + 1)).length = N - d := by rw [List.length_drop, Array.length_toList, hZ]; omega
  refine ⟨w.drew.setRow bq (Z.toList.take d ++ Z.toList.drop (d + 1) ++ Z.toList.drop (d + (N - d))).toArray, fun ty => ?_, ⟨_, ?_, setRow_heap w.drew bq Z _ 25 (0, 0) hh, fun j hj => ?_, by simp [World.setRow], ⟨rfl, rfl, rfl, by simp [World.setRow], fun k _ hk => setRow_other w.drew bq k _ (fun e => hk (by rw [e]))⟩⟩⟩
  · have := run_append_room (P := Yba.prog) w.drew 24 ty 25 i0 Yba.underlying24 hi bq d (N + 1) Z hh ⟨bq, d + 1, none⟩ (N - d) (N - d) (Z.toList.drop (d + 1)) (by rw [hz1, hl]; omega)
      (fun j u hj => by
        rw [Addr.add_lit]
        show w.cell? _ = _
        have : Z[d + 1 + j]? = some u := by rw [List.getElem?_drop] at hj; simpa using hj
        simp [World.cell?, hh, this])
      (fun u hu => by
        obtain ⟨j, hj⟩ := List.getElem?_of_mem hu
        rw [List.getElem?_drop] at hj
        exact hone (d + 1 + j) u (by simpa using hj))
      (by omega) (by rw [hz1, hl]; omega)
    rw [this, hz1, Nat.mul_one, hl, show d + (N - d) = N by omega]
  · simp only [List.size_toArray, List.length_append, hl, List.length_take, List.length_drop, Array.length_toList, hZ]
    omega
  · have hlt : (Z.toList.take d).length = d := by rw [List.length_take, Array.length_toList, hZ]; omega
    rw [List.getElem?_toArray, List.append_assoc]
    by_cases e : j < d
    · rw [if_pos e, List.getElem?_append_left (by omega), List.getElem?_take, if_pos e]
      simp
    · rw [if_neg e, List.getElem?_append_right (by omega), hlt, List.getElem?_append_left (by omega), List.getElem?_drop, show d + 1 + (j - d) = j + 1 by omega]
      simp

/-- 'clear(s[N:N+1])'. -/
theorem del_clear {w w1 : World} {bq N d : Nat} {Z : Array Value} (h : DelPost w w1 bq N d Z) :
    ∃ w2, (∀ ty, (Builtin.clear_ #[24] ty #[.slice (some ⟨bq, N, none⟩) 1 1]).run Yba.prog w1 = .ok (.tuple #[]) w2) ∧ DelPost w w2 bq N d Z := by
  obtain ⟨Z', h1, h2, h3, h4, h5⟩ := h
  refine ⟨w1.setCell ⟨bq, N, none⟩ (.pointer none), fun ty => ?_, _, ?_, row_set h2 _, fun j hj => ?_, by simpa [World.setCell] using h4, ⟨h5.os, h5.tape, h5.output, by simpa [World.setCell] using h5.size, fun k hk hne => ?_⟩⟩
  · exact Lib.run_clear_slice w1 24 25 ty (.pointer none) Yba.underlying24 zero25 rfl rfl bq N 1 1 (by decide) (fun j hj => by rw [show N + j = N by omega, cell_row h2 (show N < Z'.size by omega)]; rfl) (fun j _ => free_row h2)
  · simpa using h1
  · rw [Array.getElem?_setIfInBounds_ne (by omega)]
    exact h3 j hj
  · rw [Below.heap_setCell _ _ _ _ (fun e => hne (by rw [e]))]
    exact h5.block k hk hne

/-- An append inside a region that draws, by its run. -/
theorem step_append_run {P : Program} {ops : Array Oper} {o : Oper} {a : Act} {w : World} {K : Act → World → Prop} {Q : Exit → Act → World → Prop} {E : Prop}
    (hg : o.guard = none) (s x : Operand) (t : TypeId) (hop : o.op = Op.call { callee := Callee.builtin Builtin.append, args := #[s, x], argTypes := #[t, t] })
    (vs vx v : Value) (w1 : World) (hs : a.eval s = vs) (hx : a.eval x = vx) (hrun : ∀ ty, (Builtin.append_ #[t, t] ty #[vs, vx]).run P w = .ok v w1) (hK : K (a.put o.dst v) w1) :
    if Region.wanted o (yielded ops a.tmps) = true then Oper.wp P o a w K Q else E := by
  have hw : Region.wanted o (yielded ops a.tmps) = true := by simp [Region.wanted, hg]
  rw [if_pos hw]
  have hr := hrun o.type
  unfold Oper.wp
  simp [execOp, hop, resolve, invoke, builtin, hs, hx, hr, Result.andThen]
  exact hK

set_option maxHeartbeats 1000000 in
theorem del_mid (bq N d : Nat) (Z : Array Value) (w : World) (hN : N ≤ 4096) (hd : d < N) (hh : w.heap[bq]? = some (.cells Z 25 (0, 0))) (hZ : Z.size = N + 1) (hone : ∀ (j : Nat) (v : Value), Z[j]? = some v → v.oneCell' = true) :
    Calls Yba.prog 6 #[.slice (some ⟨bq, 0, none⟩) (N + 1) (N + 1), .int .i64 d, .int .i64 (d + 1)] w fun e w' => e = .returned (.slice (some ⟨bq, 0, none⟩) N (N + 1)) ∧ DelPost w w' bq N d Z := by
  obtain ⟨w1, happ, hp1⟩ := del_app hh hZ hone hd
  obtain ⟨w2, hclr, hp2⟩ := del_clear hp1
  have HP : Hid (DelPost w w2 bq N d Z) := hp2
  have hdd : ((d : Int) == (d : Int) + 1) = false := by rw [beq_eq_false_iff_ne]; omega
  have hdN : ¬ N + 1 = d + 1 := by omega
  have hdN' : ¬ N = d := by omega
  have hb1 : (d : Int) ≤ (N : Int) + 1 := by omega
  have hb3 : (0 : Int) ≤ (d : Int) + 1 := by omega
  have hb4 : (d : Int) + 1 ≤ (N : Int) + 1 := by omega
  have hb5 : ((d : Int) + 1).toNat = d + 1 := by omega
  clear hp1 hp2 hh hone hZ
  go_enter Yba.func6, Yba.ntmps6
  go_wp2
  go_region_law (refine step_append_run rfl (.tmp 22) (.tmp 25) 24 rfl _ _ _ w1 (by simp [Act.eval, Act.put]) (by simp [Act.eval, Act.put]) happ ?_)
  go_wp2
  go_ret
  exact ⟨rfl, HP.out⟩

set_option maxHeartbeats 1000000 in
theorem del_last (bq N : Nat) (Z : Array Value) (w : World) (hN : N ≤ 4096) (hh : w.heap[bq]? = some (.cells Z 25 (0, 0))) (hZ : Z.size = N + 1) :
    Calls Yba.prog 6 #[.slice (some ⟨bq, 0, none⟩) (N + 1) (N + 1), .int .i64 N, .int .i64 (N + 1)] w fun e w' => e = .returned (.slice (some ⟨bq, 0, none⟩) N (N + 1)) ∧ DelPost w w' bq N N Z := by
  have hp1 : DelPost w w.drew bq N N Z := ⟨Z, hZ, hh, fun j hj => by rw [if_pos hj], rfl, ⟨rfl, rfl, rfl, Nat.le_refl _, fun _ _ _ => rfl⟩⟩
  obtain ⟨w2, hclr, hp2⟩ := del_clear hp1
  have HP : Hid (DelPost w w2 bq N N Z) := hp2
  have hdd : ((N : Int) == (N : Int) + 1) = false := by rw [beq_eq_false_iff_ne]; omega
  clear hp1 hp2 hh hZ
  go_enter Yba.func6, Yba.ntmps6
  go_wp2
  go_region
  go_wp2
  go_ret
  exact ⟨rfl, HP.out⟩
end Go.Proofs.Ybulkcpgq
