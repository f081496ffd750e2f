import Derived.Test.YbulkcpfoRows
import Derived.WalkKit
import Derived.WalkSpells
import Derived.WalkLawsBesides
import Derived.RegionTactic
import Derived.Maps.AppendAt
namespace Go.Proofs.Ybulkcpfo
open Go.RowKit

theorem Yba.info9 : (Yba.prog.info? 9).map (fun i => (i.zero, i.size, i.bytes)) = some (some (.string ByteArray.empty), 1, 16) := by kernel_rfl

/-- What the recs hold: name, ok, value, round. -/
structure RecsAt (w : World) (b off m : Nat) (Nm : Nat → ByteArray) (Ok : Nat → Bool) (Va Ro : Nat → Int) : Prop where
  name : ∀ i, i < m → w.cell? ⟨b, off + i * 4, none⟩ = some (.string (Nm i))
  ok : ∀ i, i < m → w.cell? ⟨b, off + i * 4 + 1, none⟩ = some (.bool (Ok i))
  val : ∀ i, i < m → w.cell? ⟨b, off + i * 4 + 2, none⟩ = some (.int .i64 (Va i))
  round : ∀ i, i < m → w.cell? ⟨b, off + i * 4 + 3, none⟩ = some (.int .i64 (Ro i))

/-- 'append(log, name)', log nil: the very slice. -/
theorem wpList_append_first {P : Program} (w : World) {ops : Array Oper} {rest : List Oper} {o : Oper} {a : Act} {Q : Exit → Act → World → Prop} (hgd : o.guard = none) (s x : Operand) (t : TypeId)
    (ho : o.op = .call { callee := .builtin .append, args := #[s, x], argTypes := #[t, t] })
    (base : Nat) (e : TypeId) (i : TypeInfo) (z : Value) (bytes : Nat) (ht : P.underlying t = some (.slice e)) (hi : P.info? e = some i) (hz : i.zero = some z)
    (hsize : i.size = 1) (hby : i.bytes = bytes) (hzs : z.cells.size = 1)
    (hs : a.eval s = .slice none 0 0) (ad : Addr) (c : Nat) (v : Value) (hx : a.eval x = .slice (some ad) 1 c) (hnews : w.cell? (ad.add 0) = some v) (h1 : v.oneCell' = true)
    (hbytes : bytes ≤ 140737488355328) (hbase : base ≤ w.heap.size)
    (h : ∀ g cap w', base ≤ g → g < w'.heap.size → w'.cell? ⟨g, 0, none⟩ = some v → w.grownBy w' none → wpList P ops Q rest (a.put o.dst (.slice (some ⟨g, 0, none⟩) 1 cap)) w') : wpList P ops Q (o :: rest) a w := by
  refine wpList_append_own w hgd s x t ho base e i z 1 bytes ht hi hz hsize hby hzs (by decide) _ 0 [] hs (World.ownsRow_nil _ _ _ _) ad 1 c [v] hx rfl ?_ ?_ (by unfold maxLen; omega) (by omega) hbase ?_
  · intro j u hj
    match j, hj with
    | 0, hj => simp at hj; subst hj; exact hnews
  · intro u hu
    simp at hu
    rw [hu, h1]
  · intro v' w' hown hg hnil
    rcases hown.2 with ⟨rfl, hn⟩ | ⟨g, cap, cur, rfl, hbg, hh, _⟩
    · exact absurd hn (by decide)
    · have := hown.cells (g := g) rfl 0 v rfl
      rw [Addr.add_lit] at this
      exact h g cap w' hbg (Array.getElem?_eq_some_iff.1 hh).1 this hg

/-- What the closure leaves: the log holds the name; nothing else that was there has turned. -/
def ClosPost (q : ByteArray) (lb : Nat) (w w' : World) : Prop :=
  ∃ g cp, w'.heap[lb]? = some (.cells #[.slice (some ⟨g, 0, none⟩) 1 cp] 51 (0, 0)) ∧ w'.cell? ⟨g, 0, none⟩ = some (.string q) ∧ w.heap.size ≤ g ∧ g < w'.heap.size ∧ w.grownBy w' (some lb)

theorem clos_old {w w1 : World} {q : ByteArray} (hgr : ((w.alloc (.cells #[.int .i64 0, .int .i64 0] 44)).alloc (.cells #[.string q] 9)).grownBy w1 none) :
    (∀ k, k < w.heap.size → w1.heap[k]? = w.heap[k]?) ∧ w1.heap[w.heap.size]? = some (.cells #[.int .i64 0, .int .i64 0] 44 (0, 0)) ∧ w.heap.size + 2 ≤ w1.heap.size := by
  have hs := hgr.size
  simp at hs
  refine ⟨fun k hk => ?_, ?_, by omega⟩
  · rw [hgr.block k (by simp; omega) (by simp), Below.heap_alloc _ _ _ (by simp; omega), Below.heap_alloc _ _ _ hk]
  · rw [hgr.block w.heap.size (by simp; omega) (by simp), Below.heap_alloc _ _ _ (by simp)]
    exact heap_alloc_new w _

theorem ClosPost.drew {q : ByteArray} {lb : Nat} {w w' : World} (h : ClosPost q lb w w') : ClosPost q lb w w'.drew := by
  obtain ⟨g, cp, h1, h2, h3, h4, h5⟩ := h
  exact ⟨g, cp, h1, h2, h3, h4, ⟨h5.os, h5.tape, h5.output, h5.size, h5.block⟩⟩

theorem clos_fin {w w1 : World} {q : ByteArray} {lb g cp : Nat} (hlt : lb < w.heap.size) (hg : w.heap.size + 2 ≤ g) (hg1 : g < w1.heap.size) (hc1 : w1.cell? ⟨g, 0, none⟩ = some (.string q))
    (hgr : ((w.alloc (.cells #[.int .i64 0, .int .i64 0] 44)).alloc (.cells #[.string q] 9)).grownBy w1 none) (hb1 : w1.heap[lb]? = some (.cells #[.slice none 0 0] 51 (0, 0))) (x0 x1 : Value) :
    ClosPost q lb w (((w1.setCell ⟨lb, 0, none⟩ (.slice (some ⟨g, 0, none⟩) 1 cp)).setCell ⟨w.heap.size, 0, none⟩ x0).setCell ⟨w.heap.size, 1, none⟩ x1) := by
  obtain ⟨hold, _, hsz⟩ := clos_old hgr
  have key : ∀ k, k ≠ lb → k ≠ w.heap.size → (((w1.setCell ⟨lb, 0, none⟩ (.slice (some ⟨g, 0, none⟩) 1 cp)).setCell ⟨w.heap.size, 0, none⟩ x0).setCell ⟨w.heap.size, 1, none⟩ x1).heap[k]? = w1.heap[k]? := by
    intro k h1 h2
    rw [Below.heap_setCell _ _ _ _ h2, Below.heap_setCell _ _ _ _ h2, Below.heap_setCell _ _ _ _ h1]
  refine ⟨g, cp, ?_, ?_, by omega, by simpa [World.setCell] using hg1, ⟨hgr.os, hgr.tape, hgr.output, by simp [World.setCell]; omega, ?_⟩⟩
  · rw [Below.heap_setCell _ _ _ _ (by simp; omega), Below.heap_setCell _ _ _ _ (by simp; omega)]
    exact one_setCell hb1
  · rw [World.cell?_of_block (w := w1) (a := ⟨g, 0, none⟩) (key g (by omega) (by omega))]
    exact hc1
  · intro k hk hne
    rw [key k (fun e => hne (by rw [e])) (by omega)]
    exact hold k hk

set_option maxHeartbeats 1000000 in
theorem clos_hit (q : ByteArray) (lb rb b off m cap k0 : Nat) (Nm : Nat → ByteArray) (Ok : Nat → Bool) (Va Ro : Nat → Int) (w : World) (hm : m ≤ 1024)
    (hl : w.heap[lb]? = some (.cells #[.slice none 0 0] 51 (0, 0))) (hr : w.cell? ⟨rb, 0, none⟩ = some (.slice (some ⟨b, off, none⟩) m cap)) (hR : RecsAt w b off m Nm Ok Va Ro) (hlr : lb ≠ rb) (hlb : lb ≠ b)
    (hk0 : k0 < m) (hno : ∀ j, j < k0 → ((Nm j).toList == q.toList) = false) (hyes : ((Nm k0).toList == q.toList) = true) :
    Calls Yba.prog 4 #[.string q, .pointer (some ⟨lb, 0, none⟩), .pointer (some ⟨rb, 0, none⟩)] w fun e w' => e = .returned (.tuple #[.agg #[.int .i64 (Va k0), .int .i64 (Ro k0)], .bool (Ok k0)]) ∧ ClosPost q lb w w' := by
  obtain ⟨i0, hi, hz0, hz1, hz2⟩ := info_parts Yba.info9
  have hlt : lb < w.heap.size := lt_of_block hl
  have hl0 := cell_of_one hl
  have hl1 := free_of_one hl
  have hrb : rb < w.heap.size := World.block_lt_of_cell? w _ hr
  have hbb : b < w.heap.size := World.block_lt_of_cell? w _ (hR.name 0 (by omega))
  go_enter Yba.func4, Yba.ntmps4
  go_wp2_with (at_builtin; refine wpList_append_first _ rfl _ _ 51 rfl (w.heap.size + 2) 9 i0 (.string ByteArray.empty) 16 Yba.underlying51 hi hz0 hz1 hz2 rfl rfl ⟨w.heap.size + 1, 0, none⟩ 1 (.string q) rfl ?_ rfl (by decide) ?_ ?_; (simp [Addr.add]); simp; intro g cp w1 hg hg1 hc1 hgr; obtain ⟨hold, hres, hsz⟩ := clos_old hgr; have hb1 := (hold lb hlt).trans hl; have hl0' := cell_of_one hb1; have hl1' := free_of_one hb1; have hr1 := (World.cell?_of_block (w := w) (a := ⟨rb, 0, none⟩) (hold rb hrb)).trans hr; clear hr hl0 hl1)
  go_loop [13] (fun i => ∃ k : Nat, k ≤ k0 ∧ i = .int .i64 k) (fun i => k0 - (intOf i).toNat)
  case atStart => exact ⟨0, Nat.zero_le _, rfl⟩
  case round =>
    obtain ⟨k, hk, rfl⟩ := hrel
    have cn := (World.cell?_of_block (w := w) (a := ⟨b, off + k * 4, none⟩) (hold b hbb)).trans (hR.name k (by omega))
    by_cases hkk : k < k0
    · have hne := hno k hkk
      clear hR hno hyes hold hres
      go_wp2
      go_round
      case rel => exact ⟨k + 1, hkk, by go_num⟩
      case measure => simp [intOf]; omega
    · obtain rfl : k0 = k := by omega
      have c1 := (World.cell?_of_block (w := w) (a := ⟨b, off + k0 * 4 + 1, none⟩) (hold b hbb)).trans (hR.ok k0 (by omega))
      have c2 := (World.cell?_of_block (w := w) (a := ⟨b, off + k0 * 4 + 2, none⟩) (hold b hbb)).trans (hR.val k0 (by omega))
      have c3 := (World.cell?_of_block (w := w) (a := ⟨b, off + k0 * 4 + 3, none⟩) (hold b hbb)).trans (hR.round k0 (by omega))
      have r0 : w1.cell? ⟨w.heap.size, 0, none⟩ = some (.int .i64 0) := by simp [World.cell?, hres]
      have r1 : w1.cell? ⟨w.heap.size, 1, none⟩ = some (.int .i64 0) := by simp [World.cell?, hres]
      have f0 : w1.frozen? ⟨w.heap.size, 0, none⟩ = false := by simp [World.frozen?, hres]
      have f1 : w1.frozen? ⟨w.heap.size, 1, none⟩ = false := by simp [World.frozen?, hres]
      clear hR hno hold hres
      go_wp2
      go_region
      go_wp2
      exact bodyPost_ret (v := .tuple #[.agg #[.int .i64 (Va k0), .int .i64 (Ro k0)], .bool (Ok k0)]) (by simp [results, Yba.results4, go_sem, r0, r1]) rfl ⟨rfl, (clos_fin hlt hg hg1 hc1 hgr hb1 _ _).drew⟩

set_option maxHeartbeats 1000000 in
theorem clos_miss (q : ByteArray) (lb rb b off m cap : Nat) (Nm : Nat → ByteArray) (Ok : Nat → Bool) (Va Ro : Nat → Int) (w : World) (hm : m ≤ 1024)
    (hl : w.heap[lb]? = some (.cells #[.slice none 0 0] 51 (0, 0))) (hr : w.cell? ⟨rb, 0, none⟩ = some (.slice (some ⟨b, off, none⟩) m cap)) (hR : RecsAt w b off m Nm Ok Va Ro) (hlr : lb ≠ rb) (hlb : lb ≠ b)
    (hno : ∀ j, j < m → ((Nm j).toList == q.toList) = false) :
    Calls Yba.prog 4 #[.string q, .pointer (some ⟨lb, 0, none⟩), .pointer (some ⟨rb, 0, none⟩)] w fun e w' => e = .returned (.tuple #[.agg #[.int .i64 0, .int .i64 0], .bool false]) ∧ ClosPost q lb w w' := by
  obtain ⟨i0, hi, hz0, hz1, hz2⟩ := info_parts Yba.info9
  have hlt : lb < w.heap.size := lt_of_block hl
  have hl0 := cell_of_one hl
  have hl1 := free_of_one hl
  have hrb : rb < w.heap.size := World.block_lt_of_cell? w _ hr
  go_enter Yba.func4, Yba.ntmps4
  go_wp2_with (at_builtin; refine wpList_append_first _ rfl _ _ 51 rfl (w.heap.size + 2) 9 i0 (.string ByteArray.empty) 16 Yba.underlying51 hi hz0 hz1 hz2 rfl rfl ⟨w.heap.size + 1, 0, none⟩ 1 (.string q) rfl ?_ rfl (by decide) ?_ ?_; (simp [Addr.add]); simp; intro g cp w1 hg hg1 hc1 hgr; obtain ⟨hold, hres, hsz⟩ := clos_old hgr; have hb1 := (hold lb hlt).trans hl; have hl0' := cell_of_one hb1; have hl1' := free_of_one hb1; have hr1 := (World.cell?_of_block (w := w) (a := ⟨rb, 0, none⟩) (hold rb hrb)).trans hr; clear hr hl0 hl1)
  go_loop [13] (fun i => ∃ k : Nat, k ≤ m ∧ i = .int .i64 k) (fun i => m - (intOf i).toNat)
  case atStart => exact ⟨0, Nat.zero_le _, rfl⟩
  case round =>
    obtain ⟨k, hk, rfl⟩ := hrel
    by_cases hkk : k < m
    · have hbb : b < w.heap.size := World.block_lt_of_cell? w _ (hR.name k hkk)
      have cn := (World.cell?_of_block (w := w) (a := ⟨b, off + k * 4, none⟩) (hold b hbb)).trans (hR.name k hkk)
      have hne := hno k hkk
      clear hR hno hold hres
      go_wp2
      go_round
      case rel => exact ⟨k + 1, hkk, by go_num⟩
      case measure => simp [intOf]; omega
    · have r0 : w1.cell? ⟨w.heap.size, 0, none⟩ = some (.int .i64 0) := by simp [World.cell?, hres]
      have r1 : w1.cell? ⟨w.heap.size, 1, none⟩ = some (.int .i64 0) := by simp [World.cell?, hres]
      have f0 : w1.frozen? ⟨w.heap.size, 0, none⟩ = false := by simp [World.frozen?, hres]
      have f1 : w1.frozen? ⟨w.heap.size, 1, none⟩ = false := by simp [World.frozen?, hres]
      clear hR hno hold hres
      go_wp2
      exact bodyPost_ret (v := .tuple #[.agg #[.int .i64 0, .int .i64 0], .bool false]) (by simp [results, Yba.results4, go_sem, r0, r1]) rfl ⟨rfl, (clos_fin hlt hg hg1 hc1 hgr hb1 _ _)⟩
set_option maxHeartbeats 1000000 in
theorem clos_zero (q : ByteArray) (lb rb cap : Nat) (ar : Option Addr) (w : World)
    (hl : w.heap[lb]? = some (.cells #[.slice none 0 0] 51 (0, 0))) (hr : w.cell? ⟨rb, 0, none⟩ = some (.slice ar 0 cap)) (hlr : lb ≠ rb) :
    Calls Yba.prog 4 #[.string q, .pointer (some ⟨lb, 0, none⟩), .pointer (some ⟨rb, 0, none⟩)] w fun e w' => e = .returned (.tuple #[.agg #[.int .i64 0, .int .i64 0], .bool false]) ∧ ClosPost q lb w w' := by
  obtain ⟨i0, hi, hz0, hz1, hz2⟩ := info_parts Yba.info9
  have hlt : lb < w.heap.size := lt_of_block hl
  have hl0 := cell_of_one hl
  have hl1 := free_of_one hl
  have hrb : rb < w.heap.size := World.block_lt_of_cell? w _ hr
  go_enter Yba.func4, Yba.ntmps4
  go_wp2_with (at_builtin; refine wpList_append_first _ rfl _ _ 51 rfl (w.heap.size + 2) 9 i0 (.string ByteArray.empty) 16 Yba.underlying51 hi hz0 hz1 hz2 rfl rfl ⟨w.heap.size + 1, 0, none⟩ 1 (.string q) rfl ?_ rfl (by decide) ?_ ?_; (simp [Addr.add]); simp; intro g cp w1 hg hg1 hc1 hgr; obtain ⟨hold, hres, hsz⟩ := clos_old hgr; have hb1 := (hold lb hlt).trans hl; have hl0' := cell_of_one hb1; have hl1' := free_of_one hb1; have hr1 := (World.cell?_of_block (w := w) (a := ⟨rb, 0, none⟩) (hold rb hrb)).trans hr; clear hr hl0 hl1)
  refine wp_loop_rounds 1 ?_
  rw [rounds_succ]
  have r0 : w1.cell? ⟨w.heap.size, 0, none⟩ = some (.int .i64 0) := by simp [World.cell?, hres]
  have r1 : w1.cell? ⟨w.heap.size, 1, none⟩ = some (.int .i64 0) := by simp [World.cell?, hres]
  have f0 : w1.frozen? ⟨w.heap.size, 0, none⟩ = false := by simp [World.frozen?, hres]
  have f1 : w1.frozen? ⟨w.heap.size, 1, none⟩ = false := by simp [World.frozen?, hres]
  clear hold hres
  go_wp2
  exact bodyPost_ret (v := .tuple #[.agg #[.int .i64 0, .int .i64 0], .bool false]) (by simp [results, Yba.results4, go_sem, r0, r1]) rfl ⟨rfl, (clos_fin hlt hg hg1 hc1 hgr hb1 _ _)⟩
end Go.Proofs.Ybulkcpfo
