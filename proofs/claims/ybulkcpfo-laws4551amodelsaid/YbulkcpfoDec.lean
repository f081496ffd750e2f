import Derived.Test.YbulkcpfoClos
import Derived.Maps.OwnSet
import Derived.Laws.EntriesVeiled
namespace Go.Proofs.Ybulkcpfo
open Go.RowKit

theorem neq_nil (w : World) : (binOp .neq 34 .nilFunc .nilFunc).run Yba.prog w = .ok (.bool false) w := by kernel_rfl
theorem neq_fn (w : World) (f : Fn) (a b : Array Value) : (binOp .neq 34 (.func f a b) .nilFunc).run Yba.prog w = .ok (.bool true) w := by kernel_rfl

set_option maxHeartbeats 1000000 in
theorem dec_broken (q : ByteArray) (bn bm : Nat) (v : Option Addr) (okb : Bool) (w : World)
    (c9 : w.cell? ⟨bn, 9, none⟩ = some (.map (some bm))) (c8 : w.cell? ⟨bn, 8, none⟩ = some (.bool true)) (hbn : bn < w.heap.size)
    (hlk : ∀ o, (Instr.lookup 27 (.map (some bm)) (.string q) true).run Yba.prog (w.alloc o) = .ok (.tuple #[.pointer v, .bool okb]) (w.alloc o)) :
    Calls Yba.prog 5 #[.pointer (some ⟨bn, 0, none⟩), .string q] w fun e w' => e = .returned (.tuple #[.agg #[.int .i64 0, .int .i64 0], .bool false]) ∧ Below w.heap.size w w' := by
  go_enter Yba.func5, Yba.ntmps5
  go_wp2
  exact bodyPost_ret (v := .tuple #[.agg #[.int .i64 0, .int .i64 0], .bool false]) (by simp [results, Yba.results5, go_sem]) rfl ⟨rfl, (Below.refl _ _).alloc (Nat.le_refl _) _⟩

set_option maxHeartbeats 1000000 in
theorem dec_none (q : ByteArray) (bn bm : Nat) (v : Option Addr) (w : World)
    (c9 : w.cell? ⟨bn, 9, none⟩ = some (.map (some bm))) (c8 : w.cell? ⟨bn, 8, none⟩ = some (.bool false)) (c6 : w.cell? ⟨bn, 6, none⟩ = some .nilFunc) (hbn : bn < w.heap.size)
    (hlk : ∀ o, (Instr.lookup 27 (.map (some bm)) (.string q) true).run Yba.prog (w.alloc o) = .ok (.tuple #[.pointer v, .bool false]) (w.alloc o)) :
    Calls Yba.prog 5 #[.pointer (some ⟨bn, 0, none⟩), .string q] w fun e w' => e = .returned (.tuple #[.agg #[.int .i64 0, .int .i64 0], .bool false]) ∧ Below w.heap.size w w' := by
  have hn := neq_nil
  go_enter Yba.func5, Yba.ntmps5
  go_wp2
  exact bodyPost_ret (v := .tuple #[.agg #[.int .i64 0, .int .i64 0], .bool false]) (by simp [results, Yba.results5, go_sem]) rfl ⟨rfl, (Below.refl _ _).alloc (Nat.le_refl _) _⟩

set_option maxHeartbeats 1000000 in
theorem dec_und (q : ByteArray) (bn bm I : Nat) (w : World)
    (c9 : w.cell? ⟨bn, 9, none⟩ = some (.map (some bm))) (c8 : w.cell? ⟨bn, 8, none⟩ = some (.bool false)) (hbn : bn < w.heap.size) (hI : I < w.heap.size) (ci : w.cell? ⟨I, 1, none⟩ = some (.pointer none))
    (hlk : ∀ o, (Instr.lookup 27 (.map (some bm)) (.string q) true).run Yba.prog (w.alloc o) = .ok (.tuple #[.pointer (some ⟨I, 0, none⟩), .bool true]) (w.alloc o)) :
    Calls Yba.prog 5 #[.pointer (some ⟨bn, 0, none⟩), .string q] w fun e w' => e = .returned (.tuple #[.agg #[.int .i64 0, .int .i64 0], .bool false]) ∧ Below w.heap.size w w' := by
  go_enter Yba.func5, Yba.ntmps5
  go_wp2
  exact bodyPost_ret (v := .tuple #[.agg #[.int .i64 0, .int .i64 0], .bool false]) (by simp [results, Yba.results5, go_sem]) rfl ⟨rfl, (Below.refl _ _).alloc (Nat.le_refl _) _⟩

set_option maxHeartbeats 1000000 in
theorem dec_yes (q : ByteArray) (bn bm I d : Nat) (va ro : Int) (w : World)
    (c9 : w.cell? ⟨bn, 9, none⟩ = some (.map (some bm))) (c8 : w.cell? ⟨bn, 8, none⟩ = some (.bool false)) (hbn : bn < w.heap.size) (hI : I < w.heap.size) (hd : d < w.heap.size) (ci : w.cell? ⟨I, 1, none⟩ = some (.pointer (some ⟨d, 0, none⟩)))
    (cd0 : w.cell? ⟨d, 0, none⟩ = some (.int .i64 va)) (cd1 : w.cell? ⟨d, 1, none⟩ = some (.int .i64 ro))
    (hlk : ∀ o, (Instr.lookup 27 (.map (some bm)) (.string q) true).run Yba.prog (w.alloc o) = .ok (.tuple #[.pointer (some ⟨I, 0, none⟩), .bool true]) (w.alloc o)) :
    Calls Yba.prog 5 #[.pointer (some ⟨bn, 0, none⟩), .string q] w fun e w' => e = .returned (.tuple #[.agg #[.int .i64 va, .int .i64 ro], .bool true]) ∧ Below w.heap.size w w' := by
  go_enter Yba.func5, Yba.ntmps5
  go_wp2
  exact bodyPost_ret (v := .tuple #[.agg #[.int .i64 va, .int .i64 ro], .bool true]) (by simp [results, Yba.results5, go_sem]) rfl ⟨rfl, (Below.refl _ _).alloc (Nat.le_refl _) _⟩

theorem rec_res {q : ByteArray} {lb : Nat} {w w1 : World} (hlb : lb < w.heap.size) (h : ClosPost q lb (w.alloc (.cells #[.int .i64 0, .int .i64 0] 44)) w1) : w1.heap[w.heap.size]? = some (.cells #[.int .i64 0, .int .i64 0] 44 (0, 0)) := by
  obtain ⟨g, cp, _, _, _, _, hg⟩ := h
  rw [hg.block w.heap.size (by simp) (by simp; omega)]
  exact heap_alloc_new w _

theorem rec_fin {q : ByteArray} {lb : Nat} {w w1 : World} (hlb : lb < w.heap.size) (h : ClosPost q lb (w.alloc (.cells #[.int .i64 0, .int .i64 0] 44)) w1) (x0 x1 : Value) :
    ClosPost q lb w ((w1.setCell ⟨w.heap.size, 0, none⟩ x0).setCell ⟨w.heap.size, 1, none⟩ x1) := by
  obtain ⟨g, cp, h1, h2, h3, h4, hg⟩ := h
  have hs := hg.size
  simp at h3 hs
  have key : ∀ k, k ≠ w.heap.size → ((w1.setCell ⟨w.heap.size, 0, none⟩ x0).setCell ⟨w.heap.size, 1, none⟩ x1).heap[k]? = w1.heap[k]? := fun k hk => by
    rw [Below.heap_setCell _ _ _ _ hk, Below.heap_setCell _ _ _ _ hk]
  refine ⟨g, cp, (key lb (by omega)).trans h1, (World.cell?_of_block (w := w1) (a := ⟨g, 0, none⟩) (key g (by omega))).trans h2, by omega, by simpa [World.setCell] using h4, ⟨hg.os, hg.tape, hg.output, by simp [World.setCell]; omega, fun k hk hne => ?_⟩⟩
  rw [key k (by omega), hg.block k (by simp; omega) hne, Below.heap_alloc _ _ _ hk]

set_option maxHeartbeats 1000000 in
theorem dec_rec (q : ByteArray) (bn bm lb rb : Nat) (v : Option Addr) (w : World) (va ro : Int) (ok : Bool)
    (c9 : w.cell? ⟨bn, 9, none⟩ = some (.map (some bm))) (c8 : w.cell? ⟨bn, 8, none⟩ = some (.bool false)) (c6 : w.cell? ⟨bn, 6, none⟩ = some (.func (.func 4) #[] #[.pointer (some ⟨lb, 0, none⟩), .pointer (some ⟨rb, 0, none⟩)])) (hbn : bn < w.heap.size) (hlb : lb < w.heap.size)
    (hlk : ∀ o, (Instr.lookup 27 (.map (some bm)) (.string q) true).run Yba.prog (w.alloc o) = .ok (.tuple #[.pointer v, .bool false]) (w.alloc o))
    (hcl : ∀ o, Calls Yba.prog 4 #[.string q, .pointer (some ⟨lb, 0, none⟩), .pointer (some ⟨rb, 0, none⟩)] (w.alloc o) fun e w' => e = .returned (.tuple #[.agg #[.int .i64 va, .int .i64 ro], .bool ok]) ∧ ClosPost q lb (w.alloc o) w') :
    Calls Yba.prog 5 #[.pointer (some ⟨bn, 0, none⟩), .string q] w fun e w' => e = .returned (.tuple #[.agg #[.int .i64 va, .int .i64 ro], .bool ok]) ∧ ClosPost q lb w w' := by
  have hn := neq_fn
  have HC : Hid (∀ o, Calls Yba.prog 4 #[.string q, .pointer (some ⟨lb, 0, none⟩), .pointer (some ⟨rb, 0, none⟩)] (w.alloc o) fun e w' => e = .returned (.tuple #[.agg #[.int .i64 va, .int .i64 ro], .bool ok]) ∧ ClosPost q lb (w.alloc o) w') := hcl
  clear hcl
  go_enter Yba.func5, Yba.ntmps5
  go_wp2_with fail
  refine (HC.out _).mono ?_
  rintro e w1 ⟨rfl, hp⟩
  have hres := rec_res hlb hp
  have r0 : w1.cell? ⟨w.heap.size, 0, none⟩ = some (.int .i64 0) := by simp [World.cell?, hres]
  have r1 : w1.cell? ⟨w.heap.size, 1, none⟩ = some (.int .i64 0) := by simp [World.cell?, hres]
  have f0 : w1.frozen? ⟨w.heap.size, 0, none⟩ = false := by simp [World.frozen?, hres]
  have f1 : w1.frozen? ⟨w.heap.size, 1, none⟩ = false := by simp [World.frozen?, hres]
  clear hres HC
  go_wp2
  exact bodyPost_ret (v := .tuple #[.agg #[.int .i64 va, .int .i64 ro], .bool ok]) (by simp [results, Yba.results5, go_sem, r0, r1]) rfl ⟨rfl, rec_fin hlb hp _ _⟩
end Go.Proofs.Ybulkcpfo
