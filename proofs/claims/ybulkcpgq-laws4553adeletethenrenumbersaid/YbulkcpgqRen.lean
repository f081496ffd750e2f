import Derived.Test.YbulkcpgqRows
import Derived.WalkKit
import Derived.WalkSpells
import Derived.WalkLawsBesides
namespace Go.Proofs.Ybulkcpgq
open Go.RowKit

theorem cell_row {w : World} {b j : Nat} {C : Array Value} {t : TypeId} (h : w.heap[b]? = some (.cells C t (0, 0))) (hj : j < C.size) : w.cell? ⟨b, j, none⟩ = some C[j] := by
  simp [World.cell?, h, hj]
theorem free_row {w : World} {b j : Nat} {C : Array Value} {t : TypeId} (h : w.heap[b]? = some (.cells C t (0, 0))) : w.frozen? ⟨b, j, none⟩ = false := by
  simp [World.frozen?, h]
theorem row_set {w : World} {b j : Nat} {C : Array Value} {t : TypeId} (h : w.heap[b]? = some (.cells C t (0, 0))) (v : Value) : (w.setCell ⟨b, j, none⟩ v).heap[b]? = some (.cells (C.setIfInBounds j v) t (0, 0)) := by
  rw [setCell_eq_setRow w b j C t (0, 0) v h]
  exact setRow_heap w b C _ t _ h

/-- A request's cells: arrival, key, at. -/
def reqC (key : ByteArray) (arr : Int) (at_ : Int) : Array Value := #[.pointer none, .string key, .int .u8 0, .bool false, .int .u64 arr, .chan none, .pointer none, .int .i64 at_]

theorem reqC_set (key : ByteArray) (arr a b : Int) : (reqC key arr a).setIfInBounds 7 (.int .i64 b) = reqC key arr b := rfl

/-- From w to w': of the requests R 0 .. R (N - 1) those from lo up to hi know their place; nothing else has turned. -/
structure Ren (w w' : World) (R : Nat → Nat) (K : Nat → ByteArray) (A T : Nat → Int) (N lo hi : Nat) : Prop where
  os : w'.os = w.os
  tape : w'.tape = w.tape
  output : w'.output = w.output
  size : w'.heap.size = w.heap.size
  req : ∀ j, j < N → w'.heap[R j]? = some (.cells (reqC (K j) (A j) (if lo ≤ j ∧ j < hi then j else T j)) 32 (0, 0))
  other : ∀ b, (∀ j, j < N → b ≠ R j) → w'.heap[b]? = w.heap[b]?

theorem Ren.start {w : World} {R : Nat → Nat} {K : Nat → ByteArray} {A T : Nat → Int} {N : Nat} (lo : Nat) (h : ∀ j, j < N → w.heap[R j]? = some (.cells (reqC (K j) (A j) (T j)) 32 (0, 0))) : Ren w w R K A T N lo lo :=
  ⟨rfl, rfl, rfl, rfl, fun j hj => by rw [if_neg (by omega)]; exact h j hj, fun _ _ => rfl⟩

theorem Ren.step {w w' : World} {R : Nat → Nat} {K : Nat → ByteArray} {A T : Nat → Int} {N lo i : Nat} (h : Ren w w' R K A T N lo i) (hlo : lo ≤ i) (hi : i < N) (inj : ∀ a b, a < N → b < N → R a = R b → a = b) :
    Ren w (w'.setCell ⟨R i, 7, none⟩ (.int .i64 i)) R K A T N lo (i + 1) := by
  refine ⟨h.os, h.tape, h.output, by simpa [World.setCell] using h.size, fun j hj => ?_, fun b hb => ?_⟩
  · by_cases e : j = i
    · subst e
      rw [row_set (h.req j hj), reqC_set, if_pos (by omega)]
    · rw [Below.heap_setCell _ _ _ _ (fun e' => e (inj j i hj hi e')), h.req j hj]
      congr 3
      by_cases h1 : lo ≤ j ∧ j < i
      · rw [if_pos h1, if_pos (by omega)]
      · rw [if_neg h1, if_neg (by omega)]
  · rw [Below.heap_setCell _ _ _ _ (hb i hi)]
    exact h.other b hb

set_option maxHeartbeats 1000000 in
theorem renumber_any (bk bq N cap f : Nat) (R : Nat → Nat) (K : Nat → ByteArray) (A T : Nat → Int) (w : World) (hN : N ≤ 4096)
    (hk : w.cell? ⟨bk, 1, none⟩ = some (.slice (some ⟨bq, 0, none⟩) N cap)) (hp : ∀ j, j < N → w.cell? ⟨bq, j, none⟩ = some (.pointer (some ⟨R j, 0, none⟩)))
    (hr : ∀ j, j < N → w.heap[R j]? = some (.cells (reqC (K j) (A j) (T j)) 32 (0, 0))) (inj : ∀ a b, a < N → b < N → R a = R b → a = b) (hbk : ∀ j, j < N → bk ≠ R j) (hbq : ∀ j, j < N → bq ≠ R j) :
    Calls Yba.prog 5 #[.pointer (some ⟨bk, 0, none⟩), .int .i64 f] w fun e w' => e = .returned (.tuple #[]) ∧ Ren w w' R K A T N f (max f N) := by
  go_enter Yba.func5, Yba.ntmps5
  go_wp2
  go_loopw [4] (fun v wr => ∃ i : Nat, f ≤ i ∧ i ≤ max f N ∧ v = .int .i64 i ∧ Ren w wr R K A T N f i) (fun v _ => max f N - (intOf v).toNat)
  case atStart => exact ⟨f, Nat.le_refl _, by omega, rfl, Ren.start f hr⟩
  case round =>
    obtain ⟨i, hfi, hiN, rfl, hren⟩ := hrel
    have ck := (World.cell?_of_block (w := w) (a := ⟨bk, 1, none⟩) (hren.other bk hbk)).trans hk
    by_cases hlt : i < N
    · have cp := (World.cell?_of_block (w := w) (a := ⟨bq, i, none⟩) (hren.other bq hbq)).trans (hp i hlt)
      have HS : Hid (Ren w (wr.setCell ⟨R i, 7, none⟩ (.int .i64 i)) R K A T N f (i + 1)) := hren.step hfi hlt inj
      have cr := cell_row (hren.req i hlt) (show 7 < 8 by decide)
      have fr := free_row (j := 7) (hren.req i hlt)
      clear hk hp hr inj hbk hbq hren
      go_wp2
      go_roundw
      case rel => exact ⟨i + 1, by omega, by omega, by go_num, HS.out⟩
      case measure => simp [intOf]; omega
    · obtain rfl : i = max f N := by omega
      go_wp2
      go_end0
      exact ⟨rfl, hren⟩
theorem Yba.info25 : (Yba.prog.info? 25).map (fun i => (i.zero, i.size, i.bytes)) = some (some (.pointer none), 1, 8) := by kernel_rfl

theorem own_row {w : World} {base g n : Nat} {xs : List Value} (h : w.ownsRow base 25 1 (.slice (some ⟨g, 0, none⟩) n n) n xs) : ∃ Z : Array Value, Z.size = n ∧ w.heap[g]? = some (.cells Z 25 (0, 0)) := by
  rcases h.2 with ⟨e, _⟩ | ⟨g', cap, cur, e, _, hh, _, _, hs, _⟩
  · cases e
  · injection e with e1 e2 e3
    injection e1 with e1
    injection e1 with e1
    subst e1 e3
    exact ⟨cur, by omega, hh⟩

/-- A row of pointers: its first k lead to the requests that lie from block S on. -/
def Row (w : World) (b S n k : Nat) : Prop := ∃ Z : Array Value, Z.size = n ∧ w.heap[b]? = some (.cells Z 25 (0, 0)) ∧ ∀ j, j < k → Z[j]? = some (.pointer (some ⟨S + j, 0, none⟩))

theorem Row.put {w : World} {b S n k : Nat} (h : Row w b S n k) (hk : k < n) {x : Nat} (hx : x = S + k) : Row (w.setCell ⟨b, k, none⟩ (.pointer (some ⟨x, 0, none⟩))) b S n (k + 1) := by
  subst hx
  obtain ⟨Z, hZ, hh, hz⟩ := h
  refine ⟨_, by simpa using hZ, row_set hh _, fun j hj => ?_⟩
  by_cases e : j = k
  · subst e
    simp [hZ, hk]
  · rw [Array.getElem?_setIfInBounds_ne (by omega)]
    exact hz j (by omega)
theorem Row.kept {w w' : World} {b S n k : Nat} (h : Row w b S n k) (e : w'.heap[b]? = w.heap[b]?) : Row w' b S n k := by
  obtain ⟨Z, hZ, hh, hz⟩ := h
  exact ⟨Z, hZ, e.trans hh, hz⟩
theorem Row.cell {w : World} {b S n k j : Nat} (h : Row w b S n k) (hj : j < k) : w.cell? ⟨b, j, none⟩ = some (.pointer (some ⟨S + j, 0, none⟩)) := by
  obtain ⟨Z, hZ, hh, hz⟩ := h
  simp [World.cell?, hh, hz j hj]

theorem new_at {W : World} {i : Nat} (h : W.heap.size = i) (o : Obj) : (W.alloc o).heap[i]? = some o := by
  subst h
  exact heap_alloc_new W o

theorem Ren.below {w w' : World} {R : Nat → Nat} {K : Nat → ByteArray} {A T : Nat → Int} {N lo hi B : Nat} (h : Ren w w' R K A T N lo hi) (hR : ∀ j, j < N → B ≤ R j) : Below B w w' :=
  ⟨h.os, h.tape, h.output, Nat.le_of_eq h.size.symm, fun k hk => h.other k (fun j hj e => by have := hR j hj; omega)⟩

/-! ### a pointer against itself -/
theorem same_self {P : Program} (a : Addr) (w : World) : (sameAddr a a).run P w = .ok true w := by
  simp [sameAddr]
theorem ptr_equal (d : Nat) (a : Addr) (w : World) : (Op.equalIn (d + 1) 25 (.pointer (some a)) (.pointer (some a))).run Yba.prog w = .ok true w := by
  simp [Op.equalIn, run_underlying Yba.underlying25, same_self]
theorem ptr_neq (a : Addr) (w : World) : (binOp .neq 25 (.pointer (some a)) (.pointer (some a))).run Yba.prog w = .ok (.bool false) w := by
  have e : (Op.equal 25 (.pointer (some a)) (.pointer (some a))).run Yba.prog w = .ok true w := ptr_equal 9999 a w
  simp only [binOp]
  simp [e]

end Go.Proofs.Ybulkcpgq
