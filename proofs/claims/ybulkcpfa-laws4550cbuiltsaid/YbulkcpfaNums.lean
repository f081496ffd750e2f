import Derived.Test.YbulkcpfaPlain
import Derived.Laws.BytesArg
import Derived.WalkKit
/- Strings out of lists of numbers; what the call owns. No program in sight. -/
namespace Go.Proofs.Ybulkcpfa
open Go.RowKit

theorem nthB_nums (xs : List Int) (j : Nat) (hj : j < xs.length) (h0 : 0 ≤ xs.getD j 0) (h1 : xs.getD j 0 ≤ 255) : nthB (strOfNums xs) j = xs.getD j 0 := by
  unfold nthB
  rw [strOfNums_data]
  simp only [List.getD_eq_getElem?_getD, List.getElem?_map, List.getElem?_eq_getElem hj, Option.map_some, Option.getD_some] at *
  rw [UInt8.toNat_ofNat']
  omega

/-- All digits: digits just if there is one. -/
theorem digB_all (xs : List Int) (h : ∀ j, j < xs.length → 48 ≤ xs.getD j 0 ∧ xs.getD j 0 ≤ 57) : digB (strOfNums xs) = decide (0 < (xs.length : Int)) := by
  have hp : Pre (strOfNums xs) (strOfNums xs).size := by
    intro j hj
    rw [strOfNums_size] at hj
    have := h j hj
    rw [nthB_nums xs j hj (by omega) (by omega)]
    exact this
  by_cases h0 : xs.length = 0
  · rw [digB_empty _ (by rw [strOfNums_size]; exact h0), decide_eq_false (by omega)]
  · rw [digB_full _ hp (by rw [strOfNums_size]; omega), decide_eq_true (by omega)]

/-- One that is no digit. -/
theorem digB_bad (xs : List Int) (j : Nat) (hj : j < xs.length) (h0 : 0 ≤ xs.getD j 0) (h1 : xs.getD j 0 ≤ 255) (h : xs.getD j 0 < 48 ∨ 57 < xs.getD j 0) : digB (strOfNums xs) = false := by
  refine digB_no _ j (by rw [strOfNums_size]; exact hj) ?_
  rw [nthB_nums xs j hj h0 h1]
  exact h

/-- The digits of the numbers. -/
def dg (zs : List Int) : List Int := zs.map fun d => 48 + d % 10

theorem dg_length (zs : List Int) : (dg zs).length = zs.length := by simp [dg]
theorem dg_range (zs : List Int) (j : Nat) (hj : j < (dg zs).length) : 48 ≤ (dg zs).getD j 0 ∧ (dg zs).getD j 0 ≤ 57 := by
  have hj' : j < zs.length := by rwa [dg_length] at hj
  have e : (dg zs).getD j 0 = 48 + zs[j] % 10 := by
    simp [dg, List.getD_eq_getElem?_getD, List.getElem?_map, List.getElem?_eq_getElem hj']
  rw [e]
  omega
theorem dg_take_succ (zs : List Int) (k : Nat) (hk : k < zs.length) : dg (zs.take (k + 1)) = dg (zs.take k) ++ [48 + zs.getD k 0 % 10] := by
  rw [List.take_succ_eq_append_getElem hk]
  simp only [dg, List.map_append, List.map_cons, List.map_nil, List.getD_eq_getElem?_getD, List.getElem?_eq_getElem hk, Option.getD_some]

/-- What is built of them. -/
def ins (xs : List Int) (m : Nat) (x : Int) : List Int := xs.take m ++ [x] ++ xs.drop m
theorem ins_length (xs : List Int) (m : Nat) (x : Int) (hm : m ≤ xs.length) : (ins xs m x).length = xs.length + 1 := by
  simp [ins]
  omega
theorem ins_at (xs : List Int) (m : Nat) (x : Int) (hm : m ≤ xs.length) : (ins xs m x).getD m 0 = x := by
  have e : (xs.take m).length = m := by simp; omega
  simp only [ins, List.append_assoc, List.getD_eq_getElem?_getD]
  rw [List.getElem?_append_right (by omega), e, Nat.sub_self]
  rfl
theorem ins_bad (xs : List Int) (m : Nat) (x : Int) (hm : m ≤ xs.length) (h0 : 0 ≤ x) (h1 : x ≤ 255) (h : x < 48 ∨ 57 < x) : digB (strOfNums (ins xs m x)) = false := by
  have e := ins_at xs m x hm
  exact digB_bad _ m (by rw [ins_length xs m x hm]; omega) (by rw [e]; exact h0) (by rw [e]; exact h1) (by rw [e]; exact h)

/-- What the call owns, through a callee that turns nothing that was there. -/
theorem own_below {w w' : World} {base : Nat} {e : TypeId} {v : Value} {n : Nat} {xs : List Value} (h : w.ownsRow base e 1 v n xs) (hb : Below w.heap.size w w') : w'.ownsRow base e 1 v n xs :=
  h.kept (row := none) ⟨hb.os, hb.tape, hb.output, hb.size, fun k hk _ => hb.block k hk⟩ (by
    cases hv : v.ownBlock with
    | none => exact .inl rfl
    | some k => exact .inr (by simp))

theorem own_cells {w : World} {base : Nat} {e : TypeId} {g n cap : Nat} {k : IntKind} {xs : List Int} (h : w.ownsRow base e 1 (.slice (some ⟨g, 0, none⟩) n cap) n (xs.map (Value.int k))) :
    xs.length = n ∧ ∀ i, i < n → w.cell? ⟨g, 0 + i, none⟩ = some (.int k (xs.getD i 0)) := by
  have hl : xs.length = n := by simpa using h.1
  refine ⟨hl, fun i hi => ?_⟩
  have := h.cells (g := g) rfl i (.int k (xs.getD i 0)) (by simp [List.getD_eq_getElem?_getD, List.getElem?_eq_getElem (show i < xs.length by omega)])
  rwa [Addr.add_lit] at this

theorem own_string {P : Program} {w : World} {base : Nat} {e : TypeId} {g n cap : Nat} {xs : List Int} (h : w.ownsRow base e 1 (.slice (some ⟨g, 0, none⟩) n cap) n (xs.map (Value.int .u8)))
    (src dst : TypeId) (hs : P.underlying src = some (.slice e)) (he : P.underlying e = some (.int .u8)) (hd : P.underlying dst = some .string) :
    (convert src dst (.slice (some ⟨g, 0, none⟩) n cap)).run P w = .ok (.string (strOfNums xs)) w :=
  run_convert_bytes_arg w src e hs he g 0 n cap xs (own_cells h).1 (own_cells h).2 dst hd

end Go.Proofs.Ybulkcpfa
