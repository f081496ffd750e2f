import Derived.Test.YbulkcpfoDec
namespace Go.Proofs.Ybulkcpfo
open Go.RowKit Go.Maps Go.WideMaps

/-- A pointer read as a number: so that a map of pointers is a map of plain elements. -/
def ptrElem : Value → Option (DataW Unit × List MemPlace)
  | .pointer none => some (.lit (.bool false), [])
  | .pointer (some ⟨b, 0, none⟩) => some (.lit (.int .i64 b), [])
  | _ => none

theorem ptrElem_no : ptrElem (.pointer none) = some (.lit (.bool false), []) := rfl
theorem ptrElem_mk (b : Nat) : ptrElem (.pointer (some ⟨b, 0, none⟩)) = some (.lit (.int .i64 b), []) := rfl
theorem ptrElem_num {v : Value} {b : Nat} {ps : List MemPlace} (h : ptrElem v = some (.lit (.int .i64 b), ps)) : v = .pointer (some ⟨b, 0, none⟩) := by
  unfold ptrElem at h
  split at h
  · simp at h
  · rename_i b' 
    simp at h
    obtain ⟨h1, _⟩ := h
    have : b' = b := by omega
    rw [this]
  · cases h
theorem ptrElem_bool {v : Value} {ps : List MemPlace} (h : ptrElem v = some (.lit (.bool false), ps)) : v = .pointer none := by
  unfold ptrElem at h
  split at h
  · rfl
  · simp at h
  · cases h

theorem law9 : Keyed Yba.prog 9 := string_keyed Yba.underlying9
theorem zero45 (w : World) : (zeroValue 45).run Yba.prog w = .ok (.pointer none) w := by kernel_rfl

/-- The last index below k at which the name stands. -/
def lastOf (Nm : Nat → ByteArray) (Q : ByteArray) : Nat → Option Nat
  | 0 => none
  | k + 1 => if (Nm k).toList == Q.toList then some k else lastOf Nm Q k

theorem lastOf_lt {Nm : Nat → ByteArray} {Q : ByteArray} : ∀ {k j : Nat}, lastOf Nm Q k = some j → j < k
  | 0, j, h => by cases h
  | k + 1, j, h => by
    unfold lastOf at h
    split at h
    · cases h; omega
    · have := lastOf_lt h; omega

/-- What the map and the row of pointers hold of the name Q, when the last entry under it was l. -/
def Known (w : World) (bp lo : Nat) (Q : ByteArray) (Dc : Nat → Bool) (Va Ro : Nat → Int) (D : DataW Unit) : Option Nat → Prop
  | none => Maps.has D (.string Q.data.toList) = false
  | some j => Maps.has D (.string Q.data.toList) = true ∧ ∃ (I : Nat) (dv : Option Addr), D.atKey (.string Q.data.toList) (.lit (.bool false)) = .lit (.int .i64 I) ∧ lo ≤ I ∧ I < w.heap.size ∧
      w.cell? ⟨I, 1, none⟩ = some (.pointer dv) ∧ w.cell? ⟨bp, j, none⟩ = some (.pointer dv) ∧ (Dc j = false → dv = none) ∧
      (Dc j = true → ∃ d : Nat, dv = some ⟨d, 0, none⟩ ∧ lo ≤ d ∧ d < w.heap.size ∧ w.cell? ⟨d, 0, none⟩ = some (.int .i64 (Va j)) ∧ w.cell? ⟨d, 1, none⟩ = some (.int .i64 (Ro j)))

/-- .. through a step that turns neither the blocks from lo on nor the row's cell. -/
theorem Known.kept {w w' : World} {bp lo : Nat} {Q : ByteArray} {Dc : Nat → Bool} {Va Ro : Nat → Int} {D : DataW Unit} {l : Option Nat} (h : Known w bp lo Q Dc Va Ro D l)
    (hs : w.heap.size ≤ w'.heap.size) (hb : ∀ k, lo ≤ k → k < w.heap.size → w'.heap[k]? = w.heap[k]?) (hp : ∀ j, l = some j → w'.cell? ⟨bp, j, none⟩ = w.cell? ⟨bp, j, none⟩) : Known w' bp lo Q Dc Va Ro D l := by
  cases l with
  | none => exact h
  | some j =>
    obtain ⟨h1, I, dv, h2, h3, h4, h5, h6, h7, h8⟩ := h
    refine ⟨h1, I, dv, h2, h3, by omega, (World.cell?_of_block (w := w) (a := ⟨I, 1, none⟩) (hb I h3 h4)).trans h5, (hp j rfl).trans h6, h7, fun hd => ?_⟩
    obtain ⟨d, e1, e2, e3, e4, e5⟩ := h8 hd
    exact ⟨d, e1, e2, by omega, (World.cell?_of_block (w := w) (a := ⟨d, 0, none⟩) (hb d e2 e3)).trans e4, (World.cell?_of_block (w := w) (a := ⟨d, 1, none⟩) (hb d e2 e3)).trans e5⟩

/-- The node's cells. -/
def nodeC (fv : Value) (br : Bool) (bm : Nat) : Array Value := #[.int .i64 0, .int .i64 0, .nilIface, .nilIface, .nilFunc, .nilFunc, fv, .nilIface, .bool br, .map (some bm), .slice none 0 0, .slice none 0 0, .slice none 0 0, .slice none 0 0]

/-- Behind k rounds of the first loop. -/
structure Inv (w0 wr : World) (a1 : Option Addr) (m c1 : Nat) (br : Bool) (n k : Nat) (Q : ByteArray) (Nm : Nat → ByteArray) (Dc : Nat → Bool) (Va Ro : Nat → Int) : Prop where
  bel : Below w0.heap.size w0 wr
  siz : w0.heap.size + 4 ≤ wr.heap.size
  box : wr.heap[w0.heap.size]? = some (.cells #[.slice a1 m c1] 23 (0, 0))
  nod : wr.heap[w0.heap.size + 2]? = some (.cells (nodeC .nilFunc br (w0.heap.size + 1)) 40 (0, 0))
  row : ∃ C : Array Value, C.size = n ∧ wr.heap[w0.heap.size + 3]? = some (.cells C 42 (0, 0))
  map : ∃ D : DataW Unit, wr.ownsMap Yba.prog 9 ptrElem (w0.heap.size + 1) k D ∧ Known wr (w0.heap.size + 3) (w0.heap.size + 4) Q Dc Va Ro D (lastOf Nm Q k)


/-- The block that a map entry leads to. -/
def instO (s : ByteArray) (d : Option Addr) : Obj := .cells #[.string s, .pointer d, .bool false, .int .i64 0, .int .i64 0, .int .i64 0, .bool false, .map none, .int .i64 0, .int .i64 0, .bool false, .map none, .map none, .map none] 50

theorem cell_row {w : World} {b j : Nat} {C : Array Value} {t : TypeId} (h : w.heap[b]? = some (.cells C t (0, 0))) (hj : j < C.size) : w.cell? ⟨b, j, none⟩ = some C[j] := by
  simp [World.cell?, h, hj]
theorem free_row {w : World} {b j : Nat} {C : Array Value} {t : TypeId} (h : w.heap[b]? = some (.cells C t (0, 0))) : w.frozen? ⟨b, j, none⟩ = false := by
  simp [World.frozen?, h]
theorem row_set {w : World} {b j : Nat} {C : Array Value} {t : TypeId} (h : w.heap[b]? = some (.cells C t (0, 0))) (v : Value) : (w.setCell ⟨b, j, none⟩ v).heap[b]? = some (.cells (C.setIfInBounds j v) t (0, 0)) := by
  rw [setCell_eq_setRow w b j C t (0, 0) v h]
  exact setRow_heap w b C _ t _ h

theorem key_ne {a b : ByteArray} (h : (a.toList == b.toList) = false) : (Lit.string b.data.toList) ≠ (Lit.string a.data.toList) := by
  rw [ByteArray.toList_eq, ByteArray.toList_eq, beq_eq_false_iff_ne] at h
  intro e
  injection e with e
  exact h e.symm
theorem key_eq {a b : ByteArray} (h : (a.toList == b.toList) = true) : b.data.toList = a.data.toList := by
  rw [ByteArray.toList_eq, ByteArray.toList_eq, beq_iff_eq] at h
  exact h.symm

/-- What a round does, whatever it lays: W, the world ahead of the store into the map; I, the block that the new entry leads to. -/
theorem Inv.step {w0 wr W : World} {a1 : Option Addr} {m c1 : Nat} {br : Bool} {n k : Nat} {Q : ByteArray} {Nm : Nat → ByteArray} {Dc : Nat → Bool} {Va Ro : Nat → Int} (h : Inv w0 wr a1 m c1 br n k Q Nm Dc Va Ro)
    (hk : k < n) (hn : n ≤ 1024) (hNk : (Nm k).size ≤ maxLen) (I : Nat) (dv : Option Addr)
    (hg : wr.grownBy W (some (w0.heap.size + 3))) (hrow : ∀ C, wr.heap[w0.heap.size + 3]? = some (.cells C 42 (0, 0)) → W.heap[w0.heap.size + 3]? = some (.cells (C.setIfInBounds k (.pointer dv)) 42 (0, 0)))
    (hI : wr.heap.size ≤ I) (hIW : I < W.heap.size) (hi : W.cell? ⟨I, 1, none⟩ = some (.pointer dv)) (h0 : Dc k = false → dv = none)
    (h1 : Dc k = true → ∃ d : Nat, dv = some ⟨d, 0, none⟩ ∧ wr.heap.size ≤ d ∧ d < W.heap.size ∧ W.cell? ⟨d, 0, none⟩ = some (.int .i64 (Va k)) ∧ W.cell? ⟨d, 1, none⟩ = some (.int .i64 (Ro k))) :
    ∃ w5, (Instr.mapUpdate 27 (.map (some (w0.heap.size + 1))) (.string (Nm k)) (.pointer (some ⟨I, 0, none⟩))).run Yba.prog W = .ok () w5 ∧ Inv w0 w5 a1 m c1 br n (k + 1) Q Nm Dc Va Ro := by
  obtain ⟨D, hown, hkn⟩ := h.map
  obtain ⟨C, hC, hr⟩ := h.row
  have hs := h.siz
  have hgs := hg.size
  obtain ⟨w5, hup, hown5, hg5⟩ := (hown.kept hg (by simp)).update law9 Yba.underlying27 (by unfold maxLen; omega) (keyOf_string_mk Yba.underlying9 hNk) (ptrElem_mk I)
  have hg5s := hg5.size
  have blk : ∀ j, j < wr.heap.size → j ≠ w0.heap.size + 3 → j ≠ w0.heap.size + 1 → w5.heap[j]? = wr.heap[j]? := fun j hj h3 h1 => by
    rw [hg5.block j (by omega) (by simp; omega), hg.block j hj (by simp; omega)]
  have blk5 : ∀ j, j < W.heap.size → j ≠ w0.heap.size + 1 → w5.heap[j]? = W.heap[j]? := fun j hj h1 => hg5.block j hj (by simp; omega)
  have hr5 : w5.heap[w0.heap.size + 3]? = some (.cells (C.setIfInBounds k (.pointer dv)) 42 (0, 0)) := by
    rw [blk5 _ (by omega) (by omega)]
    exact hrow C hr
  refine ⟨w5, hup, ⟨?_, by omega, ?_, ?_, ⟨_, by simpa using hC, hr5⟩, D.put (.string (Nm k).data.toList) (.lit (.int .i64 I)), hown5, ?_⟩⟩
  · exact (h.bel.grown hg (by omega) (fun j hj => by cases hj; omega)).grown hg5 (by omega) (fun j hj => by cases hj; omega)
  · rw [blk _ (by omega) (by omega) (by omega)]
    exact h.box
  · rw [blk _ (by omega) (by omega) (by omega)]
    exact h.nod
  · show Known _ _ _ _ _ _ _ _ (if (Nm k).toList == Q.toList then some k else lastOf Nm Q k)
    have cell5 : ∀ j o, j < W.heap.size → w0.heap.size + 4 ≤ j → w5.cell? ⟨j, o, none⟩ = W.cell? ⟨j, o, none⟩ := fun j o hj h4 => World.cell?_of_block (w := W) (a := ⟨j, o, none⟩) (blk5 j hj (by omega))
    cases he : (Nm k).toList == Q.toList
    · -- another name
      rw [if_neg (by simp)]
      have hk' : Known w5 (w0.heap.size + 3) (w0.heap.size + 4) Q Dc Va Ro D (lastOf Nm Q k) := by
        refine hkn.kept (by omega) (fun j hj hj' => blk j hj' (by omega) (by omega)) (fun j hj => ?_)
        have hjk := lastOf_lt hj
        rw [cell_row hr5 (by simp; omega), cell_row hr (by omega)]
        rw [Array.getElem_setIfInBounds_ne (by omega) (by omega)]
      cases hl : lastOf Nm Q k with
      | none =>
        rw [hl] at hk'
        show Maps.has _ _ = false
        rw [has_put_other (key_ne he)]
        exact hk'
      | some j =>
        rw [hl] at hk'
        obtain ⟨e1, I', dv', e2, r⟩ := hk'
        refine ⟨?_, I', dv', ?_, r⟩
        · rw [has_put_other (key_ne he)]; exact e1
        · rw [atKey_put_other (key_ne he)]; exact e2
    · -- the name
      rw [if_pos rfl]
      have hq := key_eq he
      refine ⟨?_, I, dv, ?_, by omega, by omega, ?_, ?_, h0, fun hd => ?_⟩
      · rw [hq]; exact has_put_same (k := Lit.string (Nm k).data.toList) hown.isMap trivial _
      · rw [hq]; exact atKey_put_same (k := Lit.string (Nm k).data.toList) hown.isMap trivial _ _
      · rw [cell5 I 1 hIW (by omega)]; exact hi
      · rw [cell_row hr5 (by simp; omega)]
        simp
      · obtain ⟨d, e1, e2, e3, e4, e5⟩ := h1 hd
        exact ⟨d, e1, by omega, by omega, (cell5 d 0 e3 (by omega)).trans e4, (cell5 d 1 e3 (by omega)).trans e5⟩

theorem grown_set {w : World} {b j : Nat} (v : Value) : w.grownBy (w.setCell ⟨b, j, none⟩ v) (some b) :=
  ⟨rfl, rfl, rfl, by simp [World.setCell], fun k _ hk => Below.heap_setCell _ _ _ _ (fun e => hk (by rw [e]))⟩
theorem grown_alloc {w W : World} {r : Option Nat} (h : w.grownBy W r) (o : Obj) : w.grownBy (W.alloc o) r :=
  ⟨h.os, h.tape, h.output, by have := h.size; simp; omega, fun k hk hr => (Below.heap_alloc _ _ _ (by have := h.size; omega)).trans (h.block k hk hr)⟩
theorem grown_drew {w W : World} {r : Option Nat} (h : w.grownBy W r) : w.grownBy W.drew r := ⟨h.os, h.tape, h.output, h.size, h.block⟩

theorem new_at {W : World} {i : Nat} (h : W.heap.size = i) (o : Obj) : (W.alloc o).heap[i]? = some o := by
  subst h
  exact heap_alloc_new W o

theorem step_und {w0 wr : World} {a1 : Option Addr} {m c1 : Nat} {br : Bool} {n k : Nat} {Q : ByteArray} {Nm : Nat → ByteArray} {Dc : Nat → Bool} {Va Ro : Nat → Int} (h : Inv w0 wr a1 m c1 br n k Q Nm Dc Va Ro)
    (hk : k < n) (hn : n ≤ 1024) (hNk : (Nm k).size ≤ maxLen) (hd : Dc k = false) (o : Obj) :
    ∃ w5, (Instr.mapUpdate 27 (.map (some (w0.heap.size + 1))) (.string (Nm k)) (.pointer (some ⟨wr.heap.size + 1, 0, none⟩))).run Yba.prog
      (((wr.setCell ⟨w0.heap.size + 1 + 1 + 1, k, none⟩ (.pointer none)).alloc o).alloc (instO (Nm k) none)).drew = .ok () w5 ∧ Inv w0 w5 a1 m c1 br n (k + 1) Q Nm Dc Va Ro := by
  have hs := h.siz
  have sz : (wr.setCell ⟨w0.heap.size + 1 + 1 + 1, k, none⟩ (.pointer none)).heap.size = wr.heap.size := by simp [World.setCell]
  refine h.step hk hn hNk (wr.heap.size + 1) none (grown_drew (grown_alloc (grown_alloc (grown_set _) _) _)) (fun C hC => ?_) (by omega) ?_ ?_ (fun _ => rfl) (fun e => by rw [hd] at e; cases e)
  · show ((((wr.setCell ⟨w0.heap.size + 3, k, none⟩ (.pointer none)).alloc o).alloc (instO (Nm k) none))).heap[w0.heap.size + 3]? = _
    rw [Below.heap_alloc _ _ _ (by simp [World.setCell]; omega), Below.heap_alloc _ _ _ (by simp [World.setCell]; omega)]
    exact row_set hC _
  · show _ < (((wr.setCell _ _).alloc o).alloc (instO (Nm k) none)).heap.size
    simp [World.setCell]
  · have e : ((((wr.setCell ⟨w0.heap.size + 1 + 1 + 1, k, none⟩ (.pointer none)).alloc o).alloc (instO (Nm k) none))).heap[wr.heap.size + 1]? = some (instO (Nm k) none) := by
      have : ((wr.setCell ⟨w0.heap.size + 1 + 1 + 1, k, none⟩ (.pointer none)).alloc o).heap.size = wr.heap.size + 1 := by simp [World.setCell]
      rw [← this]
      exact heap_alloc_new _ _
    exact cell_row (w := ((((wr.setCell ⟨w0.heap.size + 1 + 1 + 1, k, none⟩ (.pointer none)).alloc o).alloc (instO (Nm k) none)))) e (show 1 < 14 by decide)

theorem step_dec {w0 wr : World} {a1 : Option Addr} {m c1 : Nat} {br : Bool} {n k : Nat} {Q : ByteArray} {Nm : Nat → ByteArray} {Dc : Nat → Bool} {Va Ro : Nat → Int} (h : Inv w0 wr a1 m c1 br n k Q Nm Dc Va Ro)
    (hk : k < n) (hn : n ≤ 1024) (hNk : (Nm k).size ≤ maxLen) (hd : Dc k = true) (o : Obj) :
    ∃ w5, (Instr.mapUpdate 27 (.map (some (w0.heap.size + 1))) (.string (Nm k)) (.pointer (some ⟨wr.heap.size + 1 + 1, 0, none⟩))).run Yba.prog
      ((((wr.setCell ⟨w0.heap.size + 1 + 1 + 1, k, none⟩ (.pointer (some ⟨wr.heap.size + 1, 0, none⟩))).alloc o).alloc (.cells #[.int .i64 (Va k), .int .i64 (Ro k)] 44)).alloc (instO (Nm k) (some ⟨wr.heap.size + 1, 0, none⟩))).drew = .ok () w5 ∧ Inv w0 w5 a1 m c1 br n (k + 1) Q Nm Dc Va Ro := by
  have hs := h.siz
  have sz1 : ((wr.setCell ⟨w0.heap.size + 1 + 1 + 1, k, none⟩ (.pointer (some ⟨wr.heap.size + 1, 0, none⟩))).alloc o).heap.size = wr.heap.size + 1 := by simp [World.setCell]
  have sz2 : (((wr.setCell ⟨w0.heap.size + 1 + 1 + 1, k, none⟩ (.pointer (some ⟨wr.heap.size + 1, 0, none⟩))).alloc o).alloc (.cells #[.int .i64 (Va k), .int .i64 (Ro k)] 44)).heap.size = wr.heap.size + 1 + 1 := by simp [World.setCell]
  have eI : (((((wr.setCell ⟨w0.heap.size + 1 + 1 + 1, k, none⟩ (.pointer (some ⟨wr.heap.size + 1, 0, none⟩))).alloc o).alloc (.cells #[.int .i64 (Va k), .int .i64 (Ro k)] 44)).alloc (instO (Nm k) (some ⟨wr.heap.size + 1, 0, none⟩)))).heap[wr.heap.size + 1 + 1]? = some (instO (Nm k) (some ⟨wr.heap.size + 1, 0, none⟩)) := by
    exact new_at sz2 _
  have eD : (((((wr.setCell ⟨w0.heap.size + 1 + 1 + 1, k, none⟩ (.pointer (some ⟨wr.heap.size + 1, 0, none⟩))).alloc o).alloc (.cells #[.int .i64 (Va k), .int .i64 (Ro k)] 44)).alloc (instO (Nm k) (some ⟨wr.heap.size + 1, 0, none⟩)))).heap[wr.heap.size + 1]? = some (.cells #[.int .i64 (Va k), .int .i64 (Ro k)] 44 (0, 0)) := by
    rw [Below.heap_alloc _ _ _ (by rw [sz2]; omega)]
    exact new_at sz1 _
  refine h.step hk hn hNk (wr.heap.size + 1 + 1) (some ⟨wr.heap.size + 1, 0, none⟩) (grown_drew (grown_alloc (grown_alloc (grown_alloc (grown_set _) _) _) _)) (fun C hC => ?_) (by omega) ?_ ?_ (fun e => by rw [hd] at e; cases e) (fun _ => ⟨wr.heap.size + 1, rfl, by omega, ?_, ?_, ?_⟩)
  · show (((((wr.setCell ⟨w0.heap.size + 3, k, none⟩ (.pointer (some ⟨wr.heap.size + 1, 0, none⟩))).alloc o).alloc (.cells #[.int .i64 (Va k), .int .i64 (Ro k)] 44)).alloc (instO (Nm k) (some ⟨wr.heap.size + 1, 0, none⟩)))).heap[w0.heap.size + 3]? = _
    rw [Below.heap_alloc _ _ _ (by simp [World.setCell]; omega), Below.heap_alloc _ _ _ (by simp [World.setCell]; omega), Below.heap_alloc _ _ _ (by simp [World.setCell]; omega)]
    exact row_set hC _
  · exact (Array.getElem?_eq_some_iff.1 eI).1
  · exact cell_row eI (show 1 < 14 by decide)
  · exact (Array.getElem?_eq_some_iff.1 eD).1
  · exact cell_row eD (show 0 < 2 by decide)
  · exact cell_row eD (show 1 < 2 by decide)

theorem inv_start {w w1 : World} {a1 : Option Addr} {m c1 n : Nat} {br : Bool} {Q : ByteArray} {Nm : Nat → ByteArray} {Dc : Nat → Bool} {Va Ro : Nat → Int} {xs : List Value}
    {X : Nat} (hX : X = w.heap.size + 3) (hown : w1.ownsRow (w.heap.size + 3) 42 1 (.slice (some ⟨X, 0, none⟩) n n) n xs)
    (hg : (((w.alloc (.cells #[.slice a1 m c1] 23)).alloc (.map #[] 0)).alloc (.cells (nodeC .nilFunc br (w.heap.size + 1)) 40)).grownBy w1 none) : Inv w w1 a1 m c1 br n 0 Q Nm Dc Va Ro := by
  subst hX
  have s1 : (w.alloc (.cells #[.slice a1 m c1] 23)).heap.size = w.heap.size + 1 := by simp
  have s2 : ((w.alloc (.cells #[.slice a1 m c1] 23)).alloc (.map #[] 0)).heap.size = w.heap.size + 2 := by simp
  have s3 : (((w.alloc (.cells #[.slice a1 m c1] 23)).alloc (.map #[] 0)).alloc (.cells (nodeC .nilFunc br (w.heap.size + 1)) 40)).heap.size = w.heap.size + 3 := by simp
  have hrow : ∃ C : Array Value, C.size = n ∧ w1.heap[w.heap.size + 3]? = some (.cells C 42 (0, 0)) := by
    rcases hown.2 with ⟨e, _⟩ | ⟨g, cap, cur, e, _, hh, _, _, hs, _⟩
    · cases e
    · injection e with e1 e2 e3
      injection e1 with e1
      injection e1 with e1
      subst e1 e3
      exact ⟨cur, by omega, hh⟩
  have blk : ∀ j, j < w.heap.size + 3 → w1.heap[j]? = (((w.alloc (.cells #[.slice a1 m c1] 23)).alloc (.map #[] 0)).alloc (.cells (nodeC .nilFunc br (w.heap.size + 1)) 40)).heap[j]? := fun j hj => hg.block j (by omega) (by simp)
  obtain ⟨C, hC, hh⟩ := hrow
  have hlt := (Array.getElem?_eq_some_iff.1 hh).1
  refine ⟨?_, by omega, ?_, ?_, ⟨C, hC, hh⟩, .map [], ?_, rfl⟩
  · exact ((((Below.refl _ _).alloc (Nat.le_refl _) _).alloc (by omega) _).alloc (by omega) _).grown hg (by omega) (fun k hk => by cases hk)
  · rw [blk _ (by omega), Below.heap_alloc _ _ _ (by omega), Below.heap_alloc _ _ _ (by omega)]
    exact new_at rfl _
  · rw [blk _ (by omega)]
    exact new_at s2 _
  · have := World.ownsMap_made (H := Unit) (w.alloc (.cells #[.slice a1 m c1] 23)) Yba.prog 9 ptrElem
    rw [s1] at this
    exact (this.alloc _).kept hg (by simp)

end Go.Proofs.Ybulkcpfo
