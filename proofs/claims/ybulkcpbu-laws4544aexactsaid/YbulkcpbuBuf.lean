import Derived.WalkKit
import Derived.Lib.AppendStr
import Derived.Laws.IdiomStrings
/- A buffer of bytes that the call itself made: it owns a row, or it is a row without spare room (whatever its mark). 'append' onto it; 'string(..)' of it. Over whatever program. -/
namespace Go.Proofs.Ybulkcpbu
open Go.RowKit Go.Lib

def Buf (w : World) (base : Nat) (e : TypeId) (v : Value) (s : ByteArray) : Prop :=
  w.ownsRow base e 1 v s.size (strCells s) ∨
  ∃ g, base ≤ g ∧ g < w.heap.size ∧ v = .slice (some ⟨g, 0, none⟩) s.size s.size ∧ ∀ j u, (strCells s)[j]? = some u → w.cell? ((⟨g, 0, none⟩ : Addr).add j) = some u

theorem strCells_append (a b : ByteArray) : strCells (a ++ b) = strCells a ++ strCells b := by
  simp [strCells, ByteArray.data_append]

theorem Buf.alloc {w : World} {base : Nat} {e : TypeId} {v : Value} {s : ByteArray} (h : Buf w base e v s) (o : Obj) : Buf (w.alloc o) base e v s := by
  rcases h with h | ⟨g, h1, h2, h3, h4⟩
  · exact .inl (h.alloc o)
  · refine .inr ⟨g, h1, by simp; omega, h3, fun j u hj => ?_⟩
    have hb : ((⟨g, 0, none⟩ : Addr).add j).block = g := by unfold Addr.add; split <;> rfl
    rw [World.cell?_of_block (w := w) (by rw [hb]; exact Below.heap_alloc w o g h2)]
    exact h4 j u hj

theorem Buf.own {w : World} {base : Nat} {e : TypeId} {v : Value} {s : ByteArray} (h : Buf w base e v s) : ∀ k, v.ownBlock = some k → base ≤ k := by
  rcases h with h | ⟨g, h1, h2, h3, h4⟩
  · exact fun k hk => (h.lt k hk).1
  · subst h3
    intro k hk
    simp [Value.ownBlock] at hk
    omega

section
variable {P : Program} (w : World)

/-- 'append(b, s...)', s a string. -/
theorem run_append_buf_string (base : Nat) (t u ty e : TypeId) (i : TypeInfo) (ht : P.underlying t = some (.slice e)) (hu : P.underlying u = some .string) (hi : P.info? e = some i) (hz : i.zero = some (.int .u8 0))
    (hsize : i.size = 1) (hby : i.bytes = 1) (v : Value) (b : ByteArray) (hown : Buf w base e v b) (s : ByteArray)
    (hbytes : b.size + s.size ≤ 140737488355328) (hbase : base ≤ w.heap.size) :
    ∃ v' w', (Builtin.append_ #[t, u] ty #[v, .string s]).run P w = .ok v' w' ∧ Buf w' base e v' (b ++ s) ∧ w.grownBy w' v.ownBlock := by
  have h63 : b.size + s.size ≤ maxLen := by unfold maxLen; omega
  rcases hown with h | ⟨g, h1, h2, rfl, h4⟩
  · obtain ⟨v', w', hr, ho, hg, _⟩ := run_append_own_string (P := P) w base t u ty e i ht hu hi hz hsize hby v b.size (strCells b) h s h63 hbytes hbase
    exact ⟨v', w', hr, .inl (by rw [strCells_append, ByteArray.size_append]; exact ho), hg⟩
  · by_cases hs : s.size = 0
    · have hf := run_firstCells_string (P := P) w 1 s
      have hn : strCells s = [] := List.eq_nil_of_length_eq_zero (by rw [strCells_length]; exact hs)
      rw [hs, hn] at hf
      refine ⟨.slice (some ⟨g, 0, none⟩) b.size b.size, w, ?_, .inr ⟨g, h1, h2, ?_, ?_⟩, ⟨rfl, rfl, rfl, Nat.le_refl _, fun _ _ _ => rfl⟩⟩
      · simp [Builtin.append_, run_underlying ht, run_underlying hu, sizeOf, typeInfo, hi, hsize, Builtin.lenOf, hs, hf, storeCells]
      · rw [ByteArray.size_append, hs, Nat.add_zero]
      · rw [strCells_append, hn, List.append_nil]
        exact h4
    · have hr := run_append_grow_string (P := P) w t u ty e i (.int .u8 0) ht hu hi hz ⟨g, 0, none⟩ b.size b.size (strCells b) (by rw [hsize, strCells_length]; omega) h4 s (by omega) (by omega) (by rw [hby]; exact growslice_fits (by omega) (by omega))
      have hge := grownCap_ge w (b.size + s.size) b.size e
      have hcm : grownCap w (b.size + s.size) b.size e ≤ maxLen := grownCap_le_maxLen w (b.size + s.size) b.size e h63
      refine ⟨_, _, hr, .inl ⟨?_, .inr ⟨w.heap.size, _, _, by rw [ByteArray.size_append], hbase, heap_alloc_new w.drew _, ?_, hcm, ?_, ?_⟩⟩, ⟨rfl, rfl, rfl, by simp, fun k hk _ => Below.heap_alloc w.drew _ k hk⟩⟩
      · rw [strCells_length]; omega
      · rw [ByteArray.size_append]; exact hge
      · have hz1 : (Value.int IntKind.u8 0).cells.size = 1 := rfl
        simp only [Array.size_append, List.size_toArray, size_zeroCells, hz1, strCells_length]
        omega
      · simp only [Array.toList_append]
        have e1 : (b ++ s).size * 1 = (strCells b ++ strCells s).length := by rw [List.length_append, strCells_length, strCells_length, ByteArray.size_append]; omega
        rw [e1, strCells_append]
        exact List.take_left

/-- 'append(b, c)', the byte c laid in a cell of its own. -/
theorem run_append_buf_bytes (base : Nat) (t ty e : TypeId) (i : TypeInfo) (ht : P.underlying t = some (.slice e)) (hi : P.info? e = some i) (hz : i.zero = some (.int .u8 0))
    (hsize : i.size = 1) (hby : i.bytes = 1) (v : Value) (b : ByteArray) (hown : Buf w base e v b) (s : ByteArray) (a : Addr) (c : Nat) (hs : 0 < s.size)
    (hnews : ∀ j u, (strCells s)[j]? = some u → w.cell? (a.add j) = some u)
    (hbytes : b.size + s.size ≤ 140737488355328) (hbase : base ≤ w.heap.size) :
    ∃ v' w', (Builtin.append_ #[t, t] ty #[v, .slice (some a) s.size c]).run P w = .ok v' w' ∧ Buf w' base e v' (b ++ s) ∧ w.grownBy w' v.ownBlock := by
  have h63 : b.size + s.size ≤ maxLen := by unfold maxLen; omega
  rcases hown with h | ⟨g, h1, h2, rfl, h4⟩
  · obtain ⟨v', w', hr, ho, hg, _⟩ := run_append_own (P := P) w base t ty e i (.int .u8 0) 1 1 ht hi hz hsize hby rfl (by decide) v b.size (strCells b) h a s.size c (strCells s) (by rw [strCells_length]; omega) hnews (strCells_oneCell s) h63 (by omega) hbase
    exact ⟨v', w', hr, .inl (by rw [strCells_append, ByteArray.size_append]; exact ho), hg⟩
  · have hr := run_append_grow (P := P) w t ty e i (.int .u8 0) ht hi hz ⟨g, 0, none⟩ b.size b.size (strCells b) (by rw [hsize, strCells_length]; omega) h4 a s.size c (strCells s) (by rw [hsize, strCells_length]; omega) hnews (by omega) (by omega) (by rw [hby]; exact growslice_fits (by omega) (by omega))
    have hge := grownCap_ge w (b.size + s.size) b.size e
    have hcm : grownCap w (b.size + s.size) b.size e ≤ maxLen := grownCap_le_maxLen w (b.size + s.size) b.size e h63
    refine ⟨_, _, hr, .inl ⟨?_, .inr ⟨w.heap.size, _, _, by rw [ByteArray.size_append], hbase, heap_alloc_new w.drew _, ?_, hcm, ?_, ?_⟩⟩, ⟨rfl, rfl, rfl, by simp, fun k hk _ => Below.heap_alloc w.drew _ k hk⟩⟩
    · rw [strCells_length]; omega
    · rw [ByteArray.size_append]; exact hge
    · have hz1 : (Value.int IntKind.u8 0).cells.size = 1 := rfl
      simp only [Array.size_append, List.size_toArray, size_zeroCells, hz1, strCells_length]
      omega
    · simp only [Array.toList_append]
      have e1 : (b ++ s).size * 1 = (strCells b ++ strCells s).length := by rw [List.length_append, strCells_length, strCells_length, ByteArray.size_append]; omega
      rw [e1, strCells_append]
      exact List.take_left

/-- 'string(b)'. -/
theorem run_convert_buf {base : Nat} {e : TypeId} {v : Value} {s : ByteArray} (h : Buf w base e v s) (h0 : 0 < s.size) (src dst : TypeId) (hs : P.underlying src = some (.slice e)) (he : P.underlying e = some (.int .u8)) (hd : P.underlying dst = some .string) :
    (convert src dst v).run P w = .ok (.string s) w := by
  have key : ∀ g cap, (∀ j u, (strCells s)[j]? = some u → w.cell? ((⟨g, 0, none⟩ : Addr).add j) = some u) → (convert src dst (.slice (some ⟨g, 0, none⟩) s.size cap)).run P w = .ok (.string s) w := by
    intro g cap hc
    have hl : s.size = s.data.toList.length := by rw [Array.length_toList]; rfl
    have := run_convert_bytes_back (P := P) w src dst e ⟨g, 0, none⟩ cap s.data.toList hs he hd (fun j hj => hc j _ (by simp only [strCells, List.getElem?_map, List.getElem?_eq_getElem hj, Option.map_some]))
    rw [← hl] at this
    exact this
  rcases h with h | ⟨g, h1, h2, rfl, h4⟩
  · rcases h.2 with ⟨_, hn⟩ | ⟨g, cap, cur, rfl, _⟩
    · omega
    · exact key g cap (h.cells rfl)
  · exact key g s.size h4

end

section
variable {P : Program} (w : World) {ops : Array Oper} {rest : List Oper} {o : Oper} {a : Act} {Q : Exit → Act → World → Prop}

theorem wpList_append_buf_string (hgd : o.guard = none) (sl x : Operand) (t u : TypeId)
    (ho : o.op = .call { callee := .builtin .append, args := #[sl, x], argTypes := #[t, u] })
    (base : Nat) (e : TypeId) (i : TypeInfo) (ht : P.underlying t = some (.slice e)) (hu : P.underlying u = some .string) (hi : P.info? e = some i) (hz : i.zero = some (.int .u8 0))
    (hsize : i.size = 1) (hby : i.bytes = 1) (v : Value) (b : ByteArray) (hs : a.eval sl = v) (hown : Buf w base e v b) (s : ByteArray) (hx : a.eval x = .string s)
    (hbytes : b.size + s.size ≤ 140737488355328) (hbase : base ≤ w.heap.size)
    (h : ∀ v' w', Buf w' base e v' (b ++ s) → w.grownBy w' v.ownBlock → wpList P ops Q rest (a.put o.dst v') w') : wpList P ops Q (o :: rest) a w := by
  refine wpList_plain hgd fun K hK => ?_
  obtain ⟨v', w', hr, h2, h3⟩ := run_append_buf_string (P := P) w base t u o.type e i ht hu hi hz hsize hby v b hown s hbytes hbase
  unfold Oper.wp execOp
  simp only [ho, resolve, invoke, builtin, Sem.run_bind, Sem.run_pure, Result.andThen_ok, List.map_toArray, List.map_cons, List.map_nil, hs, hx, hr]
  exact hK _ _ (h v' w' h2 h3)

theorem wpList_append_buf_bytes (hgd : o.guard = none) (sl x : Operand) (t : TypeId)
    (ho : o.op = .call { callee := .builtin .append, args := #[sl, x], argTypes := #[t, t] })
    (base : Nat) (e : TypeId) (i : TypeInfo) (ht : P.underlying t = some (.slice e)) (hi : P.info? e = some i) (hz : i.zero = some (.int .u8 0))
    (hsize : i.size = 1) (hby : i.bytes = 1) (v : Value) (b : ByteArray) (hs : a.eval sl = v) (hown : Buf w base e v b) (s : ByteArray) (ad : Addr) (c : Nat) (hx : a.eval x = .slice (some ad) s.size c) (hs0 : 0 < s.size)
    (hnews : ∀ j u, (strCells s)[j]? = some u → w.cell? (ad.add j) = some u)
    (hbytes : b.size + s.size ≤ 140737488355328) (hbase : base ≤ w.heap.size)
    (h : ∀ v' w', Buf w' base e v' (b ++ s) → w.grownBy w' v.ownBlock → wpList P ops Q rest (a.put o.dst v') w') : wpList P ops Q (o :: rest) a w := by
  refine wpList_plain hgd fun K hK => ?_
  obtain ⟨v', w', hr, h2, h3⟩ := run_append_buf_bytes (P := P) w base t o.type e i ht hi hz hsize hby v b hown s ad c hs0 hnews hbytes hbase
  unfold Oper.wp execOp
  simp only [ho, resolve, invoke, builtin, Sem.run_bind, Sem.run_pure, Result.andThen_ok, List.map_toArray, List.map_cons, List.map_nil, hs, hx, hr]
  exact hK _ _ (h v' w' h2 h3)
end
end Go.Proofs.Ybulkcpbu
