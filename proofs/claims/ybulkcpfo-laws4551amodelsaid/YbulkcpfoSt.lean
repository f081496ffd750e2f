import Derived.Test.YbulkcpfoInv
namespace Go.Proofs.Ybulkcpfo
open Go.RowKit Go.Maps Go.WideMaps

/-- The closure, as a value. -/
def fnv (hr : Bool) (lb rb : Nat) : Value := if hr then .func (.func 4) #[] #[.pointer (some ⟨lb, 0, none⟩), .pointer (some ⟨rb, 0, none⟩)] else .nilFunc

/-- What the log holds behind so many calls. -/
def LogIs (w : World) (lb : Nat) (Q : ByteArray) (calls : Nat) : Prop :=
  (calls = 0 ∧ w.heap[lb]? = some (.cells #[.slice none 0 0] 51 (0, 0))) ∨
  (calls = 1 ∧ ∃ g cp, w.heap[lb]? = some (.cells #[.slice (some ⟨g, 0, none⟩) 1 cp] 51 (0, 0)) ∧ w.cell? ⟨g, 0, none⟩ = some (.string Q) ∧ g < w.heap.size)

/-- Ahead of the call of Decision, and behind it. -/
structure St (w0 w : World) (a1 : Option Addr) (m c1 : Nat) (br hr : Bool) (n lb : Nat) (Q : ByteArray) (Dc : Nat → Bool) (Va Ro : Nat → Int) (D : DataW Unit) (l : Option Nat) (calls : Nat) : Prop where
  bel : Below w0.heap.size w0 w
  box : w.heap[w0.heap.size]? = some (.cells #[.slice a1 m c1] 23 (0, 0))
  nod : w.heap[w0.heap.size + 2]? = some (.cells (nodeC (fnv hr lb w0.heap.size) br (w0.heap.size + 1)) 40 (0, 0))
  log : LogIs w lb Q calls
  lo : w0.heap.size + 4 ≤ lb
  hi : lb < w.heap.size
  map : w.ownsMap Yba.prog 9 ptrElem (w0.heap.size + 1) n D
  kn : Known w (w0.heap.size + 3) (w0.heap.size + 4) Q Dc Va Ro D l

section
variable {w0 wr : World} {a1 : Option Addr} {m c1 : Nat} {br hr : Bool} {n lb : Nat} {Q : ByteArray} {Nm : Nat → ByteArray} {Dc : Nat → Bool} {Va Ro : Nat → Int} {D : DataW Unit} {l : Option Nat} {calls : Nat}

/-- Behind the first loop: 'var log', no closure. -/
theorem Inv.plain (h : Inv w0 wr a1 m c1 br n n Q Nm Dc Va Ro) : ∃ D, St w0 (wr.alloc (.cells #[.slice none 0 0] 51)) a1 m c1 br false n wr.heap.size Q Dc Va Ro D (lastOf Nm Q n) 0 := by
  obtain ⟨D, hown, hkn⟩ := h.map
  have hs := h.siz
  refine ⟨D, h.bel.alloc (by omega) _, ?_, ?_, .inl ⟨rfl, new_at rfl _⟩, hs, by simp, hown.alloc _, hkn.kept (by simp) (fun k _ hk => Below.heap_alloc _ _ _ hk) (fun j hj => ?_)⟩
  · rw [Below.heap_alloc _ _ _ (by omega)]; exact h.box
  · rw [Below.heap_alloc _ _ _ (by omega)]; exact h.nod
  · exact World.cell?_of_block (w := wr) (a := ⟨w0.heap.size + 3, j, none⟩) (Below.heap_alloc _ _ _ (by show w0.heap.size + 3 < _; omega))

/-- .. with the closure. -/
theorem Inv.clos (h : Inv w0 wr a1 m c1 br n n Q Nm Dc Va Ro) :
    ∃ D, St w0 ((wr.setCell ⟨w0.heap.size + 1 + 1, 6, none⟩ (.func (.func 4) #[] #[.pointer (some ⟨wr.heap.size, 0, none⟩), .pointer (some ⟨w0.heap.size, 0, none⟩)])).alloc (.cells #[.slice none 0 0] 51)) a1 m c1 br true n wr.heap.size Q Dc Va Ro D (lastOf Nm Q n) 0 := by
  obtain ⟨D, hown, hkn⟩ := h.map
  have hs := h.siz
  have sz : (wr.setCell ⟨w0.heap.size + 1 + 1, 6, none⟩ (.func (.func 4) #[] #[.pointer (some ⟨wr.heap.size, 0, none⟩), .pointer (some ⟨w0.heap.size, 0, none⟩)])).heap.size = wr.heap.size := by simp [World.setCell]
  have blk : ∀ k, k < wr.heap.size → k ≠ w0.heap.size + 2 → ((wr.setCell ⟨w0.heap.size + 1 + 1, 6, none⟩ (.func (.func 4) #[] #[.pointer (some ⟨wr.heap.size, 0, none⟩), .pointer (some ⟨w0.heap.size, 0, none⟩)])).alloc (.cells #[.slice none 0 0] 51)).heap[k]? = wr.heap[k]? := fun k hk hne => by
    rw [Below.heap_alloc _ _ _ (by omega), Below.heap_setCell _ _ _ _ hne]
  refine ⟨D, (h.bel.setCell (by show w0.heap.size ≤ w0.heap.size + 1 + 1; omega) _).alloc (by omega) _, ?_, ?_, .inl ⟨rfl, new_at sz _⟩, hs, by simp [World.setCell], (hown.setCell (by show w0.heap.size + 1 ≠ w0.heap.size + 1 + 1; omega) _).alloc _, hkn.kept (by simp [World.setCell]) (fun k hk hk' => blk k hk' (by omega)) (fun j hj => ?_)⟩
  · rw [blk _ (by omega) (by omega)]; exact h.box
  · rw [Below.heap_alloc _ _ _ (by omega)]
    exact row_set h.nod _
  · exact World.cell?_of_block (w := wr) (a := ⟨w0.heap.size + 3, j, none⟩) (blk (w0.heap.size + 3) (by omega) (by omega))

/-- St through a step that makes memory and turns nothing. -/
theorem St.below {w w' : World} (h : St w0 w a1 m c1 br hr n lb Q Dc Va Ro D l calls) (hb : Below w.heap.size w w') : St w0 w' a1 m c1 br hr n lb Q Dc Va Ro D l calls := by
  have hlo := h.lo
  have hhi := h.hi
  have hs := hb.size
  refine ⟨h.bel.trans (hb.mono (by omega)), (hb.block _ (by omega)).trans h.box, (hb.block _ (by omega)).trans h.nod, ?_, hlo, by omega, h.map.kept (row := none) ⟨hb.os, hb.tape, hb.output, hb.size, fun k hk _ => hb.block k hk⟩ (by simp),
    h.kn.kept hs (fun k _ hk => hb.block k hk) (fun j _ => hb.cell (p := ⟨w0.heap.size + 3, j, none⟩) (by show w0.heap.size + 3 < _; omega))⟩
  rcases h.log with ⟨h1, h2⟩ | ⟨h1, g, cp, h2, h3, h4⟩
  · exact .inl ⟨h1, (hb.block _ hhi).trans h2⟩
  · exact .inr ⟨h1, g, cp, (hb.block _ hhi).trans h2, (hb.cell (p := ⟨g, 0, none⟩) h4).trans h3, by omega⟩

/-- .. and behind the closure's call. -/
theorem St.called {w w' : World} (h : St w0 w a1 m c1 br hr n lb Q Dc Va Ro D none 0) (hc : ClosPost Q lb w w') : St w0 w' a1 m c1 br hr n lb Q Dc Va Ro D none 1 := by
  have hlo := h.lo
  have hhi := h.hi
  obtain ⟨g, cp, h1, h2, h3, h4, hg⟩ := hc
  have hs := hg.size
  exact ⟨h.bel.grown hg (by omega) (fun k hk => by cases hk; omega), (hg.block _ (by omega) (by simp; omega)).trans h.box, (hg.block _ (by omega) (by simp; omega)).trans h.nod, .inr ⟨rfl, g, cp, h1, h2, h4⟩, hlo, by omega, h.map.kept hg (by simp; omega), h.kn⟩

theorem St.look0 {w : World} (h : St w0 w a1 m c1 br hr n lb Q Dc Va Ro D l calls) (hQ : Q.size ≤ maxLen) {I : Nat} (hI : D.atKey (.string Q.data.toList) (.lit (.bool false)) = .lit (.int .i64 I)) (hy : Maps.has D (.string Q.data.toList) = true) :
    (Instr.lookup 27 (.map (some (w0.heap.size + 1))) (.string Q) true).run Yba.prog w = .ok (.tuple #[.pointer (some ⟨I, 0, none⟩), .bool true]) w := by
  obtain ⟨v0, ps, hrun, hv⟩ := h.map.look_ok law9 Yba.underlying27 (zero45 _) ptrElem_no (keyOf_string_mk Yba.underlying9 hQ)
  rw [hI] at hv
  rw [hrun, ptrElem_num hv, hy]

/-- The look-up of Q. -/
theorem St.look {w : World} (h : St w0 w a1 m c1 br hr n lb Q Dc Va Ro D l calls) (hQ : Q.size ≤ maxLen) :
    ∃ v, (∀ o, (Instr.lookup 27 (.map (some (w0.heap.size + 1))) (.string Q) true).run Yba.prog (w.alloc o) = .ok (.tuple #[.pointer v, .bool (Maps.has D (.string Q.data.toList))]) (w.alloc o)) ∧ ∀ I : Nat, D.atKey (.string Q.data.toList) (.lit (.bool false)) = .lit (.int .i64 I) → v = some ⟨I, 0, none⟩ := by
  obtain ⟨v0, ps, _, hv⟩ := h.map.look_ok law9 Yba.underlying27 (zero45 _) ptrElem_no (keyOf_string_mk Yba.underlying9 hQ)
  have shape : ∃ v, v0 = .pointer v := by
    unfold ptrElem at hv
    split at hv
    · exact ⟨_, rfl⟩
    · exact ⟨_, rfl⟩
    · cases hv
  obtain ⟨v, rfl⟩ := shape
  refine ⟨v, fun o => ?_, fun I hI => ?_⟩
  · obtain ⟨v1, ps1, hrun, hv1⟩ := (h.map.alloc o).look_ok law9 Yba.underlying27 (zero45 _) ptrElem_no (keyOf_string_mk Yba.underlying9 hQ)
    rw [hrun]
    have : v1 = .pointer v := by
      generalize hgd : D.atKey (.string Q.data.toList) (.lit (.bool false)) = d at hv hv1
      unfold ptrElem at hv
      split at hv
      · rename_i heq
        cases hv
        cases heq
        exact ptrElem_bool hv1
      · rename_i heq
        cases hv
        cases heq
        exact ptrElem_num hv1
      · cases hv
    rw [this]
  · rw [hI] at hv
    have := ptrElem_num hv
    injection this

end

/-- The first index at which the name stands. -/
def fstOf (Nm : Nat → ByteArray) (Q : ByteArray) (m : Nat) : Option Nat := (List.range m).find? fun j => (Nm j).toList == Q.toList
def recV (f : Option Nat) (V : Nat → Int) : Int := match f with | none => 0 | some k => V k
def recB (f : Option Nat) (V : Nat → Bool) : Bool := match f with | none => false | some k => V k

theorem fstOf_some {Nm : Nat → ByteArray} {Q : ByteArray} {m k : Nat} (h : fstOf Nm Q m = some k) : k < m ∧ ((Nm k).toList == Q.toList) = true ∧ ∀ j, j < k → ((Nm j).toList == Q.toList) = false := by
  unfold fstOf at h
  rw [List.find?_range_eq_some] at h
  obtain ⟨h1, h2, h3⟩ := h
  exact ⟨by simpa using h2, h1, fun j hj => by simpa using h3 j hj⟩
theorem fstOf_none {Nm : Nat → ByteArray} {Q : ByteArray} {m : Nat} (h : fstOf Nm Q m = none) : ∀ j, j < m → ((Nm j).toList == Q.toList) = false := by
  unfold fstOf at h
  rw [List.find?_range_eq_none] at h
  exact fun j hj => by simpa using h j hj

theorem RecsAt.below {w w' : World} {b off m : Nat} {Nm : Nat → ByteArray} {Ok : Nat → Bool} {Va Ro : Nat → Int} (h : RecsAt w b off m Nm Ok Va Ro) (hb : Below w.heap.size w w') : RecsAt w' b off m Nm Ok Va Ro := by
  refine ⟨fun i hi => ?_, fun i hi => ?_, fun i hi => ?_, fun i hi => ?_⟩
  · exact (hb.cell (World.block_lt_of_cell? w _ (h.name i hi))).trans (h.name i hi)
  · exact (hb.cell (World.block_lt_of_cell? w _ (h.ok i hi))).trans (h.ok i hi)
  · exact (hb.cell (World.block_lt_of_cell? w _ (h.val i hi))).trans (h.val i hi)
  · exact (hb.cell (World.block_lt_of_cell? w _ (h.round i hi))).trans (h.round i hi)

/-- 'present'. -/
def idxOf (l : Option Nat) : Int := match l with | none => -1 | some j => j
theorem idx_miss {Nm : Nat → ByteArray} {Q : ByteArray} {k : Nat} (h : ((Nm k).toList == Q.toList) = false) : idxOf (lastOf Nm Q (k + 1)) = idxOf (lastOf Nm Q k) := by
  show idxOf (if (Nm k).toList == Q.toList then some k else lastOf Nm Q k) = _
  rw [h]
  rfl
theorem idx_hit {Nm : Nat → ByteArray} {Q : ByteArray} {k : Nat} (h : ((Nm k).toList == Q.toList) = true) : idxOf (lastOf Nm Q (k + 1)) = k := by
  show idxOf (if (Nm k).toList == Q.toList then some k else lastOf Nm Q k) = _
  rw [h]
  rfl

/-- Behind the switch: what was got and what is wanted read the same. -/
def Want (w2 wx : World) (gv gr : Int) : Prop :=
  wx.heap[w2.heap.size]? = some (.cells #[.int .i64 gv, .int .i64 gr] 44 (0, 0)) ∧ wx.heap[w2.heap.size + 1]? = some (.cells #[.int .i64 gv, .int .i64 gr] 44 (0, 0)) ∧ Below w2.heap.size w2 wx
theorem want_mk (w2 : World) (gv gr : Int) : Want w2 ((w2.alloc (.cells #[.int .i64 gv, .int .i64 gr] 44)).alloc (.cells #[.int .i64 gv, .int .i64 gr] 44)) gv gr := by
  have s1 : (w2.alloc (.cells #[.int .i64 gv, .int .i64 gr] 44)).heap.size = w2.heap.size + 1 := by simp
  refine ⟨?_, new_at s1 _, ((Below.refl _ _).alloc (Nat.le_refl _) _).alloc (by omega) _⟩
  rw [Below.heap_alloc _ _ _ (by omega)]
  exact new_at rfl _
theorem Want.drew {w2 wx : World} {gv gr : Int} (h : Want w2 wx gv gr) : Want w2 wx.drew gv gr := ⟨h.1, h.2.1, h.2.2.drew⟩

/-- What Decision answers, and how often it asks. -/
def Res (br hr : Bool) (l f : Option Nat) (Dc : Nat → Bool) (Va Ro : Nat → Int) (ROk : Nat → Bool) (RVa RRo : Nat → Int) (gv gr : Int) (gok : Bool) (calls : Nat) : Prop :=
  (br = true ∧ gv = 0 ∧ gr = 0 ∧ gok = false ∧ calls = 0) ∨
  (br = false ∧ ∃ j, l = some j ∧ calls = 0 ∧ ((Dc j = true ∧ gv = Va j ∧ gr = Ro j ∧ gok = true) ∨ (Dc j = false ∧ gv = 0 ∧ gr = 0 ∧ gok = false))) ∨
  (br = false ∧ l = none ∧ hr = true ∧ calls = 1 ∧ gv = recV f RVa ∧ gr = recV f RRo ∧ gok = recB f ROk) ∨
  (br = false ∧ l = none ∧ hr = false ∧ gv = 0 ∧ gr = 0 ∧ gok = false ∧ calls = 0)

theorem rec_cases {RNm : Nat → ByteArray} {ROk : Nat → Bool} {RVa RRo : Nat → Int} {Q : ByteArray} {m : Nat} {gv gr : Int} {gok : Bool} (h1 : gv = recV (fstOf RNm Q m) RVa) (h2 : gr = recV (fstOf RNm Q m) RRo) (h3 : gok = recB (fstOf RNm Q m) ROk) :
    (gv = 0 ∧ gr = 0 ∧ gok = false ∧ ∀ j, j < m → ((RNm j).toList == Q.toList) = false) ∨
    ∃ k, gv = RVa k ∧ gr = RRo k ∧ gok = ROk k ∧ k < m ∧ ((RNm k).toList == Q.toList) = true ∧ ∀ j, j < k → ((RNm j).toList == Q.toList) = false := by
  cases hf : fstOf RNm Q m with
  | none => rw [hf] at h1 h2 h3; exact .inl ⟨h1, h2, h3, fstOf_none hf⟩
  | some k => rw [hf] at h1 h2 h3; exact .inr ⟨k, h1, h2, h3, fstOf_some hf⟩

theorem clos_all {w0 w : World} {a1 : Option Addr} {m c1 : Nat} {br hr : Bool} {n lb : Nat} {Q : ByteArray} {Dc : Nat → Bool} {Va Ro : Nat → Int} {D : DataW Unit} (h : St w0 w a1 m c1 br hr n lb Q Dc Va Ro D none 0)
    {b1 off1 : Nat} {RNm : Nat → ByteArray} {ROk : Nat → Bool} {RVa RRo : Nat → Int} (hR : RecsAt w0 b1 off1 m RNm ROk RVa RRo) (hsh : m = 0 ∨ a1 = some ⟨b1, off1, none⟩) (hm : m ≤ 1024) (o : Obj) :
    Calls Yba.prog 4 #[.string Q, .pointer (some ⟨lb, 0, none⟩), .pointer (some ⟨w0.heap.size, 0, none⟩)] (w.alloc o) fun e w' => e = .returned (.tuple #[.agg #[.int .i64 (recV (fstOf RNm Q m) RVa), .int .i64 (recV (fstOf RNm Q m) RRo)], .bool (recB (fstOf RNm Q m) ROk)]) ∧ ClosPost Q lb (w.alloc o) w' := by
  have hlo := h.lo
  have hhi := h.hi
  have hl : (w.alloc o).heap[lb]? = some (.cells #[.slice none 0 0] 51 (0, 0)) := by
    rw [Below.heap_alloc _ _ _ hhi]
    rcases h.log with ⟨_, h2⟩ | ⟨h1, _⟩
    · exact h2
    · cases h1
  have hb : (w.alloc o).heap[w0.heap.size]? = some (.cells #[.slice a1 m c1] 23 (0, 0)) := by
    rw [Below.heap_alloc _ _ _ (by omega)]
    exact h.box
  have hbx := cell_of_one hb
  have hR' : RecsAt (w.alloc o) b1 off1 m RNm ROk RVa RRo := hR.below (h.bel.alloc (by omega) o)
  by_cases hm0 : m = 0
  · subst hm0
    have : fstOf RNm Q 0 = none := rfl
    rw [this]
    exact clos_zero Q lb w0.heap.size c1 a1 (w.alloc o) hl hbx (by omega)
  · obtain rfl : a1 = some ⟨b1, off1, none⟩ := by rcases hsh with e | e; exact absurd e hm0; exact e
    have hb1 : lb ≠ b1 := by
      have := World.block_lt_of_cell? w0 _ (hR.name 0 (by omega))
      simp at this
      omega
    cases hf : fstOf RNm Q m with
    | none => exact clos_miss Q lb w0.heap.size b1 off1 m c1 RNm ROk RVa RRo (w.alloc o) hm hl hbx hR' (by omega) hb1 (fstOf_none hf)
    | some k =>
      obtain ⟨h1, h2, h3⟩ := fstOf_some hf
      exact clos_hit Q lb w0.heap.size b1 off1 m c1 k RNm ROk RVa RRo (w.alloc o) hm hl hbx hR' (by omega) hb1 h1 h3 h2

/-- THE CONTRACT OF Decision. -/
theorem dec_all {w0 w : World} {a1 : Option Addr} {m c1 : Nat} {br hr : Bool} {n lb : Nat} {Q : ByteArray} {Dc : Nat → Bool} {Va Ro : Nat → Int} {D : DataW Unit} {l : Option Nat} (h : St w0 w a1 m c1 br hr n lb Q Dc Va Ro D l 0) (hQ : Q.size ≤ maxLen)
    {b1 off1 : Nat} {RNm : Nat → ByteArray} {ROk : Nat → Bool} {RVa RRo : Nat → Int} (hR : RecsAt w0 b1 off1 m RNm ROk RVa RRo) (hsh : m = 0 ∨ a1 = some ⟨b1, off1, none⟩) (hm : m ≤ 1024) :
    Calls Yba.prog 5 #[.pointer (some ⟨w0.heap.size + 1 + 1, 0, none⟩), .string Q] w fun e w' => ∃ gv gr gok calls, e = .returned (.tuple #[.agg #[.int .i64 gv, .int .i64 gr], .bool gok]) ∧
      Res br hr l (fstOf RNm Q m) Dc Va Ro ROk RVa RRo gv gr gok calls ∧ St w0 w' a1 m c1 br hr n lb Q Dc Va Ro D l calls := by
  have hlo := h.lo
  have hhi := h.hi
  have c9 : w.cell? ⟨w0.heap.size + 1 + 1, 9, none⟩ = some (.map (some (w0.heap.size + 1))) := cell_row h.nod (show 9 < 14 by decide)
  have c8 : w.cell? ⟨w0.heap.size + 1 + 1, 8, none⟩ = some (.bool br) := cell_row h.nod (show 8 < 14 by decide)
  have c6 : w.cell? ⟨w0.heap.size + 1 + 1, 6, none⟩ = some (fnv hr lb w0.heap.size) := cell_row h.nod (show 6 < 14 by decide)
  have hbn : w0.heap.size + 1 + 1 < w.heap.size := by omega
  obtain ⟨v, hlk, hv⟩ := h.look hQ
  cases hbr : br
  · subst hbr
    cases l with
    | none =>
      have hno : Maps.has D (.string Q.data.toList) = false := h.kn
      rw [hno] at hlk
      cases hr
      · refine (dec_none Q _ _ v w c9 c8 c6 hbn hlk).mono ?_
        rintro e w' ⟨rfl, hb⟩
        exact ⟨0, 0, false, 0, rfl, .inr (.inr (.inr ⟨rfl, rfl, rfl, rfl, rfl, rfl, rfl⟩)), h.below hb⟩
      · refine (dec_rec Q _ _ lb w0.heap.size v w _ _ _ c9 c8 c6 hbn hhi hlk (clos_all h hR hsh hm)).mono ?_
        rintro e w' ⟨rfl, hc⟩
        exact ⟨_, _, _, 1, rfl, .inr (.inr (.inl ⟨rfl, rfl, rfl, rfl, rfl, rfl, rfl⟩)), h.called hc⟩
    | some j =>
      obtain ⟨hyes, I, dv, hI, h1, h2, h3, h4, h5, h6⟩ := h.kn
      rw [hyes, hv I hI] at hlk
      cases hd : Dc j
      · rw [h5 hd] at h3
        refine (dec_und Q _ _ I w c9 c8 hbn h2 h3 hlk).mono ?_
        rintro e w' ⟨rfl, hb⟩
        exact ⟨0, 0, false, 0, rfl, .inr (.inl ⟨rfl, j, rfl, rfl, .inr ⟨hd, rfl, rfl, rfl⟩⟩), h.below hb⟩
      · obtain ⟨d, rfl, e1, e2, e3, e4⟩ := h6 hd
        refine (dec_yes Q _ _ I d (Va j) (Ro j) w c9 c8 hbn h2 e2 h3 e3 e4 hlk).mono ?_
        rintro e w' ⟨rfl, hb⟩
        exact ⟨_, _, _, 0, rfl, .inr (.inl ⟨rfl, j, rfl, rfl, .inl ⟨hd, rfl, rfl, rfl⟩⟩), h.below hb⟩
  · subst hbr
    refine (dec_broken Q _ _ v _ w c9 c8 hbn hlk).mono ?_
    rintro e w' ⟨rfl, hb⟩
    exact ⟨0, 0, false, 0, rfl, .inl ⟨rfl, rfl, rfl, rfl, rfl⟩, h.below hb⟩

/-! ### a pointer against itself -/
theorem same_self {P : Program} (a : Addr) (w : World) : (sameAddr a a).run P w = .ok true w := by
  simp [sameAddr]
theorem ptr_equal (d : Nat) (a : Addr) (w : World) : (Op.equalIn (d + 1) 42 (.pointer (some a)) (.pointer (some a))).run Yba.prog w = .ok true w := by
  simp [Op.equalIn, run_underlying Yba.underlying42, same_self]
theorem ptr_neq (dv : Option Addr) (w : World) : (binOp .neq 42 (.pointer dv) (.pointer dv)).run Yba.prog w = .ok (.bool false) w := by
  cases dv with
  | none => kernel_rfl
  | some a =>
    have e : (Op.equal 42 (.pointer (some a)) (.pointer (some a))).run Yba.prog w = .ok true w := by
      exact ptr_equal 9999 a w
    simp only [binOp]
    simp [e]
theorem below_drewN {B : Nat} {a w : World} (h : Below B a w) (n : Nat) : Below B a (w.drewN n) := h.trans ⟨rfl, rfl, rfl, Nat.le_refl _, fun _ _ => rfl⟩
end Go.Proofs.Ybulkcpfo
