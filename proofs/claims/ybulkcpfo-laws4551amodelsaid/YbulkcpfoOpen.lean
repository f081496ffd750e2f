import Derived.Test.YbulkcpfoSt
import Derived.Deep.SlicePairs
/- A slice of structs of four one-cell fields (a string, a bool, two ints) that came in: what it holds at each index. -/
namespace Go.Proofs.Ybulkcpfo
open Go.RowKit Go.Deep

theorem open_four {H : Type} {enc : TypeId × Value → H} {w : World} {base : Nat} {spare : Nat → Bool} {held : Bool} {t e : TypeId} {f0 f1 f2 f3 : Field} {fuel : Nat} {a : Option Addr} {len cap : Nat} {x : DataW H × List MemPlace}
    (ht : Yba.prog.underlying t = some (.slice e)) (he : Yba.prog.underlying e = some (.struct #[f0, f1, f2, f3])) (ce : Yba.prog.cellsOf e = 4)
    (o0 : f0.offset = 0) (o1 : f1.offset = 1) (o2 : f2.offset = 2) (o3 : f3.offset = 3) (t0 : f0.type = 9) (t1 : f1.type = 4) (t2 : f2.type = 3) (t3 : f3.type = 3)
    (h : DataW.trod enc Yba.prog w base spare held fuel t [.slice a len cap] = some x) :
    ∃ (b off : Nat) (Nm : Nat → ByteArray) (Dc : Nat → Bool) (Va Ro : Nat → Int), (len = 0 ∨ a = some ⟨b, off, none⟩) ∧ RecsAt w b off len Nm Dc Va Ro ∧ ∀ i, i < len → (Nm i).size ≤ maxLen := by
  have c9 : Yba.prog.cellsOf 9 = 1 := by kernel_rfl
  have c4 : Yba.prog.cellsOf 4 = 1 := by kernel_rfl
  have c3 : Yba.prog.cellsOf 3 = 1 := by kernel_rfl
  rcases open_slice ht h with ⟨h0, _⟩ | ⟨ad, len', cap', m, n, D, Pl, hcs, hb, hl, hm, hmm, rfl, hx⟩
  · simp at h0
    obtain ⟨rfl, rfl, rfl⟩ := h0
    exact ⟨0, 0, fun _ => ByteArray.empty, fun _ => false, fun _ => 0, fun _ => 0, .inl rfl, ⟨fun i hi => absurd hi (Nat.not_lt_zero i), fun i hi => absurd hi (Nat.not_lt_zero i), fun i hi => absurd hi (Nat.not_lt_zero i), fun i hi => absurd hi (Nat.not_lt_zero i)⟩, fun i hi => absurd hi (Nat.not_lt_zero i)⟩
  · simp at hcs
    obtain ⟨rfl, rfl, rfl⟩ := hcs
    have hlm : len ≤ m := by rw [hmm]; split <;> omega
    have each : ∀ i, i < len → ∃ q : ByteArray × Bool × Int × Int, w.cell? (ad.add (i * 4)) = some (.string q.1) ∧ w.cell? (ad.add (i * 4 + 1)) = some (.bool q.2.1) ∧ w.cell? (ad.add (i * 4 + 2)) = some (.int .i64 q.2.2.1) ∧ w.cell? (ad.add (i * 4 + 3)) = some (.int .i64 q.2.2.2) ∧ q.1.size ≤ maxLen := by
      intro i hi
      obtain ⟨cs', h1, h2⟩ := hx i (by omega)
      rw [ce] at h1
      obtain ⟨_, hlen, hcell⟩ := World.cells?_some h1
      obtain ⟨xs, k, hk, hxy, _, hxl, hf⟩ := DataW.trod_struct he h2
      match xs, hxl, cs', hlen with
      | [y0, y1, y2, y3], _, [v0, v1, v2, v3], _ =>
        have g0 := hf 0 f0 rfl
        have g1 := hf 1 f1 rfl
        have g2 := hf 2 f2 rfl
        have g3 := hf 3 f3 rfl
        simp [o0, o1, o2, o3, t0, t1, t2, t3, c9, c4, c3] at g0 g1 g2 g3
        obtain ⟨s, hs, _, hsz⟩ := DataW.trod_string Yba.underlying9 g0
        obtain ⟨bb, hbb, _⟩ := DataW.trod_bool Yba.underlying4 g1
        obtain ⟨n2, hn2, _, _⟩ := DataW.trod_int Yba.underlying3 g2
        obtain ⟨n3, hn3, _, _⟩ := DataW.trod_int Yba.underlying3 g3
        simp at hs hbb hn2 hn3
        subst hs hbb hn2 hn3
        have e0 := hcell 0 (by omega)
        have e1 := hcell 1 (by omega)
        have e2 := hcell 2 (by omega)
        have e3 := hcell 3 (by omega)
        rw [add_add] at e0 e1 e2 e3
        exact ⟨(s, bb, n2, n3), by simpa using e0, by simpa using e1, by simpa using e2, by simpa using e3, hsz⟩
    by_cases h0 : len = 0
    · subst h0
      exact ⟨0, 0, fun _ => ByteArray.empty, fun _ => false, fun _ => 0, fun _ => 0, .inl rfl, ⟨fun i hi => absurd hi (Nat.not_lt_zero i), fun i hi => absurd hi (Nat.not_lt_zero i), fun i hi => absurd hi (Nat.not_lt_zero i), fun i hi => absurd hi (Nat.not_lt_zero i)⟩, fun i hi => absurd hi (Nat.not_lt_zero i)⟩
    · have ⟨q, hq⟩ : ∃ q : Nat → ByteArray × Bool × Int × Int, ∀ i, i < len → w.cell? (ad.add (i * 4)) = some (.string (q i).1) ∧ w.cell? (ad.add (i * 4 + 1)) = some (.bool (q i).2.1) ∧ w.cell? (ad.add (i * 4 + 2)) = some (.int .i64 (q i).2.2.1) ∧ w.cell? (ad.add (i * 4 + 3)) = some (.int .i64 (q i).2.2.2) ∧ (q i).1.size ≤ maxLen := choose_lt each
      obtain ⟨b, off, spot⟩ := ad
      have hspot : spot = none := by simpa [Addr.add] using World.cell?_spot (hq 0 (by omega)).1
      subst hspot
      simp only [Addr.add_lit] at hq
      exact ⟨b, off, fun i => (q i).1, fun i => (q i).2.1, fun i => (q i).2.2.1, fun i => (q i).2.2.2, .inr rfl, ⟨fun i hi => (hq i hi).1, fun i hi => by rw [Nat.add_assoc]; exact (hq i hi).2.1, fun i hi => by rw [Nat.add_assoc]; exact (hq i hi).2.2.1, fun i hi => by rw [Nat.add_assoc]; exact (hq i hi).2.2.2.1⟩, fun i hi => (hq i hi).2.2.2.2⟩
end Go.Proofs.Ybulkcpfo
