import Derived.Test.YbulkcpgqRen
import Derived.OpenShut
namespace Go.Proofs.Ybulkcpgq
open Go.RowKit

/-- A slice of ints that came in, whatever its address is where it is empty. -/
def View (a : Option Addr) (n c b off : Nat) : Prop :=
  ∀ k : Nat, k < n → ∀ w, (Instr.indexAt 22 (.slice a n c) (.int .i64 k)).run Yba.prog w = .ok (.pointer (some ⟨b, off + k, none⟩)) w

/-- Behind k rounds of the first loop. -/
structure Inv (w0 wr : World) (bq S n k : Nat) (K : ByteArray) (zs : Nat → Int) : Prop where
  bel : Below w0.heap.size w0 wr
  lq : w0.heap.size < bq
  ls : bq < S
  siz : wr.heap.size = S + k
  reqs : Row wr w0.heap.size S n k
  q : Row wr bq S n k
  req : ∀ j, j < k → wr.heap[S + j]? = some (.cells (reqC K j (zs j)) 32 (0, 0))

theorem Inv.step {w0 wr : World} {bq S n k : Nat} {K : ByteArray} {zs : Nat → Int} (h : Inv w0 wr bq S n k K zs) (hk : k < n) :
    Inv w0 (((wr.setCell ⟨w0.heap.size, k, none⟩ (.pointer (some ⟨wr.heap.size, 0, none⟩))).setCell ⟨bq, k, none⟩ (.pointer (some ⟨wr.heap.size, 0, none⟩))).alloc (.cells (reqC K k (zs k)) 32)) bq S n (k + 1) K zs := by
  have h1 := h.lq
  have h2 := h.ls
  have h3 := h.siz
  have sz : ((wr.setCell ⟨w0.heap.size, k, none⟩ (.pointer (some ⟨wr.heap.size, 0, none⟩))).setCell ⟨bq, k, none⟩ (.pointer (some ⟨wr.heap.size, 0, none⟩))).heap.size = wr.heap.size := by simp [World.setCell]
  refine ⟨((h.bel.setCell (Nat.le_refl _) _).setCell (by show w0.heap.size ≤ bq; omega) _).alloc (by omega) _, h1, h2, by simp [World.setCell]; omega, ?_, ?_, fun j hj => ?_⟩
  · exact ((h.reqs.put hk h3).kept (Below.heap_setCell _ _ _ _ (by show w0.heap.size ≠ bq; omega))).kept (Below.heap_alloc _ _ _ (by omega))
  · exact ((h.q.kept (Below.heap_setCell _ _ _ _ (by show bq ≠ w0.heap.size; omega))).put hk h3).kept (Below.heap_alloc _ _ _ (by omega))
  · by_cases e : j = k
    · subst e
      exact new_at (by omega) _
    · rw [Below.heap_alloc _ _ _ (by omega), Below.heap_setCell _ _ _ _ (by show S + j ≠ bq; omega), Below.heap_setCell _ _ _ _ (by show S + j ≠ w0.heap.size; omega)]
      exact h.req j (by omega)

/-- Behind the call of renumber. -/
structure After (w0 w : World) (bk bq S n f : Nat) (K : ByteArray) (zs : Nat → Int) : Prop where
  bel : Below w0.heap.size w0 w
  kl : w.cell? ⟨bk, 1, none⟩ = some (.slice (some ⟨bq, 0, none⟩) n n)
  reqs : Row w w0.heap.size S n n
  q : Row w bq S n n
  req : ∀ j, j < n → w.heap[S + j]? = some (.cells (reqC K j (if f ≤ j then j else zs j)) 32 (0, 0))

theorem ren_call {w0 wr : World} {bq S n : Nat} {K : ByteArray} {zs : Nat → Int} (h : Inv w0 wr bq S n n K zs) (hn : n ≤ 1024) (f : Nat) :
    Calls Yba.prog 5 #[.pointer (some ⟨wr.heap.size, 0, none⟩), .int .i64 f] (wr.alloc (.cells #[.slice none 0 0, .slice (some ⟨bq, 0, none⟩) n n, .slice none 0 0, .slice none 0 0, .int .i64 0, .int .i64 0] 37))
      fun e w' => e = .returned (.tuple #[]) ∧ After w0 w' wr.heap.size bq S n f K zs := by
  have h1 := h.lq
  have h2 := h.ls
  have h3 := h.siz
  have hkl : (wr.alloc (.cells #[.slice none 0 0, .slice (some ⟨bq, 0, none⟩) n n, .slice none 0 0, .slice none 0 0, .int .i64 0, .int .i64 0] 37)).heap[wr.heap.size]? = some (.cells #[.slice none 0 0, .slice (some ⟨bq, 0, none⟩) n n, .slice none 0 0, .slice none 0 0, .int .i64 0, .int .i64 0] 37 (0, 0)) := new_at rfl _
  have hck := cell_row hkl (show 1 < 6 by decide)
  have hq := h.q.kept (Below.heap_alloc wr (.cells #[.slice none 0 0, .slice (some ⟨bq, 0, none⟩) n n, .slice none 0 0, .slice none 0 0, .int .i64 0, .int .i64 0] 37) bq (by omega))
  have hs := h.reqs.kept (Below.heap_alloc wr (.cells #[.slice none 0 0, .slice (some ⟨bq, 0, none⟩) n n, .slice none 0 0, .slice none 0 0, .int .i64 0, .int .i64 0] 37) w0.heap.size (by omega))
  refine (renumber_any wr.heap.size bq n n f (fun j => S + j) (fun _ => K) (fun j => j) zs _ (by omega) hck (fun j hj => hq.cell hj) (fun j hj => ?_) (fun a b _ _ e => by omega) (fun j hj => by omega) (fun j hj => by omega)).mono ?_
  · rw [Below.heap_alloc _ _ _ (by omega)]
    exact h.req j hj
  · rintro e w' ⟨rfl, hr⟩
    refine ⟨rfl, (h.bel.alloc (by omega) _).trans (hr.below (fun j hj => by omega)), (World.cell?_of_block (a := ⟨wr.heap.size, 1, none⟩) (hr.other wr.heap.size (fun j hj => by omega))).trans hck, hs.kept (hr.other _ (fun j hj => by omega)), hq.kept (hr.other _ (fun j hj => by omega)), fun j hj => ?_⟩
    rw [hr.req j hj]
    congr 3
    by_cases hf : f ≤ j
    · rw [if_pos (by omega), if_pos hf]
    · rw [if_neg (by omega), if_neg hf]

set_option maxRecDepth 100000 in
set_option maxHeartbeats 1000000 in
theorem ren_walk (a0 : Option Addr) (n c0 b off : Nat) (zs : Nat → Int) (p : Nat) (w : World) (hn : n ≤ 1024) (hp : p ≤ 65535) (V : View a0 n c0 b off) (hrow : ∀ i, i < n → w.cell? ⟨b, off + i, none⟩ = some (.int .i64 (zs i))) :
    Calls Yba.prog 3 #[.slice a0 n c0, .int .u16 p] w fun e w' => e = .returned (.bool true) ∧ Below w.heap.size w w' := by
  obtain ⟨i0, hi, hz0, hz1, hz2⟩ := info_parts Yba.info25
  obtain ⟨f, hfn, hf⟩ : ∃ f : Nat, f ≤ n + 2 ∧ (p : Int) % ((n : Int) + 3) = (f : Int) := ⟨p % (n + 3), by have := Nat.mod_lt p (show n + 3 > 0 by omega); omega, by rw [Int.natCast_emod]; rfl⟩
  have tok1 : True := trivial
  go_enter Yba.func3, Yba.ntmps3
  go_wp2_with (first
    | (at_make; have _t := tok1; refine wpList_make_full _ rfl _ _ 24 rfl w.heap.size 25 i0 (.pointer none) 1 Yba.underlying24 hi hz0 hz1 .i64 .i64 _ _ n rfl rfl rfl rfl ?_ ?_ ?_ ?_; (rw [hz2]; omega); (unfold maxLen; omega); exact Nat.le_refl _; intro w1 hown1 hgrow1; clear tok1 _t)
    | (at_make; refine wpList_make_full _ rfl _ _ 24 rfl w.heap.size 25 i0 (.pointer none) 1 Yba.underlying24 hi hz0 hz1 .i64 .i64 _ _ n rfl rfl rfl rfl ?_ ?_ ?_ ?_; (rw [hz2]; omega); (unfold maxLen; omega); exact hgrow1.size; intro w2 hown2 hgrow2))
  have hz1' := hgrow1.size
  obtain ⟨Z1, hZ1, hh1⟩ := own_row hown1
  obtain ⟨Z2, hZ2, hh2⟩ := own_row hown2
  have hB : w.heap.size < w1.heap.size := (Array.getElem?_eq_some_iff.1 hh1).1
  have hq2 : w1.heap.size < w2.heap.size := (Array.getElem?_eq_some_iff.1 hh2).1
  have hinv0 : Inv w w2 w1.heap.size w2.heap.size n 0 ⟨#[107]⟩ zs := ⟨((Below.refl _ _).grown hgrow1 (Nat.le_refl _) (fun k hk => by cases hk)).grown hgrow2 hgrow1.size (fun k hk => by cases hk), hB, hq2, rfl, ⟨Z1, hZ1, (hgrow2.block _ hB (by simp)).trans hh1, fun j hj => absurd hj (Nat.not_lt_zero j)⟩, ⟨Z2, hZ2, hh2, fun j hj => absurd hj (Nat.not_lt_zero j)⟩, fun j hj => absurd hj (Nat.not_lt_zero j)⟩
  generalize w1.heap.size = bq at *
  generalize w2.heap.size = S at *
  clear hown1 hown2 hgrow1 hgrow2 hh1 hh2 hZ1 hZ2 hi hz0 hz1 hz2 hz1'
  go_loopw [9] (fun i wr => ∃ k : Nat, k ≤ n ∧ i = .int .i64 k ∧ Inv w wr bq S n k ⟨#[107]⟩ zs) (fun i _ => n - (intOf i).toNat)
  case atStart => exact ⟨0, Nat.zero_le _, rfl, hinv0⟩
  case round =>
    clear hinv0
    obtain ⟨k, hk, rfl, hinv⟩ := hrel
    by_cases hlt : k < n
    · have hix := V k hlt
      have hbl := World.block_lt_of_cell? w _ (hrow k hlt)
      have d0 := (hinv.bel.cell (p := ⟨b, off + k, none⟩) hbl).trans (hrow k hlt)
      have hsz := hinv.siz
      obtain ⟨X1, hX1, hx1, _⟩ := hinv.reqs
      obtain ⟨X2, hX2, hx2, _⟩ := hinv.q
      have e1 := cell_row hx1 (show k < X1.size by omega)
      have e2 := cell_row hx2 (show k < X2.size by omega)
      have f1 := free_row (j := k) hx1
      have f2 := free_row (j := k) hx2
      have n1 : w.heap.size < wr.heap.size := by omega
      have n2 : bq < wr.heap.size := by omega
      have n3 : w.heap.size ≠ bq := by omega
      clear hx1 hx2 hsz
      have HS : Hid (Inv w (((wr.setCell ⟨w.heap.size, k, none⟩ (.pointer (some ⟨wr.heap.size, 0, none⟩))).setCell ⟨bq, k, none⟩ (.pointer (some ⟨wr.heap.size, 0, none⟩))).alloc (.cells (reqC ⟨#[107]⟩ k (zs k)) 32)) bq S n (k + 1) ⟨#[107]⟩ zs) := hinv.step hlt
      clear hinv V hrow
      go_wp2
      go_roundw
      case rel => exact ⟨k + 1, hlt, by go_num, HS.out⟩
      case measure => simp [intOf]; omega
    · obtain rfl : n = k := by omega
      go_wp2_with (go_at_call 5; refine (ren_call hinv hn f).mono ?_; rintro e w3 ⟨rfl, haf⟩; have hkl := haf.kl; clear hinv)
      go_loop [11] (fun i => ∃ k : Nat, k ≤ n ∧ i = .int .i64 k) (fun i => n - (intOf i).toNat)
      case atStart => exact ⟨0, Nat.zero_le _, rfl⟩
      case round =>
        obtain ⟨k, hk2, rfl⟩ := hrel
        by_cases hlt2 : k < n
        · have hix := V k hlt2
          have hbl := World.block_lt_of_cell? w _ (hrow k hlt2)
          have d0 := (haf.bel.cell (p := ⟨b, off + k, none⟩) hbl).trans (hrow k hlt2)
          have e1 := haf.reqs.cell hlt2
          have e2 := haf.q.cell hlt2
          have hpn := ptr_neq ⟨S + k, 0, none⟩
          have r7 := cell_row (haf.req k hlt2) (show 7 < 8 by decide)
          have r4 : w3.cell? ⟨S + k, 4, none⟩ = some (.int .u64 k) := cell_row (haf.req k hlt2) (show 4 < 8 by decide)
          have r1 : w3.cell? ⟨S + k, 1, none⟩ = some (.string ⟨#[107]⟩) := cell_row (haf.req k hlt2) (show 1 < 8 by decide)
          clear V hrow
          by_cases hfk : f ≤ k
          · have r7' : w3.cell? ⟨S + k, 7, none⟩ = some (.int .i64 k) := by rw [r7, if_pos hfk]; rfl
            clear r7 haf
            go_wp2
            go_round
            case rel => exact ⟨k + 1, hlt2, by go_num⟩
            case measure => simp [intOf]; omega
          · have r7' : w3.cell? ⟨S + k, 7, none⟩ = some (.int .i64 (zs k)) := by rw [r7, if_neg hfk]; rfl
            clear r7 haf
            go_wp2
            go_round
            case rel => exact ⟨k + 1, hlt2, by go_num⟩
            case measure => simp [intOf]; omega
        · go_wp2
          go_ret
          exact ⟨rfl, haf.bel⟩
end Go.Proofs.Ybulkcpgq
