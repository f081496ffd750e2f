import Derived.Test.YbulkcpgqDel
namespace Go.Proofs.Ybulkcpgq
open Go.RowKit

theorem del_any (bq N d : Nat) (Z : Array Value) (w : World) (hN : N ≤ 4096) (hd : d ≤ N) (hh : w.heap[bq]? = some (.cells Z 25 (0, 0))) (hZ : Z.size = N + 1) (hone : ∀ (j : Nat) (v : Value), Z[j]? = some v → v.oneCell' = true) :
    Calls Yba.prog 6 #[.slice (some ⟨bq, 0, none⟩) (N + 1) (N + 1), .int .i64 d, .int .i64 (d + 1)] w fun e w' => e = .returned (.slice (some ⟨bq, 0, none⟩) N (N + 1)) ∧ DelPost w w' bq N d Z := by
  by_cases h : d < N
  · exact del_mid bq N d Z w hN h hh hZ hone
  · obtain rfl : N = d := by omega
    exact del_last bq N Z w hN hh hZ

/-- Behind k rounds of the first loop. -/
structure Inv2 (w0 wr : World) (S n k : Nat) : Prop where
  bel : Below w0.heap.size w0 wr
  ls : w0.heap.size < S
  siz : wr.heap.size = S + k
  q : Row wr w0.heap.size S n k
  req : ∀ j : Nat, j < k → wr.heap[S + j]? = some (.cells (reqC ⟨#[]⟩ j j) 32 (0, 0))

theorem Inv2.step {w0 wr : World} {S n k : Nat} (h : Inv2 w0 wr S n k) (hk : k < n) :
    Inv2 w0 ((wr.setCell ⟨w0.heap.size, k, none⟩ (.pointer (some ⟨wr.heap.size, 0, none⟩))).alloc (.cells (reqC ⟨#[]⟩ k k) 32)) S n (k + 1) := by
  have h2 := h.ls
  have h3 := h.siz
  have sz : (wr.setCell ⟨w0.heap.size, k, none⟩ (.pointer (some ⟨wr.heap.size, 0, none⟩))).heap.size = wr.heap.size := by simp [World.setCell]
  refine ⟨(h.bel.setCell (Nat.le_refl _) _).alloc (by omega) _, h2, by simp [World.setCell]; omega, ?_, fun j hj => ?_⟩
  · exact (h.q.put hk h3).kept (Below.heap_alloc _ _ _ (by omega))
  · by_cases e : j = k
    · subst e
      exact new_at (by omega) _
    · rw [Below.heap_alloc _ _ _ (by omega), Below.heap_setCell _ _ _ _ (by show S + j ≠ w0.heap.size; omega)]
      exact h.req j (by omega)

/-- Where the j-th request lies behind the deletion, and its arrival. -/
def skip (d j : Nat) : Nat := if j < d then j else j + 1

/-- Behind the call of renumber. -/
structure After2 (w0 w : World) (bk S N d : Nat) : Prop where
  bel : Below w0.heap.size w0 w
  kl : w.cell? ⟨bk, 1, none⟩ = some (.slice (some ⟨w0.heap.size, 0, none⟩) N (N + 1))
  q : ∀ j, j < N → w.cell? ⟨w0.heap.size, j, none⟩ = some (.pointer (some ⟨S + skip d j, 0, none⟩))
  req : ∀ j : Nat, j < N → w.heap[S + skip d j]? = some (.cells (reqC ⟨#[]⟩ (skip d j : Nat) j) 32 (0, 0))

/-- The keyLocks' block. -/
def klO (w0 : World) (n : Nat) : Obj := .cells #[.slice none 0 0, .slice (some ⟨w0.heap.size, 0, none⟩) n n, .slice none 0 0, .slice none 0 0, .int .i64 0, .int .i64 0] 37

theorem kl_kept {w0 wr w3 : World} {S N d : Nat} {Z : Array Value} (h : Inv2 w0 wr S (N + 1) (N + 1)) (hd : DelPost (wr.alloc (klO w0 (N + 1))) w3 w0.heap.size N d Z) :
    w3.heap[wr.heap.size]? = some (klO w0 (N + 1)) := by
  obtain ⟨_, _, _, _, _, hg⟩ := hd
  have h2 := h.ls
  have h3 := h.siz
  rw [hg.block wr.heap.size (by simp) (by simp; omega)]
  exact new_at rfl _

theorem ren2_call {w0 wr w3 : World} {S N d : Nat} {Z : Array Value} (h : Inv2 w0 wr S (N + 1) (N + 1)) (hN : N ≤ 4096) (hdN : d ≤ N) (hz : ∀ j, j < N + 1 → Z[j]? = some (.pointer (some ⟨S + j, 0, none⟩)))
    (hd : DelPost (wr.alloc (klO w0 (N + 1))) w3 w0.heap.size N d Z) :
    Calls Yba.prog 5 #[.pointer (some ⟨wr.heap.size, 0, none⟩), .int .i64 d] (w3.setCell ⟨wr.heap.size, 1, none⟩ (.slice (some ⟨w0.heap.size, 0, none⟩) N (N + 1)))
      fun e w' => e = .returned (.tuple #[]) ∧ After2 w0 w' wr.heap.size S N d := by
  have h2 := h.ls
  have h3 := h.siz
  have hkl := kl_kept h hd
  obtain ⟨Z', hZ', hh', hz', hs', hg⟩ := hd
  have hsz : wr.heap.size < w3.heap.size := (Array.getElem?_eq_some_iff.1 hkl).1
  have sk : ∀ j, j < N → skip d j < N + 1 := fun j hj => by unfold skip; split <;> omega
  have skinj : ∀ a b, skip d a = skip d b → a = b := fun a b e => by unfold skip at e; split at e <;> split at e <;> omega
  have hrow : ∀ j, j < N → Z'[j]? = some (.pointer (some ⟨S + skip d j, 0, none⟩)) := fun j hj => by
    rw [hz' j hj]
    unfold skip
    split
    · exact hz j (by omega)
    · exact hz (j + 1) (by omega)
  have hkl' := row_set (j := 1) hkl (.slice (some ⟨w0.heap.size, 0, none⟩) N (N + 1))
  have hck : (w3.setCell ⟨wr.heap.size, 1, none⟩ (.slice (some ⟨w0.heap.size, 0, none⟩) N (N + 1))).cell? ⟨wr.heap.size, 1, none⟩ = some (.slice (some ⟨w0.heap.size, 0, none⟩) N (N + 1)) := cell_row hkl' (show 1 < 6 by decide)
  have hq : ∀ j, j < N → (w3.setCell ⟨wr.heap.size, 1, none⟩ (.slice (some ⟨w0.heap.size, 0, none⟩) N (N + 1))).cell? ⟨w0.heap.size, j, none⟩ = some (.pointer (some ⟨S + skip d j, 0, none⟩)) := fun j hj => by
    rw [World.cell?_of_block (w := w3) (a := ⟨w0.heap.size, j, none⟩) (Below.heap_setCell _ _ _ _ (by show w0.heap.size ≠ wr.heap.size; omega))]
    simp [World.cell?, hh', hrow j hj]
  refine (renumber_any wr.heap.size w0.heap.size N (N + 1) d (fun j => S + skip d j) (fun _ => ⟨#[]⟩) (fun j => (skip d j : Nat)) (fun j => (skip d j : Nat)) _ hN hck hq (fun j hj => ?_) (fun a b _ _ e => skinj a b (by omega)) (fun j hj => by have := sk j hj; omega) (fun j hj => by omega)).mono ?_
  · have := sk j hj
    rw [Below.heap_setCell _ _ _ _ (by show S + skip d j ≠ wr.heap.size; omega), hg.block _ (by simp; omega) (by simp; omega), Below.heap_alloc _ _ _ (by omega)]
    exact h.req _ this
  · rintro e w' ⟨rfl, hr⟩
    refine ⟨rfl, ((h.bel.alloc (by omega) _).grown hg (by simp; omega) (fun k hk => by cases hk; exact Nat.le_refl _)).setCell (by show w0.heap.size ≤ wr.heap.size; omega) _ |>.trans (hr.below (fun j hj => by omega)), (World.cell?_of_block (a := ⟨wr.heap.size, 1, none⟩) (hr.other wr.heap.size (fun j hj => by have := sk j hj; omega))).trans hck, fun j hj => (World.cell?_of_block (a := ⟨w0.heap.size, j, none⟩) (hr.other w0.heap.size (fun i hi => by omega))).trans (hq j hj), fun j hj => ?_⟩
    rw [hr.req j hj]
    congr 3
    by_cases hf : d ≤ j
    · rw [if_pos (by omega)]
    · rw [if_neg (by omega)]
      unfold skip
      rw [if_pos (by omega)]

theorem ptr_nil (a : Addr) (w : World) : (binOp .eql 25 (.pointer (some a)) (.pointer none)).run Yba.prog w = .ok (.bool false) w := by kernel_rfl

set_option maxRecDepth 100000 in
set_option maxHeartbeats 1000000 in
theorem del_walk (N p : Nat) (w : World) (hN : N ≤ 255) (hp : p ≤ 255) :
    Calls Yba.prog 4 #[.int .u8 N, .int .u8 p] w fun e w' => e = .returned (.bool true) ∧ Below w.heap.size w w' := by
  obtain ⟨i0, hi, hz0, hz1, hz2⟩ := info_parts Yba.info25
  obtain ⟨d, hdN, hf⟩ : ∃ d : Nat, d ≤ N ∧ (p : Int) % ((N : Int) + 1) = (d : Int) := ⟨p % (N + 1), by have := Nat.mod_lt p (show N + 1 > 0 by omega); omega, by rw [Int.natCast_emod]; rfl⟩
  go_enter Yba.func4, Yba.ntmps4
  go_wp2_with (at_make; refine wpList_make_full _ rfl _ _ 24 rfl w.heap.size 25 i0 (.pointer none) 1 Yba.underlying24 hi hz0 hz1 .i64 .i64 _ _ (N + 1) rfl rfl ?_ ?_ ?_ ?_ ?_ ?_; omega; omega; (rw [hz2]; omega); (unfold maxLen; omega); exact Nat.le_refl _; intro w1 hown1 hgrow1)
  obtain ⟨Z1, hZ1, hh1⟩ := own_row hown1
  have hB : w.heap.size < w1.heap.size := (Array.getElem?_eq_some_iff.1 hh1).1
  have hinv0 : Inv2 w w1 w1.heap.size (N + 1) 0 := ⟨(Below.refl _ _).grown hgrow1 (Nat.le_refl _) (fun k hk => by cases hk), hB, rfl, ⟨Z1, hZ1, hh1, fun j hj => absurd hj (Nat.not_lt_zero j)⟩, fun j hj => absurd hj (Nat.not_lt_zero j)⟩
  generalize w1.heap.size = S at *
  clear hown1 hgrow1 hh1 hZ1 hi hz0 hz1 hz2
  go_loopw [8] (fun i wr => ∃ k : Nat, k ≤ N + 1 ∧ i = .int .i64 k ∧ Inv2 w wr S (N + 1) k) (fun i _ => N + 1 - (intOf i).toNat)
  case atStart => exact ⟨0, Nat.zero_le _, rfl, hinv0⟩
  case round =>
    clear hinv0
    obtain ⟨k, hk, rfl, hinv⟩ := hrel
    by_cases hlt : k < N + 1
    · have hsz := hinv.siz
      obtain ⟨X2, hX2, hx2, _⟩ := hinv.q
      have e2 := cell_row hx2 (show k < X2.size by omega)
      have f2 := free_row (j := k) hx2
      have n1 : w.heap.size < wr.heap.size := by omega
      have HS : Hid (Inv2 w ((wr.setCell ⟨w.heap.size, k, none⟩ (.pointer (some ⟨wr.heap.size, 0, none⟩))).alloc (.cells (reqC ⟨#[]⟩ k k) 32)) S (N + 1) (k + 1)) := hinv.step hlt
      clear hx2 hsz hinv
      go_wp2
      go_roundw
      case rel => exact ⟨k + 1, hlt, by go_num, HS.out⟩
      case measure => simp [intOf]; omega
    · obtain rfl : k = N + 1 := by omega
      obtain ⟨Z, hZ, hh, hz⟩ := hinv.q
      have hsz := hinv.siz
      have hn1 : w.heap.size < wr.heap.size := by omega
      have hone : ∀ (j : Nat) (v : Value), Z[j]? = some v → v.oneCell' = true := fun j v hj => by
        have hjl : j < Z.size := (Array.getElem?_eq_some_iff.1 hj).1
        rw [hz j (by omega)] at hj
        cases hj
        rfl
      have hhA : (wr.alloc (klO w (N + 1))).heap[w.heap.size]? = some (.cells Z 25 (0, 0)) := (Below.heap_alloc _ _ _ hn1).trans hh
      have Hone : Hid (∀ (j : Nat) (v : Value), Z[j]? = some v → v.oneCell' = true) := hone
      have HA : Hid ((wr.alloc (klO w (N + 1))).heap[w.heap.size]? = some (.cells Z 25 (0, 0))) := hhA
      have HZ : Hid (Z.size = N + 1) := hZ
      have Hz : Hid (∀ j, j < N + 1 → Z[j]? = some (.pointer (some ⟨S + j, 0, none⟩))) := hz
      clear hone hhA hZ hh hz hsz
      go_wp2_with (first
        | (go_at_call 6; refine (del_any w.heap.size N d Z _ (by omega) hdN HA.out HZ.out Hone.out).mono ?_; rintro e w3 ⟨rfl, hdel⟩; have hkb := kl_kept hinv hdel; have k1 : w3.cell? ⟨wr.heap.size, 1, none⟩ = some (.slice (some ⟨w.heap.size, 0, none⟩) (N + 1) (N + 1)) := cell_row hkb (show 1 < 6 by decide); have kf : w3.frozen? ⟨wr.heap.size, 1, none⟩ = false := free_row hkb; clear hkb)
        | (go_at_call 5; refine (ren2_call hinv (by omega) hdN Hz.out hdel).mono ?_; rintro e w5 ⟨rfl, haf⟩; have hkl := haf.kl; clear k1 kf hdel hinv))
      clear Hone HA HZ Hz hn1
      go_loop [10] (fun i => ∃ k : Nat, k ≤ N ∧ i = .int .i64 k) (fun i => N - (intOf i).toNat)
      case atStart => exact ⟨0, Nat.zero_le _, rfl⟩
      case round =>
        obtain ⟨k, hk2, rfl⟩ := hrel
        by_cases hlt2 : k < N
        · have e2 := haf.q k hlt2
          have r7 : w5.cell? ⟨S + skip d k, 7, none⟩ = some (.int .i64 k) := cell_row (haf.req k hlt2) (show 7 < 8 by decide)
          have r4 : w5.cell? ⟨S + skip d k, 4, none⟩ = some (.int .u64 (skip d k : Nat)) := cell_row (haf.req k hlt2) (show 4 < 8 by decide)
          have hpn := ptr_nil ⟨S + skip d k, 0, none⟩
          by_cases hdk : d ≤ k
          · have es : ((skip d k : Nat) : Int) = (k : Int) + 1 := by unfold skip; rw [if_neg (by omega)]; rfl
            rw [es] at r4
            generalize S + skip d k = X at *
            clear haf es
            go_wp2
            go_round
            case rel => exact ⟨k + 1, hlt2, by go_num⟩
            case measure => simp [intOf]; omega
          · have es : ((skip d k : Nat) : Int) = (k : Int) := by unfold skip; rw [if_pos (by omega)]
            rw [es] at r4
            generalize S + skip d k = X at *
            clear haf es
            go_wp2
            go_round
            case rel => exact ⟨k + 1, hlt2, by go_num⟩
            case measure => simp [intOf]; omega
        · go_wp2
          go_ret
          exact ⟨rfl, haf.bel⟩
end Go.Proofs.Ybulkcpgq
