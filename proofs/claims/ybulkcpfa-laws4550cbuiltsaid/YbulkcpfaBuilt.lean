import Derived.Test.YbulkcpfaDigits
import Derived.Test.YbulkcpfaNums
namespace Go.Proofs.Ybulkcpfa
open Go.RowKit

theorem Yba.info5 : (Yba.prog.info? 5).map (fun i => (i.zero, i.size, i.bytes)) = some (some (.int .u8 0), 1, 1) := by kernel_rfl

theorem cells_upto {w : World} {g n m : Nat} {k : IntKind} {xs : List Int} (hcell : ∀ i, i < n → w.cell? ⟨g, 0 + i, none⟩ = some (.int k (xs.getD i 0))) (hl : xs.length = n) :
    ∀ j u, ((xs.take m).map (Value.int k))[j]? = some u → w.cell? ((⟨g, 0, none⟩ : Addr).add j) = some u := by
  intro j u hu
  have hj := (List.getElem?_eq_some_iff.1 hu).1
  simp only [List.length_map, List.length_take] at hj
  rw [Addr.add_lit, hcell j (by omega), ← hu]
  simp [List.getD_eq_getElem?_getD, show j < m by omega, List.getElem?_eq_getElem (show j < xs.length by omega)]

theorem one_oneCell (v : Value) (h : v.oneCell' = true) : ∀ u ∈ [v], u.oneCell' = true := by
  intro u hu
  simp at hu
  rw [hu, h]

theorem fin_bad {w : World} {base g m l cap : Nat} {x : Int} {xs : List Int} (h : w.ownsRow base 5 1 (.slice (some ⟨g, 0, none⟩) l cap) l ((xs.take m).map (Value.int .u8) ++ [.int .u8 x] ++ (xs.drop m).map (Value.int .u8)))
    (hm : m ≤ xs.length) (hl : l ≤ 2000) (h0 : 0 ≤ x) (h1 : x ≤ 255) (hb : x < 48 ∨ 57 < x) :
    ∃ s2, (convert 23 9 (.slice (some ⟨g, 0, none⟩) l cap)).run Yba.prog w = .ok (.string s2) w ∧ s2.size ≤ 2097152 ∧ digB s2 = false := by
  have h' : w.ownsRow base 5 1 (.slice (some ⟨g, 0, none⟩) l cap) l ((ins xs m x).map (Value.int .u8)) := by
    have e : (ins xs m x).map (Value.int .u8) = (xs.take m).map (Value.int .u8) ++ [.int .u8 x] ++ (xs.drop m).map (Value.int .u8) := by simp [ins]
    rw [e]
    exact h
  refine ⟨_, own_string (P := Yba.prog) h' 23 9 Yba.underlying23 Yba.underlying5 Yba.underlying9, ?_, ins_bad xs m x hm h0 h1 hb⟩
  rw [strOfNums_size, (own_cells h').1]
  omega

set_option maxHeartbeats 2000000 in
theorem built_any (a0 : Option Addr) (n cap : Nat) (zs : List Int) (p : Nat) (x0 : Int) (w : World) (hn : n ≤ 1024) (hz : zs.length = n) (hp : p ≤ 255) (hx0 : 0 ≤ x0) (hx1 : x0 ≤ 255)
    (ha : Hid (n = 0) ∨ ∃ b off, a0 = some ⟨b, off, none⟩ ∧ ∀ i, i < n → w.cell? ⟨b, off + i, none⟩ = some (.int .u8 (zs.getD i 0)) ∧ 0 ≤ zs.getD i 0 ∧ zs.getD i 0 ≤ 255) :
    Calls Yba.prog 4 #[.slice a0 n cap, .int .u8 p, .int .u8 x0] w fun e w' => e = .returned (.bool true) ∧ Below w.heap.size w w' := by
  obtain ⟨i0, hi, hz0, hz1, hz2⟩ := info_parts Yba.info5
  have HZ : Hid (zs.length = n) := hz
  clear hz
  obtain ⟨m, hmn, hm⟩ : ∃ m : Nat, m ≤ n ∧ (p : Int) % ((n : Int) + 1) = (m : Int) := ⟨p % (n + 1), by have := Nat.mod_lt p (show n + 1 > 0 by omega); omega, by rw [Int.natCast_emod]; rfl⟩
  have HM : Hid ((p : Int) % ((n : Int) + 1) = (m : Int)) := hm
  clear hm
  rcases ha with HN | ⟨b, off, rfl, hrow⟩
  all_goals
    go_enter Yba.func4, Yba.ntmps4
    go_wp2_with (at_make; refine wpList_make_own _ rfl _ _ 23 rfl w.heap.size 5 i0 (.int .u8 0) 1 Yba.underlying23 hi hz0 hz1 .i64 .i64 _ (n + 1) rfl rfl ?_ ?_ ?_ ?_ ?_; omega; (rw [hz2]; omega); (unfold maxLen; omega); exact Nat.le_refl _; intro w1 hown1 hgrow1)
    have hbel1 : Below w.heap.size w w1 := (Below.refl _ _).grown hgrow1 (Nat.le_refl _) (fun k hk => by cases hk)
    go_loopw [7, 23] (fun v i wr => ∃ k : Nat, k ≤ n ∧ i = .int .i64 k ∧ v = .slice (some ⟨w.heap.size, 0, none⟩) k (n + 1) ∧ wr.ownsRow w.heap.size 5 1 (.slice (some ⟨w.heap.size, 0, none⟩) k (n + 1)) k ((dg (zs.take k)).map (Value.int .u8)) ∧ Below w.heap.size w wr) (fun _ i _ => n - (intOf i).toNat)
    case atStart => exact ⟨0, Nat.zero_le _, rfl, rfl, hown1, hbel1⟩
    case round =>
      clear hown1 hgrow1 hbel1 w1
      obtain ⟨k, hk, rfl, rfl, hown, hbel⟩ := hrel
      by_cases hlt : k < n
      · first
        | (exfalso; have := HN.out; omega)
        | (obtain ⟨hc0, hd0, hd1⟩ := hrow k hlt
           have HS : Hid (dg (zs.take (k + 1)) = dg (zs.take k) ++ [48 + zs.getD k 0 % 10]) := dg_take_succ zs k (by rw [HZ.out]; exact hlt)
           have hcx := (hbel.cell (World.block_lt_of_cell? w _ hc0)).trans hc0
           generalize zs.getD k 0 = d at *
           clear hrow hc0
           go_wp2_with (at_builtin; refine wpList_append_fits _ rfl _ _ 23 rfl w.heap.size 5 i0 1 Yba.underlying23 hi hz1 w.heap.size k (n + 1) _ rfl (hown.alloc _) ⟨wr.heap.size, 0, none⟩ 1 1 [.int .u8 (48 + d % 10)] rfl rfl (cell_one_new _ _ _) (ints_oneCell .u8 [48 + d % 10]) (by omega) ?_; intro w2 hown2 hgrow2)
           go_roundw
           case rel => exact ⟨k + 1, hlt, by go_num, rfl, by rw [HS.out, List.map_append]; exact hown2, (hbel.alloc hbel.size _).grown hgrow2 (by simp; have := hbel.size; omega) (fun j hj => by cases hj; exact Nat.le_refl _)⟩
           case measure => simp [intOf]; omega)
      · obtain rfl : n = k := by omega
        rw [List.take_of_length_le (Nat.le_of_eq HZ.out)] at hown
        obtain ⟨s1, hcv, hs1, hd1⟩ : ∃ s1, (convert 23 9 (.slice (some ⟨w.heap.size, 0, none⟩) n (n + 1))).run Yba.prog wr = .ok (.string s1) wr ∧ s1.size ≤ 2097152 ∧ digB s1 = decide (0 < (n : Int)) :=
          ⟨_, own_string (P := Yba.prog) hown 23 9 Yba.underlying23 Yba.underlying5 Yba.underlying9, by rw [strOfNums_size, dg_length, HZ.out]; omega, by rw [digB_all _ (dg_range zs), dg_length, HZ.out]⟩
        have hdl : (dg zs).length = n := by rw [dg_length]; exact HZ.out
        have HD : Hid ((dg zs).length = n) := hdl
        clear hdl
        have hm := HM.out
        have hsz : w.heap.size < wr.heap.size := (hown.lt _ rfl).2
        have tok1 : True := trivial
        have H48 : (x0 < 48 ∨ 57 < x0) ∨ (48 ≤ x0 ∧ x0 ≤ 57) := by omega
        rcases H48 with hx | ⟨hxa, hxb⟩
        all_goals (try rcases hx with hx | hx)
        all_goals
          go_wp2_with (first
            | (go_at_call 5; have _t := tok1; refine (isDigits_any s1 _ hs1).mono ?_; rintro e w2 ⟨rfl, hb2⟩; clear tok1 _t hcv; have hown2 := own_below hown hb2; have hz2' := hb2.size)
            | (at_make; refine wpList_make_own _ rfl _ _ 23 rfl w.heap.size 5 i0 (.int .u8 0) 1 Yba.underlying23 hi hz0 hz1 .i64 .i64 _ (n + 1) rfl rfl ?_ ?_ ?_ ?_ ?_; omega; (rw [hz2]; omega); (unfold maxLen; omega); omega; intro w3 hown3 hgrow3; have hb3 := hown2.kept hgrow3 (.inr (by simp [Value.ownBlock])); have hz3 := hgrow3.size)
            | (at_builtin; refine wpList_append_fits _ rfl (.tmp 60) (.tmp 63) 23 rfl w.heap.size 5 i0 1 Yba.underlying23 hi hz1 w2.heap.size 0 (n + 1) _ rfl hown3 ⟨w.heap.size, 0, none⟩ m (n + 1) (((dg zs).take m).map (Value.int .u8)) rfl ?_ (cells_upto (own_cells hb3).2 (own_cells hb3).1) (ints_oneCell .u8 _) ?_ ?_; (simp; rw [HD.out]; omega); omega; intro w4 hown4 hgrow4; simp only [Nat.zero_add, List.nil_append] at hown4; have hb4 := hb3.kept hgrow4 (.inr (by simp [Value.ownBlock]; omega)); have hz4 := hgrow4.size)
            | (at_builtin; refine wpList_append_fits _ rfl (.tmp 65) (.tmp 67) 23 rfl w.heap.size 5 i0 1 Yba.underlying23 hi hz1 w2.heap.size m (n + 1) _ rfl (hown4.alloc _) ⟨w4.heap.size, 0, none⟩ 1 1 [_] rfl rfl (cell_one_new w4 _ 5) (one_oneCell _ rfl) (by omega) ?_; intro w5 hown5 hgrow5; have hb5 := (hb4.alloc _).kept hgrow5 (.inr (by simp [Value.ownBlock]; omega)); have hz5 := hgrow5.size; simp only [World.size_alloc] at hz5)
            | (at_builtin; refine wpList_append_fits_any _ rfl (.tmp 69) (.tmp 72) 23 rfl w.heap.size 5 i0 1 Yba.underlying23 hi hz1 w2.heap.size (m + 1) (n + 1) _ rfl hown5 _ (n - m) _ (((dg zs).drop m).map (Value.int .u8)) rfl ?_ ?_ (cells_from (l := n) (c := n + 1) HD.out (by omega) (own_cells hb5).2 (by intro h; first | rfl | simp)) (ints_oneCell .u8 _) ?_ ?_; (simp; rw [HD.out]); (intro h; simp at h); omega; intro w6 hown6 hgrow6; have hz6 := hgrow6.size; obtain ⟨s2, hcv2, hs2, hd2⟩ := fin_bad hown6 (by rw [HD.out]; exact hmn) (by omega) (by omega) (by omega) (by omega))
            | (go_at_call 5; refine (isDigits_any s2 _ hs2).mono ?_; rintro e w7 ⟨rfl, hb7⟩))
          go_ret
          have b3 : Below w.heap.size w w3 := (hbel.trans (hb2.mono (Nat.le_of_lt hsz))).grown hgrow3 (by omega) (fun k hk => by cases hk)
          have b4 : Below w.heap.size w w4 := b3.grown hgrow4 (by omega) (fun k hk => by cases hk; omega)
          have b5 : Below w.heap.size w w5 := (b4.alloc (by omega) _).grown hgrow5 (by simp only [World.size_alloc]; omega) (fun k hk => by cases hk; omega)
          have b6 : Below w.heap.size w w6 := b5.grown hgrow6 (by omega) (fun k hk => by cases hk; omega)
          exact ⟨rfl, b6.trans (hb7.mono (by omega))⟩
end Go.Proofs.Ybulkcpfa
