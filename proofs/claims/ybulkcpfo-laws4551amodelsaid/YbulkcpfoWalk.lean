import Derived.Test.YbulkcpfoSt
import Derived.Deep.DeepCutAuto
import Derived.Deep.CutBlock
import Derived.Deep.QuietTactic
import Derived.BigQuiet
namespace Go.Proofs.Ybulkcpfo
open Go.RowKit Go.Maps

/-- A slice of four-cell structs that came in, whatever its address is where it is empty: what the walk wants of it. -/
def View (t : TypeId) (a : Option Addr) (n c b off : Nat) : Prop :=
  ∀ k : Nat, k < n → ∀ w, (Instr.indexAt t (.slice a n c) (.int .i64 k)).run Yba.prog w = .ok (.pointer (some ⟨b, off + k * 4, none⟩)) w

theorem Yba.info42 : (Yba.prog.info? 42).map (fun i => (i.zero, i.size, i.bytes)) = some (some (.pointer none), 1, 8) := by kernel_rfl

set_option maxRecDepth 100000 in
set_option maxHeartbeats 4000000 in      -- one walk over the whole function: three loops, five regions that draw
theorem law_walk (a0 a1 : Option Addr) (n m c0 c1 b0 off0 b1 off1 : Nat) (br hr : Bool) (sel : Int) (q : ByteArray) (Nm : Nat → ByteArray) (Dc : Nat → Bool) (Va Ro : Nat → Int) (w : World)
    (hn : n ≤ 1024) (hm : m ≤ 1024) (hs0 : 0 ≤ sel) (hs1 : sel ≤ 255) (hq : q.size ≤ maxLen)
    (V0 : View 22 a0 n c0 b0 off0) (V1 : View 23 a1 m c1 b1 off1) (hI : RecsAt w b0 off0 n Nm Dc Va Ro) (hN : ∀ i, i < n → (Nm i).size ≤ maxLen)
    (RNm : Nat → ByteArray) (ROk : Nat → Bool) (RVa RRo : Nat → Int) (hR : RecsAt w b1 off1 m RNm ROk RVa RRo) (hsh : m = 0 ∨ a1 = some ⟨b1, off1, none⟩) :
    Calls Yba.prog 3 #[.slice a0 n c0, .slice a1 m c1, .bool br, .bool hr, .int .u8 sel, .string q] w fun e w' => e = .returned (.bool true) ∧ Below w.heap.size w w' := by
  obtain ⟨i0, hi, hz0, hz1, hz2⟩ := info_parts Yba.info42
  have hmm := @run_makeMap Yba.prog
  go_enter Yba.func3, Yba.ntmps3
  go_upto_region 4 with fail
  go_cut [47] from 31 to 47 (fun v wc => ∃ bb : Bool, v = .bool bb ∧ (bb = true → 0 < n) ∧ wc = w.alloc (.cells #[.slice a1 m c1] 23))
  case first =>
    by_cases hp : sel % 2 = 0
    · have hp' : (sel % 2 == 0) = true := by simp [hp]
      clear hp
      go_wp2
      go_meet
      exact ⟨_, rfl, by simp, rfl⟩
    · have hp' : (sel % 2 == 0) = false := by simp [hp]
      clear hp
      go_wp2
      go_meet
      exact ⟨_, rfl, by simp, rfl⟩
  case rest =>
    obtain ⟨bb, rfl, hbb, rfl⟩ := hcut
    go_upto_if 47 with fail
    go_cut [13] from 31 to 57 (fun v wc => ∃ Q : ByteArray, v = .string Q ∧ Q.size ≤ maxLen ∧ wc = w.alloc (.cells #[.slice a1 m c1] 23))
    case first =>
      cases bb
      · go_wp2
        go_meet
        exact ⟨_, rfl, hq, rfl⟩
      · have hnp := hbb rfl
        obtain ⟨k, hkn, hk⟩ : ∃ k : Nat, k < n ∧ sel / 2 % (n : Int) = (k : Int) := ⟨(sel / 2 % (n : Int)).toNat, by have := Int.emod_lt_of_pos (sel / 2) (show (0 : Int) < n by omega); have := Int.emod_nonneg (sel / 2) (show (n : Int) ≠ 0 by omega); omega, by have := Int.emod_nonneg (sel / 2) (show (n : Int) ≠ 0 by omega); omega⟩
        have hix := V0 k hkn
        have hcn := hI.name k hkn
        have hbl := World.block_lt_of_cell? w _ hcn
        go_wp2
        go_meet
        exact ⟨_, rfl, hN k hkn, rfl⟩
    case rest =>
      obtain ⟨Q, rfl, hQ, rfl⟩ := hcut
      go_wp2_with (at_make; refine wpList_make_full _ rfl _ _ 41 rfl (w.heap.size + 3) 42 i0 (.pointer none) 1 Yba.underlying41 hi hz0 hz1 .i64 .i64 _ _ n rfl rfl rfl rfl ?_ ?_ ?_ ?_; (rw [hz2]; omega); (unfold maxLen; omega); (simp); intro w1 hown1 hgrow1)
      go_loopw [67] (fun i wr => ∃ k : Nat, k ≤ n ∧ i = .int .i64 k ∧ Inv w wr a1 m c1 br n k Q Nm Dc Va Ro) (fun i _ => n - (intOf i).toNat)
      case atStart => exact ⟨0, Nat.zero_le _, rfl, inv_start (by simp) hown1 hgrow1⟩
      case round =>
        clear hown1 hgrow1 w1
        obtain ⟨k, hk, rfl, hinv⟩ := hrel
        by_cases hlt : k < n
        · have hix := V0 k hlt
          have hbl := World.block_lt_of_cell? w _ (hI.name k hlt)
          have d0 := (hinv.bel.cell (p := ⟨b0, off0 + k * 4, none⟩) hbl).trans (hI.name k hlt)
          have d1 := (hinv.bel.cell (p := ⟨b0, off0 + k * 4 + 1, none⟩) hbl).trans (hI.ok k hlt)
          have d2 := (hinv.bel.cell (p := ⟨b0, off0 + k * 4 + 2, none⟩) hbl).trans (hI.val k hlt)
          have d3 := (hinv.bel.cell (p := ⟨b0, off0 + k * 4 + 3, none⟩) hbl).trans (hI.round k hlt)
          obtain ⟨C, hC, hrow⟩ := hinv.row
          have hpc : wr.cell? ⟨w.heap.size + 1 + 1 + 1, k, none⟩ = some (C[k]'(by omega)) := cell_row hrow (by omega)
          have hpf : wr.frozen? ⟨w.heap.size + 1 + 1 + 1, k, none⟩ = false := free_row hrow
          have hnc : wr.cell? ⟨w.heap.size + 1 + 1, 9, none⟩ = some (.map (some (w.heap.size + 1))) := cell_row hinv.nod (show 9 < 14 by decide)
          have hsz := hinv.siz
          have hs3 : w.heap.size + 1 + 1 + 1 < wr.heap.size := by omega
          have hs2 : w.heap.size + 1 + 1 < wr.heap.size := by omega
          have hs2' : w.heap.size + 1 + 1 < wr.heap.size + 1 := by omega
          have hs2'' : w.heap.size + 1 + 1 < wr.heap.size + 1 + 1 := by omega
          clear hrow
          cases hd : Dc k
          · rw [hd] at d1
            have hNk := hN k hlt
            clear hI V0 V1 hN hmm
            go_upto_region 16 with fail
            obtain ⟨w5, hup, hinv5⟩ := step_und hinv hlt hn hNk hd (.cells #[.string (Nm k), .bool false, .int .i64 (Va k), .int .i64 (Ro k)] 25)
            unfold instO at hup
            have HI : Hid (Inv w w5 a1 m c1 br n (k + 1) Q Nm Dc Va Ro) := hinv5
            clear hinv hinv5
            go_region
            go_wp2
            go_roundw
            case rel => exact ⟨k + 1, hlt, by go_num, HI.out⟩
            case measure => simp [intOf]; omega
          · rw [hd] at d1
            have hNk := hN k hlt
            clear hI V0 V1 hN hmm
            go_upto_region 16 with fail
            obtain ⟨w5, hup, hinv5⟩ := step_dec hinv hlt hn hNk hd (.cells #[.string (Nm k), .bool true, .int .i64 (Va k), .int .i64 (Ro k)] 25)
            unfold instO at hup
            have HI : Hid (Inv w w5 a1 m c1 br n (k + 1) Q Nm Dc Va Ro) := hinv5
            clear hinv hinv5
            go_region
            go_wp2
            go_roundw
            case rel => exact ⟨k + 1, hlt, by go_num, HI.out⟩
            case measure => simp [intOf]; omega
        · obtain rfl : n = k := by omega
          clear hmm hi hz0 hz1 hz2 hN
          have hs0' := hinv.siz
          have hb2 : w.heap.size + 1 + 1 < wr.heap.size := by omega
          go_upto_if 98 with fail
          go_cut [19] from 98 to 102 (fun v wc => v = .pointer (some ⟨wr.heap.size, 0, none⟩) ∧ ∃ D, St w wc a1 m c1 br hr n wr.heap.size Q Dc Va Ro D (lastOf Nm Q n) 0)
          case first =>
            have n6 : wr.cell? ⟨w.heap.size + 1 + 1, 6, none⟩ = some .nilFunc := cell_row hinv.nod (show 6 < 14 by decide)
            have f6 : wr.frozen? ⟨w.heap.size + 1 + 1, 6, none⟩ = false := free_row hinv.nod
            cases hr
            · go_wp2
              go_meet
              exact ⟨rfl, hinv.plain⟩
            · go_wp2
              go_meet
              exact ⟨rfl, hinv.clos⟩
          case rest =>
            obtain ⟨rfl, D, hst⟩ := hcut
            clear hinv
            have c9 : wc.cell? ⟨w.heap.size + 1 + 1, 9, none⟩ = some (.map (some (w.heap.size + 1))) := cell_row hst.nod (show 9 < 14 by decide)
            have hln := hst.map.len Yba.underlying27
            go_wp2_with (go_at_call 5; refine (dec_all hst hQ hR hsh hm).mono ?_; rintro e w2 ⟨gv, gr, gok, calls, rfl, hres, hst2⟩; clear c9 hln hst)
            have hlo2 := hst2.lo
            have hhi2 := hst2.hi
            go_loop [23, 116] (fun p i => ∃ k : Nat, k ≤ n ∧ i = .int .i64 k ∧ p = .int .i64 (idxOf (lastOf Nm Q k))) (fun _ i => n - (intOf i).toNat)
            case atStart => exact ⟨0, Nat.zero_le _, rfl, rfl⟩
            case round =>
              obtain ⟨k, hk2, rfl, rfl⟩ := hrel
              by_cases hlt2 : k < n
              · have hix := V0 k hlt2
                have hbl := World.block_lt_of_cell? w _ (hI.name k hlt2)
                have d0 := (hst2.bel.cell (p := ⟨b0, off0 + k * 4, none⟩) hbl).trans (hI.name k hlt2)
                have hbl2 : b0 < w2.heap.size := by have : b0 < w.heap.size := hbl; omega
                clear V0 hI V1 hR hst2 hres
                cases he : (Nm k).toList == Q.toList
                · have HX : Hid (idxOf (lastOf Nm Q (k + 1)) = idxOf (lastOf Nm Q k)) := idx_miss he
                  go_wp2
                  go_round
                  case rel => exact ⟨k + 1, hlt2, by go_num, by rw [HX.out]⟩
                  case measure => simp [intOf]; omega
                · have HX : Hid (idxOf (lastOf Nm Q (k + 1)) = k) := idx_hit he
                  go_wp2
                  go_round
                  case rel => exact ⟨k + 1, hlt2, by go_num, by rw [HX.out]⟩
                  case measure => simp [intOf]; omega
              · obtain rfl : n = k := by omega
                go_upto_block 4 with fail
                go_cut [23, 26, 27, 28] from 128 to 179 (fun v23 v26 v27 _ wx => v23 = .int .i64 (idxOf (lastOf Nm Q n)) ∧ v26 = .bool gok ∧ v27 = .int .i64 calls ∧ Want w2 wx gv gr)
                case first =>
                  rcases hres with ⟨rfl, rfl, rfl, rfl, rfl⟩ | ⟨rfl, j, hl, rfl, hdj⟩ | ⟨rfl, hl, rfl, rfl, hg1, hg2, hg3⟩ | ⟨rfl, hl, rfl, rfl, rfl, rfl, rfl⟩
                  · clear V0 hI V1 hR hst2
                    go_wp2
                    go_meet
                    exact ⟨by first | rfl | rw [hx], rfl, rfl, want_mk _ _ _⟩
                  · have hjn := lastOf_lt hl
                    have hx : idxOf (lastOf Nm Q n) = (j : Int) := by rw [hl]; rfl
                    have hix := V0 j hjn
                    have hbl := World.block_lt_of_cell? w _ (hI.name j hjn)
                    have d1 := (hst2.bel.cell (p := ⟨b0, off0 + j * 4 + 1, none⟩) hbl).trans (hI.ok j hjn)
                    have d2 := (hst2.bel.cell (p := ⟨b0, off0 + j * 4 + 2, none⟩) hbl).trans (hI.val j hjn)
                    have d3 := (hst2.bel.cell (p := ⟨b0, off0 + j * 4 + 3, none⟩) hbl).trans (hI.round j hjn)
                    have hbl2 : b0 < w2.heap.size := by have : b0 < w.heap.size := hbl; omega
                    have hbl3 : b0 < w2.heap.size + 1 := by omega
                    clear V0 hI V1 hR hst2 hl
                    rcases hdj with ⟨hd, rfl, rfl, rfl⟩ | ⟨hd, rfl, rfl, rfl⟩
                    · rw [hd] at d1
                      go_wp2
                      go_region
                      go_wp2
                      go_meet
                      exact ⟨by rw [hx], rfl, rfl, (want_mk _ _ _).drew⟩
                    · rw [hd] at d1
                      go_wp2
                      go_meet
                      exact ⟨by first | rfl | rw [hx], rfl, rfl, want_mk _ _ _⟩
                  · have hx : idxOf (lastOf Nm Q n) = -1 := by rw [hl]; rfl
                    have bx := cell_of_one hst2.box
                    have hbw : w.heap.size < w2.heap.size := by omega
                    have hbw' : w.heap.size < w2.heap.size + 1 := by omega
                    have hR2 := hR.below hst2.bel
                    clear V0 hI hR hst2 hl
                    rcases rec_cases hg1 hg2 hg3 with ⟨rfl, rfl, rfl, hno⟩ | ⟨k0, rfl, rfl, rfl, hk0, hyes, hno⟩
                    · clear hg1 hg2 hg3
                      go_wp2
                      go_loop [26, 153] (fun o i => o = .bool false ∧ ∃ k : Nat, k ≤ m ∧ i = .int .i64 k) (fun _ i => m - (intOf i).toNat)
                      case atStart => exact ⟨rfl, 0, Nat.zero_le _, rfl⟩
                      case round =>
                        obtain ⟨rfl, k, hk3, rfl⟩ := hrel
                        by_cases hlt3 : k < m
                        · have hix := V1 k hlt3
                          have d0 := hR2.name k hlt3
                          have hbl : b1 < w2.heap.size := World.block_lt_of_cell? w2 _ d0
                          have hbl3 : b1 < w2.heap.size + 1 := by omega
                          have hne := hno k hlt3
                          clear hno V1 hR2
                          go_wp2
                          go_round
                          case rel => exact ⟨rfl, k + 1, hlt3, by go_num⟩
                          case measure => simp [intOf]; omega
                        · clear hno V1 hR2
                          go_wp2
                          go_meet
                          exact ⟨by rw [hx], rfl, rfl, want_mk _ _ _⟩
                    · clear hg1 hg2 hg3
                      go_wp2
                      go_loop [153] (fun i => ∃ k : Nat, k ≤ k0 ∧ i = .int .i64 k) (fun i => k0 - (intOf i).toNat)
                      case atStart => exact ⟨0, Nat.zero_le _, rfl⟩
                      case round =>
                        obtain ⟨k, hk3, rfl⟩ := hrel
                        have hix := V1 k (by omega)
                        have d0 := hR2.name k (by omega)
                        have hbl : b1 < w2.heap.size := World.block_lt_of_cell? w2 _ d0
                        have hbl3 : b1 < w2.heap.size + 1 := by omega
                        by_cases hlt3 : k < k0
                        · have hne := hno k hlt3
                          clear hno V1 hR2 hyes
                          go_wp2
                          go_round
                          case rel => exact ⟨k + 1, hlt3, by go_num⟩
                          case measure => simp [intOf]; omega
                        · obtain rfl : k0 = k := by omega
                          have d1 := hR2.ok k0 (by omega)
                          have d2 := hR2.val k0 (by omega)
                          have d3 := hR2.round k0 (by omega)
                          clear hno V1 hR2
                          go_wp2
                          go_region
                          go_wp2
                          go_meet
                          exact ⟨by rw [hx], rfl, rfl, (want_mk _ _ _).drew⟩
                  · have hx : idxOf (lastOf Nm Q n) = -1 := by rw [hl]; rfl
                    clear V0 hI V1 hR hst2 hl
                    go_wp2
                    go_meet
                    exact ⟨by first | rfl | rw [hx], rfl, rfl, want_mk _ _ _⟩
                case rest =>
                  obtain ⟨rfl, rfl, rfl, hw⟩ := hcut
                  have hst3 := hst2.below hw.2.2
                  have g0 : wc.cell? ⟨w2.heap.size, 0, none⟩ = some (.int .i64 gv) := cell_row hw.1 (show 0 < 2 by decide)
                  have g1 : wc.cell? ⟨w2.heap.size, 1, none⟩ = some (.int .i64 gr) := cell_row hw.1 (show 1 < 2 by decide)
                  have g2 : wc.cell? ⟨w2.heap.size + 1, 0, none⟩ = some (.int .i64 gv) := cell_row hw.2.1 (show 0 < 2 by decide)
                  have g3 : wc.cell? ⟨w2.heap.size + 1, 1, none⟩ = some (.int .i64 gr) := cell_row hw.2.1 (show 1 < 2 by decide)
                  have c9 : wc.cell? ⟨w.heap.size + 1 + 1, 9, none⟩ = some (.map (some (w.heap.size + 1))) := cell_row hst3.nod (show 9 < 14 by decide)
                  have c8 : wc.cell? ⟨w.heap.size + 1 + 1, 8, none⟩ = some (.bool br) := cell_row hst3.nod (show 8 < 14 by decide)
                  have hln := hst3.map.len Yba.underlying27
                  have hbelow := hst3.bel
                  clear V0 hI V1 hR hst2 hw hres
                  cases hl : lastOf Nm Q n with
                  | none =>
                    have hx : idxOf none = -1 := rfl
                    rcases hst3.log with ⟨rfl, hlg⟩ | ⟨rfl, g, cp, hlg, hgc, _⟩
                    · have lg := cell_of_one hlg
                      clear hst3
                      go_wp2
                      go_ret
                      exact ⟨rfl, hbelow⟩
                    · have lg := cell_of_one hlg
                      clear hst3
                      go_wp2
                      go_ret
                      exact ⟨rfl, hbelow⟩
                  | some j =>
                    have hx : idxOf (some j) = (j : Int) := rfl
                    have hjn := lastOf_lt hl
                    have hkn := hst3.kn
                    rw [hl] at hkn
                    obtain ⟨hyes, I, dv, hI1, hI2, hI3, hI4, hI5, _, _⟩ := hkn
                    have hlk := hst3.look0 hQ hI1 hyes
                    have hpn := ptr_neq dv
                    rcases hst3.log with ⟨rfl, hlg⟩ | ⟨rfl, g, cp, hlg, hgc, _⟩
                    · have lg := cell_of_one hlg
                      clear hst3 hl
                      go_wp2
                      go_quiet (fail)
                      go_wp2
                      go_ret
                      exact ⟨rfl, below_drewN hbelow _⟩
                    · have lg := cell_of_one hlg
                      clear hst3 hl
                      go_wp2
                      go_quiet (fail)
                      go_wp2
                      go_ret
                      exact ⟨rfl, below_drewN hbelow _⟩
end Go.Proofs.Ybulkcpfo
