import Derived.Test.YbulkcpbuStr
import Derived.Test.YbulkcpbuBuf
import Derived.Lib.SlBytesConst
namespace Go.Proofs.Ybulkcpbu
open Go.RowKit Go.Lib

theorem Yba.info5 : (Yba.prog.info? 5).map (fun i => (i.zero, i.size, i.bytes)) = some (some (.int .u8 0), 1, 1) := by kernel_rfl

theorem buf_start (w : World) : Buf (w.alloc (.cells #[.int .u8 99, .int .u8 97, .int .u8 117, .int .u8 115, .int .u8 101, .int .u8 58, .int .u8 32] 5 (7, 8))) w.heap.size 5 (.slice (some ⟨w.heap.size, 0, none⟩) 7 7) ⟨#[99, 97, 117, 115, 101, 58, 32]⟩ := by
  refine .inr ⟨w.heap.size, Nat.le_refl _, by simp, rfl, fun j u hj => ?_⟩
  have hadd : (⟨w.heap.size, 0, none⟩ : Addr).add j = ⟨w.heap.size, j, none⟩ := by unfold Addr.add; split <;> simp_all
  rw [hadd, World.cell?_alloc_mark]
  rw [← hj]
  simp [strCells]

theorem buf_byte (w : World) : ∀ j u, (strCells ⟨#[32]⟩)[j]? = some u → (w.alloc (.cells #[.int .u8 32] 5)).cell? ((⟨w.heap.size, 0, none⟩ : Addr).add j) = some u := by
  intro j u hj
  match j, hj with
  | 0, hj => simp [strCells] at hj; subst hj; simp [Addr.add]
  | j + 1, hj => simp [strCells] at hj

set_option maxHeartbeats 400000 in
theorem expect_one (c d : ByteArray) (w : World) (hc : c.size ≤ 1048576) (hd : d.size = 0) :
    Calls Yba.prog 6 #[.string c, .string d] w fun e w' => e = .returned (.string (⟨#[99, 97, 117, 115, 101, 58, 32]⟩ ++ c)) ∧ Below w.heap.size w w' := by
  obtain ⟨i0, hi, hz0, hz1, hz2⟩ := info_parts Yba.info5
  have kc := fun (w : World) (C : Array Value) (n c : Nat) => Lib.run_convert_bytes_const (P := Yba.prog) w 27 5 C n c Yba.underlying27 Yba.underlying5
  have hb0 := buf_start w
  go_enter Yba.func6, Yba.ntmps6
  go_wp2_with (at_builtin; refine wpList_append_buf_string _ rfl (.tmp 8) (.tmp 9) 27 9 rfl w.heap.size 5 i0 Yba.underlying27 Yba.underlying9 hi hz0 hz1 hz2 _ _ rfl hb0 _ rfl ?_ ?_ ?_; (show 7 + c.size ≤ _; omega); simp; intro v1 w1 hb1 hg1; have hv1 := run_convert_buf (P := Yba.prog) w1 hb1 (by show 0 < (_ ++ _ : ByteArray).size; rw [ByteArray.size_append]; show 0 < 7 + c.size; omega) 27 9 Yba.underlying27 Yba.underlying5 Yba.underlying9)
  go_ret
  exact ⟨rfl, ((Below.refl _ _).alloc (Nat.le_refl _) _).grown hg1 (by simp) hb0.own⟩

set_option maxHeartbeats 400000 in
theorem expect_two (c d : ByteArray) (w : World) (hc : c.size ≤ 1048576) (hd0 : 0 < d.size) (hd : d.size ≤ 1048576) :
    Calls Yba.prog 6 #[.string c, .string d] w fun e w' => e = .returned (.string (⟨#[99, 97, 117, 115, 101, 58, 32]⟩ ++ c ++ ⟨#[32]⟩ ++ d)) ∧ Below w.heap.size w w' := by
  obtain ⟨i0, hi, hz0, hz1, hz2⟩ := info_parts Yba.info5
  have kc := fun (w : World) (C : Array Value) (n c : Nat) => Lib.run_convert_bytes_const (P := Yba.prog) w 27 5 C n c Yba.underlying27 Yba.underlying5
  have hb0 := buf_start w
  have tok1 : True := trivial
  go_enter Yba.func6, Yba.ntmps6
  go_wp2_with (first
    | (at_builtin; have _t := tok1; refine wpList_append_buf_string _ rfl (.tmp 8) (.tmp 9) 27 9 rfl w.heap.size 5 i0 Yba.underlying27 Yba.underlying9 hi hz0 hz1 hz2 _ _ rfl hb0 _ rfl ?_ ?_ ?_; (show 7 + c.size ≤ _; omega); simp; intro v1 w1 hb1 hg1; clear tok1 _t; have hw1 : w.heap.size ≤ w1.heap.size := Nat.le_trans (by simp) hg1.size)
    | (at_builtin; refine wpList_append_buf_bytes _ rfl (.tmp 14) (.tmp 15) 27 rfl w.heap.size 5 i0 Yba.underlying27 hi hz0 hz1 hz2 _ _ rfl (hb1.alloc _) ⟨#[32]⟩ _ _ rfl (by decide) (buf_byte w1) ?_ ?_ ?_; (rw [ByteArray.size_append]; show 7 + c.size + 1 ≤ _; omega); (simp; omega); intro v2 w2 hb2 hg2; have hw2 : w.heap.size ≤ w2.heap.size := Nat.le_trans hw1 (Nat.le_trans (by simp) hg2.size))
    | (at_builtin; refine wpList_append_buf_string _ rfl (.tmp 17) (.tmp 18) 27 9 rfl w.heap.size 5 i0 Yba.underlying27 Yba.underlying9 hi hz0 hz1 hz2 _ _ rfl hb2 _ rfl ?_ hw2 ?_; (rw [ByteArray.size_append, ByteArray.size_append]; show 7 + c.size + 1 + d.size ≤ _; omega); intro v3 w3 hb3 hg3; have hv3 := run_convert_buf (P := Yba.prog) w3 hb3 (by rw [ByteArray.size_append]; omega) 27 9 Yba.underlying27 Yba.underlying5 Yba.underlying9))
  go_ret
  exact ⟨rfl, ((((Below.refl _ _).alloc (Nat.le_refl _) _).grown hg1 (by simp) hb0.own).alloc hw1 _ |>.grown hg2 (by simp; omega) hb1.own).grown hg3 hw2 hb2.own⟩
end Go.Proofs.Ybulkcpbu
