/- The walk of FnNanosecondsInsertOne at a nil text; the whole walk. -/
import Derived.Test.Qxb6630377aWkB
namespace Go.Proofs.Qxb6630377a
open Go.RowKit

set_option maxHeartbeats 1000000 in
theorem insert_nil (c : Int) (w : World) (hc : 0 ≤ c ∧ c ≤ 255) :
    Calls Try.prog 3 #[.slice none 0 0, .int .i64 0, .int .u8 c] w fun e w' => e = .returned (.bool true) ∧ Below w.heap.size w w' := by
  have hmk2 : ∀ w, (Instr.makeSlice 22 (.int .i64 1) (.int .i64 1)).run Try.prog w = .ok (.slice (some ⟨w.heap.size, 0, none⟩) 1 1) (w.alloc (.cells (madeCells #[.int .u8 0] 1) 5)) := run_make_row' (P := Try.prog) 22 5 (.int .u8 0) 1 Try.underlying22 info5 rfl .i64 .i64 1 (by omega) (by omega)
  have hne := fun w => Go.run_neq_slice_nil (P := Try.prog) w 22 5 none 0 0 Try.underlying22
  obtain ⟨W1, hW1⟩ : ∃ W1, W1 = w.alloc (.cells (madeCells #[.int .u8 0] 1) 5) := ⟨_, rfl⟩
  have HW1 : Hid (W1 = w.alloc (.cells (madeCells #[.int .u8 0] 1) 5)) := hW1
  have r1 : W1.rowIs w.heap.size 5 1 (fun _ => .int .u8 0) := by rw [hW1]; exact World.rowIs_made w (.int .u8 0) 1 5
  have r2 := r1.set 0 (.int .u8 c)
  have hB : Below w.heap.size w W1 := by rw [hW1]; exact (Below.refl _ _).alloc (Nat.le_refl _) _
  obtain ⟨W2, hW2⟩ : ∃ W2, W2 = W1.setCell ⟨w.heap.size, 0, none⟩ (.int .u8 c) := ⟨_, rfl⟩
  have r3 : W2.rowIs w.heap.size 5 1 (fun _ => .int .u8 c) := by
    rw [hW2]; exact r2.congr (fun i hi => by rw [if_pos (by omega)])
  have hB2 : Below w.heap.size w W2 := by rw [hW2]; exact hB.setCell (Nat.le_refl _) _
  have g2 := r1.cell (i := 0) (by omega)
  have g3 := r1.frozen 0
  have st : Hid (W1.setCell ⟨w.heap.size, 0, none⟩ (.int .u8 c) = W2) := hW2.symm
  have HE : Hid (Calls Try.prog 6 #[.slice (some ⟨w.heap.size, 0, none⟩) 1 1] W2 fun e w' => e = .returned (.int .i64 (Pl.nv 1 (Pl.ins 0 c (fun _ => 0)))) ∧ w' = W2) := by
    refine zz_any _ _ _ _ _ (by omega) (fun i hi => ⟨_, _, rfl, ?_⟩) (ins_bd (fun _ => by omega) hc)
    obtain rfl : i = 0 := by omega
    exact r3.cell (i := 0) (by omega)
  have CA : Hid (∀ W, Calls Try.prog 7 #[.int .i64 8] W fun e w' => e = .returned (.int .i64 (Pl.pw 8)) ∧ w' = W) := fun W => pow_int 8 W (by omega) (by omega)
  have CB : Hid (∀ W, Calls Try.prog 7 #[.int .i64 1] W fun e w' => e = .returned (.int .i64 (Pl.pw 1)) ∧ w' = W) := fun W => pow_int 1 W (by omega) (by omega)
  have C2 : Hid (∀ W (a : Option Addr) (c' : Nat), Calls Try.prog 6 #[.slice a 0 c'] W fun e w' => e = .returned (.int .i64 (Pl.nv 0 (fun _ => 0))) ∧ w' = W) :=
    fun W a c' => zz_any _ _ _ _ _ (by omega) (fun i hi => by omega) (fun i => by omega)
  have heq := Pl.near (len := 0) (p := 0) (hi := 0) (c := c) (z := fun _ => 0) (by omega) (by omega) (by omega)
  have b2 := Pl.nv_bd 0 (fun _ => 0)
  have hA := pw_le (k := 8) (by omega)
  have hB' := pw_le (k := 1) (by omega)
  have hA8 := pw_le8 (k := 8) (by omega)
  simp only [Nat.zero_add, Nat.sub_zero] at heq
  generalize Pl.nv 1 (Pl.ins 0 c (fun _ => 0)) = got at *
  generalize Pl.nv 0 (fun _ => 0) = n1 at *
  generalize Pl.pw 8 = A at *
  generalize Pl.pw 1 = Bq at *
  have HQ := near_wrap b2 b2 hA hB' hA8 heq
  clear heq hW1 hW2 r1 r2 r3 hB
  go_enter Try.func3, Try.ntmps3
  go_wp2_with fail
  refine (bytesA_yes _ _ _ _ _ _ (by omega)).mono ?_
  rintro e w' ⟨rfl, hw⟩
  obtain rfl := hw.symm
  go_wp2_with fail
  rw [← HW1.out]
  refine wp_loop_rounds 1 ?_
  rw [rounds_succ]
  go_wp2_with fail
  rw [st.out]
  refine wp_loop_rounds 1 ?_
  rw [rounds_succ]
  go_wp2_with fail
  refine HE.out.mono ?_
  rintro e w' ⟨rfl, hw⟩
  obtain rfl := hw.symm
  go_wp2_with fail
  go_quiet ((first | (go_at_call 7; first | with_reducible exact Calls.quiet_of_same (CA.out _) | with_reducible exact Calls.quiet_of_same (CB.out _)) | (go_at_call 6; with_reducible exact Calls.quiet_of_same (C2.out _ _ _))))
  go_wp2_with fail
  go_ret
  exact ⟨rfl, below_drewN hB2 _⟩

set_option maxHeartbeats 400000 in
theorem insert_big (a : Option Addr) (len cap : Nat) (p c : Int) (w : World) (h : 1048576 < len) :
    Calls Try.prog 3 #[.slice a len cap, .int .i64 p, .int .u8 c] w fun e w' => e = .returned (.bool true) ∧ Below w.heap.size w w' := by
  go_enter Try.func3, Try.ntmps3
  go_wp2_with fail
  refine (bytesA_no _ _ _ _ _ _ h).mono ?_
  rintro e w' ⟨rfl, hw⟩
  obtain rfl := hw.symm
  go_wp2_with fail
  go_ret
  exact ⟨rfl, Below.refl _ _⟩

set_option maxHeartbeats 400000 in
theorem insert_neg (a : Option Addr) (len cap : Nat) (p c : Int) (w : World) (h : len ≤ 1048576) (hp : p < 0) :
    Calls Try.prog 3 #[.slice a len cap, .int .i64 p, .int .u8 c] w fun e w' => e = .returned (.bool true) ∧ Below w.heap.size w w' := by
  have d1 : decide ((1048576 : Int) < (len : Int)) = false := by simp; omega
  have d2 : decide (p < 0) = true := by simp; omega
  go_enter Try.func3, Try.ntmps3
  go_wp2_with fail
  refine (bytesA_yes _ _ _ _ _ _ h).mono ?_
  rintro e w' ⟨rfl, hw⟩
  obtain rfl := hw.symm
  go_wp2_with fail
  go_ret
  exact ⟨rfl, Below.refl _ _⟩

set_option maxHeartbeats 400000 in
theorem insert_past (a : Option Addr) (len cap : Nat) (p c : Int) (w : World) (h : len ≤ 1048576) (h0 : 0 ≤ p) (hp : (len : Int) < p) :
    Calls Try.prog 3 #[.slice a len cap, .int .i64 p, .int .u8 c] w fun e w' => e = .returned (.bool true) ∧ Below w.heap.size w w' := by
  have d1 : decide ((1048576 : Int) < (len : Int)) = false := by simp; omega
  have d2 : decide (p < 0) = false := by simp; omega
  have d3 : decide ((len : Int) < p) = true := by simp; omega
  go_enter Try.func3, Try.ntmps3
  go_wp2_with fail
  refine (bytesA_yes _ _ _ _ _ _ h).mono ?_
  rintro e w' ⟨rfl, hw⟩
  obtain rfl := hw.symm
  go_wp2_with fail
  go_ret
  exact ⟨rfl, Below.refl _ _⟩
end Go.Proofs.Qxb6630377a
