/- The walks of seat b6630284a, second part: reading. -/
import Derived.Test.Qxb6630284aWkA
namespace Go.Proofs.Qxb6630284a
open Go.RowKit
attribute [local go_sem] run_store_float

theorem bcell {W w1 : World} (hb : Below W.heap.size W w1) : (∀ b o, b < W.heap.size → w1.cell? ⟨b, o, none⟩ = W.cell? ⟨b, o, none⟩) ∧ (∀ b o, b < W.heap.size → w1.frozen? ⟨b, o, none⟩ = W.frozen? ⟨b, o, none⟩) :=
  ⟨fun b o h => hb.cell (p := ⟨b, o, none⟩) h, fun b o h => hb.frozen (p := ⟨b, o, none⟩) h⟩

set_option maxHeartbeats 1000000 in
theorem reading_no (y0 y1 v0 v1 g u0 u1 : Nat) (w : World) (h : (FloatKind.f64.format.order g 0 == some .eq) = true) : Calls Try.prog 10 #[B y0 y1 v0 v1 g u0 u1] w fun e w' => e = .returned (.tuple #[.agg #[.float .f64 0, .int .i64 0], .bool false]) ∧ Below w.heap.size w w' := by
  go_enter Try.func10, Try.ntmps10
  go_wp2
  exact bodyPost_ret (v := .tuple #[.agg #[.float .f64 0, .int .i64 0], .bool false]) (by simp [results, Try.results10, go_sem]) rfl ⟨rfl, ((Below.refl _ _).alloc (Nat.le_refl _) _).alloc (by simp) _⟩


/-- The least so far, behind k rounds. -/
def acc (y0 y1 u0 u1 : Nat) (k : Nat) : Nat :=
  if k = 0 then Fl.INF else if k = 1 then Fl.room y0 u0 else min (Fl.room y0 u0) (Fl.room y1 u1)

theorem inf_lit : Fl.INF = 9218868437227405312 := by unfold Fl.INF; decide
theorem acc_zero (y0 y1 u0 u1 : Nat) : acc y0 y1 u0 u1 0 = Fl.INF := by unfold acc; rw [if_pos rfl]
theorem acc_one (y0 y1 u0 u1 : Nat) : acc y0 y1 u0 u1 1 = Fl.room y0 u0 := by unfold acc; rw [if_neg (by omega), if_pos rfl]
theorem acc_two (y0 y1 u0 u1 : Nat) : acc y0 y1 u0 u1 2 = min (Fl.room y0 u0) (Fl.room y1 u1) := by unfold acc; rw [if_neg (by omega), if_neg (by omega)]

theorem acc_le {y0 y1 u0 u1 k : Nat} (h : 1 ≤ k → Fl.ge1 y0 = false) : acc y0 y1 u0 u1 k ≤ Fl.INF := by
  match k with
  | 0 => rw [acc_zero]; exact Nat.le_refl _
  | 1 => rw [acc_one]; exact Fl.room_le _ _ (h (Nat.le_refl _))
  | k + 2 =>
    have e : acc y0 y1 u0 u1 (k + 2) = min (Fl.room y0 u0) (Fl.room y1 u1) := by unfold acc; rw [if_neg (by omega), if_neg (by omega)]
    rw [e]
    exact Nat.le_trans (Nat.min_le_left _ _) (Fl.room_le _ _ (h (by omega)))

def Pa (y0 y1 k : Nat) : Prop := (1 ≤ k → Fl.ge1 y0 = false) ∧ (2 ≤ k → Fl.ge1 y1 = false)
theorem pa_zero {y0 y1 : Nat} : Pa y0 y1 0 := ⟨by omega, by omega⟩
theorem pa_one {y0 y1 : Nat} (h : Fl.ge1 y0 = false) : Pa y0 y1 1 := ⟨fun _ => h, by omega⟩
theorem pa_two {y0 y1 : Nat} (hp : Pa y0 y1 1) (h : Fl.ge1 y1 = false) : Pa y0 y1 2 := ⟨fun _ => hp.1 (by omega), fun _ => h⟩

theorem less_yes {y u d a : Nat} (h : IsRoom y u d) (ha : a ≤ Fl.INF) (hc : (FloatKind.f64.format.order d a == some .lt) = true) : d = min a (Fl.room y u) := by
  have hc' : (Ieee.double.order d a == some .lt) = true := hc
  rcases h with ⟨e, h2⟩ | ⟨h1, h2⟩
  · rw [Fl.order_rungs h2 ha, beq_iff_eq] at hc'
    have := Nat.compare_eq_lt.1 (Option.some.inj hc')
    rw [← e]; omega
  · rw [h1 a] at hc'; cases hc'

theorem less_no {y u d a : Nat} (h : IsRoom y u d) (ha : a ≤ Fl.INF) (hc : (FloatKind.f64.format.order d a == some .lt) = false) : a = min a (Fl.room y u) := by
  have hc' : (Ieee.double.order d a == some .lt) = false := hc
  rcases h with ⟨e, h2⟩ | ⟨h1, h2⟩
  · rw [Fl.order_rungs h2 ha, beq_eq_false_iff_ne] at hc'
    have : ¬ d < a := fun hlt => hc' (by rw [Nat.compare_eq_lt.2 hlt])
    rw [← e]; omega
  · rw [h2]; omega

theorem not_reached {y u a : Nat} (hu : Fl.gt0 u = false) (ha : a ≤ Fl.INF) : a = min a (Fl.room y u) := by
  unfold Fl.room
  rw [hu]
  simp only [Bool.false_eq_true, if_false]
  omega

set_option maxHeartbeats 2000000 in
theorem reading_yes (y0 y1 v0 v1 g u0 u1 : Nat) (w : World) (h : (FloatKind.f64.format.order g 0 == some .eq) = false) : Calls Try.prog 10 #[B y0 y1 v0 v1 g u0 u1] w fun e w' => ∃ n, e = .returned (.tuple #[.agg #[.float .f64 (min (Fl.R y0 u0) (Fl.R y1 u1)), .int .i64 n], .bool true]) ∧ Below w.heap.size w w' := by
  go_enter Try.func10, Try.ntmps10
  go_wp2_with (first | (go_at_call 11; refine (inf_any _).mono ?_; rintro e w' ⟨rfl, rfl⟩))
  obtain ⟨W0, hW0⟩ : ∃ W0, W0 = ((w.alloc (.cells #[.float .f64 y0, .float .f64 y1, .float .f64 v0, .float .f64 v1, .float .f64 g, .float .f64 u0, .float .f64 u1] 27)).alloc (.cells #[.float .f64 0, .int .i64 0] 35)).alloc (.cells #[.float .f64 9218868437227405312, .int .i64 0] 35) := ⟨_, rfl⟩
  have HW0 : Hid (W0 = _) := hW0
  clear hW0
  go_loopw [17] (fun i wr => ∃ k : Nat, k ≤ 2 ∧ i = .int .i64 k ∧ Below (w.heap.size + 2) W0 wr ∧ wr.cell? ⟨w.heap.size + 2, 0, none⟩ = some (.float .f64 (acc y0 y1 u0 u1 k)) ∧ (∃ n, wr.cell? ⟨w.heap.size + 2, 1, none⟩ = some (.int .i64 n)) ∧ wr.frozen? ⟨w.heap.size + 2, 0, none⟩ = false ∧ wr.frozen? ⟨w.heap.size + 2, 1, none⟩ = false ∧ w.heap.size + 2 < wr.heap.size ∧ Pa y0 y1 k) (fun i _ => 2 - (intOf i).toNat)
  case atStart =>
    refine ⟨0, by omega, rfl, ?_, ?_, ⟨0, ?_⟩, ?_, ?_, ?_, pa_zero⟩
    · rw [HW0.out]; exact Below.refl _ _
    · rw [acc_zero, inf_lit]; go_simp
    all_goals go_simp
  case round =>
    obtain ⟨k, hk, rfl, hb, hc0, ⟨n, hc1⟩, hf0, hf1, hz, hpa⟩ := hrel
    have b0 : wr.cell? ⟨w.heap.size, 0, none⟩ = some (.float .f64 y0) := (hb.cell (by simp)).trans (by rw [HW0.out]; go_simp)
    have b1 : wr.cell? ⟨w.heap.size, 1, none⟩ = some (.float .f64 y1) := (hb.cell (by simp)).trans (by rw [HW0.out]; go_simp)
    have b2 : wr.cell? ⟨w.heap.size, 2, none⟩ = some (.float .f64 v0) := (hb.cell (by simp)).trans (by rw [HW0.out]; go_simp)
    have b3 : wr.cell? ⟨w.heap.size, 3, none⟩ = some (.float .f64 v1) := (hb.cell (by simp)).trans (by rw [HW0.out]; go_simp)
    have b4 : wr.cell? ⟨w.heap.size, 4, none⟩ = some (.float .f64 g) := (hb.cell (by simp)).trans (by rw [HW0.out]; go_simp)
    have b5 : wr.cell? ⟨w.heap.size, 5, none⟩ = some (.float .f64 u0) := (hb.cell (by simp)).trans (by rw [HW0.out]; go_simp)
    have b6 : wr.cell? ⟨w.heap.size, 6, none⟩ = some (.float .f64 u1) := (hb.cell (by simp)).trans (by rw [HW0.out]; go_simp)
    have r0 : wr.cell? ⟨w.heap.size + 1, 0, none⟩ = some (.float .f64 0) := (hb.cell (by simp)).trans (by rw [HW0.out]; go_simp)
    have r1 : wr.cell? ⟨w.heap.size + 1, 1, none⟩ = some (.int .i64 0) := (hb.cell (by simp)).trans (by rw [HW0.out]; go_simp)
    have q0 : wr.frozen? ⟨w.heap.size + 1, 0, none⟩ = false := (hb.frozen (by simp)).trans (by rw [HW0.out]; go_simp)
    have q1 : wr.frozen? ⟨w.heap.size + 1, 1, none⟩ = false := (hb.frozen (by simp)).trans (by rw [HW0.out]; go_simp)
    have i0 : ∀ w, (Instr.index 25 (.agg #[.float .f64 y0, .float .f64 y1]) (.int .i64 0)).run Try.prog w = .ok (.float .f64 y0) w := fun _ => by kernel_rfl
    have i1 : ∀ w, (Instr.index 25 (.agg #[.float .f64 y0, .float .f64 y1]) (.int .i64 1)).run Try.prog w = .ok (.float .f64 y1) w := fun _ => by kernel_rfl
    have z0 : w.heap.size < wr.heap.size := by omega
    have z1 : w.heap.size + 1 < wr.heap.size := by omega
    have hW0b : Below w.heap.size w W0 := by
      rw [HW0.out]; exact (((Below.refl _ _).alloc (Nat.le_refl _) _).alloc (by simp) _).alloc (by simp; omega) _
    have ha : acc y0 y1 u0 u1 k ≤ Fl.INF := acc_le hpa.1
    rcases (show k = 0 ∨ k = 1 ∨ k = 2 by omega) with rfl | rfl | rfl
    · cases hge : Fl.ge1 y0
      · have hge' : (FloatKind.f64.format.order y0 4607182418800017408 == some .gt || FloatKind.f64.format.order y0 4607182418800017408 == some .eq) = false := hge
        have EQ : Hid (min (acc y0 y1 u0 u1 0) (Fl.room y0 u0) = acc y0 y1 u0 u1 1) := by
          have e0 : min (acc y0 y1 u0 u1 0) (Fl.room y0 u0) = acc y0 y1 u0 u1 1 := by rw [acc_zero, acc_one]; have := Fl.room_le y0 u0 hge; omega
          exact e0
        have HG : Hid (Fl.ge1 y0 = false) := hge
        cases hu : Fl.gt0 u0
        · have EN : Hid (acc y0 y1 u0 u1 0 = acc y0 y1 u0 u1 1) := by
            show acc y0 y1 u0 u1 0 = acc y0 y1 u0 u1 1
            exact (not_reached hu ha).trans EQ.out
          go_wp2_with fail
          refine (room0_no y0 y1 v0 v1 g u0 u1 _ hu).mono ?_
          rintro e w1 ⟨rfl, hb1⟩
          have hs1 := hb1.size
          have z2 : w.heap.size + 2 < w1.heap.size := by omega
          have m0 : w1.cell? ⟨w.heap.size + 2, 0, none⟩ = some (.float .f64 (acc y0 y1 u0 u1 0)) := (hb1.cell (by exact hz)).trans hc0
          have m1 : w1.cell? ⟨w.heap.size + 2, 1, none⟩ = some (.int .i64 n) := (hb1.cell (by exact hz)).trans hc1
          have m2 : w1.frozen? ⟨w.heap.size + 2, 0, none⟩ = false := (hb1.frozen (by exact hz)).trans hf0
          have m3 : w1.frozen? ⟨w.heap.size + 2, 1, none⟩ = false := (hb1.frozen (by exact hz)).trans hf1
          go_wp2_with fail
          go_roundw
          case rel =>
            refine ⟨1, by omega, by go_num, (hb.trans (hb1.mono (by omega))).alloc (by omega) _, ?_, ⟨n, ?_⟩, ?_, ?_, by simp; omega, pa_one HG.out⟩
            · rw [← EN.out]; go_simp
            all_goals go_simp
          case measure => simp [intOf]
        · go_wp2_with fail
          refine (room0_yes y0 y1 v0 v1 g u0 u1 _ hge hu).mono ?_
          rintro e w1 ⟨d, rfl, hR, hb1⟩
          have hs1 := hb1.size
          have z2 : w.heap.size + 2 < w1.heap.size := by omega
          have m0 : w1.cell? ⟨w.heap.size + 2, 0, none⟩ = some (.float .f64 (acc y0 y1 u0 u1 0)) := (hb1.cell (by exact hz)).trans hc0
          have m1 : w1.cell? ⟨w.heap.size + 2, 1, none⟩ = some (.int .i64 n) := (hb1.cell (by exact hz)).trans hc1
          have m2 : w1.frozen? ⟨w.heap.size + 2, 0, none⟩ = false := (hb1.frozen (by exact hz)).trans hf0
          have m3 : w1.frozen? ⟨w.heap.size + 2, 1, none⟩ = false := (hb1.frozen (by exact hz)).trans hf1
          cases hl : (FloatKind.f64.format.order d (acc y0 y1 u0 u1 0) == some .lt)
          · have EN : Hid (acc y0 y1 u0 u1 0 = acc y0 y1 u0 u1 1) := by
              show acc y0 y1 u0 u1 0 = acc y0 y1 u0 u1 1
              exact (less_no hR ha hl).trans EQ.out
            go_wp2_with fail
            go_roundw
            case rel =>
              refine ⟨1, by omega, by go_num, (hb.trans (hb1.mono (by omega))).alloc (by omega) _, ?_, ⟨n, ?_⟩, ?_, ?_, by simp; omega, pa_one HG.out⟩
              · rw [← EN.out]; go_simp
              all_goals go_simp
            case measure => simp [intOf]
          · have EN : Hid (d = acc y0 y1 u0 u1 1) := by
              show d = acc y0 y1 u0 u1 1
              exact (less_yes hR ha hl).trans EQ.out
            go_wp2_with fail
            go_roundw
            case rel =>
              refine ⟨1, by omega, by go_num, ?_, ?_, ⟨0, ?_⟩, ?_, ?_, by simp; omega, pa_one HG.out⟩
              · have hbb := hb.trans (hb1.mono (by omega : w.heap.size + 2 ≤ wr.heap.size))
                first | exact ((hbb.setCell (Nat.le_refl _) _).setCell (Nat.le_refl _) _).alloc (by simp; omega) _ | exact ((hbb.alloc (by omega) _).setCell (Nat.le_refl _) _).setCell (Nat.le_refl _) _
              · rw [← EN.out]; go_simp
              all_goals go_simp
            case measure => simp [intOf]
      · have hge' : (FloatKind.f64.format.order y0 4607182418800017408 == some .gt || FloatKind.f64.format.order y0 4607182418800017408 == some .eq) = true := hge
        have EZ : min (Fl.R y0 u0) (Fl.R y1 u1) = 0 := by unfold Fl.R; rw [hge]; simp only [if_true]; omega
        go_wp2_with fail
        refine bodyPost_ret (v := .tuple #[.agg #[.float .f64 0, .int .i64 0], .bool true]) (by simp [results, Try.results10, go_sem, *]) rfl ⟨0, by rw [EZ], ?_⟩
        exact (hW0b.trans (hb.mono (by omega))).setCell (by simp) _ |>.setCell (by simp) _
    · cases hge : Fl.ge1 y1
      · have hge' : (FloatKind.f64.format.order y1 4607182418800017408 == some .gt || FloatKind.f64.format.order y1 4607182418800017408 == some .eq) = false := hge
        have EQ : Hid (min (acc y0 y1 u0 u1 1) (Fl.room y1 u1) = acc y0 y1 u0 u1 2) := by
          have e0 : min (acc y0 y1 u0 u1 1) (Fl.room y1 u1) = acc y0 y1 u0 u1 2 := by rw [acc_one, acc_two]
          exact e0
        have HG : Hid (Fl.ge1 y1 = false) := hge
        cases hu : Fl.gt0 u1
        · have EN : Hid (acc y0 y1 u0 u1 1 = acc y0 y1 u0 u1 2) := by
            show acc y0 y1 u0 u1 1 = acc y0 y1 u0 u1 2
            exact (not_reached hu ha).trans EQ.out
          go_wp2_with fail
          refine (room1_no y0 y1 v0 v1 g u0 u1 _ hu).mono ?_
          rintro e w1 ⟨rfl, hb1⟩
          have hs1 := hb1.size
          have z2 : w.heap.size + 2 < w1.heap.size := by omega
          have m0 : w1.cell? ⟨w.heap.size + 2, 0, none⟩ = some (.float .f64 (acc y0 y1 u0 u1 1)) := (hb1.cell (by exact hz)).trans hc0
          have m1 : w1.cell? ⟨w.heap.size + 2, 1, none⟩ = some (.int .i64 n) := (hb1.cell (by exact hz)).trans hc1
          have m2 : w1.frozen? ⟨w.heap.size + 2, 0, none⟩ = false := (hb1.frozen (by exact hz)).trans hf0
          have m3 : w1.frozen? ⟨w.heap.size + 2, 1, none⟩ = false := (hb1.frozen (by exact hz)).trans hf1
          go_wp2_with fail
          go_roundw
          case rel =>
            refine ⟨2, by omega, by go_num, (hb.trans (hb1.mono (by omega))).alloc (by omega) _, ?_, ⟨n, ?_⟩, ?_, ?_, by simp; omega, pa_two hpa HG.out⟩
            · rw [← EN.out]; go_simp
            all_goals go_simp
          case measure => simp [intOf]
        · go_wp2_with fail
          refine (room1_yes y0 y1 v0 v1 g u0 u1 _ hge hu).mono ?_
          rintro e w1 ⟨d, rfl, hR, hb1⟩
          have hs1 := hb1.size
          have z2 : w.heap.size + 2 < w1.heap.size := by omega
          have m0 : w1.cell? ⟨w.heap.size + 2, 0, none⟩ = some (.float .f64 (acc y0 y1 u0 u1 1)) := (hb1.cell (by exact hz)).trans hc0
          have m1 : w1.cell? ⟨w.heap.size + 2, 1, none⟩ = some (.int .i64 n) := (hb1.cell (by exact hz)).trans hc1
          have m2 : w1.frozen? ⟨w.heap.size + 2, 0, none⟩ = false := (hb1.frozen (by exact hz)).trans hf0
          have m3 : w1.frozen? ⟨w.heap.size + 2, 1, none⟩ = false := (hb1.frozen (by exact hz)).trans hf1
          cases hl : (FloatKind.f64.format.order d (acc y0 y1 u0 u1 1) == some .lt)
          · have EN : Hid (acc y0 y1 u0 u1 1 = acc y0 y1 u0 u1 2) := by
              show acc y0 y1 u0 u1 1 = acc y0 y1 u0 u1 2
              exact (less_no hR ha hl).trans EQ.out
            go_wp2_with fail
            go_roundw
            case rel =>
              refine ⟨2, by omega, by go_num, (hb.trans (hb1.mono (by omega))).alloc (by omega) _, ?_, ⟨n, ?_⟩, ?_, ?_, by simp; omega, pa_two hpa HG.out⟩
              · rw [← EN.out]; go_simp
              all_goals go_simp
            case measure => simp [intOf]
          · have EN : Hid (d = acc y0 y1 u0 u1 2) := by
              show d = acc y0 y1 u0 u1 2
              exact (less_yes hR ha hl).trans EQ.out
            go_wp2_with fail
            go_roundw
            case rel =>
              refine ⟨2, by omega, by go_num, ?_, ?_, ⟨1, ?_⟩, ?_, ?_, by simp; omega, pa_two hpa HG.out⟩
              · have hbb := hb.trans (hb1.mono (by omega : w.heap.size + 2 ≤ wr.heap.size))
                first | exact ((hbb.setCell (Nat.le_refl _) _).setCell (Nat.le_refl _) _).alloc (by simp; omega) _ | exact ((hbb.alloc (by omega) _).setCell (Nat.le_refl _) _).setCell (Nat.le_refl _) _
              · rw [← EN.out]; go_simp
              all_goals go_simp
            case measure => simp [intOf]
      · have hge' : (FloatKind.f64.format.order y1 4607182418800017408 == some .gt || FloatKind.f64.format.order y1 4607182418800017408 == some .eq) = true := hge
        have EZ : min (Fl.R y0 u0) (Fl.R y1 u1) = 0 := by unfold Fl.R; rw [hge]; simp only [if_true]; omega
        go_wp2_with fail
        refine bodyPost_ret (v := .tuple #[.agg #[.float .f64 0, .int .i64 0], .bool true]) (by simp [results, Try.results10, go_sem, *]) rfl ⟨0, by rw [EZ], ?_⟩
        exact (hW0b.trans (hb.mono (by omega))).setCell (by simp) _ |>.setCell (by simp) _
    · have EZ : Hid (acc y0 y1 u0 u1 2 = min (Fl.R y0 u0) (Fl.R y1 u1)) := by
        show acc y0 y1 u0 u1 2 = min (Fl.R y0 u0) (Fl.R y1 u1)
        rw [acc_two]; unfold Fl.R; rw [hpa.1 (by omega), hpa.2 (by omega)]; rfl
      go_wp2_with fail
      refine bodyPost_ret (v := .tuple #[.agg #[.float .f64 (acc y0 y1 u0 u1 2), .int .i64 n], .bool true]) (by simp [results, Try.results10, go_sem, *]) rfl ⟨n, by rw [EZ.out], ?_⟩
      exact (hW0b.trans (hb.mono (by omega))).setCell (by simp) _ |>.setCell (by simp) _
end Go.Proofs.Qxb6630284a
