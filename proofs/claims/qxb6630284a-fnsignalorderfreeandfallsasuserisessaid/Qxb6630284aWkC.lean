/- The walks of seat b6630284a, third part: Headroom, Signal, the signal of one resource alone. -/
import Derived.Test.Qxb6630284aWkB
namespace Go.Proofs.Qxb6630284a
open Go.RowKit
attribute [local go_sem] run_store_float

set_option maxHeartbeats 1000000 in
theorem headroom_no (y0 y1 v0 v1 g u0 u1 : Nat) (w : World) (h : (FloatKind.f64.format.order g 0 == some .eq) = true) : Calls Try.prog 8 #[B y0 y1 v0 v1 g u0 u1] w fun e w' => e = .returned (.tuple #[.float .f64 0, .bool false]) ∧ Below w.heap.size w w' := by
  go_enter Try.func8, Try.ntmps8
  go_wp2_with fail
  refine (reading_no y0 y1 v0 v1 g u0 u1 _ h).mono ?_
  rintro e w1 ⟨rfl, hb1⟩
  have hs1 := hb1.size
  go_wp2_with fail
  go_ret2
  exact ⟨rfl, (((Below.refl _ _).alloc (Nat.le_refl _) _).trans (hb1.mono (by simp))).alloc (by simp at hs1; omega) _⟩

set_option maxHeartbeats 1000000 in
theorem headroom_yes (y0 y1 v0 v1 g u0 u1 : Nat) (w : World) (h : (FloatKind.f64.format.order g 0 == some .eq) = false) : Calls Try.prog 8 #[B y0 y1 v0 v1 g u0 u1] w fun e w' => e = .returned (.tuple #[.float .f64 (min (Fl.R y0 u0) (Fl.R y1 u1)), .bool true]) ∧ Below w.heap.size w w' := by
  generalize hd : min (Fl.R y0 u0) (Fl.R y1 u1) = d
  have Hd : Hid (min (Fl.R y0 u0) (Fl.R y1 u1) = d) := hd
  clear hd
  go_enter Try.func8, Try.ntmps8
  go_wp2_with fail
  refine (reading_yes y0 y1 v0 v1 g u0 u1 _ h).mono ?_
  rintro e w1 ⟨n, rfl, hb1⟩
  rw [Hd.out]
  have hs1 := hb1.size
  go_wp2_with fail
  go_ret2
  exact ⟨rfl, (((Below.refl _ _).alloc (Nat.le_refl _) _).trans (hb1.mono (by simp))).alloc (by simp at hs1; omega) _⟩

set_option maxHeartbeats 1000000 in
theorem signal_no (y0 y1 v0 v1 g u0 u1 : Nat) (w : World) (h : (FloatKind.f64.format.order g 0 == some .eq) = true) : Calls Try.prog 6 #[B y0 y1 v0 v1 g u0 u1] w fun e w' => e = .returned (.tuple #[.float .f64 0, .bool false]) ∧ Below w.heap.size w w' := by
  go_enter Try.func6, Try.ntmps6
  go_wp2_with fail
  refine (headroom_no y0 y1 v0 v1 g u0 u1 _ h).mono ?_
  rintro e w1 ⟨rfl, hb1⟩
  have hs1 := hb1.size
  go_wp2_with fail
  go_ret2
  exact ⟨rfl, ((Below.refl _ _).alloc (Nat.le_refl _) _).trans (hb1.mono (by simp))⟩

/-- The signal of a batch. -/
def Sg (y0 y1 g u0 u1 : Nat) : Nat := Fl.S g (min (Fl.R y0 u0) (Fl.R y1 u1))

set_option maxHeartbeats 1000000 in
theorem signal_yes (y0 y1 v0 v1 g u0 u1 : Nat) (w : World) (h : (FloatKind.f64.format.order g 0 == some .eq) = false) (hg : Fl.Fin g) : Calls Try.prog 6 #[B y0 y1 v0 v1 g u0 u1] w fun e w' => e = .returned (.tuple #[.float .f64 (Sg y0 y1 g u0 u1), .bool true]) ∧ Below w.heap.size w w' := by
  have hq := (Fl.S_some hg (Nat.le_trans (Nat.min_le_left (Fl.R y0 u0) (Fl.R y1 u1)) (Fl.R_le y0 u0))).1
  have hv : Sg y0 y1 g u0 u1 = Fl.S g (min (Fl.R y0 u0) (Fl.R y1 u1)) := rfl
  rw [← hv] at hq
  clear hv
  generalize Sg y0 y1 g u0 u1 = s at *
  generalize hd : min (Fl.R y0 u0) (Fl.R y1 u1) = d at *
  have Hd : Hid (min (Fl.R y0 u0) (Fl.R y1 u1) = d) := hd
  have r1 := fun w => run_quo_ok (P := Try.prog) w 22 d g s hq
  clear hd hq hg
  go_enter Try.func6, Try.ntmps6
  go_wp2_with fail
  refine (headroom_yes y0 y1 v0 v1 g u0 u1 _ h).mono ?_
  rw [Hd.out]
  rintro e w1 ⟨rfl, hb1⟩
  have hs1 := hb1.size
  have m4 : w1.cell? ⟨w.heap.size, 4, none⟩ = some (.float .f64 g) := (hb1.cell (by simp)).trans (by go_simp)
  go_wp2_with fail
  go_ret2
  exact ⟨rfl, ((Below.refl _ _).alloc (Nat.le_refl _) _).trans (hb1.mono (by simp))⟩

theorem alone_full {y u g : Nat} (h : Fl.ge1 y = true) (hg : Fl.Fin g) : Fl.S g (Fl.R y u) = 0 := by
  unfold Fl.R; rw [if_pos h]; exact Fl.S_zero hg
theorem alone_far {y u g : Nat} (h : Fl.ge1 y = false) (hu : Fl.gt0 u = false) (hg : Fl.Fin g) : Fl.S g (Fl.R y u) = Fl.INF := by
  unfold Fl.R Fl.room; rw [h, hu]; simp only [Bool.false_eq_true, if_false]; exact Fl.S_inf hg
theorem alone_nan {y u g : Nat} (h : Fl.ge1 y = false) (hu : Fl.gt0 u = true) (hg : Fl.Fin g) (hs : Ieee.double.sub Fl.ONE y = none ∨ ∃ t, Ieee.double.sub Fl.ONE y = some t ∧ Ieee.double.div t u = none) : Fl.S g (Fl.R y u) = Fl.INF := by
  unfold Fl.R Fl.room; rw [h, hu]; simp only [Bool.false_eq_true, if_false, if_true]
  rcases hs with hs | ⟨t, h1, h2⟩
  · rw [hs]; exact Fl.S_inf hg
  · rw [h1]; dsimp only; rw [h2]; exact Fl.S_inf hg
theorem alone_num {y u g t r : Nat} (h : Fl.ge1 y = false) (hu : Fl.gt0 u = true) (hg : Fl.Fin g) (h1 : Ieee.double.sub Fl.ONE y = some t) (h2 : Ieee.double.div t u = some r) : Fl.R y u = r ∧ Ieee.double.div r g = some (Fl.S g r) ∧ (Ieee.double.order (Fl.S g r) (Fl.S g r) != some .eq) = false := by
  have e : Fl.R y u = r := by
    unfold Fl.R Fl.room; rw [h, hu]; simp only [Bool.false_eq_true, if_false, if_true]
    rw [h1]; dsimp only; rw [h2]; rfl
  have hr : r ≤ Fl.INF := e ▸ Fl.R_le y u
  obtain ⟨a, b⟩ := Fl.S_some hg hr
  refine ⟨e, a, ?_⟩
  rw [Fl.order_rungs b b, Nat.compare_eq_eq.2 rfl]; rfl

set_option maxHeartbeats 1000000 in
theorem alone_any (y u g : Nat) (w : World) (hg : Fl.Fin g) : Calls Try.prog 7 #[.float .f64 y, .float .f64 u, .float .f64 g] w fun e w' => e = .returned (.float .f64 (Fl.S g (Fl.R y u))) ∧ Below w.heap.size w w' := by
  cases hge : Fl.ge1 y
  · have hge' : (FloatKind.f64.format.order y 4607182418800017408 == some .gt || FloatKind.f64.format.order y 4607182418800017408 == some .eq) = false := hge
    cases hu : Fl.gt0 u
    · have hu' : (FloatKind.f64.format.order u 0 == some .gt) = false := hu
      rw [alone_far hge hu hg, inf_lit]
      clear hge hu hg
      go_enter Try.func7, Try.ntmps7
      go_wp2_with (first | (go_at_call 9; refine (infinity_any _).mono ?_; rintro e w' ⟨rfl, rfl⟩))
      go_ret
      exact ⟨rfl, Below.refl _ _⟩
    · have hu' : (FloatKind.f64.format.order u 0 == some .gt) = true := hu
      rcases hs : Ieee.double.sub Fl.ONE y with _ | t
      · have r1 := fun w => run_sub_nan (P := Try.prog) w 22 4607182418800017408 y hs
        have r2 := fun w w' => run_quo_nan (P := Try.prog) w 22 _ u (div_nanOf w' 4607182418800017408 y u)
        have r3 := fun w w' x => run_quo_nan (P := Try.prog) w 22 _ g (div_nanOf w' x u g)
        have r4 : ∀ w x z, (FloatKind.f64.format.order (nanOf w x z) (nanOf w x z) != some .eq) = true := fun w x z => by
          have := order_nanOf w x z (nanOf w x z)
          rw [show FloatKind.f64.format.order (nanOf w x z) (nanOf w x z) = none from this]; rfl
        rw [alone_nan hge hu hg (.inl hs), inf_lit]
        clear hge hu hg hs
        go_enter Try.func7, Try.ntmps7
        go_wp2_with (first | (go_at_call 9; refine (infinity_any _).mono ?_; rintro e w' ⟨rfl, rfl⟩))
        go_ret
        exact ⟨rfl, (((Below.refl _ _).drew).drew).drew⟩
      · rcases hd : Ieee.double.div t u with _ | r
        · have r1 := fun w => run_sub_ok (P := Try.prog) w 22 4607182418800017408 y t hs
          have r2 := fun w => run_quo_nan (P := Try.prog) w 22 t u hd
          have r3 := fun w w' x => run_quo_nan (P := Try.prog) w 22 _ g (div_nanOf w' x u g)
          have r4 : ∀ w x z, (FloatKind.f64.format.order (nanOf w x z) (nanOf w x z) != some .eq) = true := fun w x z => by
            have := order_nanOf w x z (nanOf w x z)
            rw [show FloatKind.f64.format.order (nanOf w x z) (nanOf w x z) = none from this]; rfl
          rw [alone_nan hge hu hg (.inr ⟨t, hs, hd⟩), inf_lit]
          clear hge hu hg hs hd
          go_enter Try.func7, Try.ntmps7
          go_wp2_with (first | (go_at_call 9; refine (infinity_any _).mono ?_; rintro e w' ⟨rfl, rfl⟩))
          go_ret
          exact ⟨rfl, ((Below.refl _ _).drew).drew⟩
        · have r1 := fun w => run_sub_ok (P := Try.prog) w 22 4607182418800017408 y t hs
          have r2 := fun w => run_quo_ok (P := Try.prog) w 22 t u r hd
          obtain ⟨e, hq, hn⟩ := alone_num hge hu hg hs hd
          have r3 := fun w => run_quo_ok (P := Try.prog) w 22 r g _ hq
          have r4 : (FloatKind.f64.format.order (Fl.S g r) (Fl.S g r) != some .eq) = false := hn
          rw [e]
          clear hge hu hg hs hd e hq hn
          generalize Fl.S g r = s at *
          go_enter Try.func7, Try.ntmps7
          go_wp2_with fail
          go_ret
          exact ⟨rfl, Below.refl _ _⟩
  · have hge' : (FloatKind.f64.format.order y 4607182418800017408 == some .gt || FloatKind.f64.format.order y 4607182418800017408 == some .eq) = true := hge
    rw [alone_full hge hg]
    clear hge hg
    go_enter Try.func7, Try.ntmps7
    go_wp2_with fail
    go_ret
    exact ⟨rfl, Below.refl _ _⟩
end Go.Proofs.Qxb6630284a
