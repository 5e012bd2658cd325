/- The walk of FnSignalIsTheLeastOfItsResources. -/
import Derived.Test.Qxb6630284aWkC
namespace Go.Proofs.Qxb6630284a
open Go.RowKit

theorem R_zero : Fl.R 0 0 = Fl.INF := by
  have h1 : Fl.ge1 0 = false := by decide
  have h2 : Fl.gt0 0 = false := by decide
  unfold Fl.R Fl.room; rw [h1, h2]; rfl
theorem Sg_left (y g u : Nat) : Sg y 0 g u 0 = Fl.S g (Fl.R y u) := by
  unfold Sg; rw [R_zero, Nat.min_eq_left (Fl.R_le y u)]
theorem Sg_right (y g u : Nat) : Sg 0 y g 0 u = Fl.S g (Fl.R y u) := by
  unfold Sg; rw [R_zero, Nat.min_eq_right (Fl.R_le y u)]

theorem same_word {a : Nat} (h : a ≤ Fl.INF) : (FloatKind.f64.format.order a a == some .eq) = true ∧ (FloatKind.f64.format.order a a != some .eq) = false := by
  have e : FloatKind.f64.format.order a a = some .eq := by
    show Ieee.double.order a a = some .eq
    rw [Fl.order_rungs h h, Nat.compare_eq_eq.2 rfl]
  rw [e]; exact ⟨rfl, rfl⟩

/-- Sigma's cases. -/
theorem sigma_cases (g : Nat) : (FloatKind.f64.format.order g 0 == some .gt || FloatKind.f64.format.order g 0 == some .eq) = false ∨
    ((FloatKind.f64.format.order g 0 == some .gt || FloatKind.f64.format.order g 0 == some .eq) = true ∧ (FloatKind.f64.format.order g 9218868437227405311 == some .gt) = true) ∨
    ((FloatKind.f64.format.order g 0 == some .gt || FloatKind.f64.format.order g 0 == some .eq) = true ∧ (FloatKind.f64.format.order g 9218868437227405311 == some .gt) = false ∧ (FloatKind.f64.format.order g 0 == some .eq) = true) ∨
    ((FloatKind.f64.format.order g 0 == some .gt) = true ∧ (FloatKind.f64.format.order g 9218868437227405311 == some .gt) = false ∧ (FloatKind.f64.format.order g 0 == some .eq) = false ∧ Fl.Fin g) := by
  cases h1 : (FloatKind.f64.format.order g 0 == some .gt || FloatKind.f64.format.order g 0 == some .eq)
  · exact .inl rfl
  · cases h2 : (FloatKind.f64.format.order g 9218868437227405311 == some .gt)
    · cases h3 : (FloatKind.f64.format.order g 0 == some .eq)
      · rw [h3, Bool.or_false] at h1
        refine .inr (.inr (.inr ⟨h1, rfl, rfl, ?_⟩))
        rw [beq_iff_eq] at h1
        refine Fl.fin_of h1 ?_
        rw [beq_eq_false_iff_ne] at h2
        exact h2
      · exact .inr (.inr (.inl ⟨rfl, rfl, rfl⟩))
    · exact .inr (.inl ⟨rfl, rfl⟩)

set_option maxHeartbeats 1000000 in
theorem least_walk (y0 y1 v0 v1 g u0 u1 : Nat) (w : World) : Calls Try.prog 3 #[.float .f64 y0, .float .f64 y1, .float .f64 v0, .float .f64 v1, .float .f64 g, .float .f64 u0, .float .f64 u1] w fun e w' => e = .returned (.bool true) ∧ Below w.heap.size w w' := by
  rcases sigma_cases g with h1 | ⟨h1, h2⟩ | ⟨h1, h2, h3⟩ | ⟨h1, h2, h3, hg⟩
  · go_enter Try.func3, Try.ntmps3
    go_wp2_with fail
    go_ret
    exact ⟨rfl, Below.refl _ _⟩
  · go_enter Try.func3, Try.ntmps3
    go_wp2_with fail
    go_ret
    exact ⟨rfl, Below.refl _ _⟩
  · have h00 : (FloatKind.f64.format.order 0 0 == some .eq) = true := by decide
    go_enter Try.func3, Try.ntmps3
    go_wp2_with fail
    refine (batch_any y0 y1 v0 v1 g u0 u1 _).mono ?_
    rintro e w1 ⟨rfl, hb1⟩
    go_wp2_with fail
    refine (signal_no y0 y1 v0 v1 g u0 u1 _ h3).mono ?_
    rintro e w2 ⟨rfl, hb2⟩
    go_wp2_with fail
    refine (batch_any y0 0 v0 0 g u0 0 _).mono ?_
    rintro e w3 ⟨rfl, hb3⟩
    go_wp2_with fail
    refine (signal_no y0 0 v0 0 g u0 0 _ h3).mono ?_
    rintro e w4 ⟨rfl, hb4⟩
    go_wp2_with fail
    refine (batch_any 0 y1 0 v1 g 0 u1 _).mono ?_
    rintro e w5 ⟨rfl, hb5⟩
    go_wp2_with fail
    refine (signal_no 0 y1 0 v1 g 0 u1 _ h3).mono ?_
    rintro e w6 ⟨rfl, hb6⟩
    go_wp2_with fail
    go_ret
    have s1 := hb1.size; have s2 := hb2.size; have s3 := hb3.size; have s4 := hb4.size; have s5 := hb5.size
    exact ⟨rfl, ((((hb1.trans (hb2.mono (by omega))).trans (hb3.mono (by omega))).trans (hb4.mono (by omega))).trans (hb5.mono (by omega))).trans (hb6.mono (by omega))⟩
  · have hm : Sg y0 y1 g u0 u1 = min (Fl.S g (Fl.R y0 u0)) (Fl.S g (Fl.R y1 u1)) := Fl.S_min hg (Fl.R_le _ _) (Fl.R_le _ _)
    have a0 := Fl.R_le y0 u0
    have a1 := Fl.R_le y1 u1
    have b0 := (Fl.S_some hg a0).2
    have b1 := (Fl.S_some hg a1).2
    have k0 := Sg_left y0 g u0
    have k1 := Sg_right y1 g u1
    have al0 := fun w => alone_any y0 u0 g w hg
    have al1 := fun w => alone_any y1 u1 g w hg
    have c0 := fun w => signal_yes y0 y1 v0 v1 g u0 u1 w h3 hg
    have c1 := fun w => signal_yes y0 0 v0 0 g u0 0 w h3 hg
    have c2 := fun w => signal_yes 0 y1 0 v1 g 0 u1 w h3 hg
    rw [hm] at c0
    rw [k0] at c1
    rw [k1] at c2
    clear hm k0 k1 a0 a1 hg
    generalize Fl.S g (Fl.R y0 u0) = p0 at *
    generalize Fl.S g (Fl.R y1 u1) = p1 at *
    have e0 := same_word b0
    have e1 := same_word b1
    obtain ⟨e00, e01⟩ := e0
    obtain ⟨e10, e11⟩ := e1
    have C1 : Hid _ := c1
    have C2 : Hid _ := c2
    have A0 : Hid _ := al0
    have A1 : Hid _ := al1
    clear c1 c2 al0 al1
    have hord : FloatKind.f64.format.order p1 p0 = some (compare p1 p0) := Fl.order_rungs b1 b0
    cases hl : (FloatKind.f64.format.order p1 p0 == some .lt)
    · have hmin : min p0 p1 = p0 := by
        rw [hord, beq_eq_false_iff_ne] at hl
        have : ¬ p1 < p0 := fun h => hl (by rw [Nat.compare_eq_lt.2 h])
        omega
      rw [hmin] at c0
      have C0 : Hid _ := c0
      clear hmin hord c0
      go_enter Try.func3, Try.ntmps3
      go_wp2_with fail
      refine (batch_any y0 y1 v0 v1 g u0 u1 _).mono ?_
      rintro e w1 ⟨rfl, hb1⟩
      go_wp2_with fail
      refine (C0.out _).mono ?_
      rintro e w2 ⟨rfl, hb2⟩
      go_wp2_with fail
      refine (batch_any y0 0 v0 0 g u0 0 _).mono ?_
      rintro e w3 ⟨rfl, hb3⟩
      go_wp2_with fail
      refine (C1.out _).mono ?_
      rintro e w4 ⟨rfl, hb4⟩
      go_wp2_with fail
      refine (batch_any 0 y1 0 v1 g 0 u1 _).mono ?_
      rintro e w5 ⟨rfl, hb5⟩
      go_wp2_with fail
      refine (C2.out _).mono ?_
      rintro e w6 ⟨rfl, hb6⟩
      go_wp2_with fail
      refine (A0.out _).mono ?_
      rintro e w7 ⟨rfl, hb7⟩
      go_wp2_with fail
      refine (A1.out _).mono ?_
      rintro e w8 ⟨rfl, hb8⟩
      go_wp2_with fail
      go_ret
      have s1 := hb1.size; have s2 := hb2.size; have s3 := hb3.size; have s4 := hb4.size; have s5 := hb5.size; have s6 := hb6.size; have s7 := hb7.size
      exact ⟨rfl, ((((((hb1.trans (hb2.mono (by omega))).trans (hb3.mono (by omega))).trans (hb4.mono (by omega))).trans (hb5.mono (by omega))).trans (hb6.mono (by omega))).trans (hb7.mono (by omega))).trans (hb8.mono (by omega))⟩
    · have hmin : min p0 p1 = p1 := by
        rw [hord, beq_iff_eq] at hl
        have := Nat.compare_eq_lt.1 (Option.some.inj hl)
        omega
      rw [hmin] at c0
      have C0 : Hid _ := c0
      clear hmin hord c0
      go_enter Try.func3, Try.ntmps3
      go_wp2_with fail
      refine (batch_any y0 y1 v0 v1 g u0 u1 _).mono ?_
      rintro e w1 ⟨rfl, hb1⟩
      go_wp2_with fail
      refine (C0.out _).mono ?_
      rintro e w2 ⟨rfl, hb2⟩
      go_wp2_with fail
      refine (batch_any y0 0 v0 0 g u0 0 _).mono ?_
      rintro e w3 ⟨rfl, hb3⟩
      go_wp2_with fail
      refine (C1.out _).mono ?_
      rintro e w4 ⟨rfl, hb4⟩
      go_wp2_with fail
      refine (batch_any 0 y1 0 v1 g 0 u1 _).mono ?_
      rintro e w5 ⟨rfl, hb5⟩
      go_wp2_with fail
      refine (C2.out _).mono ?_
      rintro e w6 ⟨rfl, hb6⟩
      go_wp2_with fail
      refine (A0.out _).mono ?_
      rintro e w7 ⟨rfl, hb7⟩
      go_wp2_with fail
      refine (A1.out _).mono ?_
      rintro e w8 ⟨rfl, hb8⟩
      go_wp2_with fail
      go_ret
      have s1 := hb1.size; have s2 := hb2.size; have s3 := hb3.size; have s4 := hb4.size; have s5 := hb5.size; have s6 := hb6.size; have s7 := hb7.size
      exact ⟨rfl, ((((((hb1.trans (hb2.mono (by omega))).trans (hb3.mono (by omega))).trans (hb4.mono (by omega))).trans (hb5.mono (by omega))).trans (hb6.mono (by omega))).trans (hb7.mono (by omega))).trans (hb8.mono (by omega))⟩
end Go.Proofs.Qxb6630284a
