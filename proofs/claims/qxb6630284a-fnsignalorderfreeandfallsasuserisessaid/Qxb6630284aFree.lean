/- The walk of FnSignalOrderFreeAndFallsAsUseRises. -/
import Derived.Test.Qxb6630284aLeast
namespace Go.Proofs.Qxb6630284a
open Go.RowKit

abbrev ge (y : Nat) : Bool := FloatKind.f64.format.order y 4607182418800017408 == some .gt || FloatKind.f64.format.order y 4607182418800017408 == some .eq
abbrev le (a b : Nat) : Bool := FloatKind.f64.format.order a b == some .lt || FloatKind.f64.format.order a b == some .eq

theorem ge_is (y : Nat) : ge y = Fl.ge1 y := rfl

theorem nonneg_word {a : Nat} (h : a ≤ Fl.INF) : (FloatKind.f64.format.order a 0 == some .gt || FloatKind.f64.format.order a 0 == some .eq) = true := by
  have e : FloatKind.f64.format.order a 0 = some (compare a 0) := Fl.order_rungs h (Nat.zero_le _)
  rw [e]
  rcases Nat.eq_zero_or_pos a with h0 | h0
  · subst h0; rfl
  · rw [Nat.compare_eq_gt.2 h0]; rfl

theorem not_more {a b : Nat} (ha : a ≤ Fl.INF) (hb : b ≤ Fl.INF) (h : a ≤ b) : (FloatKind.f64.format.order a b == some .gt) = false := by
  have e : FloatKind.f64.format.order a b = some (compare a b) := Fl.order_rungs ha hb
  rw [e, beq_eq_false_iff_ne]
  intro hc
  have := Nat.compare_eq_gt.1 (Option.some.inj hc)
  omega

theorem Sg_le {y0 y1 g u0 u1 : Nat} (hg : Fl.Fin g) : Sg y0 y1 g u0 u1 ≤ Fl.INF :=
  (Fl.S_some hg (Nat.le_trans (Nat.min_le_left _ _) (Fl.R_le y0 u0))).2

theorem Sg_full {y0 y1 g u0 u1 : Nat} (hg : Fl.Fin g) (h : (ge y0 || ge y1) = true) : Sg y0 y1 g u0 u1 = 0 := by
  rw [ge_is, ge_is, Bool.or_eq_true] at h
  have : min (Fl.R y0 u0) (Fl.R y1 u1) = 0 := by
    unfold Fl.R
    rcases h with h | h
    · rw [h]; simp only [if_true]; omega
    · rw [h]; simp only [if_true]; omega
  unfold Sg; rw [this]; exact Fl.S_zero hg

theorem Sg_swap (y0 y1 g u0 u1 : Nat) : Sg y1 y0 g u1 u0 = Sg y0 y1 g u0 u1 := by
  unfold Sg; rw [Nat.min_comm]

theorem Sg_anti {y0 y0b y1 g u0 u1 : Nat} (hg : Fl.Fin g) (h : le y0 y0b = true) : Sg y0b y1 g u0 u1 ≤ Sg y0 y1 g u0 u1 := by
  have h' : Ieee.double.order y0 y0b = some .lt ∨ Ieee.double.order y0 y0b = some .eq := by
    rw [Bool.or_eq_true, beq_iff_eq, beq_iff_eq] at h; exact h
  have hr := Fl.R_anti u0 h'
  unfold Sg
  refine Fl.S_mono hg ?_ (Nat.le_trans (Nat.min_le_left _ _) (Fl.R_le y0 u0))
  omega

theorem order_zero : FloatKind.f64.format.order 0 0 = some .eq := by decide

set_option maxHeartbeats 4000000 in
theorem free_core (y0 y1 v0 v1 g u0 u1 yb s t : Nat) (w : World) (p0 p1 pb l l' : Bool) (h1 : (FloatKind.f64.format.order g 0 == some .gt) = true) (h2 : (FloatKind.f64.format.order g 9218868437227405311 == some .gt) = false) (h3 : (FloatKind.f64.format.order g 0 == some .eq) = false) (h4 : (FloatKind.f64.format.order g 0 != some .eq) = true)
    (hp0 : (FloatKind.f64.format.order y0 4607182418800017408 == some .gt || FloatKind.f64.format.order y0 4607182418800017408 == some .eq) = p0)
    (hp1 : (FloatKind.f64.format.order y1 4607182418800017408 == some .gt || FloatKind.f64.format.order y1 4607182418800017408 == some .eq) = p1)
    (hpb : (FloatKind.f64.format.order yb 4607182418800017408 == some .gt || FloatKind.f64.format.order yb 4607182418800017408 == some .eq) = pb)
    (hl : (FloatKind.f64.format.order y0 yb == some .lt || FloatKind.f64.format.order y0 yb == some .eq) = l)
    (hl' : (FloatKind.f64.format.order yb y0 == some .lt || FloatKind.f64.format.order yb y0 == some .eq) = l')
    (f1 : (p0 || p1) = true → (FloatKind.f64.format.order s 0 != some .eq) = false)
    (f2 : (pb || p1) = true → (FloatKind.f64.format.order t 0 != some .eq) = false)
    (f3 : l = true → (FloatKind.f64.format.order t s == some .gt) = false)
    (f4 : l' = true → (FloatKind.f64.format.order s t == some .gt) = false)
    (f5 : (FloatKind.f64.format.order s s != some .eq) = false)
    (f6 : (FloatKind.f64.format.order s 0 == some .gt || FloatKind.f64.format.order s 0 == some .eq) = true)
    (f7 : (FloatKind.f64.format.order t 0 == some .gt || FloatKind.f64.format.order t 0 == some .eq) = true)
    (C0 : Hid (∀ w, Calls Try.prog 6 #[B y0 y1 v0 v1 g u0 u1] w fun e w' => e = .returned (.tuple #[.float .f64 s, .bool true]) ∧ Below w.heap.size w w'))
    (C1 : Hid (∀ w, Calls Try.prog 6 #[B y1 y0 v1 v0 g u1 u0] w fun e w' => e = .returned (.tuple #[.float .f64 s, .bool true]) ∧ Below w.heap.size w w'))
    (C2 : Hid (∀ w, Calls Try.prog 6 #[B yb y1 v0 v1 g u0 u1] w fun e w' => e = .returned (.tuple #[.float .f64 t, .bool true]) ∧ Below w.heap.size w w')) :
    Calls Try.prog 4 #[.float .f64 y0, .float .f64 y1, .float .f64 v0, .float .f64 v1, .float .f64 g, .float .f64 u0, .float .f64 u1, .float .f64 yb] w fun e w' => e = .returned (.bool true) ∧ Below w.heap.size w w' := by
  go_enter Try.func4, Try.ntmps4
  go_wp2_with fail
  refine (batch_any y0 y1 v0 v1 g u0 u1 _).mono ?_
  rintro e w1 ⟨rfl, hb1⟩
  go_wp2_with fail
  refine (C0.out _).mono ?_
  rintro e w2 ⟨rfl, hb2⟩
  go_wp2_with fail
  refine (batch_any y1 y0 v1 v0 g u1 u0 _).mono ?_
  rintro e w3 ⟨rfl, hb3⟩
  go_wp2_with fail
  refine (C1.out _).mono ?_
  rintro e w4 ⟨rfl, hb4⟩
  go_wp2_with fail
  refine (batch_any yb y1 v0 v1 g u0 u1 _).mono ?_
  rintro e w5 ⟨rfl, hb5⟩
  go_wp2_with fail
  refine (C2.out _).mono ?_
  rintro e w6 ⟨rfl, hb6⟩
  have hz : Hid (Below w.heap.size w w6) := by
    have s1 := hb1.size; have s2 := hb2.size; have s3 := hb3.size; have s4 := hb4.size; have s5 := hb5.size
    exact ((((hb1.trans (hb2.mono (by omega))).trans (hb3.mono (by omega))).trans (hb4.mono (by omega))).trans (hb5.mono (by omega))).trans (hb6.mono (by omega))
  clear hb1 hb2 hb3 hb4 hb5 hb6 C0 C1 C2
  cases p0 <;> cases p1 <;> cases pb <;> simp only [Bool.or_true, Bool.or_false, forall_const, Bool.false_eq_true, false_imp_iff] at f1 f2 <;> cases l <;> cases l' <;> simp only [forall_const, Bool.false_eq_true, false_imp_iff] at f3 f4 <;> (go_wp2_with fail; go_ret; exact ⟨rfl, hz.out⟩)

set_option maxHeartbeats 1000000 in
theorem free_walk (y0 y1 v0 v1 g u0 u1 yb : Nat) (w : World) : Calls Try.prog 4 #[.float .f64 y0, .float .f64 y1, .float .f64 v0, .float .f64 v1, .float .f64 g, .float .f64 u0, .float .f64 u1, .float .f64 yb] w fun e w' => e = .returned (.bool true) ∧ Below w.heap.size w w' := by
  rcases sigma_cases g with h1 | ⟨h1, h2⟩ | ⟨h1, h2, h3⟩ | ⟨h1, h2, h3, hg⟩
  · go_enter Try.func4, Try.ntmps4
    go_wp2_with fail
    go_ret
    exact ⟨rfl, Below.refl _ _⟩
  · go_enter Try.func4, Try.ntmps4
    go_wp2_with fail
    go_ret
    exact ⟨rfl, Below.refl _ _⟩
  · have h00 := order_zero
    have h4 : (FloatKind.f64.format.order g 0 != some .eq) = false := by
      rw [beq_iff_eq] at h3; rw [h3]; rfl
    go_enter Try.func4, Try.ntmps4
    go_wp2_with fail
    refine (batch_any y0 y1 v0 v1 g u0 u1 _).mono ?_
    rintro e w1 ⟨rfl, hb1⟩
    go_wp2_with fail
    refine (signal_no y0 y1 v0 v1 g u0 u1 _ h3).mono ?_
    rintro e w2 ⟨rfl, hb2⟩
    go_wp2_with fail
    refine (batch_any y1 y0 v1 v0 g u1 u0 _).mono ?_
    rintro e w3 ⟨rfl, hb3⟩
    go_wp2_with fail
    refine (signal_no y1 y0 v1 v0 g u1 u0 _ h3).mono ?_
    rintro e w4 ⟨rfl, hb4⟩
    go_wp2_with fail
    refine (batch_any yb y1 v0 v1 g u0 u1 _).mono ?_
    rintro e w5 ⟨rfl, hb5⟩
    go_wp2_with fail
    refine (signal_no yb y1 v0 v1 g u0 u1 _ h3).mono ?_
    rintro e w6 ⟨rfl, hb6⟩
    go_wp2_with fail
    go_ret
    have s1 := hb1.size; have s2 := hb2.size; have s3 := hb3.size; have s4 := hb4.size; have s5 := hb5.size
    exact ⟨rfl, ((((hb1.trans (hb2.mono (by omega))).trans (hb3.mono (by omega))).trans (hb4.mono (by omega))).trans (hb5.mono (by omega))).trans (hb6.mono (by omega))⟩
  · have h4 : (FloatKind.f64.format.order g 0 != some .eq) = true := by
      rw [beq_iff_eq] at h1; rw [h1]; rfl
    have zz := same_word (Nat.zero_le Fl.INF)
    refine free_core y0 y1 v0 v1 g u0 u1 yb (Sg y0 y1 g u0 u1) (Sg yb y1 g u0 u1) w _ _ _ _ _ h1 h2 h3 h4 rfl rfl rfl rfl rfl ?_ ?_ ?_ ?_ (same_word (Sg_le hg)).2 (nonneg_word (Sg_le hg)) (nonneg_word (Sg_le hg)) ?_ ?_ ?_
    · intro h; rw [Sg_full hg h]; exact zz.2
    · intro h; rw [Sg_full hg h]; exact zz.2
    · intro h; exact not_more (Sg_le hg) (Sg_le hg) (Sg_anti hg h)
    · intro h; exact not_more (Sg_le hg) (Sg_le hg) (Sg_anti hg h)
    · exact fun w => signal_yes y0 y1 v0 v1 g u0 u1 w h3 hg
    · have := fun w => signal_yes y1 y0 v1 v0 g u1 u0 w h3 hg
      rw [Sg_swap] at this
      exact this
    · exact fun w => signal_yes yb y1 v0 v1 g u0 u1 w h3 hg
end Go.Proofs.Qxb6630284a
