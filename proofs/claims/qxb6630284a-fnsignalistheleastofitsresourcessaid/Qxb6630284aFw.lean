/- The plain mathematics of seat b6630284a, third part: the signal as a plain function of words, and what the two laws want of it. -/
import Derived.Test.Qxb6630284aFm
namespace Go.Proofs.Qxb6630284a.Fl
open Ieee

theorem order_zero_gt {u : Nat} (h : double.order u 0 = some .gt) : (∃ n j, double.read u = .number false n j ∧ 0 < n ∧ n < 2 ^ 53 ∧ -1074 ≤ j) ∨ double.read u = .infinity false := by
  unfold Format.order at h
  rw [read_zero] at h
  rcases read_cases u with ⟨s, m, i, e, hm, hi⟩ | ⟨s, e⟩ | ⟨s, f, e⟩
  · rw [e, order_num _ _ _ _ _ _ hi (by decide)] at h
    have hc := Int.compare_eq_gt.1 (Option.some.inj h)
    have hz : vI false 0 (-1074) = 0 := by decide
    rw [hz] at hc
    unfold vI at hc
    rw [signed_eq] at hc
    cases s
    · refine .inl ⟨m, i, e, ?_, hm, hi⟩
      rcases Nat.eq_zero_or_pos m with h0 | h0
      · subst h0; simp at hc
      · exact h0
    · exfalso
      have h1 : (0 : Int) ≤ (m : Int) * 2 ^ (i + 1074).toNat := Int.mul_nonneg (by omega) (Int.le_of_lt (pow_pos_int _))
      simp only [if_true] at hc
      omega
  · rw [e] at h
    cases s
    · exact .inr e
    · cases h
  · rw [e] at h; cases h

/-- Division by a positive finite number. -/
theorem div_fin {a u n : Nat} {j : Int} (ha : a ≤ INF) (hu : double.read u = .number false n j) (hn : 0 < n) : ∃ r, double.div a u = some r ∧ r ≤ INF := by
  unfold Format.div
  rw [hu]
  by_cases h : a = INF
  · subst h; rw [read_inf]; exact ⟨INF, rfl, Nat.le_refl _⟩
  · obtain ⟨m, i, e, hm, _, _⟩ := read_pos (x := a) (by omega)
    rw [e]
    rcases Nat.eq_zero_or_pos m with h0 | h0
    · subst h0
      refine ⟨0, ?_, Nat.zero_le _⟩
      show Option.map double.write (Datum.quotient 54 (.number false 0 i) (.number false n j)) = some 0
      unfold Datum.quotient
      dsimp only
      rw [if_neg (by omega)]
      simp only [Nat.zero_shiftLeft, Nat.zero_div, Nat.zero_mod]
      rfl
    · obtain ⟨r, _, hr⟩ := div_num (i := i) (j := j) h0 hm hn
      exact ⟨_, hr, Nat.min_le_right _ _⟩

theorem div_zero {u n : Nat} {j : Int} (hu : double.read u = .number false n j) (hn : 0 < n) : double.div 0 u = some 0 := by
  unfold Format.div
  rw [hu, read_zero]
  show Option.map double.write (Datum.quotient 54 (.number false 0 (-1074)) (.number false n j)) = some 0
  unfold Datum.quotient
  dsimp only
  rw [if_neg (by omega)]
  simp only [Nat.zero_shiftLeft, Nat.zero_div, Nat.zero_mod]
  rfl

theorem div_inf {u n : Nat} {j : Int} (hu : double.read u = .number false n j) : double.div INF u = some INF := by
  unfold Format.div
  rw [hu, read_inf]; rfl

theorem div_mono {a b u n ra rb : Nat} {j : Int} (hab : a ≤ b) (hb : b ≤ INF) (hu : double.read u = .number false n j) (hn : 0 < n) (ha' : double.div a u = some ra) (hb' : double.div b u = some rb) : ra ≤ rb := by
  have hra : ra ≤ INF := by
    obtain ⟨r, h1, h2⟩ := div_fin (Nat.le_trans hab hb) hu hn
    rw [h1] at ha'; exact Option.some.inj ha' ▸ h2
  by_cases hbi : b = INF
  · subst hbi
    rw [div_inf hu] at hb'
    exact Option.some.inj hb' ▸ hra
  · obtain ⟨m, i, e, hm, hi, hv⟩ := read_pos (x := a) (by omega)
    obtain ⟨m', i', e', hm', hi', hv'⟩ := read_pos (x := b) (by omega)
    rcases Nat.eq_zero_or_pos m with h0 | h0
    · subst h0
      have hva : val a = 0 := by rw [← hv]; omega
      have ha0 : a = 0 := by
        rcases Nat.eq_zero_or_pos a with h | h
        · exact h
        · have := val_lt h
          omega
      subst ha0
      rw [div_zero hu hn] at ha'
      have := Option.some.inj ha'
      omega
    · have hvl := val_le hab
      rw [← hv, ← hv'] at hvl
      have h0' : 0 < m' := by
        rcases Nat.eq_zero_or_pos m' with h | h
        · exfalso; subst h
          have : 0 < m * 2 ^ (i + 1074).toNat := Nat.mul_pos h0 (Nat.two_pow_pos _)
          omega
        · exact h
      obtain ⟨r, hr, hr2⟩ := div_num (i := i) (j := j) h0 hm hn
      obtain ⟨r', hr', hr2'⟩ := div_num (i := i') (j := j) h0' hm' hn
      unfold Format.div at ha' hb'
      rw [e, hu] at ha'
      rw [e', hu] at hb'
      have ha2 : some ra = some (min r INF) := ha'.symm.trans hr2
      have hb2 : some rb = some (min r' INF) := hb'.symm.trans hr2'
      have hrr : r ≤ r' := by
        refine hr.mono hr' ?_
        -- m 2^A (n 2^B') ≤ m' 2^A' (n 2^B)
        have c : ∀ x y z k : Nat, x * 2 ^ y * (n * 2 ^ z) * 2 ^ k = n * (x * 2 ^ (y + z + k)) := by
          intro x y z k
          rw [Nat.pow_add 2 _ k, Nat.pow_add 2 y]; simp only [Nat.mul_assoc, Nat.mul_left_comm]
        obtain ⟨k, k', hk1, hk2⟩ : ∃ k k' : Nat, (i - j + 1074).toNat + (-(i' - j + 1074)).toNat + k = (i + 1074).toNat + k' ∧ (i' - j + 1074).toNat + (-(i - j + 1074)).toNat + k = (i' + 1074).toNat + k' := by
          refine ⟨(i + 1074).toNat + (i' + 1074).toNat, (i - j + 1074).toNat + (-(i' - j + 1074)).toNat + (i' + 1074).toNat, by omega, ?_⟩
          have : i - j + 1074 = ((i - j + 1074).toNat : Int) - ((-(i - j + 1074)).toNat : Int) := by omega
          have : i' - j + 1074 = ((i' - j + 1074).toNat : Int) - ((-(i' - j + 1074)).toNat : Int) := by omega
          omega
        refine Nat.le_of_mul_le_mul_right (c := 2 ^ k) ?_ (Nat.two_pow_pos _)
        rw [c, c, hk1, hk2]
        refine Nat.mul_le_mul_left _ ?_
        rw [Nat.pow_add, Nat.pow_add, ← Nat.mul_assoc, ← Nat.mul_assoc]
        exact Nat.mul_le_mul_right _ hvl
      have := Option.some.inj ha2
      have := Option.some.inj hb2
      omega

theorem div_by_inf {a u : Nat} (ha : a < INF) (hu : double.read u = .infinity false) : double.div a u = some 0 := by
  obtain ⟨m, i, e, _⟩ := read_pos ha
  unfold Format.div
  rw [e, hu]; rfl

theorem div_inf_inf {u : Nat} (hu : double.read u = .infinity false) : double.div INF u = none := by
  unfold Format.div
  rw [read_inf, hu]; rfl

/-! ### The signal, on words -/
def gt0 (u : Nat) : Bool := double.order u 0 == some .gt
def ge1 (y : Nat) : Bool := double.order y ONE == some .gt || double.order y ONE == some .eq
/-- The room of one resource that is not full; infinity where there is none or it is no number. -/
def room (y u : Nat) : Nat :=
  if gt0 u then (match double.sub ONE y with | none => INF | some t => (double.div t u).getD INF) else INF
/-- The same, 0 where it is full. -/
def R (y u : Nat) : Nat := if ge1 y then 0 else room y u
/-- The signal of a headroom. -/
def S (g d : Nat) : Nat := (double.div d g).getD 0
/-- A positive finite word. -/
def Fin (g : Nat) : Prop := ∃ n j, double.read g = .number false n j ∧ 0 < n

theorem ge1_false {y : Nat} (h : ge1 y = false) : double.order y ONE = some .lt ∨ double.order y ONE = none := by
  unfold ge1 at h
  rcases ho : double.order y ONE with _ | o
  · exact .inr rfl
  · rw [ho] at h
    cases o
    · exact .inl rfl
    · cases h
    · cases h

theorem room_le (y u : Nat) (h : ge1 y = false) : room y u ≤ INF := by
  unfold room
  split
  · rename_i hu
    rcases ge1_false h with h1 | h1
    · obtain ⟨t, h2, h3⟩ := sub_one h1
      rw [h2]
      dsimp only
      rcases order_zero_gt (by simpa [gt0] using hu) with ⟨n, j, e, hn, _⟩ | e
      · obtain ⟨r, h4, h5⟩ := div_fin h3 e hn
        rw [h4]; exact h5
      · by_cases ht : t = INF
        · subst ht; rw [div_inf_inf e]; exact Nat.le_refl _
        · rw [div_by_inf (by omega) e]; exact Nat.zero_le _
    · rw [sub_nan h1]; exact Nat.le_refl _
  · exact Nat.le_refl _

theorem R_le (y u : Nat) : R y u ≤ INF := by
  unfold R
  cases h : ge1 y
  · exact room_le y u h
  · exact Nat.zero_le _

theorem room_anti {y y' : Nat} (u : Nat) (h : ge1 y = false) (h' : ge1 y' = false) (hle : double.order y y' = some .lt ∨ double.order y y' = some .eq) : room y' u ≤ room y u := by
  unfold room
  split
  · rename_i hu
    have hnan : double.order y ONE ≠ none := by
      intro hn
      unfold Format.order at hn hle
      rw [read_one] at hn
      rcases read_cases y with ⟨s, m, i, e, hm, hi⟩ | ⟨s, e⟩ | ⟨s, f, e⟩
      · rw [e, order_num _ _ _ _ _ _ hi (by decide)] at hn; cases hn
      · rw [e] at hn; cases s <;> cases hn
      · rw [e] at hle; rcases hle with hle | hle <;> cases hle
    have hnan' : double.order y' ONE ≠ none := by
      intro hn
      unfold Format.order at hn hle
      rw [read_one] at hn
      rcases read_cases y' with ⟨s, m, i, e, hm, hi⟩ | ⟨s, e⟩ | ⟨s, f, e⟩
      · rw [e, order_num _ _ _ _ _ _ hi (by decide)] at hn; cases hn
      · rw [e] at hn; cases s <;> cases hn
      · rw [e] at hle
        rcases read_cases y with ⟨s, m, i, e, hm, hi⟩ | ⟨s, e⟩ | ⟨s, f, e⟩ <;> rw [e] at hle <;> rcases hle with hle | hle <;> cases hle
    have h1 := (ge1_false h).resolve_right hnan
    have h1' := (ge1_false h').resolve_right hnan'
    obtain ⟨t, h2, h3⟩ := sub_one h1
    obtain ⟨t', h2', h3'⟩ := sub_one h1'
    have htt := sub_anti h1 h1' hle h2 h2'
    rw [h2, h2']
    dsimp only
    rcases order_zero_gt (by simpa [gt0] using hu) with ⟨n, j, e, hn, _⟩ | e
    · obtain ⟨r, h4, h5⟩ := div_fin h3 e hn
      obtain ⟨r', h4', h5'⟩ := div_fin h3' e hn
      rw [h4, h4']
      exact div_mono htt h3 e hn h4' h4
    · by_cases ht : t = INF
      · subst ht; rw [div_inf_inf e]
        by_cases ht' : t' = INF
        · subst ht'; rw [div_inf_inf e]; exact Nat.le_refl _
        · rw [div_by_inf (by omega) e]; exact Nat.zero_le _
      · rw [div_by_inf (by omega) e, div_by_inf (by omega) e]; exact Nat.le_refl _
  · exact Nat.le_refl _

theorem R_anti {y y' : Nat} (u : Nat) (hle : double.order y y' = some .lt ∨ double.order y y' = some .eq) : R y' u ≤ R y u := by
  unfold R
  cases h' : ge1 y'
  · cases h : ge1 y
    · exact room_anti u h h' hle
    · -- y ≥ 1 and y ≤ y' give y' ≥ 1
      exfalso
      unfold ge1 at h
      have hy : double.order y ONE = some .gt ∨ double.order y ONE = some .eq := by
        rcases ho : double.order y ONE with _ | o
        · rw [ho] at h; cases h
        · cases o
          · rw [ho] at h; cases h
          · exact .inr rfl
          · exact .inl rfl
      have hv : double.order y' ONE = some .lt ∨ double.order y' ONE = none := ge1_false h'
      unfold Format.order at hy hv hle
      rw [read_one] at hy hv
      rcases read_cases y with ⟨s, m, i, e, hm, hi⟩ | ⟨s, e⟩ | ⟨s, f, e⟩
      · rw [e, order_num _ _ _ _ _ _ hi (by decide)] at hy
        rw [e] at hle
        have a1 : vI false (2 ^ 52) (-52) ≤ vI s m i := by
          rcases hy with hy | hy
          · exact Int.le_of_lt (Int.compare_eq_gt.1 (Option.some.inj hy))
          · exact Int.le_of_eq (Int.compare_eq_eq.1 (Option.some.inj hy)).symm
        rcases read_cases y' with ⟨s', m', i', e', hm', hi'⟩ | ⟨s', e'⟩ | ⟨s', f', e'⟩
        · rw [e', order_num _ _ _ _ _ _ hi hi'] at hle
          rw [e', order_num _ _ _ _ _ _ hi' (by decide)] at hv
          have a2 : vI s m i ≤ vI s' m' i' := by
            rcases hle with hle | hle
            · exact Int.le_of_lt (Int.compare_eq_lt.1 (Option.some.inj hle))
            · exact Int.le_of_eq (Int.compare_eq_eq.1 (Option.some.inj hle))
          rcases hv with hv | hv
          · have a3 := Int.compare_eq_lt.1 (Option.some.inj hv)
            omega
          · cases hv
        · rw [e'] at hle hv
          cases s'
          · rcases hv with hv | hv <;> cases hv
          · rcases hle with hle | hle <;> cases hle
        · rw [e'] at hle; rcases hle with hle | hle <;> cases hle
      · rw [e] at hy hle
        cases s
        · rcases read_cases y' with ⟨s', m', i', e', hm', hi'⟩ | ⟨s', e'⟩ | ⟨s', f', e'⟩
          · rw [e'] at hle; rcases hle with hle | hle <;> cases hle
          · rw [e'] at hle hv
            cases s'
            · rcases hv with hv | hv <;> cases hv
            · rcases hle with hle | hle <;> exact absurd hle (by decide)
          · rw [e'] at hle; rcases hle with hle | hle <;> cases hle
        · rcases hy with hy | hy <;> cases hy
      · rw [e] at hy; rcases hy with hy | hy <;> cases hy
  · exact Nat.zero_le _

theorem S_some {g d : Nat} (hg : Fin g) (hd : d ≤ INF) : double.div d g = some (S g d) ∧ S g d ≤ INF := by
  obtain ⟨n, j, e, hn⟩ := hg
  obtain ⟨r, h1, h2⟩ := div_fin hd e hn
  unfold S
  rw [h1]
  exact ⟨rfl, h2⟩

theorem S_mono {g a b : Nat} (hg : Fin g) (hab : a ≤ b) (hb : b ≤ INF) : S g a ≤ S g b := by
  have h1 := (S_some hg (Nat.le_trans hab hb)).1
  have h2 := (S_some hg hb).1
  obtain ⟨n, j, e, hn⟩ := hg
  exact div_mono hab hb e hn h1 h2

theorem S_min {g a b : Nat} (hg : Fin g) (ha : a ≤ INF) (hb : b ≤ INF) : S g (min a b) = min (S g a) (S g b) := by
  rcases Nat.le_total a b with h | h
  · rw [Nat.min_eq_left h, Nat.min_eq_left (S_mono hg h hb)]
  · rw [Nat.min_eq_right h, Nat.min_eq_right (S_mono hg h ha)]

theorem S_zero {g : Nat} (hg : Fin g) : S g 0 = 0 := by
  obtain ⟨n, j, e, hn⟩ := hg
  unfold S; rw [div_zero e hn]; rfl

theorem S_inf {g : Nat} (hg : Fin g) : S g INF = INF := by
  obtain ⟨n, j, e, hn⟩ := hg
  unfold S; rw [div_inf e]; rfl

theorem fin_of {g : Nat} (h0 : double.order g 0 = some .gt) (h1 : double.order g (INF - 1) ≠ some .gt) : Fin g := by
  rcases order_zero_gt h0 with ⟨n, j, e, hn, _⟩ | e
  · exact ⟨n, j, e, hn⟩
  · exfalso
    apply h1
    unfold Format.order
    rw [e]
    have : double.read (INF - 1) = .number false (2 ^ 53 - 1) 971 := by decide
    rw [this]; rfl

end Go.Proofs.Qxb6630284a.Fl
