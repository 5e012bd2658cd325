/- The plain mathematics of seat b6630284a: rounding to nearest is monotone; no program in sight. -/
import Ieee.Arith
import Derived.Laws.FloatBits
namespace Go.Proofs.Qxb6630284a.Fl
open Ieee

/-- Round half to even of the fraction a/b. -/
def rhe (a b : Nat) : Nat := a / b + (if b < 2 * (a % b) ∨ (b = 2 * (a % b) ∧ (a / b) % 2 = 1) then 1 else 0)

theorem rhe_scale (a b c : Nat) (hc : 0 < c) : rhe (a * c) (b * c) = rhe a b := by
  unfold rhe
  rw [Nat.mul_div_mul_right _ _ hc, Nat.mul_mod_mul_right]
  have e1 : (b * c < 2 * (a % b * c)) ↔ (b < 2 * (a % b)) := by
    rw [← Nat.mul_assoc]; exact Nat.mul_lt_mul_right hc
  have e2 : (b * c = 2 * (a % b * c)) ↔ (b = 2 * (a % b)) := by
    rw [← Nat.mul_assoc]; exact Nat.mul_right_cancel_iff hc
  simp only [e1, e2]

theorem rhe_le_same {a a' b : Nat} (h : a ≤ a') : rhe a b ≤ rhe a' b := by
  have hq : a / b ≤ a' / b := Nat.div_le_div_right h
  unfold rhe
  by_cases he : a / b = a' / b
  · have h1 := Nat.div_add_mod a b
    have h2 := Nat.div_add_mod a' b
    rw [he] at h1
    rw [he]
    have : a % b ≤ a' % b := by omega
    split <;> split <;> omega
  · have : a / b + 1 ≤ a' / b := by omega
    split <;> split <;> omega

theorem rhe_mono {a b a' b' : Nat} (hb : 0 < b) (hb' : 0 < b') (h : a * b' ≤ a' * b) : rhe a b ≤ rhe a' b' := by
  rw [← rhe_scale a b b' hb', ← rhe_scale a' b' b hb, Nat.mul_comm b' b]
  exact rhe_le_same h

theorem rhe_cross {a b a' b' : Nat} (hb : 0 < b) (hb' : 0 < b') (h : a * b' = a' * b) : rhe a b = rhe a' b' :=
  Nat.le_antisymm (rhe_mono hb hb' (Nat.le_of_eq h)) (rhe_mono hb' hb (Nat.le_of_eq h.symm))

theorem rhe_whole (n b : Nat) (hb : 0 < b) : rhe (n * b) b = n := by
  unfold rhe
  rw [Nat.mul_div_cancel _ hb, Nat.mul_mod_left]
  rw [if_neg (by omega)]; rfl

theorem rhe_le_of {a b n : Nat} (hb : 0 < b) (h : a ≤ n * b) : rhe a b ≤ n := by
  have := rhe_le_same (b := b) h
  rwa [rhe_whole n b hb] at this

theorem le_rhe_of {a b n : Nat} (hb : 0 < b) (h : n * b ≤ a) : n ≤ rhe a b := by
  have := rhe_le_same (b := b) h
  rwa [rhe_whole n b hb] at this

/-- 'r' is the rung (not yet bounded by infinity's) of p/q units of the least place. -/
def IsRung (p q r : Nat) : Prop :=
  0 < q ∧ ∃ k, (k = 0 ∨ 2 ^ (k + 52) * q ≤ p) ∧ p < 2 ^ (k + 53) * q ∧ r = k * 2 ^ 52 + rhe p (q * 2 ^ k)

theorem IsRung.mono {p q r p' q' r' : Nat} (h : IsRung p q r) (h' : IsRung p' q' r') (hle : p * q' ≤ p' * q) : r ≤ r' := by
  obtain ⟨hq, k, hlo, hhi, rfl⟩ := h
  obtain ⟨hq', k', hlo', hhi', rfl⟩ := h'
  have p2 : ∀ n, 0 < 2 ^ n := fun n => Nat.two_pow_pos n
  rcases Nat.lt_trichotomy k k' with hk | hk | hk
  · have a1 : rhe p (q * 2 ^ k) ≤ 2 ^ 53 := by
      refine rhe_le_of (Nat.mul_pos hq (p2 k)) ?_
      have : 2 ^ (k + 53) * q = 2 ^ 53 * (q * 2 ^ k) := by rw [Nat.pow_add]; ac_rfl
      omega
    have a2 : 2 ^ 52 ≤ rhe p' (q' * 2 ^ k') := by
      refine le_rhe_of (Nat.mul_pos hq' (p2 k')) ?_
      have : 2 ^ (k' + 52) * q' = 2 ^ 52 * (q' * 2 ^ k') := by rw [Nat.pow_add]; ac_rfl
      rcases hlo' with h0 | h0
      · omega
      · omega
    omega
  · subst hk
    have : rhe p (q * 2 ^ k) ≤ rhe p' (q' * 2 ^ k) := by
      refine rhe_mono (Nat.mul_pos hq (p2 k)) (Nat.mul_pos hq' (p2 k)) ?_
      rw [← Nat.mul_assoc, ← Nat.mul_assoc]
      exact Nat.mul_le_mul_right _ hle
    omega
  · exfalso
    have h0 : 2 ^ (k + 52) * q ≤ p := by
      rcases hlo with h0 | h0
      · omega
      · exact h0
    have h1 : 2 ^ (k' + 53) ≤ 2 ^ (k + 52) := Nat.pow_le_pow_right (by omega) (by omega)
    have h2 : p' * q < 2 ^ (k + 52) * q' * q := by
      refine Nat.mul_lt_mul_of_pos_right ?_ hq
      exact Nat.lt_of_lt_of_le hhi' (Nat.mul_le_mul_right _ h1)
    have h3 : 2 ^ (k + 52) * q * q' ≤ p * q' := Nat.mul_le_mul_right _ h0
    have h4 : 2 ^ (k + 52) * q' * q = 2 ^ (k + 52) * q * q' := Nat.mul_right_comm _ _ _
    omega

/-- What the model's cut does is just that. -/
theorem cut_eq (neg : Bool) (n d : Nat) : Toward.even.cut neg n d = rhe n (2 ^ d) := by
  have key : ∀ g, (n / g + (decide (g < 2 * (n % g)) || (g == 2 * (n % g) && n / g % 2 == 1)).toNat) = rhe n g := by
    intro g
    unfold rhe
    congr 1
    have hi : (decide (g < 2 * (n % g)) || (g == 2 * (n % g) && n / g % 2 == 1)) = true ↔ (g < 2 * (n % g) ∨ (g = 2 * (n % g) ∧ (n / g) % 2 = 1)) := by
      rw [Bool.or_eq_true, Bool.and_eq_true, decide_eq_true_iff, beq_iff_eq, beq_iff_eq]
    by_cases h : g < 2 * (n % g) ∨ (g = 2 * (n % g) ∧ (n / g) % 2 = 1)
    · rw [if_pos h, hi.2 h]; rfl
    · rw [if_neg h, Bool.eq_false_iff.2 (fun hc => h (hi.1 hc))]; rfl
  have e : Toward.even.cut neg n d = rhe n (1 <<< min d (n.log2 + 2)) := by
    rw [← key]; rfl
  rw [e, Nat.one_shiftLeft]
  by_cases h : d ≤ n.log2 + 2
  · rw [Nat.min_eq_left h]
  · have hd : n.log2 + 2 ≤ d := by omega
    rw [Nat.min_eq_right hd]
    have small : ∀ g, 2 * n < g → rhe n g = 0 := by
      intro g hg
      unfold rhe
      rw [Nat.div_eq_of_lt (by omega), Nat.mod_eq_of_lt (by omega), if_neg (by omega)]
    have hn : n < 2 ^ (n.log2 + 1) := Nat.lt_log2_self
    have h1 : 2 * n < 2 ^ (n.log2 + 2) := by rw [Nat.pow_succ]; omega
    have h2 : 2 ^ (n.log2 + 2) ≤ 2 ^ d := Nat.pow_le_pow_right (by omega) hd
    rw [small _ h1, small _ (by omega)]

theorem pow_eq {a b : Nat} (h : a = b) : 2 ^ a = 2 ^ b := by rw [h]

/-- The rung of a number as the model rounds it. -/
theorem nearest_rung (neg : Bool) (mag : Nat) (place : Int) (hm : 0 < mag) :
    ∃ r, IsRung (mag * 2 ^ (place + 1074).toNat) (2 ^ (-(place + 1074)).toNat) r ∧ double.nearest neg mag place = double.word neg (min r double.infRung) := by
  have hL1 : 2 ^ mag.log2 ≤ mag := Nat.log2_self_le (by omega)
  have hL2 : mag < 2 ^ (mag.log2 + 1) := Nat.lt_log2_self
  generalize hL : mag.log2 = L at hL1 hL2
  let last : Int := max (place + L - 52) (-1074)
  have hlast : last = max (place + L - 52) (-1074) := rfl
  have p2 : ∀ n, 0 < 2 ^ n := fun n => Nat.two_pow_pos n
  refine ⟨(last + 1074).toNat * 2 ^ 52 + rhe (mag * 2 ^ (place + 1074).toNat) (2 ^ (-(place + 1074)).toNat * 2 ^ (last + 1074).toNat), ⟨p2 _, (last + 1074).toNat, ?_, ?_, rfl⟩, ?_⟩
  · by_cases h0 : (last + 1074).toNat = 0
    · exact .inl h0
    · right
      have e : 2 ^ ((last + 1074).toNat + 52) * 2 ^ (-(place + 1074)).toNat = 2 ^ L * 2 ^ (place + 1074).toNat := by
        rw [← Nat.pow_add, ← Nat.pow_add]; exact pow_eq (by omega)
      rw [e]
      exact Nat.mul_le_mul_right _ hL1
  · have e : 2 ^ (L + 1) * 2 ^ (place + 1074).toNat ≤ 2 ^ ((last + 1074).toNat + 53) * 2 ^ (-(place + 1074)).toNat := by
      rw [← Nat.pow_add, ← Nat.pow_add]; exact Nat.pow_le_pow_right (by omega) (by omega)
    exact Nat.lt_of_lt_of_le (Nat.mul_lt_mul_of_pos_right hL2 (p2 _)) e
  · have hx : rhe (mag <<< (place - last).toNat) (2 ^ (last - place).toNat) = rhe (mag * 2 ^ (place + 1074).toNat) (2 ^ (-(place + 1074)).toNat * 2 ^ (last + 1074).toNat) := by
      rw [Nat.shiftLeft_eq]
      refine rhe_cross (p2 _) (Nat.mul_pos (p2 _) (p2 _)) ?_
      rw [Nat.mul_assoc, Nat.mul_assoc, ← Nat.pow_add, ← Nat.pow_add, ← Nat.pow_add]
      rw [pow_eq (show (place - last).toNat + ((-(place + 1074)).toNat + (last + 1074).toNat) = (place + 1074).toNat + (last - place).toNat by omega)]
    have hn : double.nearest neg mag place = double.word neg (min ((last + 1074).toNat * 2 ^ 52 + Toward.even.cut neg (mag <<< (place - last).toNat) (last - place).toNat) double.infRung) := by
      unfold Format.nearest
      rw [if_neg (by omega), hL]
      rfl
    rw [hn, cut_eq, hx]

/-- A quotient's last digit, which is 1 where anything is left over, does no harm to rounding. -/
theorem sticky (D n d : Nat) (hn : 0 < n) : rhe (2 * (D / n) + (D % n != 0).toNat) (2 ^ (d + 2)) = rhe D (n * 2 ^ (d + 1)) := by
  have hs : (D % n != 0).toNat = if D % n = 0 then 0 else 1 := by
    by_cases h : D % n = 0 <;> simp [h]
  rw [hs]
  have hD := Nat.div_add_mod D n
  have hR : D % n < n := Nat.mod_lt _ hn
  have hg : 2 ^ (d + 2) = 2 * (2 * 2 ^ d) := by rw [Nat.pow_succ, Nat.pow_succ]; omega
  have hg1 : 2 ^ (d + 1) = 2 * 2 ^ d := by rw [Nat.pow_succ]; omega
  have hh : 0 < 2 ^ d := Nat.two_pow_pos _
  rw [hg, hg1]
  generalize 2 ^ d = h at *
  clear hg hg1 hs
  generalize hQ : D / n = Q at *
  generalize hRR : D % n = R at *
  have hq := Nat.div_add_mod Q (2 * h)
  have hb : Q % (2 * h) < 2 * h := Nat.mod_lt _ (by omega)
  -- the right side's quotient and rest
  have r1 : D / (n * (2 * h)) = Q / (2 * h) := by rw [← Nat.div_div_eq_div_mul, hQ]
  have r2 : D % (n * (2 * h)) = n * (Q % (2 * h)) + R := by
    rw [Nat.mod_mul, hRR, hQ]; omega
  have l1 : (2 * Q + if R = 0 then 0 else 1) / (2 * (2 * h)) = Q / (2 * h) := by
    rw [← Nat.div_div_eq_div_mul]
    congr 1
    split <;> omega
  have l2 : (2 * Q + if R = 0 then 0 else 1) % (2 * (2 * h)) = 2 * (Q % (2 * h)) + if R = 0 then 0 else 1 := by
    rw [Nat.mod_mul]
    have e1 : (2 * Q + if R = 0 then 0 else 1) % 2 = if R = 0 then 0 else 1 := by split <;> omega
    have e2 : (2 * Q + if R = 0 then 0 else 1) / 2 = Q := by split <;> omega
    rw [e1, e2]; omega
  unfold rhe
  rw [r1, r2, l1, l2]
  generalize Q % (2 * h) = b at *
  generalize Q / (2 * h) = a at *
  have c1 : (n * (2 * h) < 2 * (n * b + R)) ↔ (2 * (2 * h) < 2 * (2 * b + if R = 0 then 0 else 1)) := by
    have m1 : n * (2 * h) = 2 * (n * h) := Nat.mul_left_comm _ _ _
    rw [m1]
    constructor
    · intro hlt
      have hlt' : n * h < n * b + R := by omega
      by_cases h0 : R = 0
      · rw [if_pos h0]; subst h0
        have := Nat.lt_of_mul_lt_mul_left (a := n) (by simpa using hlt')
        omega
      · rw [if_neg h0]
        have : n * h < n * (b + 1) := by rw [Nat.mul_add]; omega
        have := Nat.lt_of_mul_lt_mul_left this
        omega
    · intro hlt
      by_cases h0 : R = 0
      · rw [if_pos h0] at hlt
        have : n * h < n * b := Nat.mul_lt_mul_of_pos_left (by omega) hn
        omega
      · rw [if_neg h0] at hlt
        have : n * h ≤ n * b := Nat.mul_le_mul_left _ (by omega)
        omega
  have c2 : (n * (2 * h) = 2 * (n * b + R)) ↔ (2 * (2 * h) = 2 * (2 * b + if R = 0 then 0 else 1)) := by
    have m1 : n * (2 * h) = 2 * (n * h) := Nat.mul_left_comm _ _ _
    rw [m1]
    constructor
    · intro heq
      have heq' : n * h = n * b + R := by omega
      have hle : b ≤ h := by
        refine Nat.le_of_mul_le_mul_left (c := n) ?_ hn; omega
      have hlt : h < b + 1 := by
        have : n * h < n * (b + 1) := by rw [Nat.mul_add]; omega
        exact Nat.lt_of_mul_lt_mul_left this
      have : h = b := by omega
      subst this
      have h0 : R = 0 := by omega
      rw [if_pos h0]; omega
    · intro heq
      by_cases h0 : R = 0
      · rw [if_pos h0] at heq
        have : h = b := by omega
        subst this; omega
      · rw [if_neg h0] at heq; omega
  simp only [c1, c2]

end Go.Proofs.Qxb6630284a.Fl
