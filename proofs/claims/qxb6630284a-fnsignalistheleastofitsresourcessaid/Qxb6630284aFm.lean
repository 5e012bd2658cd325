/- The plain mathematics of seat b6630284a, second part: words of float64: order, '1 - y', division: monotone. -/
import Derived.Test.Qxb6630284aFl
namespace Go.Proofs.Qxb6630284a.Fl
open Ieee

/-- Infinity's word. -/
def INF : Nat := 2047 * 2 ^ 52
/-- The word of 1. -/
def ONE : Nat := 1023 * 2 ^ 52

theorem inf_eq : double.infRung = INF := rfl

theorem signed_eq (s : Bool) (m a : Nat) : signed s m a = (if s then -1 else 1) * ((m : Int) * 2 ^ a) := by
  unfold signed
  rw [Nat.shiftLeft_eq]
  cases s <;> simp

theorem signed_scale (s : Bool) (m a b : Nat) : signed s m a * 2 ^ b = signed s m (a + b) := by
  rw [signed_eq, signed_eq, Int.pow_add, Int.mul_assoc, Int.mul_assoc]

theorem signed_not (s : Bool) (m a : Nat) : signed (!s) m a = - signed s m a := by
  rw [signed_eq, signed_eq]; cases s <;> simp

/-- A number's value in units of the least place. -/
def vI (s : Bool) (m : Nat) (i : Int) : Int := signed s m (i + 1074).toNat

theorem pow_pos_int (n : Nat) : (0 : Int) < 2 ^ n := by
  have : (0 : Int) < ((2 ^ n : Nat) : Int) := by have := Nat.two_pow_pos n; omega
  simpa using this

theorem compare_scale (a b c : Int) (hc : 0 < c) : compare (a * c) (b * c) = compare a b := by
  have h1 : a * c < b * c ↔ a < b := Int.mul_lt_mul_right hc
  have h2 : a * c = b * c ↔ a = b := ⟨fun h => Int.eq_of_mul_eq_mul_right (by omega) h, fun h => by rw [h]⟩
  show compareOfLessAndEq _ _ = compareOfLessAndEq _ _
  unfold compareOfLessAndEq
  simp only [h1, h2]

theorem order_num (s : Bool) (m : Nat) (i : Int) (t : Bool) (n : Nat) (j : Int) (hi : -1074 ≤ i) (hj : -1074 ≤ j) :
    Datum.order (.number s m i) (.number t n j) = some (compare (vI s m i) (vI t n j)) := by
  have e : Datum.order (.number s m i) (.number t n j) = some (compare (signed s m (i - min i j).toNat) (signed t n (j - min i j).toNat)) := rfl
  rw [e, ← compare_scale _ _ (2 ^ (min i j + 1074).toNat) (pow_pos_int _), signed_scale, signed_scale]
  unfold vI
  rw [show (i - min i j).toNat + (min i j + 1074).toNat = (i + 1074).toNat by omega, show (j - min i j).toNat + (min i j + 1074).toNat = (j + 1074).toNat by omega]

theorem read_cases (x : Nat) : (∃ s m i, double.read x = .number s m i ∧ m < 2 ^ 53 ∧ -1074 ≤ i) ∨ (∃ s, double.read x = .infinity s) ∨ (∃ s f, double.read x = .nan s f) := by
  unfold Format.read
  dsimp only
  split
  · rename_i h
    exact .inl ⟨_, _, _, rfl, Nat.lt_trans h (by decide), by decide⟩
  · split
    · refine .inl ⟨_, _, _, rfl, ?_, ?_⟩
      · have : x % double.signWeight % double.binade < double.binade := Nat.mod_lt _ (by decide)
        have hb : double.binade = 2 ^ 52 := rfl
        rw [hb] at this ⊢
        omega
      · have hl : double.leastPlace = -1074 := by decide
        rw [hl]; omega
    · split
      · exact .inr (.inl ⟨_, rfl⟩)
      · exact .inr (.inr ⟨_, _, rfl⟩)

/-- The value of a rung. -/
def val (x : Nat) : Nat := if x < 2 ^ 52 then x else (2 ^ 52 + x % 2 ^ 52) * 2 ^ (x / 2 ^ 52 - 1)

theorem read_pos {x : Nat} (h : x < INF) : ∃ m i, double.read x = .number false m i ∧ m < 2 ^ 53 ∧ -1074 ≤ i ∧ m * 2 ^ (i + 1074).toNat = val x := by
  have hsw : double.signWeight = 2 ^ 63 := rfl
  have hb : double.binade = 2 ^ 52 := rfl
  have hl : double.leastPlace = -1074 := by decide
  unfold INF at h
  have h1 : x % 2 ^ 63 = x := Nat.mod_eq_of_lt (by omega)
  have h2 : (x / 2 ^ 63 % 2 == 1) = false := by
    rw [Nat.div_eq_of_lt (by omega)]; rfl
  unfold Format.read
  dsimp only
  rw [hsw, hb, hl, h1, h2, inf_eq]
  unfold INF val
  split
  · rename_i hx
    refine ⟨_, _, rfl, by omega, by decide, ?_⟩
    simp
  · refine ⟨_, _, rfl, by omega, by omega, ?_⟩
    rw [show ((-1074 : Int) + ((x / 2 ^ 52 - 1 : Nat) : Int) + 1074).toNat = x / 2 ^ 52 - 1 by omega]

theorem val_lt {x y : Nat} (h : x < y) : val x < val y := by
  unfold val
  by_cases hx : x < 2 ^ 52
  · rw [if_pos hx]
    by_cases hy : y < 2 ^ 52
    · rw [if_pos hy]; exact h
    · rw [if_neg hy]
      have h1 : 1 ≤ 2 ^ (y / 2 ^ 52 - 1) := Nat.two_pow_pos _
      have h2 := Nat.mul_le_mul_left (2 ^ 52 + y % 2 ^ 52) h1
      omega
  · have hy : ¬ y < 2 ^ 52 := by omega
    rw [if_neg hx, if_neg hy]
    have hdx := Nat.div_add_mod x (2 ^ 52)
    have hdy := Nat.div_add_mod y (2 ^ 52)
    have hmx : x % 2 ^ 52 < 2 ^ 52 := Nat.mod_lt _ (by decide)
    have hmy : y % 2 ^ 52 < 2 ^ 52 := Nat.mod_lt _ (by decide)
    have hle : x / 2 ^ 52 ≤ y / 2 ^ 52 := Nat.div_le_div_right (Nat.le_of_lt h)
    have hex : 1 ≤ x / 2 ^ 52 := by omega
    generalize x / 2 ^ 52 = e at *
    generalize y / 2 ^ 52 = e' at *
    generalize x % 2 ^ 52 = f at *
    generalize y % 2 ^ 52 = f' at *
    by_cases he : e = e'
    · subst he
      exact Nat.mul_lt_mul_of_pos_right (by omega) (Nat.two_pow_pos _)
    · have h1 : (2 ^ 52 + f) * 2 ^ (e - 1) < 2 ^ 53 * 2 ^ (e - 1) := Nat.mul_lt_mul_of_pos_right (by omega) (Nat.two_pow_pos _)
      have h2 : 2 ^ 53 * 2 ^ (e - 1) ≤ 2 ^ 52 * 2 ^ (e' - 1) := by
        rw [← Nat.pow_add, ← Nat.pow_add]; exact Nat.pow_le_pow_right (by omega) (by omega)
      have h3 : 2 ^ 52 * 2 ^ (e' - 1) ≤ (2 ^ 52 + f') * 2 ^ (e' - 1) := Nat.mul_le_mul_right _ (by omega)
      omega

theorem val_le {x y : Nat} (h : x ≤ y) : val x ≤ val y := by
  rcases Nat.lt_or_eq_of_le h with h | h
  · exact Nat.le_of_lt (val_lt h)
  · rw [h]; exact Nat.le_refl _

theorem read_inf : double.read INF = .infinity false := by decide

theorem vI_false (m : Nat) (i : Int) : vI false m i = ((m * 2 ^ (i + 1074).toNat : Nat) : Int) := by
  unfold vI; rw [signed_eq]; simp

/-- Two words that are rungs stand to each other as the rungs do. -/
theorem order_rungs {x y : Nat} (hx : x ≤ INF) (hy : y ≤ INF) : double.order x y = some (compare x y) := by
  unfold Format.order
  by_cases hx' : x = INF
  · subst hx'
    rw [read_inf]
    by_cases hy' : y = INF
    · subst hy'; rw [read_inf]
      show some (compare 0 0) = some (compare INF INF)
      rw [Nat.compare_eq_eq.2 rfl, Nat.compare_eq_eq.2 rfl]
    · obtain ⟨m, i, e, _⟩ := read_pos (x := y) (by omega)
      rw [e, Nat.compare_eq_gt.2 (by omega)]; rfl
  · obtain ⟨m, i, e, _, hi, hv⟩ := read_pos (x := x) (by omega)
    rw [e]
    by_cases hy' : y = INF
    · subst hy'
      rw [read_inf, Nat.compare_eq_lt.2 (by omega)]; rfl
    · obtain ⟨n, j, e', _, hj, hv'⟩ := read_pos (x := y) (by omega)
      rw [e', order_num _ _ _ _ _ _ hi hj, vI_false, vI_false, hv, hv']
      congr 1
      rcases Nat.lt_trichotomy x y with h | h | h
      · rw [Nat.compare_eq_lt.2 h, Int.compare_eq_lt]; have := val_lt h; omega
      · subst h; rw [Nat.compare_eq_eq.2 rfl, Int.compare_eq_eq]
      · rw [Nat.compare_eq_gt.2 h, Int.compare_eq_gt]; have := val_lt h; omega

theorem read_one : double.read ONE = .number false (2 ^ 52) (-52) := by decide
theorem read_zero : double.read 0 = .number false 0 (-1074) := by decide

theorem word_false (r : Nat) : double.word false r = r := rfl

/-- '1 - y' where y is less than 1. -/
theorem sub_one_num {y : Nat} {s : Bool} {m : Nat} {i : Int} (hr : double.read y = .number s m i) (hi : -1074 ≤ i) (hlt : vI s m i < vI false (2 ^ 52) (-52)) :
    ∃ r, IsRung (vI false (2 ^ 52) (-52) - vI s m i).toNat 1 r ∧ double.sub ONE y = some (min r INF) := by
  have e : double.sub ONE y = some (double.write (.number (if signed false (2 ^ 52) (-52 - min (-52) i).toNat + signed (!s) m (i - min (-52) i).toNat = 0 then false && !s else decide (signed false (2 ^ 52) (-52 - min (-52) i).toNat + signed (!s) m (i - min (-52) i).toNat < 0)) (signed false (2 ^ 52) (-52 - min (-52) i).toNat + signed (!s) m (i - min (-52) i).toNat).natAbs (min (-52) i))) := by
    unfold Format.sub
    rw [read_one, hr]; rfl
  have ht : (signed false (2 ^ 52) (-52 - min (-52) i).toNat + signed (!s) m (i - min (-52) i).toNat) * 2 ^ (min (-52) i + 1074).toNat = vI false (2 ^ 52) (-52) - vI s m i := by
    rw [Int.add_mul, signed_scale, signed_scale, signed_not]
    unfold vI
    rw [show (-52 - min (-52) i).toNat + (min (-52) i + 1074).toNat = (-52 + 1074 : Int).toNat by omega, show (i - min (-52) i).toNat + (min (-52) i + 1074).toNat = (i + 1074).toNat by omega]
    omega
  generalize signed false (2 ^ 52) (-52 - min (-52) i).toNat + signed (!s) m (i - min (-52) i).toNat = total at e ht
  have hpos : 0 < total := by
    have hp := pow_pos_int (min (-52) i + 1074).toNat
    rcases Int.lt_or_le 0 total with h | h
    · exact h
    · have := Int.mul_le_mul_of_nonneg_right h (Int.le_of_lt hp)
      rw [ht] at this
      omega
  rw [if_neg (by omega), decide_eq_false (by omega)] at e
  obtain ⟨r, hr1, hr2⟩ := nearest_rung false total.natAbs (min (-52) i) (by omega)
  refine ⟨r, ?_, ?_⟩
  · have a1 : total.natAbs * 2 ^ (min (-52) i + 1074).toNat = (vI false (2 ^ 52) (-52) - vI s m i).toNat := by
      rw [← ht]
      have : total = (total.natAbs : Int) := by omega
      generalize (min (-52) i + 1074).toNat = c at *
      have e2 : total * 2 ^ c = ((total.natAbs * 2 ^ c : Nat) : Int) := by
        rw [this]; simp
      rw [e2]; rfl
    have a2 : (2 : Nat) ^ (-(min (-52) i + 1074)).toNat = 1 := by
      rw [show (-(min (-52) i + 1074)).toNat = 0 by omega]
    rw [← a1, ← a2]; exact hr1
  · rw [e]
    show some (double.nearest false total.natAbs (min (-52) i)) = _
    rw [hr2]; rfl

theorem order_one_lt {y : Nat} (h : double.order y ONE = some .lt) : (∃ s m i, double.read y = .number s m i ∧ m < 2 ^ 53 ∧ -1074 ≤ i ∧ vI s m i < vI false (2 ^ 52) (-52)) ∨ double.read y = .infinity true := by
  unfold Format.order at h
  rw [read_one] at h
  rcases read_cases y with ⟨s, m, i, e, hm, hi⟩ | ⟨s, e⟩ | ⟨s, f, e⟩
  · rw [e, order_num _ _ _ _ _ _ hi (by decide)] at h
    exact .inl ⟨s, m, i, e, hm, hi, Int.compare_eq_lt.1 (Option.some.inj h)⟩
  · rw [e] at h
    cases s
    · cases h
    · exact .inr e
  · rw [e] at h; cases h

theorem sub_one {y : Nat} (h : double.order y ONE = some .lt) : ∃ t, double.sub ONE y = some t ∧ t ≤ INF := by
  rcases order_one_lt h with ⟨s, m, i, e, hm, hi, hlt⟩ | e
  · obtain ⟨r, _, hr⟩ := sub_one_num e hi hlt
    exact ⟨_, hr, Nat.min_le_right _ _⟩
  · refine ⟨INF, ?_, Nat.le_refl _⟩
    unfold Format.sub
    rw [read_one, e]; rfl

theorem sub_anti {y y' t t' : Nat} (h : double.order y ONE = some .lt) (h' : double.order y' ONE = some .lt) (hle : double.order y y' = some .lt ∨ double.order y y' = some .eq)
    (ht : double.sub ONE y = some t) (ht' : double.sub ONE y' = some t') : t' ≤ t := by
  rcases order_one_lt h with ⟨s, m, i, e, hm, hi, hlt⟩ | e
  · obtain ⟨r, hr1, hr⟩ := sub_one_num e hi hlt
    rw [hr] at ht
    obtain rfl := Option.some.inj ht
    rcases order_one_lt h' with ⟨s', m', i', e', hm', hi', hlt'⟩ | e'
    · obtain ⟨r', hr1', hr'⟩ := sub_one_num e' hi' hlt'
      rw [hr'] at ht'
      obtain rfl := Option.some.inj ht'
      have hv : vI s m i ≤ vI s' m' i' := by
        unfold Format.order at hle
        rw [e, e', order_num _ _ _ _ _ _ hi hi'] at hle
        rcases hle with hle | hle
        · exact Int.le_of_lt (Int.compare_eq_lt.1 (Option.some.inj hle))
        · exact Int.le_of_eq (Int.compare_eq_eq.1 (Option.some.inj hle))
      have : r' ≤ r := hr1'.mono hr1 (by omega)
      omega
    · exfalso
      unfold Format.order at hle
      rw [e, e'] at hle
      rcases hle with hle | hle <;> cases hle
  · have : double.sub ONE y = some INF := by
      unfold Format.sub
      rw [read_one, e]; rfl
    rw [this] at ht
    obtain rfl := Option.some.inj ht
    obtain ⟨t2, h2, h3⟩ := sub_one h'
    rw [h2] at ht'
    obtain rfl := Option.some.inj ht'
    exact h3

theorem sub_nan {y : Nat} (h : double.order y ONE = none) : double.sub ONE y = none := by
  unfold Format.order at h
  rw [read_one] at h
  rcases read_cases y with ⟨s, m, i, e, hm, hi⟩ | ⟨s, e⟩ | ⟨s, f, e⟩
  · rw [e, order_num _ _ _ _ _ _ hi (by decide)] at h; cases h
  · rw [e] at h; cases s <;> cases h
  · unfold Format.sub; rw [read_one, e]; rfl

/-- A quotient of two positive numbers. -/
theorem div_num {m n : Nat} {i j : Int} (hm : 0 < m) (hm2 : m < 2 ^ 53) (hn : 0 < n) :
    ∃ r, IsRung (m * 2 ^ (i - j + 1074).toNat) (n * 2 ^ (-(i - j + 1074)).toNat) r ∧ (Datum.quotient 54 (.number false m i) (.number false n j)).map double.write = some (min r INF) := by
  have hl : m.log2 < 53 := (Nat.log2_lt (by omega)).2 hm2
  have hm3 : 2 ^ m.log2 ≤ m := Nat.log2_self_le (by omega)
  have hn3 : n < 2 ^ (n.log2 + 1) := Nat.lt_log2_self
  have p2 : ∀ n, 0 < 2 ^ n := fun n => Nat.two_pow_pos n
  have hmore : ∃ more, more = 54 + n.log2 - m.log2 ∧ more + m.log2 = 54 + n.log2 := ⟨_, rfl, by omega⟩
  obtain ⟨more, hmo, hmo2⟩ := hmore
  have e : (Datum.quotient 54 (.number false m i) (.number false n j)).map double.write = some (double.nearest false (2 * ((m * 2 ^ more) / n) + ((m * 2 ^ more) % n != 0).toNat) (i - j - more - 1)) := by
    unfold Datum.quotient
    dsimp only
    rw [if_neg (by omega)]
    simp only [Nat.shiftLeft_eq, ← hmo]
    rfl
  rw [e]
  have hD : 2 ^ 53 ≤ (m * 2 ^ more) / n := by
    rw [Nat.le_div_iff_mul_le hn]
    have a1 : 2 ^ 53 * n ≤ 2 ^ 53 * 2 ^ (n.log2 + 1) := Nat.mul_le_mul_left _ (Nat.le_of_lt hn3)
    have a2 : 2 ^ 53 * 2 ^ (n.log2 + 1) = 2 ^ m.log2 * 2 ^ more := by
      rw [← Nat.pow_add, ← Nat.pow_add]; exact pow_eq (by omega)
    have a3 : 2 ^ m.log2 * 2 ^ more ≤ m * 2 ^ more := Nat.mul_le_mul_right _ hm3
    omega
  have hDD : ∃ D, D = m * 2 ^ more := ⟨_, rfl⟩
  obtain ⟨D, hD0⟩ := hDD
  rw [← hD0] at hD ⊢
  have hs : (D % n != 0).toNat ≤ 1 := Bool.toNat_le _
  have hX : 0 < 2 * (D / n) + (D % n != 0).toNat := by omega
  have hL1 : 2 ^ (2 * (D / n) + (D % n != 0).toNat).log2 ≤ 2 * (D / n) + (D % n != 0).toNat := Nat.log2_self_le (by omega)
  have hL2 : 2 * (D / n) + (D % n != 0).toNat < 2 ^ ((2 * (D / n) + (D % n != 0).toNat).log2 + 1) := Nat.lt_log2_self
  generalize hL : (2 * (D / n) + (D % n != 0).toNat).log2 = L at hL1 hL2
  have hL3 : 54 ≤ L := by
    rcases Nat.lt_or_ge L 54 with h | h
    · have : 2 ^ (L + 1) ≤ 2 ^ 54 := Nat.pow_le_pow_right (by omega) (by omega)
      omega
    · exact h
  have hlo : 2 ^ (L - 1) * n ≤ D := by
    have h1 : 2 ^ (L - 1) ≤ D / n := by
      have : 2 ^ L = 2 * 2 ^ (L - 1) := by rw [← Nat.pow_succ']; exact pow_eq (by omega)
      omega
    exact (Nat.le_div_iff_mul_le hn).1 h1
  have hhi : D < 2 ^ L * n := by
    have h1 : D / n < 2 ^ L := by
      have : 2 ^ (L + 1) = 2 * 2 ^ L := Nat.pow_succ'
      omega
    exact (Nat.div_lt_iff_lt_mul hn).1 h1
  let last : Int := max (i - j - more - 1 + L - 52) (-1074)
  have hlast : last = max (i - j - more - 1 + L - 52) (-1074) := rfl
  refine ⟨(last + 1074).toNat * 2 ^ 52 + rhe (m * 2 ^ (i - j + 1074).toNat) (n * 2 ^ (-(i - j + 1074)).toNat * 2 ^ (last + 1074).toNat), ⟨Nat.mul_pos hn (p2 _), (last + 1074).toNat, ?_, ?_, rfl⟩, ?_⟩
  · by_cases h0 : (last + 1074).toNat = 0
    · exact .inl h0
    · right
      -- both sides times 2 ^ more
      refine Nat.le_of_mul_le_mul_right (c := 2 ^ more) ?_ (p2 _)
      have b1 : 2 ^ ((last + 1074).toNat + 52) * (n * 2 ^ (-(i - j + 1074)).toNat) * 2 ^ more = 2 ^ (L - 1) * n * 2 ^ (i - j + 1074).toNat := by
        have c1 : 2 ^ ((last + 1074).toNat + 52) * (n * 2 ^ (-(i - j + 1074)).toNat) * 2 ^ more = n * 2 ^ ((last + 1074).toNat + 52 + (-(i - j + 1074)).toNat + more) := by
          rw [Nat.pow_add 2 _ more, Nat.pow_add 2 _ ((-(i - j + 1074)).toNat)]; simp only [Nat.mul_assoc, Nat.mul_left_comm]
        have c2 : 2 ^ (L - 1) * n * 2 ^ (i - j + 1074).toNat = n * 2 ^ ((L - 1) + (i - j + 1074).toNat) := by
          rw [Nat.pow_add 2 (L - 1)]; simp only [Nat.mul_assoc, Nat.mul_left_comm]
        rw [c1, c2, pow_eq (show (last + 1074).toNat + 52 + (-(i - j + 1074)).toNat + more = (L - 1) + (i - j + 1074).toNat by omega)]
      rw [b1, show m * 2 ^ (i - j + 1074).toNat * 2 ^ more = D * 2 ^ (i - j + 1074).toNat by rw [hD0]; exact Nat.mul_right_comm _ _ _]
      exact Nat.mul_le_mul_right _ hlo
  · refine Nat.lt_of_mul_lt_mul_right (a := 2 ^ more) ?_
    have c1 : 2 ^ ((last + 1074).toNat + 53) * (n * 2 ^ (-(i - j + 1074)).toNat) * 2 ^ more = n * 2 ^ ((last + 1074).toNat + 53 + (-(i - j + 1074)).toNat + more) := by
      rw [Nat.pow_add 2 _ more, Nat.pow_add 2 _ ((-(i - j + 1074)).toNat)]; simp only [Nat.mul_assoc, Nat.mul_left_comm]
    have c2 : 2 ^ L * n * 2 ^ (i - j + 1074).toNat = n * 2 ^ (L + (i - j + 1074).toNat) := by
      rw [Nat.pow_add 2 L]; simp only [Nat.mul_assoc, Nat.mul_left_comm]
    rw [c1, show m * 2 ^ (i - j + 1074).toNat * 2 ^ more = D * 2 ^ (i - j + 1074).toNat by rw [hD0]; exact Nat.mul_right_comm _ _ _]
    refine Nat.lt_of_lt_of_le (Nat.mul_lt_mul_of_pos_right hhi (p2 _)) ?_
    rw [c2]
    exact Nat.mul_le_mul_left _ (Nat.pow_le_pow_right (by omega) (by omega))
  · have hn2 : double.nearest false (2 * (D / n) + (D % n != 0).toNat) (i - j - more - 1) = double.word false (min ((last + 1074).toNat * 2 ^ 52 + Toward.even.cut false ((2 * (D / n) + (D % n != 0).toNat) <<< (i - j - more - 1 - last).toNat) (last - (i - j - more - 1)).toNat) double.infRung) := by
      unfold Format.nearest
      rw [if_neg (by omega), hL]
      rfl
    rw [hn2, word_false, inf_eq, cut_eq, show (i - j - more - 1 - last).toNat = 0 by omega, Nat.shiftLeft_zero]
    obtain ⟨d, hd⟩ : ∃ d, (last - (i - j - more - 1)).toNat = d + 2 := ⟨(last - (i - j - more - 1)).toNat - 2, by omega⟩
    rw [hd, sticky D n d hn]
    have hx : rhe D (n * 2 ^ (d + 1)) = rhe (m * 2 ^ (i - j + 1074).toNat) (n * 2 ^ (-(i - j + 1074)).toNat * 2 ^ (last + 1074).toNat) := by
      refine rhe_cross (Nat.mul_pos hn (p2 _)) (Nat.mul_pos (Nat.mul_pos hn (p2 _)) (p2 _)) ?_
      rw [hD0]
      have c1 : m * 2 ^ more * (n * 2 ^ (-(i - j + 1074)).toNat * 2 ^ (last + 1074).toNat) = m * (n * 2 ^ (more + (-(i - j + 1074)).toNat + (last + 1074).toNat)) := by
        rw [Nat.pow_add 2 _ ((last + 1074).toNat), Nat.pow_add 2 more]; simp only [Nat.mul_assoc, Nat.mul_left_comm]
      have c2 : m * 2 ^ (i - j + 1074).toNat * (n * 2 ^ (d + 1)) = m * (n * 2 ^ ((i - j + 1074).toNat + (d + 1))) := by
        rw [Nat.pow_add 2 _ (d + 1)]; simp only [Nat.mul_assoc, Nat.mul_left_comm]
      rw [c1, c2, pow_eq (show more + (-(i - j + 1074)).toNat + (last + 1074).toNat = (i - j + 1074).toNat + (d + 1) by omega)]
    rw [hx]

end Go.Proofs.Qxb6630284a.Fl
