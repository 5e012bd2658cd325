/- Plain laws of the second statement: the order of numerals, the merge, the union. -/
import Derived.Test.Qxb6630339aDoorWa
namespace Go.Proofs.Qxb6630339aDoor
open Go.RowKit Go.Maps

/-! ### The order of numerals -/
def mag (a b : Bs) : Bool := if a.length = b.length then Op.bytesLess a b else decide (a.length < b.length)

theorem less_snoc : ∀ (x y : Bs) (a b : UInt8), x.length = y.length → Op.bytesLess (x ++ [a]) (y ++ [b]) = (Op.bytesLess x y || (decide (x = y) && decide (a < b)))
  | [], [], a, b, _ => by simp [Op.bytesLess]
  | c :: x, [], a, b, h => by simp at h
  | [], d :: y, a, b, h => by simp at h
  | c :: x, d :: y, a, b, h => by
    have ih := less_snoc x y a b (by simpa using h)
    simp only [List.cons_append, Op.bytesLess, ih]
    by_cases e : c = d
    · subst e
      simp [UInt8.lt_irrefl]
    · have e' : (c == d) = false := by simpa using e
      simp [e, e']

theorem dig_lt {a b : Nat} (ha : a < 10) (hb : b < 10) : decide (UInt8.ofNat (48 + a) < UInt8.ofNat (48 + b)) = decide (a < b) := by
  have h1 := dig8 ha
  have h2 := dig8 hb
  apply decide_eq_decide.2
  rw [UInt8.lt_iff_toNat_lt]
  omega

theorem mag_dec : ∀ (u v : Nat), mag (Lib.decDigits u) (Lib.decDigits v) = decide (u < v) := by
  intro u
  induction u using Nat.strongRecOn with
  | _ u ih =>
    intro v
    rw [dec_split u, dec_split v]
    have hu10 := Nat.mod_lt u (show 10 > 0 by omega)
    have hv10 := Nat.mod_lt v (show 10 > 0 by omega)
    unfold mag restD
    by_cases hu : u < 10 <;> by_cases hv : v < 10
    · rw [if_pos hu, if_pos hv, if_pos (by simp)]
      rw [less_snoc _ _ _ _ rfl, dig_lt hu10 hv10]
      have e1 : u % 10 = u := by omega
      have e2 : v % 10 = v := by omega
      rw [e1, e2]
      simp [Op.bytesLess]
    · rw [if_pos hu, if_neg hv]
      have hl : 1 ≤ (Lib.decDigits (v / 10)).length := by rw [Lib.decDigits_length]; exact Lib.nDigits_pos _
      rw [if_neg (by simp; intro h; rw [h] at hl; simp at hl)]
      apply decide_eq_decide.2
      simp
      constructor
      · intro _; omega
      · intro _; omega
    · rw [if_neg hu, if_pos hv]
      have hl : 1 ≤ (Lib.decDigits (u / 10)).length := by rw [Lib.decDigits_length]; exact Lib.nDigits_pos _
      rw [if_neg (by simp; intro h; rw [h] at hl; simp at hl)]
      apply decide_eq_decide.2
      simp
      omega
    · rw [if_neg hu, if_neg hv]
      have i := ih (u / 10) (by omega) (v / 10)
      unfold mag at i
      by_cases hl : (Lib.decDigits (u / 10)).length = (Lib.decDigits (v / 10)).length
      · rw [if_pos hl] at i
        rw [if_pos (by simp [hl]), less_snoc _ _ _ _ hl, i, dig_lt hu10 hv10]
        by_cases e : u / 10 = v / 10
        · rw [e]
          simp
          omega
        · have e' : Lib.decDigits (u / 10) ≠ Lib.decDigits (v / 10) := fun h => e (dec_inj _ _ h)
          rw [decide_eq_false e']
          simp
          omega
      · rw [if_neg hl] at i
        rw [if_neg (by simp [hl])]
        have e : u / 10 ≠ v / 10 := fun h => hl (by rw [h])
        have i' := decide_eq_decide.1 i
        apply decide_eq_decide.2
        simp only [List.length_append, List.length_cons, List.length_nil]
        constructor
        · intro h
          have := i'.1 (by omega)
          omega
        · intro h
          have := i'.2 (by omega)
          omega

/-! ### The merge -/
def Mg (A B : List Int) (i j : Nat) (E : List Int) : Prop :=
  E.Pairwise (· < ·) ∧ (∀ z, z ∈ E ↔ (z ∈ A.take i ∨ z ∈ B.take j)) ∧ (∀ x ∈ E, ∀ y ∈ A.drop i, x < y) ∧ (∀ x ∈ E, ∀ y ∈ B.drop j, x < y) ∧ E.length ≤ i + j

theorem Mg.start (A B : List Int) : Mg A B 0 0 [] := ⟨List.Pairwise.nil, fun z => by simp, fun _ h => absurd h (by simp), fun _ h => absurd h (by simp), Nat.le_refl _⟩

theorem Mg.symm {A B : List Int} {i j : Nat} {E : List Int} (h : Mg A B i j E) : Mg B A j i E :=
  ⟨h.1, fun z => by rw [h.2.1 z, or_comm], h.2.2.2.1, h.2.2.1, by have := h.2.2.2.2; omega⟩

theorem drop_cons {A : List Int} {i : Nat} {x : Int} (h : A[i]? = some x) : A.drop i = x :: A.drop (i + 1) := by
  obtain ⟨h1, h2⟩ := List.getElem?_eq_some_iff.1 h
  rw [List.drop_eq_getElem_cons h1, h2]

theorem rest_lt {A : List Int} (hs : A.Pairwise (· < ·)) {i : Nat} {x : Int} (h : A[i]? = some x) : ∀ y ∈ A.drop (i + 1), x < y := by
  have h1 : (A.drop i).Pairwise (· < ·) := hs.sublist (List.drop_sublist _ _)
  rw [drop_cons h, List.pairwise_cons] at h1
  exact h1.1

theorem Mg.left {A B : List Int} {i j : Nat} {E : List Int} (h : Mg A B i j E) (hs : A.Pairwise (· < ·)) {x : Int} (hx : A[i]? = some x) (hb : ∀ y ∈ B.drop j, x < y) : Mg A B (i + 1) j (E ++ [x]) := by
  obtain ⟨h1, h2, h3, h4, h5⟩ := h
  have hd := drop_cons hx
  have hr := rest_lt hs hx
  refine ⟨?_, fun z => ?_, fun a ha y hy => ?_, fun a ha y hy => ?_, by simp; omega⟩
  · rw [List.pairwise_append]
    refine ⟨h1, by simp, fun a ha b hb => ?_⟩
    obtain rfl : b = x := by simpa using hb
    exact h3 a ha b (by rw [hd]; simp)
  · rw [List.mem_append, h2 z, mem_take_succ hx, List.mem_singleton]
    constructor
    · rintro ((h | h) | h)
      · exact .inl (.inl h)
      · exact .inr h
      · exact .inl (.inr h)
    · rintro ((h | h) | h)
      · exact .inl (.inl h)
      · exact .inr h
      · exact .inl (.inr h)
  · rcases List.mem_append.1 ha with ha | ha
    · exact h3 a ha y (by rw [hd]; exact List.mem_cons_of_mem _ hy)
    · obtain rfl : a = x := by simpa using ha
      exact hr y hy
  · rcases List.mem_append.1 ha with ha | ha
    · exact h4 a ha y hy
    · obtain rfl : a = x := by simpa using ha
      exact hb y hy

theorem Mg.right {A B : List Int} {i j : Nat} {E : List Int} (h : Mg A B i j E) (hs : B.Pairwise (· < ·)) {x : Int} (hx : B[j]? = some x) (hb : ∀ y ∈ A.drop i, x < y) : Mg A B i (j + 1) (E ++ [x]) :=
  (h.symm.left hs hx hb).symm

theorem Mg.both {A B : List Int} {i j : Nat} {E : List Int} (h : Mg A B i j E) (hs : A.Pairwise (· < ·)) (ht : B.Pairwise (· < ·)) {x : Int} (hx : A[i]? = some x) (hw : B[j]? = some x) : Mg A B (i + 1) (j + 1) (E ++ [x]) := by
  obtain ⟨h1, h2, h3, h4, h5⟩ := h
  have hd := drop_cons hx
  have hr := rest_lt hs hx
  have hd' := drop_cons hw
  have hr' := rest_lt ht hw
  refine ⟨?_, fun z => ?_, fun a ha y hy => ?_, fun a ha y hy => ?_, by simp; omega⟩
  · rw [List.pairwise_append]
    refine ⟨h1, by simp, fun a ha b hb => ?_⟩
    obtain rfl : b = x := by simpa using hb
    exact h3 a ha b (by rw [hd]; simp)
  · rw [List.mem_append, h2 z, mem_take_succ hx, mem_take_succ hw, List.mem_singleton]
    constructor
    · rintro ((h | h) | h)
      · exact .inl (.inl h)
      · exact .inr (.inl h)
      · exact .inl (.inr h)
    · rintro ((h | h) | (h | h))
      · exact .inl (.inl h)
      · exact .inr h
      · exact .inl (.inr h)
      · exact .inr h
  · rcases List.mem_append.1 ha with ha | ha
    · exact h3 a ha y (by rw [hd]; exact List.mem_cons_of_mem _ hy)
    · obtain rfl : a = x := by simpa using ha
      exact hr y hy
  · rcases List.mem_append.1 ha with ha | ha
    · exact h4 a ha y (by rw [hd']; exact List.mem_cons_of_mem _ hy)
    · obtain rfl : a = x := by simpa using ha
      exact hr' y hy

/-- All of a rest is above a number that its head is above. -/
theorem below_rest {B : List Int} (ht : B.Pairwise (· < ·)) {j : Nat} {x y : Int} (hy : B[j]? = some y) (h : x < y) : ∀ z ∈ B.drop j, x < z := by
  intro z hz
  rw [drop_cons hy] at hz
  rcases List.mem_cons.1 hz with rfl | hz
  · exact h
  · have := rest_lt ht hy z hz
    omega
theorem no_rest {B : List Int} {j : Nat} {x : Int} (h : B.length ≤ j) : ∀ z ∈ B.drop j, x < z := by
  rw [List.drop_eq_nil_of_le h]
  intro z hz; cases hz

theorem Mg.done {A B E : List Int} (h : Mg A B A.length B.length E) : E.Pairwise (· < ·) ∧ ∀ z, z ∈ E ↔ (z ∈ A ∨ z ∈ B) := by
  obtain ⟨h1, h2, _⟩ := h
  refine ⟨h1, fun z => ?_⟩
  rw [h2 z, List.take_length, List.take_length]

/-! ### The union -/
def uni (ks : List Int) (f g : Int → Option Bool) (q : Nat) : Int → Option Bool := fun z => if z ∈ ks.take q then some (on f z || on g z) else none

theorem uni_zero (ks : List Int) (f g : Int → Option Bool) : uni ks f g 0 = fun _ => none := by
  funext z; simp [uni]

theorem uni_succ {ks : List Int} {f g : Int → Option Bool} {q : Nat} {x : Int} (hx : ks[q]? = some x) : uni ks f g (q + 1) = upd (uni ks f g q) x (on f x || on g x) := by
  funext z
  show (if z ∈ ks.take (q + 1) then some (on f z || on g z) else none) = if z = x then some (on f x || on g x) else (if z ∈ ks.take q then some (on f z || on g z) else none)
  by_cases e : z = x
  · subst e
    rw [if_pos ((mem_take_succ hx).2 (.inr rfl)), if_pos rfl]
  · rw [if_neg e]
    by_cases h : z ∈ ks.take q
    · rw [if_pos ((mem_take_succ hx).2 (.inl h)), if_pos h]
    · rw [if_neg (fun h' => by rcases (mem_take_succ hx).1 h' with h' | h'; exact h h'; exact e h'), if_neg h]

def cnt (seen : List Int) : Int → Option Bool := fun z => if z ∈ seen then some true else none

theorem cnt_nil : cnt [] = fun _ => none := by funext z; simp [cnt]
theorem cnt_on {seen : List Int} {x : Int} : on (cnt seen) x = decide (x ∈ seen) := by
  unfold on cnt
  by_cases h : x ∈ seen <;> simp [h]
theorem cnt_snoc {seen : List Int} {x : Int} : cnt (seen ++ [x]) = upd (cnt seen) x true := by
  funext z
  unfold cnt upd
  by_cases e : z = x
  · subst e; simp
  · simp [e]

/-- The keys of both lists. -/
def pool (ka kb : List Int) (na nb : Nat) : List Int := ka.take na ++ kb.take nb
theorem pool_a {ka kb : List Int} {na nb i : Nat} (hn : na ≤ ka.length) (hi : i < na) : (pool ka kb na nb)[i]? = ka[i]? := by
  unfold pool
  rw [List.getElem?_append_left (by rw [List.length_take]; omega), List.getElem?_take, if_pos hi]
theorem pool_b {ka kb : List Int} {na nb i : Nat} (hn : na ≤ ka.length) (hi : i < nb) : (pool ka kb na nb)[na + i]? = kb[i]? := by
  unfold pool
  have hl : (ka.take na).length = na := by rw [List.length_take]; omega
  rw [List.getElem?_append_right (by omega), hl, List.getElem?_take]
  have : na + i - na = i := by omega
  rw [this, if_pos hi]
theorem pool_len {ka kb : List Int} {na nb : Nat} (hn : na ≤ ka.length) (hm : nb ≤ kb.length) : (pool ka kb na nb).length = na + nb := by
  unfold pool
  rw [List.length_append, List.length_take, List.length_take]
  omega
theorem pool_mem {ka kb : List Int} {na nb : Nat} {z : Int} (h : z ∈ pool ka kb na nb) : z ∈ ka ∨ z ∈ kb := by
  unfold pool at h
  rcases List.mem_append.1 h with h | h
  · exact .inl (List.mem_of_mem_take h)
  · exact .inr (List.mem_of_mem_take h)

/-- What stands true in the union. -/
theorem uni_true {ka kb : List Int} {va vb : List Bool} {na nb : Nat} {z : Int} :
    uni (pool ka kb na nb) (fp ka va na) (fp kb vb nb) (pool ka kb na nb).length z = some true ↔ (fp ka va na z = some true ∨ fp kb vb nb z = some true) := by
  unfold uni
  rw [List.take_length]
  constructor
  · intro h
    split at h
    · have h' : (on (fp ka va na) z || on (fp kb vb nb) z) = true := by simpa using h
      rcases Bool.or_eq_true_iff.1 h' with h' | h'
      · exact .inl (on_true.1 h')
      · exact .inr (on_true.1 h')
    · cases h
  · rintro (h | h)
    · rw [if_pos (show z ∈ pool ka kb na nb from List.mem_append_left _ (fp_mem h)), on_true.2 h]; rfl
    · rw [if_pos (show z ∈ pool ka kb na nb from List.mem_append_right _ (fp_mem h)), on_true.2 h]; simp
end Go.Proofs.Qxb6630339aDoor
