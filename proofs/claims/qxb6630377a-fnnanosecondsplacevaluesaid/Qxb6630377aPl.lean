/- The plain mathematics of seat b6630377a: a text's value as nine places. -/
import Derived.Test.Qxb6630377aRows
namespace Go.Proofs.Qxb6630377a.Pl

/-- The digit at place i of a text of len bytes; 0 past its end. -/
def dg (len : Nat) (z : Nat → Int) (i : Nat) : Int := if i < len then (z i - 48) % 256 else 0

/-- The value behind k rounds. -/
def hor (len : Nat) (z : Nat → Int) : Nat → Int
  | 0 => 0
  | k + 1 => hor len z k * 10 + dg len z k

/-- The value. -/
def nv (len : Nat) (z : Nat → Int) : Int := hor len z 9

theorem dg_bd (len : Nat) (z : Nat → Int) (i : Nat) : 0 ≤ dg len z i ∧ dg len z i ≤ 255 := by
  unfold dg; split <;> omega

theorem hor_succ (len : Nat) (z : Nat → Int) (k : Nat) : hor len z (k + 1) = hor len z k * 10 + dg len z k := rfl

/-- The bound behind k rounds. -/
def top : Nat → Int
  | 0 => 0
  | k + 1 => top k * 10 + 255

theorem top_nonneg : ∀ k, 0 ≤ top k
  | 0 => Int.le_refl _
  | k + 1 => by have := top_nonneg k; unfold top; omega

theorem top_le : ∀ {k : Nat}, k ≤ 9 → top k ≤ 28333333305 := by
  intro k hk
  match k, hk with
  | 0, _ => decide
  | 1, _ => decide
  | 2, _ => decide
  | 3, _ => decide
  | 4, _ => decide
  | 5, _ => decide
  | 6, _ => decide
  | 7, _ => decide
  | 8, _ => decide
  | 9, _ => decide

theorem hor_bd (len : Nat) (z : Nat → Int) : ∀ k, 0 ≤ hor len z k ∧ hor len z k ≤ top k
  | 0 => ⟨Int.le_refl _, Int.le_refl _⟩
  | k + 1 => by
    have h := hor_bd len z k
    have d := dg_bd len z k
    rw [hor_succ]; unfold top
    omega

theorem hor_le (len : Nat) (z : Nat → Int) {k : Nat} (hk : k ≤ 9) : 0 ≤ hor len z k ∧ hor len z k ≤ 28333333305 := by
  have := hor_bd len z k
  have := top_le hk
  omega

theorem nv_eq (len : Nat) (z : Nat → Int) : nv len z = dg len z 0 * 100000000 + dg len z 1 * 10000000 + dg len z 2 * 1000000 + dg len z 3 * 100000 + dg len z 4 * 10000 + dg len z 5 * 1000 + dg len z 6 * 100 + dg len z 7 * 10 + dg len z 8 := by
  unfold nv
  simp only [hor]
  omega

theorem nv_bd (len : Nat) (z : Nat → Int) : 0 ≤ nv len z ∧ nv len z ≤ 28333333305 := hor_le len z (Nat.le_refl _)

theorem nv_congr {len len' : Nat} {z z' : Nat → Int} (h : ∀ i, i < 9 → dg len z i = dg len' z' i) : nv len z = nv len' z' := by
  rw [nv_eq, nv_eq, h 0 (by omega), h 1 (by omega), h 2 (by omega), h 3 (by omega), h 4 (by omega), h 5 (by omega), h 6 (by omega), h 7 (by omega), h 8 (by omega)]

/-- The text with c put in at p. -/
def ins (p : Nat) (c : Int) (z : Nat → Int) (i : Nat) : Int := if i < p then z i else if i = p then c else z (i - 1)

theorem dg_ins_lt {len p : Nat} {c : Int} {z : Nat → Int} {i : Nat} (hp : p ≤ len) (h : i < p) : dg (len + 1) (ins p c z) i = dg len z i := by
  unfold dg ins
  rw [if_pos (by omega), if_pos h, if_pos (by omega)]
theorem dg_ins_at {len p : Nat} {c : Int} {z : Nat → Int} (hp : p ≤ len) : dg (len + 1) (ins p c z) p = (c - 48) % 256 := by
  unfold dg ins
  rw [if_pos (by omega), if_neg (by omega), if_pos rfl]
theorem dg_ins_gt {len p : Nat} {c : Int} {z : Nat → Int} {i : Nat} (h : p < i + 1) : dg (len + 1) (ins p c z) (i + 1) = dg len z i := by
  unfold dg ins
  by_cases hi : i < len
  · rw [if_pos (by omega), if_neg (by omega), if_neg (by omega), if_pos hi]; rfl
  · rw [if_neg (by omega), if_neg hi]

/-- p past the ninth place: nothing turns. -/
theorem ins_far {len p : Nat} {c : Int} {z : Nat → Int} (hp : p ≤ len) (h9 : 9 ≤ p) : nv (len + 1) (ins p c z) = nv len z :=
  nv_congr fun i hi => dg_ins_lt hp (by omega)

theorem dg_take {len p : Nat} {z : Nat → Int} {i : Nat} (hp : p ≤ len) : dg p z i = if i < p then dg len z i else 0 := by
  unfold dg
  by_cases h : i < p
  · rw [if_pos h, if_pos h, if_pos (by omega)]
  · rw [if_neg h, if_neg h]

theorem dg_cut {len p hi : Nat} {z : Nat → Int} {i : Nat} (hp : p ≤ hi) (hh : hi ≤ len) : dg (hi - p) (fun j => z (p + j)) i = if p + i < hi then dg len z (p + i) else 0 := by
  unfold dg
  by_cases h : p + i < hi
  · rw [if_pos (by omega), if_pos h, if_pos (by omega)]
  · rw [if_neg (by omega), if_neg h]

theorem dg_past {len : Nat} {z : Nat → Int} {i : Nat} (h : len ≤ i) : dg len z i = 0 := by
  unfold dg; rw [if_neg (by omega)]

/-- What follows p, shifted one place down. -/
theorem shifted {len p hi : Nat} {z : Nat → Int} {i : Nat} (hp : p ≤ len) (hh : hi = min len 8) (h8 : p ≤ 8) : dg (hi - p) (fun j => z (p + j)) i = if p + i < 8 then dg len z (p + i) else 0 := by
  by_cases hph : p ≤ hi
  · rw [dg_cut (len := len) hph (by omega)]
    by_cases h : p + i < hi
    · rw [if_pos h, if_pos (by omega)]
    · rw [if_neg h]
      by_cases h2 : p + i < 8
      · rw [if_pos h2, dg_past (by omega)]
      · rw [if_neg h2]
  · omega

def pw (k : Nat) : Int := 10 ^ k

theorem near {len p hi : Nat} {c : Int} {z : Nat → Int} (hp : p ≤ len) (hh : hi = min len 8) (h9 : p < 9) :
    nv (len + 1) (ins p c z) = nv p z + (c - 48) % 256 * pw (8 - p) + nv (hi - p) (fun j => z (p + j)) / pw (p + 1) := by
  rw [nv_eq (len + 1), nv_eq p, nv_eq (hi - p)]
  simp only [shifted hp hh (by omega : p ≤ 8), dg_take (z := z) hp]
  have hA : ∀ i, i < p → dg (len + 1) (ins p c z) i = dg len z i := fun i h => dg_ins_lt hp h
  have hB : dg (len + 1) (ins p c z) p = (c - 48) % 256 := dg_ins_at hp
  have hC : ∀ i, p < i + 1 → dg (len + 1) (ins p c z) (i + 1) = dg len z i := fun i h => dg_ins_gt h
  have b := dg_bd len z
  have b0 := b 0; have b1 := b 1; have b2 := b 2; have b3 := b 3; have b4 := b 4; have b5 := b 5; have b6 := b 6; have b7 := b 7
  unfold pw
  generalize dg (len + 1) (ins p c z) = E at *
  generalize (c - 48) % 256 = v at *
  rcases (show p = 0 ∨ p = 1 ∨ p = 2 ∨ p = 3 ∨ p = 4 ∨ p = 5 ∨ p = 6 ∨ p = 7 ∨ p = 8 by omega) with rfl | rfl | rfl | rfl | rfl | rfl | rfl | rfl | rfl
  · rw [hB, hC 0 (by omega), hC 1 (by omega), hC 2 (by omega), hC 3 (by omega), hC 4 (by omega), hC 5 (by omega), hC 6 (by omega), hC 7 (by omega)]; simp <;> omega
  · rw [hA 0 (by omega), hB, hC 1 (by omega), hC 2 (by omega), hC 3 (by omega), hC 4 (by omega), hC 5 (by omega), hC 6 (by omega), hC 7 (by omega)]; simp <;> omega
  · rw [hA 0 (by omega), hA 1 (by omega), hB, hC 2 (by omega), hC 3 (by omega), hC 4 (by omega), hC 5 (by omega), hC 6 (by omega), hC 7 (by omega)]; simp <;> omega
  · rw [hA 0 (by omega), hA 1 (by omega), hA 2 (by omega), hB, hC 3 (by omega), hC 4 (by omega), hC 5 (by omega), hC 6 (by omega), hC 7 (by omega)]; simp <;> omega
  · rw [hA 0 (by omega), hA 1 (by omega), hA 2 (by omega), hA 3 (by omega), hB, hC 4 (by omega), hC 5 (by omega), hC 6 (by omega), hC 7 (by omega)]; simp <;> omega
  · rw [hA 0 (by omega), hA 1 (by omega), hA 2 (by omega), hA 3 (by omega), hA 4 (by omega), hB, hC 5 (by omega), hC 6 (by omega), hC 7 (by omega)]; simp <;> omega
  · rw [hA 0 (by omega), hA 1 (by omega), hA 2 (by omega), hA 3 (by omega), hA 4 (by omega), hA 5 (by omega), hB, hC 6 (by omega), hC 7 (by omega)]; simp <;> omega
  · rw [hA 0 (by omega), hA 1 (by omega), hA 2 (by omega), hA 3 (by omega), hA 4 (by omega), hA 5 (by omega), hA 6 (by omega), hB, hC 7 (by omega)]; simp <;> omega
  · rw [hA 0 (by omega), hA 1 (by omega), hA 2 (by omega), hA 3 (by omega), hA 4 (by omega), hA 5 (by omega), hA 6 (by omega), hA 7 (by omega), hB]; simp <;> omega

/-! ### The second law: one byte raised by one -/
/-- The text with the byte at p raised by one. -/
def up (p : Nat) (z : Nat → Int) (i : Nat) : Int := if i = p then (z p + 1) % 256 else z i

/-- By how much the value changes. -/
def step (p : Nat) (z : Nat → Int) : Int := if p < 9 then (if z p = 47 then -255 * pw (8 - p) else pw (8 - p)) else 0

theorem up_diff {len p : Nat} {z : Nat → Int} (hp : p < len) (hz : 0 ≤ z p ∧ z p ≤ 255) : nv len (up p z) - nv len z = step p z := by
  have hne : ∀ i, i ≠ p → dg len (up p z) i = dg len z i := by
    intro i h; unfold dg up; rw [if_neg h]
  have hat : dg len (up p z) p - dg len z p = if z p = 47 then -255 else 1 := by
    unfold dg up
    rw [if_pos hp, if_pos rfl, if_pos hp]
    split <;> omega
  by_cases h9 : p < 9
  · unfold step pw
    rw [if_pos h9, nv_eq, nv_eq]
    generalize dg len (up p z) = E at *
    generalize dg len z = F at *
    rcases (show p = 0 ∨ p = 1 ∨ p = 2 ∨ p = 3 ∨ p = 4 ∨ p = 5 ∨ p = 6 ∨ p = 7 ∨ p = 8 by omega) with rfl | rfl | rfl | rfl | rfl | rfl | rfl | rfl | rfl
    all_goals
      have e0 := fun h => hne 0 h; have e1 := fun h => hne 1 h; have e2 := fun h => hne 2 h; have e3 := fun h => hne 3 h; have e4 := fun h => hne 4 h
      have e5 := fun h => hne 5 h; have e6 := fun h => hne 6 h; have e7 := fun h => hne 7 h; have e8 := fun h => hne 8 h
      simp at e0 e1 e2 e3 e4 e5 e6 e7 e8 ⊢
      split at hat
      · rw [if_pos (by assumption)]; omega
      · rw [if_neg (by assumption)]; omega
  · unfold step
    rw [if_neg h9, nv_congr (fun i hi => hne i (by omega))]
    omega

theorem multiple {len : Nat} {z : Nat → Int} {n : Nat} (hn : n = min len 9) : nv len z % pw (9 - n) = 0 := by
  have hpast : ∀ i, n ≤ i → i < 9 → dg len z i = 0 := fun i h1 h2 => dg_past (by omega)
  rw [nv_eq]
  unfold pw
  have h9 : n ≤ 9 := by omega
  clear hn
  generalize dg len z = F at *
  rcases (show n = 0 ∨ n = 1 ∨ n = 2 ∨ n = 3 ∨ n = 4 ∨ n = 5 ∨ n = 6 ∨ n = 7 ∨ n = 8 ∨ n = 9 by omega) with rfl | rfl | rfl | rfl | rfl | rfl | rfl | rfl | rfl | rfl
  all_goals
    have e0 := fun h => hpast 0 h (by omega); have e1 := fun h => hpast 1 h (by omega); have e2 := fun h => hpast 2 h (by omega); have e3 := fun h => hpast 3 h (by omega); have e4 := fun h => hpast 4 h (by omega)
    have e5 := fun h => hpast 5 h (by omega); have e6 := fun h => hpast 6 h (by omega); have e7 := fun h => hpast 7 h (by omega); have e8 := fun h => hpast 8 h (by omega)
    simp at e0 e1 e2 e3 e4 e5 e6 e7 e8 ⊢ <;> omega

theorem digits_small {len : Nat} {z : Nat → Int} {n : Nat} (hn : n = min len 9) (h : ∀ i, i < n → 48 ≤ z i ∧ z i ≤ 57) : nv len z < 1000000000 := by
  have hd : ∀ i, i < 9 → 0 ≤ dg len z i ∧ dg len z i ≤ 9 := by
    intro i hi
    by_cases hl : i < len
    · have := h i (by omega)
      unfold dg; rw [if_pos hl]; omega
    · rw [dg_past (by omega)]; omega
  rw [nv_eq]
  have := hd 0 (by omega); have := hd 1 (by omega); have := hd 2 (by omega); have := hd 3 (by omega); have := hd 4 (by omega); have := hd 5 (by omega); have := hd 6 (by omega); have := hd 7 (by omega); have := hd 8 (by omega)
  omega

end Go.Proofs.Qxb6630377a.Pl
