/- The plain law of the first statement. -/
import Derived.Test.Qxb6630339aDoorMp
namespace Go.Proofs.Qxb6630339aDoor
open Go.RowKit Go.Maps

/-- One step of the placing of k. -/
def stp (k : Int) (s : List Int × Bool) (x : Int) : List Int × Bool := if s.2 = false ∧ k < x then (s.1 ++ [k, x], true) else (s.1 ++ [x], s.2)

def plc (k : Int) (l : List Int) : List Int × Bool := l.foldl (stp k) ([], false)

theorem plc_snoc (k : Int) (l : List Int) (x : Int) : plc k (l ++ [x]) = stp k (plc k l) x := by
  unfold plc; rw [List.foldl_append]; rfl

/-- The members, and the order, of what is placed. -/
theorem plc_inv (k : Int) : ∀ (n : Nat) (l : List Int), l.length = n → l.Pairwise (· < ·) → k ∉ l →
    (plc k l).1.Pairwise (· < ·) ∧ (∀ z, z ∈ (plc k l).1 ↔ (z ∈ l ∨ (z = k ∧ (plc k l).2 = true))) ∧ ((plc k l).2 = false → ∀ z ∈ l, z < k) ∧ ((plc k l).2 = true → ∃ z ∈ l, k < z) ∧ (plc k l).1.length = l.length + (if (plc k l).2 = true then 1 else 0) := by
  intro n
  induction n with
  | zero =>
    intro l hl _ _
    have : l = [] := List.length_eq_zero_iff.1 hl
    subst this
    simp [plc]
  | succ n ih =>
    intro l hl hs hk
    rcases List.eq_nil_or_concat l with rfl | ⟨l', x, rfl⟩
    · simp at hl
    · have hl' : l'.length = n := by simp at hl; exact hl
      obtain ⟨hs1, hs2, hs3⟩ := List.pairwise_append.1 (by simpa using hs)
      have hk' : k ∉ l' := fun h => hk (by simp [h])
      have hkx : k ≠ x := fun h => hk (by simp [h])
      obtain ⟨i1, i2, i3, i5, i4⟩ := ih l' hl' hs1 hk'
      have hlt : ∀ z ∈ l', z < x := fun z hz => hs3 z hz x (by simp)
      rw [List.concat_eq_append, plc_snoc]
      unfold stp
      by_cases hc : (plc k l').2 = false ∧ k < x
      · rw [if_pos hc]
        refine ⟨?_, fun z => ?_, by simp, fun _ => ⟨x, by simp, hc.2⟩, ?_⟩
        · rw [List.pairwise_append]
          refine ⟨i1, by simp; omega, fun a ha b hb => ?_⟩
          have hal : a ∈ l' := by
            rcases (i2 a).1 ha with h | ⟨_, h⟩
            · exact h
            · rw [hc.1] at h; cases h
          have h1 := i3 hc.1 a hal
          simp at hb
          rcases hb with rfl | rfl <;> omega
        · simp only [List.mem_append, i2 z, hc.1]
          simp
          constructor
          · rintro (h | h | h)
            · exact .inl (.inl h)
            · exact .inr h
            · exact .inl (.inr h)
          · rintro ((h | h) | h)
            · exact .inl h
            · exact .inr (.inr h)
            · exact .inr (.inl h)
        · rw [hc.1] at i4
          simp at i4 ⊢
          omega
      · rw [if_neg hc]
        refine ⟨?_, fun z => ?_, fun hp z hz => ?_, fun hp => ?_, ?_⟩
        · rw [List.pairwise_append]
          refine ⟨i1, by simp, fun a ha b hb => ?_⟩
          simp at hb
          subst hb
          rcases (i2 a).1 ha with h | ⟨rfl, h⟩
          · exact hlt a h
          · obtain ⟨z, hz, hkz⟩ := i5 h
            have := hlt z hz
            omega
        · simp only [List.mem_append, i2 z]
          simp
          constructor
          · rintro ((h | h) | h)
            · exact .inl (.inl h)
            · exact .inr h
            · exact .inl (.inr h)
          · rintro ((h | h) | h)
            · exact .inl (.inl h)
            · exact .inr h
            · exact .inl (.inr h)
        · simp at hz
          simp at hp
          rcases hz with hz | rfl
          · exact i3 hp z hz
          · have : ¬ k < z := fun h => hc ⟨hp, h⟩
            omega
        · obtain ⟨z, hz, hkz⟩ := i5 hp
          exact ⟨z, by simp [hz], hkz⟩
        · rw [List.length_append, i4]
          simp
          omega

def fin (k : Int) (l : List Int) : List Int := if (plc k l).2 = true then (plc k l).1 else (plc k l).1 ++ [k]

theorem fin_spec {k : Int} {l : List Int} (hs : l.Pairwise (· < ·)) (hk : k ∉ l) : (fin k l).Pairwise (· < ·) ∧ ∀ z, z ∈ fin k l ↔ (z ∈ l ∨ z = k) := by
  obtain ⟨h1, h2, h3, _, _⟩ := plc_inv k l.length l rfl hs hk
  unfold fin
  cases hp : (plc k l).2
  · rw [if_neg (by simp)]
    refine ⟨?_, fun z => ?_⟩
    · rw [List.pairwise_append]
      refine ⟨h1, by simp, fun a ha b hb => ?_⟩
      simp at hb
      subst hb
      rcases (h2 a).1 ha with h | ⟨_, h⟩
      · exact h3 hp a h
      · rw [hp] at h; cases h
    · rw [List.mem_append, h2 z, hp]
      simp
  · rw [if_pos rfl]
    refine ⟨h1, fun z => ?_⟩
    rw [h2 z, hp]
    simp
end Go.Proofs.Qxb6630339aDoor
