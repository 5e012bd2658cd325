/- Plain laws: sorted lists, numerals. -/
import Derived.Test.Qxb6630339aDoorDe
namespace Go.Proofs.Qxb6630339aDoor
open Go.RowKit Go.Maps

theorem nodup_of_lt {l : List Int} (h : l.Pairwise (· < ·)) : l.Nodup := h.imp (fun {a b} hab e => by subst e; omega)

/-- Strictly increasing lists with the same members are one. -/
theorem sorted_ext {a b : List Int} (ha : a.Pairwise (· < ·)) (hb : b.Pairwise (· < ·)) (h : ∀ z, z ∈ a ↔ z ∈ b) : a = b := by
  have hp : a.Perm b := (List.perm_ext_iff_of_nodup (nodup_of_lt ha) (nodup_of_lt hb)).2 h
  refine List.Perm.eq_of_pairwise (le := fun x y => x ≤ y) (fun x y _ _ h1 h2 => by omega) (ha.imp (fun {x y} h => by omega)) (hb.imp (fun {x y} h => by omega)) hp

theorem dec_range (u : Nat) : ∀ c ∈ Lib.decDigits u, 48 ≤ c.toNat ∧ c.toNat ≤ 57 := by
  induction u using Nat.strongRecOn with
  | _ u ih =>
    intro c hc
    rw [dec_split] at hc
    rcases List.mem_append.1 hc with h | h
    · unfold restD at h
      split at h
      · cases h
      · exact ih (u / 10) (by omega) c h
    · simp only [List.mem_singleton] at h
      subst h
      have := dig8 (d := u % 10) (Nat.mod_lt _ (by omega))
      have h2 := Nat.mod_lt u (show 10 > 0 by omega)
      omega

theorem dec_ne (u : Nat) : Lib.decDigits u ≠ [] := by
  rw [dec_split]; simp

theorem itoa_ne (z : Int) : Lib.itoa z ≠ [] := by
  unfold Lib.itoa
  split
  · simp
  · exact dec_ne _

theorem itoa_comma (z : Int) : (44 : UInt8) ∉ Lib.itoa z := by
  have hd : ∀ u, (44 : UInt8) ∉ Lib.decDigits u := fun u h => by
    have := dec_range u 44 h
    have e : (44 : UInt8).toNat = 44 := rfl
    omega
  unfold Lib.itoa
  split
  · intro h
    rcases List.mem_cons.1 h with h | h
    · exact absurd h (by decide)
    · exact hd _ h
  · exact hd _

theorem dec_inj : ∀ (u v : Nat), Lib.decDigits u = Lib.decDigits v → u = v := by
  intro u
  induction u using Nat.strongRecOn with
  | _ u ih =>
    intro v h
    rw [dec_split u, dec_split v] at h
    obtain ⟨h1, h2⟩ := List.append_inj' h rfl
    have h3 : UInt8.ofNat (48 + u % 10) = UInt8.ofNat (48 + v % 10) := by simpa using h2
    have h4 : ((UInt8.ofNat (48 + u % 10)).toNat : Int) = ((UInt8.ofNat (48 + v % 10)).toNat : Int) := by rw [h3]
    rw [dig8 (Nat.mod_lt _ (by omega)), dig8 (Nat.mod_lt _ (by omega))] at h4
    unfold restD at h1
    by_cases hu : u < 10 <;> by_cases hv : v < 10
    · omega
    · rw [if_pos hu, if_neg hv] at h1
      exact absurd h1.symm (dec_ne _)
    · rw [if_neg hu, if_pos hv] at h1
      exact absurd h1 (dec_ne _)
    · rw [if_neg hu, if_neg hv] at h1
      have := ih (u / 10) (by omega) _ h1
      omega

theorem dec_head (u : Nat) (l : Bs) : Lib.decDigits u ≠ 45 :: l := by
  intro h
  have := dec_range u 45 (by rw [h]; simp)
  have e : (45 : UInt8).toNat = 45 := rfl
  omega

theorem itoa_inj {x y : Int} (h : Lib.itoa x = Lib.itoa y) : x = y := by
  unfold Lib.itoa at h
  by_cases hx : x < 0 <;> by_cases hy : y < 0
  · rw [if_pos hx, if_pos hy] at h
    have := dec_inj _ _ (List.cons.inj h).2
    omega
  · rw [if_pos hx, if_neg hy] at h
    exact absurd h.symm (dec_head _ _)
  · rw [if_neg hx, if_pos hy] at h
    exact absurd h (dec_head _ _)
  · rw [if_neg hx, if_neg hy] at h
    have := dec_inj _ _ h
    omega
end Go.Proofs.Qxb6630339aDoor
