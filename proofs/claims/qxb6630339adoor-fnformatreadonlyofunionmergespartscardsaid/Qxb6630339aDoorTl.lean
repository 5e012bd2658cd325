/- textLess on numerals. -/
import Derived.Test.Qxb6630339aDoorTp
import Derived.BigQuiet
namespace Go.Proofs.Qxb6630339aDoor
open Go.RowKit Go.Maps

theorem mag_any (a b : ByteArray) (w : World) :
    Calls Tryd.prog 17 #[.string a, .string b] w fun e w' => e = .returned (.bool (mag (bs a) (bs b))) ∧ w' = w := by
  unfold mag
  rw [bs_length, bs_length]
  by_cases h : a.size = b.size
  · have d : ((a.size : Int) != (b.size : Int)) = false := by simp [h]
    have e : Op.bytesLess (bs a) (bs b) = Op.bytesLess a.toList b.toList := by rw [Lib.toList_data, Lib.toList_data]; rfl
    rw [if_pos h, e]
    clear h e
    go_enter Tryd.func17, Tryd.ntmps17
    go_wp2_with fail
    go_ret
    exact ⟨rfl, rfl⟩
  · have d : ((a.size : Int) != (b.size : Int)) = true := by simp; omega
    rw [if_neg h]
    clear h
    go_enter Tryd.func17, Tryd.ntmps17
    go_wp2_with fail
    go_ret
    exact ⟨rfl, rfl⟩

theorem run_ix0 (s : ByteArray) (c : UInt8) (h : (bs s)[0]? = some c) (W : World) : (Instr.index 9 (.string s) (.int .i64 0)).run Tryd.prog W = .ok (.int .u8 c.toNat) W := run_ix s 0 c h W
theorem run_rest1 (s : ByteArray) (hj : 1 ≤ s.size) (W : World) : (Instr.slice 9 (.string s) (some (.int .i64 1)) none none).run Tryd.prog W = .ok (.string (mk ((bs s).drop 1))) W := run_rest s 1 hj W

/-- The first byte of a numeral. -/
theorem itoa_first (z : Int) : ∃ c : UInt8, (Lib.itoa z)[0]? = some c ∧ ((c.toNat : Int) == 45) = decide (z < 0) := by
  by_cases h : z < 0
  · refine ⟨45, ?_, ?_⟩
    · unfold Lib.itoa; rw [if_pos h]; rfl
    · rw [decide_eq_true h]; rfl
  · have e : Lib.itoa z = Lib.decDigits z.natAbs := by unfold Lib.itoa; rw [if_neg h]; congr 1; omega
    rw [e]
    obtain ⟨c, l, hc⟩ : ∃ c l, Lib.decDigits z.natAbs = c :: l := by
      cases hd : Lib.decDigits z.natAbs with
      | nil => exact absurd hd (dec_ne _)
      | cons c l => exact ⟨c, l, rfl⟩
    refine ⟨c, by rw [hc]; rfl, ?_⟩
    have := dec_range z.natAbs c (by rw [hc]; simp)
    rw [decide_eq_false h, beq_eq_false_iff_ne]
    omega

theorem mag_itoa {x y : Int} (hx : ¬ x < 0) (hy : ¬ y < 0) : mag (Lib.itoa x) (Lib.itoa y) = decide (x < y) := by
  unfold Lib.itoa
  rw [if_neg hx, if_neg hy, mag_dec]
  exact decide_eq_decide.2 (by omega)
theorem mag_itoa_neg {x y : Int} (hx : x < 0) (hy : y < 0) : mag ((Lib.itoa y).drop 1) ((Lib.itoa x).drop 1) = decide (x < y) := by
  unfold Lib.itoa
  rw [if_pos hx, if_pos hy]
  simp only [List.drop_succ_cons, List.drop_zero]
  rw [mag_dec]
  exact decide_eq_decide.2 (by omega)

theorem less_any (a b : ByteArray) (x y : Int) (ha : bs a = Lib.itoa x) (hb : bs b = Lib.itoa y) (w : World) :
    Calls Tryd.prog 12 #[.string a, .string b] w fun e w' => e = .returned (.bool (decide (x < y))) ∧ ∃ m, w' = w.drewN m := by
  obtain ⟨c, hc, hcd⟩ := itoa_first x
  obtain ⟨d, hd, hdd⟩ := itoa_first y
  have ia := run_ix0 a c (by rw [ha]; exact hc)
  have ib := run_ix0 b d (by rw [hb]; exact hd)
  have sa : 1 ≤ a.size := by
    rw [← bs_length, ha]
    have := itoa_ne x
    cases h : Lib.itoa x with
    | nil => exact absurd h this
    | cons _ _ => simp
  have sb : 1 ≤ b.size := by
    rw [← bs_length, hb]
    have := itoa_ne y
    cases h : Lib.itoa y with
    | nil => exact absurd h this
    | cons _ _ => simp
  have da : decide (0 < a.size) = true := decide_eq_true (by omega)
  have db : decide (0 < b.size) = true := decide_eq_true (by omega)
  by_cases hx : x < 0 <;> by_cases hy : y < 0
  · rw [decide_eq_true hx] at hcd
    rw [decide_eq_true hy] at hdd
    have ra := run_rest1 a sa
    have rb := run_rest1 b sb
    have C : Hid (∀ W, Calls Tryd.prog 17 #[.string (mk ((bs b).drop 1)), .string (mk ((bs a).drop 1))] W fun e w' => e = .returned (.bool (decide (x < y))) ∧ w' = W) := fun W => by
      have h := mag_any (mk ((bs b).drop 1)) (mk ((bs a).drop 1)) W
      rw [bs_mk, bs_mk, ha, hb, mag_itoa_neg hx hy] at h
      rw [ha, hb]
      exact h
    clear ha hb hc hd hx hy
    generalize decide (x < y) = r at *
    generalize mk ((bs b).drop 1) = b' at *
    generalize mk ((bs a).drop 1) = a' at *
    go_enter Tryd.func12, Tryd.ntmps12
    go_wp2_with fail
    go_quiet ((go_at_call 17; with_reducible exact Calls.quiet_of_same (C.out _)))
    go_wp2_with fail
    go_ret
    exact ⟨rfl, _, rfl⟩
  · rw [decide_eq_true hx] at hcd
    rw [decide_eq_false hy] at hdd
    have e : decide (x < y) = true := decide_eq_true (by omega)
    rw [e]
    clear ha hb hc hd hx hy e
    go_enter Tryd.func12, Tryd.ntmps12
    go_wp2_with fail
    go_ret
    exact ⟨rfl, 0, rfl⟩
  · rw [decide_eq_false hx] at hcd
    rw [decide_eq_true hy] at hdd
    have e : decide (x < y) = false := decide_eq_false (by omega)
    rw [e]
    clear ha hb hc hd hx hy e
    go_enter Tryd.func12, Tryd.ntmps12
    go_wp2_with fail
    go_ret
    exact ⟨rfl, 0, rfl⟩
  · rw [decide_eq_false hx] at hcd
    rw [decide_eq_false hy] at hdd
    have C : Hid (∀ W, Calls Tryd.prog 17 #[.string a, .string b] W fun e w' => e = .returned (.bool (decide (x < y))) ∧ w' = W) := fun W => by
      have h := mag_any a b W
      rw [ha, hb, mag_itoa hx hy] at h
      exact h
    clear ha hb hc hd hx hy
    generalize decide (x < y) = r at *
    go_enter Tryd.func12, Tryd.ntmps12
    go_wp2_with fail
    refine (C.out _).mono ?_
    rintro e w' ⟨rfl, hw⟩
    obtain rfl := hw.symm
    clear hw
    go_wp2_with fail
    go_ret
    exact ⟨rfl, 0, rfl⟩
end Go.Proofs.Qxb6630339aDoor
