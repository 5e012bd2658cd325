/- decimal. -/
import Derived.Test.Qxb6630339aDoorSc
import Derived.Lib.ItoaMem
namespace Go.Proofs.Qxb6630339aDoor
open Go.RowKit Go.Maps

def restD (u : Nat) : Bs := if u < 10 then [] else Lib.decDigits (u / 10)

theorem dec_split (u : Nat) : Lib.decDigits u = restD u ++ [UInt8.ofNat (48 + u % 10)] := by
  unfold restD
  rw [Lib.decDigits]
  by_cases h : u < 10
  · rw [dif_pos h, if_pos h, Nat.mod_eq_of_lt h]; rfl
  · rw [dif_neg h, if_neg h]

theorem addp (b o n : Nat) : (⟨b, o, none⟩ : Addr).add n = ⟨b, o + n, none⟩ := by
  unfold Addr.add
  split
  · subst_vars; rfl
  · rfl

/-- What the loop of decimal keeps. -/
def DI (w wr : World) (U u idx : Nat) : Prop :=
  ∃ (L : Bs) (f : Nat → Value), idx + L.length = 24 ∧ restD u ++ L = Lib.decDigits U ∧ wr.rowIs w.heap.size 42 24 f ∧ (∀ t c, L[t]? = some c → f (idx + t) = .int .u8 (c.toNat : Int)) ∧ Lat w wr

theorem dig8 {d : Nat} (h : d < 10) : ((UInt8.ofNat (48 + d)).toNat : Int) = 48 + (d : Int) := by
  rw [UInt8.toNat_ofNat']
  omega

theorem di_start (w : World) (U : Nat) (c : Array Value) (hc : c.size = 24) (h : c[23]? = some (.int .u8 (48 + (U : Int) % 10))) : DI w (w.alloc (.cells c 42)) U U 23 := by
  have hr := World.rowIs_alloc w c 42 (fun i => (c[i]?).getD undef) (fun i hi => by rw [Array.getElem?_eq_getElem hi]; rfl)
  rw [hc] at hr
  refine ⟨[UInt8.ofNat (48 + U % 10)], _, rfl, (dec_split U).symm, hr, fun t x hx => ?_, (Lat.refl w).alloc _⟩
  have ht : t = 0 := by
    rcases Nat.eq_zero_or_pos t with h0 | h0
    · exact h0
    · rw [List.getElem?_eq_none (by simp; omega)] at hx; cases hx
  subst ht
  rw [List.getElem?_cons_zero] at hx
  obtain rfl := Option.some.inj hx
  show (c[23]?).getD undef = _
  rw [h, dig8 (Nat.mod_lt _ (by omega))]
  simp

theorem di_step {w wr : World} {U u j : Nat} (h : DI w wr U u (j + 1)) (hu : 10 ≤ u) : DI w (wr.setCell ⟨w.heap.size, j, none⟩ (.int .u8 (48 + ((u / 10 : Nat) : Int) % 10))) U (u / 10) j := by
  obtain ⟨L, f, h1, h2, h3, h4, h5⟩ := h
  refine ⟨UInt8.ofNat (48 + (u / 10) % 10) :: L, _, by simp; omega, ?_, h3.set j _, fun t x hx => ?_, h5.setCell (Nat.le_refl _) _⟩
  · rw [← h2]
    have e : restD u = Lib.decDigits (u / 10) := by unfold restD; rw [if_neg (by omega)]
    rw [e, dec_split (u / 10)]
    simp
  · cases t with
    | zero =>
      rw [List.getElem?_cons_zero] at hx
      obtain rfl := Option.some.inj hx
      simp only [Nat.add_zero, if_true]
      rw [dig8 (Nat.mod_lt _ (by omega))]
      simp
    | succ t =>
      rw [List.getElem?_cons_succ] at hx
      have := h4 t x hx
      show (if j + (t + 1) = j then _ else f (j + (t + 1))) = _
      rw [if_neg (by omega), ← this]
      congr 1
      omega

theorem di_len {w wr : World} {U u idx : Nat} (h : DI w wr U u idx) (hU : (Lib.decDigits U).length ≤ 21) : 3 ≤ idx ∧ idx ≤ 24 ∧ (10 ≤ u → 4 ≤ idx) := by
  obtain ⟨L, f, h1, h2, _⟩ := h
  have hl := congrArg List.length h2
  rw [List.length_append] at hl
  refine ⟨by omega, by omega, fun hu => ?_⟩
  have : 1 ≤ (restD u).length := by
    unfold restD
    rw [if_neg (by omega), Lib.decDigits_length]
    exact Lib.nDigits_pos _
  omega

theorem di_pos {w wr : World} {U u idx : Nat} (h : DI w wr U u idx) (hu : u < 10) : 1 ≤ 24 - idx := by
  obtain ⟨L, f, h1, h2, _⟩ := h
  have e : restD u = [] := by unfold restD; rw [if_pos hu]
  rw [e, List.nil_append] at h2
  have := Lib.nDigits_pos U
  rw [← Lib.decDigits_length, ← h2] at this
  omega

theorem di_cell {w wr : World} {U u idx : Nat} (h : DI w wr U u idx) {j : Nat} (hj : j < 24) : ∃ v, wr.cell? ⟨w.heap.size, j, none⟩ = some v ∧ wr.frozen? ⟨w.heap.size, j, none⟩ = false := by
  obtain ⟨L, f, _, _, h3, _⟩ := h
  exact ⟨_, h3.cell hj, h3.frozen j⟩

theorem run_tail (b idx : Nat) (hi : idx < 24) (W : World) : (Instr.sliceAt 42 (.pointer (some ⟨b, 0, none⟩)) (some (.int .i64 idx)) none none).run Tryd.prog W = .ok (.slice (some ⟨b, idx, none⟩) (24 - idx) (24 - idx)) W := by
  have e1 : Tryd.prog.arrayLen 42 = 24 := by kernel_rfl
  have e2 : Tryd.prog.elem 42 = 5 := by kernel_rfl
  have ht : Tryd.prog.underlying 42 = some (.array (Tryd.prog.arrayLen 42) (Tryd.prog.elem 42)) := by rw [e1, e2]; exact Tryd.underlying42
  have hs : (sizeOf 5).run Tryd.prog W = .ok 1 W := by kernel_rfl
  rw [run_sliceAt_array_l W 42 ⟨b, 0, none⟩ ht .i64 idx (by omega) (by rw [e1]; omega), e1, e2, hs]
  simp only [Result.andThen_ok]
  unfold slicedAt
  rw [Int.toNat_natCast, if_neg (by omega), addp]
  simp

/-- The bytes, read back. -/
theorem di_back {w wr : World} {U u idx : Nat} (h : DI w wr U u idx) (hu : u < 10) : (convert 43 9 (.slice (some ⟨w.heap.size, idx, none⟩) (24 - idx) (24 - idx))).run Tryd.prog wr = .ok (.string (mk (Lib.decDigits U))) wr := by
  obtain ⟨L, f, h1, h2, h3, h4, _⟩ := h
  have e : restD u = [] := by unfold restD; rw [if_pos hu]
  rw [e, List.nil_append] at h2
  rw [← h2]
  have hl : 24 - idx = L.length := by omega
  rw [hl]
  refine run_convert_bytes_back wr 43 9 5 _ _ L Tryd.underlying43 Tryd.underlying5 Tryd.underlying9 (fun j hj => ?_)
  have := h4 j L[j] (List.getElem?_eq_getElem hj)
  rw [addp, h3.cell (by omega), this]

theorem di_back_neg {w wr : World} {U u j : Nat} (h : DI w wr U u (j + 1)) (hu : u < 10) : (convert 43 9 (.slice (some ⟨w.heap.size, j, none⟩) (24 - j) (24 - j))).run Tryd.prog (wr.setCell ⟨w.heap.size, j, none⟩ (.int .u8 45)) = .ok (.string (mk (45 :: Lib.decDigits U))) (wr.setCell ⟨w.heap.size, j, none⟩ (.int .u8 45)) := by
  obtain ⟨L, f, h1, h2, h3, h4, _⟩ := h
  have e : restD u = [] := by unfold restD; rw [if_pos hu]
  rw [e, List.nil_append] at h2
  rw [← h2]
  have h5 := h3.set j (.int .u8 45)
  have hl : 24 - j = (45 :: L).length := by simp; omega
  rw [hl]
  refine run_convert_bytes_back _ 43 9 5 _ _ (45 :: L) Tryd.underlying43 Tryd.underlying5 Tryd.underlying9 (fun i hj => ?_)
  simp at hj
  rw [addp, h5.cell (by omega)]
  cases i with
  | zero => simp
  | succ i =>
    have := h4 i L[i] (List.getElem?_eq_getElem (by omega))
    simp only [List.getElem_cons_succ]
    rw [if_neg (by omega), ← this]
    congr 2
    omega

set_option maxRecDepth 100000 in
set_option maxHeartbeats 4000000 in
theorem dec_any (z : Int) (w : World) (hz : (Lit.int .i64 z).wf = true) :
    Calls Tryd.prog 8 #[.int .i64 z] w fun e w' => e = .returned (numeral z) ∧ Lat w w' := by
  have hb := bounds_i64 hz
  by_cases hn : z < 0
  · skip
    obtain ⟨U, hzU⟩ : ∃ U : Nat, z = -(U : Int) := ⟨z.natAbs, by omega⟩
    have hU : (Lib.decDigits U).length ≤ 21 := by
      have h := Lib.itoa_length_le z hb.1 hb.2
      rw [hzU, Lib.itoa_neg U (by omega), List.length_cons] at h
      omega
    have EQ : Hid (numeral z = .string (mk (45 :: Lib.decDigits U))) := by
      have h : numeral z = .string (mk (45 :: Lib.decDigits U)) := by unfold numeral; rw [hzU, Lib.itoa_neg U (by omega)]
      exact h
    have hw1 : IntKind.u64.wrap (-IntKind.u64.wrap z) = (U : Int) := by
      simp [IntKind.wrap, IntKind.bits, IntKind.signed]
      omega
    have dn : decide (z < 0) = true := decide_eq_true hn
    have hUb : U ≤ 9223372036854775808 := by omega
    clear hb hn hz hzU
    rw [EQ.out]
    clear EQ
    go_enter Tryd.func8, Tryd.ntmps8
    go_wp2_with fail
    go_loopw [4, 6] (fun u i wr => ∃ (n idx : Nat), n ≤ U ∧ u = .int .u64 n ∧ i = .int .i64 idx ∧ DI w wr U n idx) (fun u _ _ => (intOf u).toNat)
    case atStart => exact ⟨U, 23, Nat.le_refl _, rfl, rfl, di_start w U _ rfl rfl⟩
    case round =>
      obtain ⟨n, idx, hn, rfl, rfl, hD⟩ := hrel
      obtain ⟨i3, i24, i4⟩ := di_len hD hU
      by_cases h10 : 10 ≤ n
      · obtain ⟨j, rfl⟩ : ∃ j, idx = j + 1 := ⟨idx - 1, by omega⟩
        obtain ⟨cv, hcv, hfv⟩ := di_cell hD (j := j) (by omega)
        have HS : Hid (DI w (wr.setCell ⟨w.heap.size, j, none⟩ (.int .u8 (48 + ((n / 10 : Nat) : Int) % 10))) U (n / 10) j) := di_step hD h10
        have hn1 : n / 10 < n := by omega
        clear hD
        go_wp2_with fail
        go_roundw
        case rel => exact ⟨n / 10, j, by omega, by go_num, by go_num, HS.out⟩
        case measure => simp [intOf]; omega
      · obtain ⟨j, rfl⟩ : ∃ j, idx = j + 1 := ⟨idx - 1, by omega⟩
        obtain ⟨cv, hcv, hfv⟩ := di_cell hD (j := j) (by omega)
        have hbk := di_back_neg hD (by omega)
        have htl := run_tail w.heap.size j (by omega)
        have hL : Lat w (wr.setCell ⟨w.heap.size, j, none⟩ (.int .u8 45)) := by
          obtain ⟨_, _, _, _, _, _, h⟩ := hD
          exact h.setCell (Nat.le_refl _) _
        clear hD
        go_wp2_with fail
        go_ret
        exact ⟨rfl, hL⟩
  · skip
    obtain ⟨U, rfl⟩ : ∃ U : Nat, z = (U : Int) := ⟨z.toNat, by omega⟩
    have hU : (Lib.decDigits U).length ≤ 21 := by
      have h := Lib.itoa_length_le (U : Int) hb.1 hb.2
      rw [Lib.itoa_nonneg U] at h
      exact h
    have EQ : Hid (numeral (U : Int) = .string (mk (Lib.decDigits U))) := by
      have h : numeral (U : Int) = .string (mk (Lib.decDigits U)) := by unfold numeral; rw [Lib.itoa_nonneg U]
      exact h
    have dn : decide ((U : Int) < 0) = false := decide_eq_false hn
    have hUb : U ≤ 9223372036854775808 := by omega
    clear hb hn hz
    rw [EQ.out]
    clear EQ
    go_enter Tryd.func8, Tryd.ntmps8
    go_wp2_with fail
    go_loopw [4, 6] (fun u i wr => ∃ (n idx : Nat), n ≤ U ∧ u = .int .u64 n ∧ i = .int .i64 idx ∧ DI w wr U n idx) (fun u _ _ => (intOf u).toNat)
    case atStart => exact ⟨U, 23, Nat.le_refl _, rfl, rfl, di_start w U _ rfl rfl⟩
    case round =>
      obtain ⟨n, idx, hn, rfl, rfl, hD⟩ := hrel
      obtain ⟨i3, i24, i4⟩ := di_len hD hU
      by_cases h10 : 10 ≤ n
      · obtain ⟨j, rfl⟩ : ∃ j, idx = j + 1 := ⟨idx - 1, by omega⟩
        obtain ⟨cv, hcv, hfv⟩ := di_cell hD (j := j) (by omega)
        have HS : Hid (DI w (wr.setCell ⟨w.heap.size, j, none⟩ (.int .u8 (48 + ((n / 10 : Nat) : Int) % 10))) U (n / 10) j) := di_step hD h10
        have hn1 : n / 10 < n := by omega
        clear hD
        go_wp2_with fail
        go_roundw
        case rel => exact ⟨n / 10, j, by omega, by go_num, by go_num, HS.out⟩
        case measure => simp [intOf]; omega
      · have hbk := di_back hD (by omega)
        have htl := run_tail w.heap.size idx (by have : 1 ≤ 24 - idx := di_pos hD (by omega); omega)
        have hL : Lat w wr := by
          obtain ⟨_, _, _, _, _, _, h⟩ := hD
          exact h
        clear hD
        go_wp2_with fail
        go_ret
        exact ⟨rfl, hL⟩
end Go.Proofs.Qxb6630339aDoor
