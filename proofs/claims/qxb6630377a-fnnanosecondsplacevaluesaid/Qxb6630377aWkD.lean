/- The walk of FnNanosecondsPlaceValue. -/
import Derived.Test.Qxb6630377aWkC
namespace Go.Proofs.Qxb6630377a
open Go.RowKit

set_option maxHeartbeats 400000 in
theorem place_big (a : Option Addr) (len cap : Nat) (p : Int) (w : World) (h : 1048576 < len) :
    Calls Try.prog 4 #[.slice a len cap, .int .i64 p] w fun e w' => e = .returned (.bool true) ∧ Below w.heap.size w w' := by
  go_enter Try.func4, Try.ntmps4
  go_wp2_with fail
  refine (bytesB_no _ _ _ _ _ h).mono ?_
  rintro e w' ⟨rfl, hw⟩
  obtain rfl := hw.symm
  go_wp2_with fail
  go_ret
  exact ⟨rfl, Below.refl _ _⟩

set_option maxHeartbeats 400000 in
theorem place_neg (a : Option Addr) (len cap : Nat) (p : Int) (w : World) (h : len ≤ 1048576) (hp : p < 0) :
    Calls Try.prog 4 #[.slice a len cap, .int .i64 p] w fun e w' => e = .returned (.bool true) ∧ Below w.heap.size w w' := by
  have d1 : decide ((1048576 : Int) < (len : Int)) = false := by simp; omega
  have d2 : decide (p < 0) = true := by simp; omega
  go_enter Try.func4, Try.ntmps4
  go_wp2_with fail
  refine (bytesB_yes _ _ _ _ _ h).mono ?_
  rintro e w' ⟨rfl, hw⟩
  obtain rfl := hw.symm
  go_wp2_with fail
  go_ret
  exact ⟨rfl, Below.refl _ _⟩

set_option maxHeartbeats 400000 in
theorem place_past (a : Option Addr) (len cap : Nat) (p : Int) (w : World) (h : len ≤ 1048576) (h0 : 0 ≤ p) (hp : (len : Int) ≤ p) :
    Calls Try.prog 4 #[.slice a len cap, .int .i64 p] w fun e w' => e = .returned (.bool true) ∧ Below w.heap.size w w' := by
  have d1 : decide ((1048576 : Int) < (len : Int)) = false := by simp; omega
  have d2 : decide (p < 0) = false := by simp; omega
  have d3 : decide ((len : Int) ≤ p) = true := by simp; omega
  go_enter Try.func4, Try.ntmps4
  go_wp2_with fail
  refine (bytesB_yes _ _ _ _ _ h).mono ?_
  rintro e w' ⟨rfl, hw⟩
  obtain rfl := hw.symm
  go_wp2_with fail
  go_ret
  exact ⟨rfl, Below.refl _ _⟩

theorem up_bd {p : Nat} {z : Nat → Int} (hz : ∀ i, 0 ≤ z i ∧ z i ≤ 255) (i : Nat) : 0 ≤ Pl.up p z i ∧ Pl.up p z i ≤ 255 := by
  unfold Pl.up
  split
  · omega
  · exact hz i

set_option maxHeartbeats 1000000 in
theorem place_row (x : Addr) (len cap : Nat) (zs : List Int) (p : Nat) (w : World) (hl : len ≤ cap) (hz : zs.length = cap) (hcell : ∀ i, i < zs.length → w.cell? (x.add i) = some (.int .u8 (zs.getD i 0))) (hwz : ∀ i, 0 ≤ zs.getD i 0 ∧ zs.getD i 0 ≤ 255) (h20 : len ≤ 1048576) (hp : p < len) :
    Calls Try.prog 4 #[.slice (some x) len cap, .int .i64 p] w fun e w' => e = .returned (.bool true) ∧ Below w.heap.size w w' := by
  have hmk := run_make_row' (P := Try.prog) 22 5 (.int .u8 0) 1 Try.underlying22 info5 rfl .i64 .i64 len (by omega) (by omega)
  have d1 : decide ((1048576 : Int) < (len : Int)) = false := by simp; omega
  have d2 : decide ((p : Int) < 0) = false := by simp
  have d3 : decide (len ≤ p) = false := by simp; omega
  have hne := fun w => Go.run_neq_slice_nil (P := Try.prog) w 22 5 (some x) len cap Try.underlying22
  obtain ⟨W2, hcp, hrow, hB2, hs2⟩ := copied x len cap zs w hl hz hcell
  obtain ⟨z, hzd⟩ : ∃ z : Nat → Int, z = fun i => zs.getD i 0 := ⟨_, rfl⟩
  have hzb : ∀ i, 0 ≤ z i ∧ z i ≤ 255 := by rw [hzd]; exact hwz
  have ROW : Hid (W2.rowIs w.heap.size 5 len (fun i => .int .u8 (z i))) := by rw [hzd]; exact hrow
  have HS2 : Hid (W2.heap.size = w.heap.size + 1) := hs2
  clear hzd hrow hs2
  have HZB : Hid (∀ i, 0 ≤ z i ∧ z i ≤ 255) := hzb
  clear hzb hwz hcell
  go_enter Try.func4, Try.ntmps4
  go_wp2_with fail
  refine (bytesB_yes _ _ _ _ _ h20).mono ?_
  rintro e w' ⟨rfl, hw⟩
  obtain rfl := hw.symm
  go_wp2_with fail
  clear hcp hmk hne
  have hs2 : w.heap.size < W2.heap.size := by have := HS2.out; omega
  go_loopw [7] (fun i wr => ∃ k : Nat, k ≤ len ∧ i = .int .i64 k ∧ wr.rowIs w.heap.size 5 len (fun i => .int .u8 (z i)) ∧ wr.rowIs W2.heap.size 5 len (fun j => .int .u8 (if j < k then z j else 0)) ∧ Below w.heap.size w wr) (fun i _ => len - (intOf i).toNat)
  case atStart =>
    refine ⟨0, Nat.zero_le _, rfl, ROW.out.alloc _, ?_, hB2.alloc (by omega) _⟩
    exact (World.rowIs_made W2 (.int .u8 0) len 5).congr (fun i _ => by simp)
  case round =>
    obtain ⟨k, hk, rfl, hr, he, hb⟩ := hrel
    by_cases hlt : k < len
    · have g1 := hr.cell (i := k) (by omega)
      have g2 := he.cell (i := k) (by omega)
      have g3 := he.frozen k
      go_wp2_with fail
      go_roundw
      case rel =>
        refine ⟨k + 1, by omega, by go_num, hr.setOther (by simp; omega) _, (he.set k _).congr (fun j _ => ?_), hb.setCell (by simp; omega) _⟩
        by_cases e : j = k
        · subst e; simp
        · rw [if_neg e]
          by_cases e2 : j < k
          · rw [if_pos e2, if_pos (by omega)]
          · rw [if_neg e2, if_neg (by omega)]
      case measure => simp [intOf]; omega
    · obtain rfl : len = k := by omega
      have g1 := hr.cell (i := p) hp
      have g2 := he.cell (i := p) hp
      have g3 := he.frozen p
      go_wp2_with fail
      obtain ⟨Wf, hWf⟩ : ∃ Wf, Wf = wr.setCell ⟨W2.heap.size, p, none⟩ (.int .u8 ((z p + 1) % 256)) := ⟨_, rfl⟩
      have rd : Wf.rowIs w.heap.size 5 len (fun i => .int .u8 (z i)) := by rw [hWf]; exact hr.setOther (by simp; omega) _
      have re : Wf.rowIs W2.heap.size 5 len (fun i => .int .u8 (Pl.up p z i)) := by
        rw [hWf]; exact (he.set p _).congr (fun j hj => by
          unfold Pl.up
          by_cases e : j = p
          · subst e; rw [if_pos rfl, if_pos rfl]
          · rw [if_neg e, if_neg e, if_pos hj])
      have hbf : Below w.heap.size w Wf := by rw [hWf]; exact hb.setCell (by simp; omega) _
      rw [← hWf]
      clear g1 g2 g3 hr he hb hWf hB2 ROW
      have gp := rd.cell (i := p) hp
      have C1 : Hid (Calls Try.prog 6 #[.slice (some ⟨w.heap.size, 0, none⟩) len len] Wf fun e w' => e = .returned (.int .i64 (Pl.nv len z)) ∧ w' = Wf) :=
        zz_any _ _ _ _ _ (by omega) (fun i hi => ⟨_, _, rfl, by rw [Nat.zero_add, rd.cell hi]⟩) HZB.out
      have C2 : Hid (Calls Try.prog 6 #[.slice (some ⟨W2.heap.size, 0, none⟩) len len] Wf fun e w' => e = .returned (.int .i64 (Pl.nv len (Pl.up p z))) ∧ w' = Wf) :=
        zz_any _ _ _ _ _ (by omega) (fun i hi => ⟨_, _, rfl, by rw [Nat.zero_add, re.cell hi]⟩) (up_bd HZB.out)
      have hstep := Pl.up_diff hp (HZB.out p)
      have b1 := Pl.nv_bd len z
      have b2 := Pl.nv_bd len (Pl.up p z)
      have RD : Hid (Wf.rowIs w.heap.size 5 len (fun i => .int .u8 (z i))) := rd
      have M : Hid (Pl.nv len z % Pl.pw (9 - min len 9) = 0) := Pl.multiple rfl
      have SM : Hid ((∀ i, i < min len 9 → 48 ≤ z i ∧ z i ≤ 57) → Pl.nv len z < 1000000000) := Pl.digits_small rfl
      clear re rd
      generalize Pl.nv len (Pl.up p z) = af at *
      generalize Pl.nv len z = bf at *
      refine C1.out.mono ?_
      rintro e w' ⟨rfl, hw⟩
      obtain rfl := hw.symm
      go_wp2_with fail
      refine C2.out.mono ?_
      rintro e w' ⟨rfl, hw⟩
      obtain rfl := hw.symm
      clear C1 C2
      have zb := HZB.out p
      have hA := pw_le8 (k := 8 - p) (by omega)
      have hA' := pw_le (k := 8 - p) (by omega)
      have CA : Hid (p < 9 → ∀ W, Calls Try.prog 7 #[.int .i64 (8 - (p : Int))] W fun e w' => e = .returned (.int .i64 (Pl.pw (8 - p))) ∧ w' = W) := by
        intro h W
        have := pow_int (8 - (p : Int)) W (by omega) (by omega)
        rwa [show (8 - (p : Int)).toNat = 8 - p by omega] at this
      unfold Pl.step at hstep
      generalize Pl.pw (8 - p) = A at *
      by_cases h9 : p < 9
      · rw [if_pos h9] at hstep
        by_cases h47 : z p = 47
        · rw [if_pos h47] at hstep
          have h47' : (z p == 47) = true := by rw [h47]; rfl
          have HST : (af - bf != -255 * A) = false := by rw [hstep]; simp
          clear h47 hstep
          by_cases hl9 : 9 < len
          · have d9 : decide ((9 : Int) < (len : Int)) = true := by simp; omega
            have CB : Hid (∀ W, Calls Try.prog 7 #[.int .i64 0] W fun e w' => e = .returned (.int .i64 (Pl.pw 0)) ∧ w' = W) := fun W => pow_int 0 W (by omega) (by omega)
            have hBq := pw_le (k := 0) (by omega)
            have m1 : bf % Pl.pw (0) = 0 := by have := M.out; rwa [show 9 - min len 9 = 0 by omega] at this
            generalize Pl.pw (0) = Bq at *
            have HM : (bf % Bq != 0) = false := by rw [m1]; rfl
            clear m1 M
            have SMn : Hid ((∀ i, i < 9 → 48 ≤ z i ∧ z i ≤ 57) → bf < 1000000000) := by
              have := SM.out; rwa [show min len 9 = 9 by omega] at this
            clear SM
            go_wp2_with fail
            refine (CA.out h9 _).mono ?_
            rintro e w' ⟨rfl, hw⟩
            obtain rfl := hw.symm
            go_wp2_with fail
            refine (CB.out _).mono ?_
            rintro e w' ⟨rfl, hw⟩
            obtain rfl := hw.symm
            clear CB
            go_wp2_with fail
            go_loop [12, 13] (fun g i => ∃ (k : Nat) (b : Bool), k ≤ 9 ∧ i = .int .i64 k ∧ g = .bool b ∧ (b = true → ∀ i, i < k → 48 ≤ z i ∧ z i ≤ 57)) (fun _ i => 9 - (intOf i).toNat)
            case atStart => exact ⟨0, true, Nat.zero_le _, rfl, rfl, fun _ i hi => by omega⟩
            case round =>
              obtain ⟨k, b, hk, rfl, rfl, hgood⟩ := hrel
              have HG : Hid (b = true → ∀ i, i < k → 48 ≤ z i ∧ z i ≤ 57) := hgood
              clear hgood
              by_cases hlt2 : k < 9
              · have gk := RD.out.cell (i := k) (by omega)
                by_cases hlo : z k < 48
                · have q1 : decide (z k < 48) = true := by simp; omega
                  go_wp2_with fail
                  go_round
                  case rel => exact ⟨k + 1, false, by omega, by go_num, rfl, fun h => by cases h⟩
                  case measure => simp [intOf]; omega
                · have q1 : decide (z k < 48) = false := by simp; omega
                  by_cases hhi : 57 < z k
                  · have q2 : decide (57 < z k) = true := by simp; omega
                    go_wp2_with fail
                    go_round
                    case rel => exact ⟨k + 1, false, by omega, by go_num, rfl, fun h => by cases h⟩
                    case measure => simp [intOf]; omega
                  · have q2 : decide (57 < z k) = false := by simp; omega
                    go_wp2_with fail
                    go_round
                    case rel => exact ⟨k + 1, b, by omega, by go_num, rfl, fun h i hi => by
                      rcases Nat.lt_or_ge i k with h1 | h1
                      · exact HG.out h i h1
                      · obtain rfl : i = k := by omega
                        omega⟩
                    case measure => simp [intOf]; omega
              · obtain rfl : k = 9 := by omega
                cases b
                · go_wp2_with fail
                  go_ret
                  exact ⟨rfl, hbf⟩
                · have hsm := SMn.out (HG.out rfl)
                  go_wp2_with fail
                  go_ret
                  exact ⟨rfl, hbf⟩
          · have d9 : decide ((9 : Int) < (len : Int)) = false := by simp; omega
            have CB : Hid (∀ W, Calls Try.prog 7 #[.int .i64 (9 - (len : Int))] W fun e w' => e = .returned (.int .i64 (Pl.pw (9 - len))) ∧ w' = W) := by
              intro W
              have := pow_int (9 - (len : Int)) W (by omega) (by omega)
              rwa [show (9 - (len : Int)).toNat = 9 - len by omega] at this
            have hBq := pw_le (k := 9 - len) (by omega)
            have m1 : bf % Pl.pw (9 - len) = 0 := by have := M.out; rwa [show 9 - min len 9 = 9 - len by omega] at this
            generalize Pl.pw (9 - len) = Bq at *
            have HM : (bf % Bq != 0) = false := by rw [m1]; rfl
            clear m1 M
            have SMn : Hid ((∀ i, i < len → 48 ≤ z i ∧ z i ≤ 57) → bf < 1000000000) := by
              have := SM.out; rwa [show min len 9 = len by omega] at this
            clear SM
            go_wp2_with fail
            refine (CA.out h9 _).mono ?_
            rintro e w' ⟨rfl, hw⟩
            obtain rfl := hw.symm
            go_wp2_with fail
            refine (CB.out _).mono ?_
            rintro e w' ⟨rfl, hw⟩
            obtain rfl := hw.symm
            clear CB
            go_wp2_with fail
            go_loop [12, 13] (fun g i => ∃ (k : Nat) (b : Bool), k ≤ len ∧ i = .int .i64 k ∧ g = .bool b ∧ (b = true → ∀ i, i < k → 48 ≤ z i ∧ z i ≤ 57)) (fun _ i => len - (intOf i).toNat)
            case atStart => exact ⟨0, true, Nat.zero_le _, rfl, rfl, fun _ i hi => by omega⟩
            case round =>
              obtain ⟨k, b, hk, rfl, rfl, hgood⟩ := hrel
              have HG : Hid (b = true → ∀ i, i < k → 48 ≤ z i ∧ z i ≤ 57) := hgood
              clear hgood
              by_cases hlt2 : k < len
              · have gk := RD.out.cell (i := k) (by omega)
                by_cases hlo : z k < 48
                · have q1 : decide (z k < 48) = true := by simp; omega
                  go_wp2_with fail
                  go_round
                  case rel => exact ⟨k + 1, false, by omega, by go_num, rfl, fun h => by cases h⟩
                  case measure => simp [intOf]; omega
                · have q1 : decide (z k < 48) = false := by simp; omega
                  by_cases hhi : 57 < z k
                  · have q2 : decide (57 < z k) = true := by simp; omega
                    go_wp2_with fail
                    go_round
                    case rel => exact ⟨k + 1, false, by omega, by go_num, rfl, fun h => by cases h⟩
                    case measure => simp [intOf]; omega
                  · have q2 : decide (57 < z k) = false := by simp; omega
                    go_wp2_with fail
                    go_round
                    case rel => exact ⟨k + 1, b, by omega, by go_num, rfl, fun h i hi => by
                      rcases Nat.lt_or_ge i k with h1 | h1
                      · exact HG.out h i h1
                      · obtain rfl : i = k := by omega
                        omega⟩
                    case measure => simp [intOf]; omega
              · obtain rfl : k = len := by omega
                cases b
                · go_wp2_with fail
                  go_ret
                  exact ⟨rfl, hbf⟩
                · have hsm := SMn.out (HG.out rfl)
                  go_wp2_with fail
                  go_ret
                  exact ⟨rfl, hbf⟩
        · rw [if_neg h47] at hstep
          have h47' : (z p == 47) = false := by simp [h47]
          have HST : (af - bf != A) = false := by rw [hstep]; simp
          clear h47 hstep
          by_cases hl9 : 9 < len
          · have d9 : decide ((9 : Int) < (len : Int)) = true := by simp; omega
            have CB : Hid (∀ W, Calls Try.prog 7 #[.int .i64 0] W fun e w' => e = .returned (.int .i64 (Pl.pw 0)) ∧ w' = W) := fun W => pow_int 0 W (by omega) (by omega)
            have hBq := pw_le (k := 0) (by omega)
            have m1 : bf % Pl.pw (0) = 0 := by have := M.out; rwa [show 9 - min len 9 = 0 by omega] at this
            generalize Pl.pw (0) = Bq at *
            have HM : (bf % Bq != 0) = false := by rw [m1]; rfl
            clear m1 M
            have SMn : Hid ((∀ i, i < 9 → 48 ≤ z i ∧ z i ≤ 57) → bf < 1000000000) := by
              have := SM.out; rwa [show min len 9 = 9 by omega] at this
            clear SM
            go_wp2_with fail
            refine (CA.out h9 _).mono ?_
            rintro e w' ⟨rfl, hw⟩
            obtain rfl := hw.symm
            go_wp2_with fail
            refine (CB.out _).mono ?_
            rintro e w' ⟨rfl, hw⟩
            obtain rfl := hw.symm
            clear CB
            go_wp2_with fail
            go_loop [12, 13] (fun g i => ∃ (k : Nat) (b : Bool), k ≤ 9 ∧ i = .int .i64 k ∧ g = .bool b ∧ (b = true → ∀ i, i < k → 48 ≤ z i ∧ z i ≤ 57)) (fun _ i => 9 - (intOf i).toNat)
            case atStart => exact ⟨0, true, Nat.zero_le _, rfl, rfl, fun _ i hi => by omega⟩
            case round =>
              obtain ⟨k, b, hk, rfl, rfl, hgood⟩ := hrel
              have HG : Hid (b = true → ∀ i, i < k → 48 ≤ z i ∧ z i ≤ 57) := hgood
              clear hgood
              by_cases hlt2 : k < 9
              · have gk := RD.out.cell (i := k) (by omega)
                by_cases hlo : z k < 48
                · have q1 : decide (z k < 48) = true := by simp; omega
                  go_wp2_with fail
                  go_round
                  case rel => exact ⟨k + 1, false, by omega, by go_num, rfl, fun h => by cases h⟩
                  case measure => simp [intOf]; omega
                · have q1 : decide (z k < 48) = false := by simp; omega
                  by_cases hhi : 57 < z k
                  · have q2 : decide (57 < z k) = true := by simp; omega
                    go_wp2_with fail
                    go_round
                    case rel => exact ⟨k + 1, false, by omega, by go_num, rfl, fun h => by cases h⟩
                    case measure => simp [intOf]; omega
                  · have q2 : decide (57 < z k) = false := by simp; omega
                    go_wp2_with fail
                    go_round
                    case rel => exact ⟨k + 1, b, by omega, by go_num, rfl, fun h i hi => by
                      rcases Nat.lt_or_ge i k with h1 | h1
                      · exact HG.out h i h1
                      · obtain rfl : i = k := by omega
                        omega⟩
                    case measure => simp [intOf]; omega
              · obtain rfl : k = 9 := by omega
                cases b
                · go_wp2_with fail
                  go_ret
                  exact ⟨rfl, hbf⟩
                · have hsm := SMn.out (HG.out rfl)
                  go_wp2_with fail
                  go_ret
                  exact ⟨rfl, hbf⟩
          · have d9 : decide ((9 : Int) < (len : Int)) = false := by simp; omega
            have CB : Hid (∀ W, Calls Try.prog 7 #[.int .i64 (9 - (len : Int))] W fun e w' => e = .returned (.int .i64 (Pl.pw (9 - len))) ∧ w' = W) := by
              intro W
              have := pow_int (9 - (len : Int)) W (by omega) (by omega)
              rwa [show (9 - (len : Int)).toNat = 9 - len by omega] at this
            have hBq := pw_le (k := 9 - len) (by omega)
            have m1 : bf % Pl.pw (9 - len) = 0 := by have := M.out; rwa [show 9 - min len 9 = 9 - len by omega] at this
            generalize Pl.pw (9 - len) = Bq at *
            have HM : (bf % Bq != 0) = false := by rw [m1]; rfl
            clear m1 M
            have SMn : Hid ((∀ i, i < len → 48 ≤ z i ∧ z i ≤ 57) → bf < 1000000000) := by
              have := SM.out; rwa [show min len 9 = len by omega] at this
            clear SM
            go_wp2_with fail
            refine (CA.out h9 _).mono ?_
            rintro e w' ⟨rfl, hw⟩
            obtain rfl := hw.symm
            go_wp2_with fail
            refine (CB.out _).mono ?_
            rintro e w' ⟨rfl, hw⟩
            obtain rfl := hw.symm
            clear CB
            go_wp2_with fail
            go_loop [12, 13] (fun g i => ∃ (k : Nat) (b : Bool), k ≤ len ∧ i = .int .i64 k ∧ g = .bool b ∧ (b = true → ∀ i, i < k → 48 ≤ z i ∧ z i ≤ 57)) (fun _ i => len - (intOf i).toNat)
            case atStart => exact ⟨0, true, Nat.zero_le _, rfl, rfl, fun _ i hi => by omega⟩
            case round =>
              obtain ⟨k, b, hk, rfl, rfl, hgood⟩ := hrel
              have HG : Hid (b = true → ∀ i, i < k → 48 ≤ z i ∧ z i ≤ 57) := hgood
              clear hgood
              by_cases hlt2 : k < len
              · have gk := RD.out.cell (i := k) (by omega)
                by_cases hlo : z k < 48
                · have q1 : decide (z k < 48) = true := by simp; omega
                  go_wp2_with fail
                  go_round
                  case rel => exact ⟨k + 1, false, by omega, by go_num, rfl, fun h => by cases h⟩
                  case measure => simp [intOf]; omega
                · have q1 : decide (z k < 48) = false := by simp; omega
                  by_cases hhi : 57 < z k
                  · have q2 : decide (57 < z k) = true := by simp; omega
                    go_wp2_with fail
                    go_round
                    case rel => exact ⟨k + 1, false, by omega, by go_num, rfl, fun h => by cases h⟩
                    case measure => simp [intOf]; omega
                  · have q2 : decide (57 < z k) = false := by simp; omega
                    go_wp2_with fail
                    go_round
                    case rel => exact ⟨k + 1, b, by omega, by go_num, rfl, fun h i hi => by
                      rcases Nat.lt_or_ge i k with h1 | h1
                      · exact HG.out h i h1
                      · obtain rfl : i = k := by omega
                        omega⟩
                    case measure => simp [intOf]; omega
              · obtain rfl : k = len := by omega
                cases b
                · go_wp2_with fail
                  go_ret
                  exact ⟨rfl, hbf⟩
                · have hsm := SMn.out (HG.out rfl)
                  go_wp2_with fail
                  go_ret
                  exact ⟨rfl, hbf⟩
      · rw [if_neg h9] at hstep
        have HST : (af - bf != 0) = false := by rw [hstep]; rfl
        clear hstep
        by_cases hl9 : 9 < len
        · have d9 : decide ((9 : Int) < (len : Int)) = true := by simp; omega
          have CB : Hid (∀ W, Calls Try.prog 7 #[.int .i64 0] W fun e w' => e = .returned (.int .i64 (Pl.pw 0)) ∧ w' = W) := fun W => pow_int 0 W (by omega) (by omega)
          have hBq := pw_le (k := 0) (by omega)
          have m1 : bf % Pl.pw (0) = 0 := by have := M.out; rwa [show 9 - min len 9 = 0 by omega] at this
          generalize Pl.pw (0) = Bq at *
          have HM : (bf % Bq != 0) = false := by rw [m1]; rfl
          clear m1 M
          have SMn : Hid ((∀ i, i < 9 → 48 ≤ z i ∧ z i ≤ 57) → bf < 1000000000) := by
            have := SM.out; rwa [show min len 9 = 9 by omega] at this
          clear SM
          go_wp2_with fail
          refine (CB.out _).mono ?_
          rintro e w' ⟨rfl, hw⟩
          obtain rfl := hw.symm
          clear CB
          go_wp2_with fail
          go_loop [12, 13] (fun g i => ∃ (k : Nat) (b : Bool), k ≤ 9 ∧ i = .int .i64 k ∧ g = .bool b ∧ (b = true → ∀ i, i < k → 48 ≤ z i ∧ z i ≤ 57)) (fun _ i => 9 - (intOf i).toNat)
          case atStart => exact ⟨0, true, Nat.zero_le _, rfl, rfl, fun _ i hi => by omega⟩
          case round =>
            obtain ⟨k, b, hk, rfl, rfl, hgood⟩ := hrel
            have HG : Hid (b = true → ∀ i, i < k → 48 ≤ z i ∧ z i ≤ 57) := hgood
            clear hgood
            by_cases hlt2 : k < 9
            · have gk := RD.out.cell (i := k) (by omega)
              by_cases hlo : z k < 48
              · have q1 : decide (z k < 48) = true := by simp; omega
                go_wp2_with fail
                go_round
                case rel => exact ⟨k + 1, false, by omega, by go_num, rfl, fun h => by cases h⟩
                case measure => simp [intOf]; omega
              · have q1 : decide (z k < 48) = false := by simp; omega
                by_cases hhi : 57 < z k
                · have q2 : decide (57 < z k) = true := by simp; omega
                  go_wp2_with fail
                  go_round
                  case rel => exact ⟨k + 1, false, by omega, by go_num, rfl, fun h => by cases h⟩
                  case measure => simp [intOf]; omega
                · have q2 : decide (57 < z k) = false := by simp; omega
                  go_wp2_with fail
                  go_round
                  case rel => exact ⟨k + 1, b, by omega, by go_num, rfl, fun h i hi => by
                    rcases Nat.lt_or_ge i k with h1 | h1
                    · exact HG.out h i h1
                    · obtain rfl : i = k := by omega
                      omega⟩
                  case measure => simp [intOf]; omega
            · obtain rfl : k = 9 := by omega
              cases b
              · go_wp2_with fail
                go_ret
                exact ⟨rfl, hbf⟩
              · have hsm := SMn.out (HG.out rfl)
                go_wp2_with fail
                go_ret
                exact ⟨rfl, hbf⟩
        · exfalso; omega
end Go.Proofs.Qxb6630377a
