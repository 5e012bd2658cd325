/- The walk of FnNanosecondsInsertOne. -/
import Derived.Test.Qxb6630377aWkA
namespace Go.Proofs.Qxb6630377a
open Go.RowKit

theorem info5 : (Try.prog.info? 5).map (fun i => (i.zero, i.size, i.bytes)) = some (some (.int .u8 0), 1, 1) := by kernel_rfl

theorem pow_int (m : Int) (w : World) (h0 : 0 ≤ m) (h9 : m ≤ 9) : Calls Try.prog 7 #[.int .i64 m] w fun e w' => e = .returned (.int .i64 (Pl.pw m.toNat)) ∧ w' = w := by
  obtain ⟨n, rfl⟩ := Int.eq_ofNat_of_zero_le h0
  exact pow_any n w (by omega)

theorem made_toList (n : Nat) : (madeCells #[.int .u8 0] n).toList = List.replicate n (.int .u8 0) := by
  apply List.ext_getElem?
  intro i
  by_cases h : i < n <;> simp [madeCells, h, Nat.mod_one]

/-- The row behind the copy. -/
theorem row_copied {w : World} {g len : Nat} {zs : List Int} (hz : len ≤ zs.length) (h : w.heap[g]? = some (.cells (splice (List.replicate len (Value.int .u8 0)) 0 ((zs.take len).map (Value.int .u8))).toArray 5 (0, 0))) :
    w.rowIs g 5 len (fun i => .int .u8 (zs.getD i 0)) := by
  refine ⟨_, h, ?_, fun i hi => ?_⟩
  · simp [splice]; omega
  · have hi' : i < zs.length := by omega
    simp [splice, hi, hi', Nat.min_eq_left hz]

theorem ins_bd {p : Nat} {c : Int} {z : Nat → Int} (hz : ∀ i, 0 ≤ z i ∧ z i ≤ 255) (hc : 0 ≤ c ∧ c ≤ 255) (i : Nat) : 0 ≤ Pl.ins p c z i ∧ Pl.ins p c z i ≤ 255 := by
  unfold Pl.ins
  split
  · exact hz i
  · split
    · exact hc
    · exact hz _

theorem pw_le8 {k : Nat} (h : k ≤ 8) : Pl.pw k ≤ 100000000 := by
  unfold Pl.pw
  rcases (show k = 0 ∨ k = 1 ∨ k = 2 ∨ k = 3 ∨ k = 4 ∨ k = 5 ∨ k = 6 ∨ k = 7 ∨ k = 8 by omega) with rfl | rfl | rfl | rfl | rfl | rfl | rfl | rfl | rfl <;> decide

theorem near_wrap {got n1 n2 A Bq v : Int} (b1 : 0 ≤ n1 ∧ n1 ≤ 28333333305) (b2 : 0 ≤ n2 ∧ n2 ≤ 28333333305) (hA : 1 ≤ A ∧ A ≤ 1000000000) (hB : 1 ≤ Bq ∧ Bq ≤ 1000000000) (hA8 : A ≤ 100000000) (h : got = n1 + v % 256 * A + n2 / Bq) :
    (got == wrap64 (wrap64 (n1 + wrap64 (v % 256 * A)) + n2 / Bq)) = true := by
  have v0 : 0 ≤ v % 256 := Int.emod_nonneg _ (by decide)
  have v1 : v % 256 ≤ 255 := by omega
  generalize v % 256 = u at *
  have m0 : 0 ≤ u * A := Int.mul_nonneg v0 (by omega)
  have m1 : u * A ≤ 255 * 100000000 := Int.mul_le_mul v1 hA8 (by omega) (by omega)
  have q0 : 0 ≤ n2 / Bq := Int.ediv_nonneg b2.1 (by omega)
  have q1 : n2 / Bq ≤ n2 := Int.ediv_le_self _ b2.1
  generalize u * A = m at *
  generalize n2 / Bq = q at *
  rw [beq_iff_eq, h]
  unfold wrap64
  omega

/-- The copy that the law makes of its text. -/
theorem copied (x : Addr) (len cap : Nat) (zs : List Int) (w : World) (hl : len ≤ cap) (hz : zs.length = cap) (hcell : ∀ i, i < zs.length → w.cell? (x.add i) = some (.int .u8 (zs.getD i 0))) :
    ∃ W, (Builtin.copy_ #[22, 22] 3 #[.slice (some ⟨w.heap.size, 0, none⟩) len len, .slice (some x) len cap]).run Try.prog (w.alloc (.cells (madeCells #[.int .u8 0] len) 5)) = .ok (goInt len) W ∧ W.rowIs w.heap.size 5 len (fun i => .int .u8 (zs.getD i 0)) ∧ Below w.heap.size w W ∧ W.heap.size = w.heap.size + 1 := by
  have hg : (w.alloc (.cells (madeCells #[.int .u8 0] len) 5)).heap[w.heap.size]? = some (.cells (madeCells #[.int .u8 0] len) 5 (0, 0)) := Go.Deep.blk_alloc_new _ _
  have hlen : ((zs.take len).map (Value.int .u8)).length = len := by simp; omega
  have h := run_copy_row (P := Try.prog) (w.alloc (.cells (madeCells #[.int .u8 0] len) 5)) 22 22 3 5 w.heap.size 0 len len x len cap (madeCells #[.int .u8 0] len) 5 ((zs.take len).map (Value.int .u8)) Try.underlying22 (by kernel_rfl) hg
    (by rw [hlen]; exact (Nat.min_self len).symm)
    (by
      intro j v hj
      rw [List.getElem?_map, Option.map_eq_some_iff] at hj
      obtain ⟨u, hj2, rfl⟩ := hj
      rw [List.getElem?_take] at hj2
      have hj1 : j < len := by
        by_cases h : j < len
        · exact h
        · rw [if_neg h] at hj2; cases hj2
      rw [if_pos hj1] at hj2
      have hj3 : j < zs.length := by omega
      have hcl := hcell j hj3
      rw [World.cell?_alloc_lt _ _ _ (World.block_lt_of_cell? _ _ hcl), hcl]
      simp [List.getD, hj2])
    (by rw [hlen, size_madeCells]; omega)
    (by intro v hv; obtain ⟨u, _, rfl⟩ := List.mem_map.1 hv; rfl)
  rw [hlen] at h
  refine ⟨_, h, ?_, below_setRow ((Below.refl _ _).alloc (Nat.le_refl _) _) (Nat.le_refl _) _, by simp [World.setRow]⟩
  refine ⟨_, setRow_heap _ _ _ _ 5 _ hg, ?_, fun i hi => ?_⟩
  · simp [size_madeCells]; omega
  · have hi' : i < zs.length := by omega
    simp [hi, hi', size_madeCells, Nat.min_eq_left (show len ≤ zs.length by omega)]

set_option maxHeartbeats 1000000 in
theorem insert_row (x : Addr) (len cap : Nat) (zs : List Int) (p : Nat) (c : Int) (w : World) (hl : len ≤ cap) (hz : zs.length = cap) (hcell : ∀ i, i < zs.length → w.cell? (x.add i) = some (.int .u8 (zs.getD i 0))) (hwz : ∀ i, 0 ≤ zs.getD i 0 ∧ zs.getD i 0 ≤ 255) (hc : 0 ≤ c ∧ c ≤ 255) (h20 : len ≤ 1048576) (hp : p ≤ len) :
    Calls Try.prog 3 #[.slice (some x) len cap, .int .i64 p, .int .u8 c] w fun e w' => e = .returned (.bool true) ∧ Below w.heap.size w w' := by
  have hmk := run_make_row' (P := Try.prog) 22 5 (.int .u8 0) 1 Try.underlying22 info5 rfl .i64 .i64 len (by omega) (by omega)
  have hmk2 := run_make_row' (P := Try.prog) 22 5 (.int .u8 0) 1 Try.underlying22 info5 rfl .i64 .i64 (len + 1) (by omega) (by omega)
  have d1 : decide ((1048576 : Int) < (len : Int)) = false := by simp; omega
  have d2 : decide ((p : Int) < 0) = false := by simp
  have d3 : decide (len < p) = false := by simp; omega
  have hne := fun w => Go.run_neq_slice_nil (P := Try.prog) w 22 5 (some x) len cap Try.underlying22
  have e1 : ((len + 1 : Nat) : Int) = (len : Int) + 1 := by omega
  rw [e1] at hmk2
  clear e1
  obtain ⟨W2, hcp, hrow, hB2, hs2⟩ := copied x len cap zs w hl hz hcell
  obtain ⟨z, hzd⟩ : ∃ z : Nat → Int, z = fun i => zs.getD i 0 := ⟨_, rfl⟩
  have HZ : Hid (z = fun i => zs.getD i 0) := hzd
  have hzb : ∀ i, 0 ≤ z i ∧ z i ≤ 255 := by rw [hzd]; exact hwz
  have ROW : Hid (W2.rowIs w.heap.size 5 len (fun i => .int .u8 (z i))) := by rw [hzd]; exact hrow
  have HS2 : Hid (W2.heap.size = w.heap.size + 1) := hs2
  clear hzd hrow hs2
  have HZB : Hid (∀ i, 0 ≤ z i ∧ z i ≤ 255) := hzb
  clear hzb hwz hcell
  go_enter Try.func3, Try.ntmps3
  go_wp2_with fail
  refine (bytesA_yes _ _ _ _ _ _ h20).mono ?_
  rintro e w' ⟨rfl, hw⟩
  obtain rfl := hw.symm
  go_wp2_with fail
  clear hcp hmk hmk2 hne
  have hs2 : w.heap.size < W2.heap.size := by have := HS2.out; omega
  go_loopw [9] (fun i wr => ∃ k : Nat, k ≤ p ∧ i = .int .i64 k ∧ wr.rowIs w.heap.size 5 len (fun i => .int .u8 (z i)) ∧ wr.rowIs W2.heap.size 5 (len + 1) (fun j => .int .u8 (if j < k then z j else 0)) ∧ Below w.heap.size w wr) (fun i _ => p - (intOf i).toNat)
  case atStart =>
    refine ⟨0, Nat.zero_le _, rfl, ROW.out.alloc _, ?_, hB2.alloc (by omega) _⟩
    exact (World.rowIs_made W2 (.int .u8 0) (len + 1) 5).congr (fun i _ => by simp)
  case round =>
    obtain ⟨k, hk, rfl, hr, he, hb⟩ := hrel
    by_cases hlt : k < p
    · have g1 := hr.cell (i := k) (by omega)
      have g2 := he.cell (i := k) (by omega)
      have g3 := he.frozen k
      go_wp2_with fail
      go_roundw
      case rel =>
        refine ⟨k + 1, by omega, by go_num, hr.setOther (by simp; omega) _, (he.set k _).congr (fun j _ => ?_), hb.setCell (by simp; omega) _⟩
        by_cases e : j = k
        · subst e; simp
        · rw [if_neg e]
          by_cases e2 : j < k
          · rw [if_pos e2, if_pos (by omega)]
          · rw [if_neg e2, if_neg (by omega)]
      case measure => simp [intOf]; omega
    · obtain rfl : p = k := by omega
      have g2 := he.cell (i := p) (by omega)
      have g3 := he.frozen p
      go_wp2_with fail
      clear g2 g3
      go_loopw [10] (fun i wx => ∃ q : Nat, p ≤ q ∧ q ≤ len ∧ i = .int .i64 q ∧ wx.rowIs w.heap.size 5 len (fun i => .int .u8 (z i)) ∧ wx.rowIs W2.heap.size 5 (len + 1) (fun j => .int .u8 (if j < q + 1 then Pl.ins p c z j else 0)) ∧ Below w.heap.size w wx) (fun i _ => len - (intOf i).toNat)
      case atStart =>
        refine ⟨p, Nat.le_refl _, hp, rfl, hr.setOther (by simp; omega) _, (he.set p _).congr (fun j _ => ?_), hb.setCell (by simp; omega) _⟩
        unfold Pl.ins
        by_cases e : j = p
        · subst e; simp
        · rw [if_neg e]
          by_cases e2 : j < p
          · rw [if_pos e2, if_pos (by omega), if_pos e2]
          · rw [if_neg e2, if_neg (by omega)]
      case round =>
        clear hr he hb
        obtain ⟨q, hq1, hq2, rfl, hr, he, hb⟩ := hrel
        by_cases hlt2 : q < len
        · have g1 := hr.cell (i := q) (by omega)
          have g2 := he.cell (i := q + 1) (by omega)
          have g3 := he.frozen (q + 1)
          go_wp2_with fail
          go_roundw
          case rel =>
            refine ⟨q + 1, by omega, by omega, by go_num, hr.setOther (by simp; omega) _, (he.set (q + 1) _).congr (fun j _ => ?_), hb.setCell (by simp; omega) _⟩
            by_cases e : j = q + 1
            · subst e
              rw [if_pos rfl, if_pos (by omega)]
              unfold Pl.ins
              rw [if_neg (by omega), if_neg (by omega)]; rfl
            · rw [if_neg e]
              by_cases e2 : j < q + 1
              · rw [if_pos e2, if_pos (by omega)]
              · rw [if_neg e2, if_neg (by omega)]
          case measure => simp [intOf]; omega
        · obtain rfl : len = q := by omega
          have HE : Hid (∀ W, W = wr → Calls Try.prog 6 #[.slice (some ⟨W2.heap.size, 0, none⟩) (len + 1) (len + 1)] W fun e w' => e = .returned (.int .i64 (Pl.nv (len + 1) (Pl.ins p c z))) ∧ w' = wr) := by
            intro W hW; subst hW
            refine zz_any _ _ _ _ _ (by omega) (fun i hi => ⟨_, _, rfl, ?_⟩) (ins_bd HZB.out hc)
            rw [Nat.zero_add, he.cell hi, if_pos hi]
          have HD : Hid (∀ (off l c' : Nat) W, W.heap = wr.heap → off + l ≤ len → Calls Try.prog 6 #[.slice (some ⟨w.heap.size, off, none⟩) l c'] W fun e w' => e = .returned (.int .i64 (Pl.nv l (fun j => z (off + j)))) ∧ w' = W) := by
            intro off l c' W hW hol
            refine zz_any _ _ _ _ _ (by omega) (fun i hi => ⟨_, _, rfl, ?_⟩) (fun i => HZB.out _)
            rw [World.cell?_of_block (w := wr) (by rw [hW]), hr.cell (by omega)]
          clear hr he
          go_wp2_with fail
          refine (HE.out _ rfl).mono ?_
          rintro e w3 ⟨rfl, hw3⟩
          obtain rfl := hw3.symm
          clear HE
          by_cases h9 : 9 ≤ p
          · have hfar := Pl.ins_far (c := c) (z := z) hp h9
            have HQ : (Pl.nv (len + 1) (Pl.ins p c z) == Pl.nv len z) = true := by rw [hfar]; simp
            clear hfar
            go_wp2_with fail
            have := HD.out 0 len len _ rfl (by omega)
            simp only [Nat.zero_add] at this
            refine this.mono ?_
            rintro e w3 ⟨rfl, hw3⟩
            obtain rfl := hw3.symm
            clear this
            go_wp2_with fail
            go_ret
            exact ⟨rfl, hb⟩
          · have hA := pw_le (k := 8 - p) (by omega)
            have hB := pw_le (k := p + 1) (by omega)
            have CA : Hid (∀ W, Calls Try.prog 7 #[.int .i64 (8 - (p : Int))] W fun e w' => e = .returned (.int .i64 (Pl.pw (8 - p))) ∧ w' = W) := by
              intro W
              have := pow_int (8 - (p : Int)) W (by omega) (by omega)
              rwa [show (8 - (p : Int)).toNat = 8 - p by omega] at this
            have CB : Hid (∀ W, Calls Try.prog 7 #[.int .i64 ((p : Int) + 1)] W fun e w' => e = .returned (.int .i64 (Pl.pw (p + 1))) ∧ w' = W) := by
              intro W
              have := pow_int ((p : Int) + 1) W (by omega) (by omega)
              rwa [show ((p : Int) + 1).toNat = p + 1 by omega] at this
            have C1 : Hid (∀ W, W.heap = wr.heap → Calls Try.prog 6 #[.slice (some ⟨w.heap.size, 0, none⟩) p len] W fun e w' => e = .returned (.int .i64 (Pl.nv p z)) ∧ w' = W) := by
              intro W hW
              have := HD.out 0 p len W hW (by omega)
              simpa only [Nat.zero_add] using this
            have b1 := Pl.nv_bd p z
            have hA8 : Pl.pw (8 - p) ≤ 100000000 := pw_le8 (by omega)
            by_cases h8 : 8 < len
            · have C2 : Hid (∀ W, W.heap = wr.heap → Calls Try.prog 6 #[.slice (some ⟨w.heap.size, p, none⟩) (8 - p) (len - p)] W fun e w' => e = .returned (.int .i64 (Pl.nv (8 - p) (fun j => z (p + j)))) ∧ w' = W) := by
                intro W hW
                exact HD.out p (8 - p) (len - p) W hW (by omega)
              have b2 := Pl.nv_bd (8 - p) (fun j => z (p + j))
              have heq := Pl.near (c := c) (z := z) (hi := 8) hp (by omega) (by omega)
              generalize Pl.nv (len + 1) (Pl.ins p c z) = got at *
              generalize Pl.nv (8 - p) (fun j => z (p + j)) = n2 at *
              generalize Pl.nv p z = n1 at *
              generalize Pl.pw (8 - p) = A at *
              generalize Pl.pw (p + 1) = Bq at *
              have HQ := near_wrap b1 b2 hA hB hA8 heq
              clear heq HD
              go_wp2_with fail
              go_quiet ((first | (go_at_call 7; first | with_reducible exact Calls.quiet_of_same (CA.out _) | with_reducible exact Calls.quiet_of_same (CB.out _)) | (go_at_call 6; first | with_reducible exact Calls.quiet_of_same (C1.out _ rfl) | with_reducible exact Calls.quiet_of_same (C2.out _ rfl))))
              go_wp2_with fail
              go_ret
              exact ⟨rfl, below_drewN hb _⟩
            · by_cases hpl : p < len
              · have C2 : Hid (∀ W, W.heap = wr.heap → Calls Try.prog 6 #[.slice (some ⟨w.heap.size, p, none⟩) (len - p) (len - p)] W fun e w' => e = .returned (.int .i64 (Pl.nv (len - p) (fun j => z (p + j)))) ∧ w' = W) := by
                  intro W hW
                  exact HD.out p (len - p) (len - p) W hW (by omega)
                have b2 := Pl.nv_bd (len - p) (fun j => z (p + j))
                have heq := Pl.near (c := c) (z := z) (hi := len) hp (by omega) (by omega)
                generalize Pl.nv (len + 1) (Pl.ins p c z) = got at *
                generalize Pl.nv (len - p) (fun j => z (p + j)) = n2 at *
                generalize Pl.nv p z = n1 at *
                generalize Pl.pw (8 - p) = A at *
                generalize Pl.pw (p + 1) = Bq at *
                have HQ := near_wrap b1 b2 hA hB hA8 heq
                clear heq HD
                go_wp2_with fail
                go_quiet ((first | (go_at_call 7; first | with_reducible exact Calls.quiet_of_same (CA.out _) | with_reducible exact Calls.quiet_of_same (CB.out _)) | (go_at_call 6; first | with_reducible exact Calls.quiet_of_same (C1.out _ rfl) | with_reducible exact Calls.quiet_of_same (C2.out _ rfl))))
                go_wp2_with fail
                go_ret
                exact ⟨rfl, below_drewN hb _⟩
              · obtain rfl : p = len := by omega
                have C2 : Hid (∀ W (a : Option Addr) (c' : Nat), W.heap = wr.heap → Calls Try.prog 6 #[.slice a 0 c'] W fun e w' => e = .returned (.int .i64 (Pl.nv (p - p) (fun j => z (p + j)))) ∧ w' = W) := by
                  intro W a c' hW
                  rw [Nat.sub_self]
                  exact zz_any _ _ _ _ _ (by omega) (fun i hi => by omega) (fun i => HZB.out _)
                have b2 := Pl.nv_bd (p - p) (fun j => z (p + j))
                have heq := Pl.near (c := c) (z := z) (hi := p) hp (by omega) (by omega)
                generalize Pl.nv (p + 1) (Pl.ins p c z) = got at *
                generalize Pl.nv (p - p) (fun j => z (p + j)) = n2 at *
                generalize Pl.nv p z = n1 at *
                generalize Pl.pw (8 - p) = A at *
                generalize Pl.pw (p + 1) = Bq at *
                have HQ := near_wrap b1 b2 hA hB hA8 heq
                clear heq HD
                go_wp2_with fail
                go_quiet ((first | (go_at_call 7; first | with_reducible exact Calls.quiet_of_same (CA.out _) | with_reducible exact Calls.quiet_of_same (CB.out _)) | (go_at_call 6; first | with_reducible exact Calls.quiet_of_same (C1.out _ rfl) | with_reducible exact Calls.quiet_of_same (C2.out _ _ _ rfl))))
                go_wp2_with fail
                go_ret
                exact ⟨rfl, below_drewN hb _⟩
end Go.Proofs.Qxb6630377a
