/- The walks of seat b6630238a: toEntries, toConfig. -/
import Derived.Test.Qxb6630238aWkE
import Derived.Deep.RegionHeld3
namespace Go.Proofs.Qxb6630238a
open Go.RowKit Pl

theorem info63 : (Try.prog.info? 63).map (fun i => (i.zero, i.size, i.bytes)) = some (some (.agg #[.string ⟨#[]⟩]), 1, 16) := by kernel_rfl

theorem make63 (n : Nat) (hn : n ≤ 65536) (w : World) :
    (Instr.makeSlice 33 (.int .i64 (n : Int)) (.int .i64 (n : Int))).run Try.prog w = .ok (.slice (some ⟨w.heap.size, 0, none⟩) n n) (w.alloc (.cells (madeCells #[.string ⟨#[]⟩] n) 63)) := by
  obtain ⟨i, hi, hzz⟩ := Option.map_eq_some_iff.1 info63
  simp only [Prod.mk.injEq] at hzz
  obtain ⟨hz, hs, hb⟩ := hzz
  have h := run_make (P := Try.prog) w 33 63 i (.agg #[.string ⟨#[]⟩]) Try.underlying33 hi hz .i64 .i64 n n (by omega) (Int.le_refl _) (by rw [hb]; omega) (by omega)
  rw [hs] at h
  simpa [Value.cells] using h

set_option maxHeartbeats 1000000 in
theorem toEntries_any (a : Option Addr) (ss : List ByteArray) (cap : Nat) (w : World) (h : SsAt w a ss) (hl : ss.length ≤ 65536) :
    Calls Try.prog 12 #[.slice a ss.length cap] w fun e w' => ∃ a' cap', e = .returned (.slice a' ss.length cap') ∧ SsAt w' a' ss ∧ Lat w w' := by
  have q1 := fun (w : World) (a : Option Addr) (n c : Nat) => Lib.run_eql_slice_nil (P := Try.prog) w 23 9 a n c 0 0 Try.underlying23
  rcases a with _ | x
  · have hrs : ss = [] := by
      rcases ss with _ | ⟨r, rs⟩
      · rfl
      · obtain ⟨b, off, e, _⟩ := h 0 r rfl; cases e
    subst hrs
    go_enter Try.func12, Try.ntmps12
    go_wp2_with fail
    go_ret
    exact ⟨none, 0, rfl, fun i r hr => by simp at hr, Lat.refl w⟩
  · have hmk := fun w => make63 ss.length hl w
    go_enter Try.func12, Try.ntmps12
    go_wp2_with fail
    go_loopw [4] (fun i wr => ∃ k : Nat, k ≤ ss.length ∧ i = .int .i64 k ∧ RowS wr w.heap.size 63 ss.length (fun j => if j < k then ss[j]? else none) ∧ Lat w wr) (fun i _ => ss.length - (intOf i).toNat)
    case atStart => exact ⟨0, Nat.zero_le _, rfl, (rowS_made 63 ss.length w _).congr (fun j _ => by simp), (Lat.refl w).alloc _⟩
    case round =>
      obtain ⟨k, hk, rfl, he, hb⟩ := hrel
      clear hmk
      by_cases hlt : k < ss.length
      · obtain ⟨r, hr⟩ : ∃ r, ss[k]? = some r := ⟨_, List.getElem?_eq_getElem hlt⟩
        obtain ⟨b1, o1, ea, hc⟩ := h k r hr
        obtain rfl := Option.some.inj ea
        clear ea
        have c0 := hb.cell hc
        obtain ⟨⟨v0, g0⟩, gf⟩ := he.cell hlt
        have HS := he.store k r
        have HRW : Hid (ss[k]? = some r) := hr
        clear h hc he hr
        go_wp2_with fail
        go_roundw
        case rel => exact ⟨k + 1, by omega, by go_num, HS.congr (fun j _ => fill_stepS HRW.out j), hb.setCell (Nat.le_refl _) _⟩
        case measure => simp [intOf]; omega
      · go_wp2_with fail
        go_ret
        exact ⟨_, _, rfl, he.ss rfl (fun j r hr => by rw [if_pos (by have := (List.getElem?_eq_some_iff.1 hr).1; omega)]; exact hr), hb⟩

theorem cell_store8 {w : World} {b1 o1 b : Nat} {v : Value} (hne : b1 ≠ b) (h : w.cell? ⟨b1, o1, none⟩ = some v) {q0 q1 q2 q3 q4 q5 q6 q7 : Nat} {v0 v1 v2 v3 v4 v5 v6 v7 : Value} :
    ((((((((w.setCell ⟨b, q0, none⟩ v0).setCell ⟨b, q1, none⟩ v1).setCell ⟨b, q2, none⟩ v2).setCell ⟨b, q3, none⟩ v3).setCell ⟨b, q4, none⟩ v4).setCell ⟨b, q5, none⟩ v5).setCell ⟨b, q6, none⟩ v6).setCell ⟨b, q7, none⟩ v7).cell? ⟨b1, o1, none⟩ = some v := by
  have one : ∀ {W : World} {q : Nat} {u : Value}, W.cell? ⟨b1, o1, none⟩ = some v → (W.setCell ⟨b, q, none⟩ u).cell? ⟨b1, o1, none⟩ = some v := by
    intro W q u hW
    rw [World.cell?_setCell_other _ _ _ _ (fun e => hne (congrArg Addr.block e).symm)]
    exact hW
  exact one (one (one (one (one (one (one (one h)))))))

set_option maxHeartbeats 2000000 in
theorem toConfig_any {S : Nat → Prop} (a : Option Addr) (rs : List Rt) (cap : Nat) (w : World) (h : RsAt S w a rs) (hl : rs.length ≤ 65536) (hok : ∀ r ∈ rs, Ok r) :
    Calls Try.prog 11 #[.slice a rs.length cap] w fun e w' => ∃ a' cap', e = .returned (.slice a' rs.length cap') ∧ RsAt (fun _ => True) w' a' rs ∧ Lat w w' := by
  have q1 := fun (w : World) (a : Option Addr) (n c : Nat) => Lib.run_eql_slice_nil (P := Try.prog) w 22 43 a n c 0 0 Try.underlying22
  rcases a with _ | x
  · have hrs : rs = [] := by
      rcases rs with _ | ⟨r, rs⟩
      · rfl
      · obtain ⟨b, off, e, _⟩ := h 0 r rfl; cases e
    subst hrs
    go_enter Try.func11, Try.ntmps11
    go_wp2_with fail
    go_ret
    exact ⟨none, 0, rfl, fun i r hr => by simp at hr, Lat.refl w⟩
  · have hmk := fun w => make8 31 45 Try.underlying31 info45 rs.length hl w
    go_enter Try.func11, Try.ntmps11
    go_wp2_with fail
    go_loopw [4] (fun i wr => ∃ k : Nat, k ≤ rs.length ∧ i = .int .i64 k ∧ Row8 (fun b => w.heap.size < b) wr w.heap.size 45 rs.length (fun j => if j < k then rs[j]? else none) ∧ Lat w wr) (fun i _ => rs.length - (intOf i).toNat)
    case atStart => exact ⟨0, Nat.zero_le _, rfl, (row8_made _ 45 rs.length w).congr (fun j _ => by simp), (Lat.refl w).alloc _⟩
    case round =>
      obtain ⟨k, hk, rfl, he, hb⟩ := hrel
      clear hmk
      by_cases hlt : k < rs.length
      · obtain ⟨r, hr⟩ : ∃ r, rs[k]? = some r := ⟨_, List.getElem?_eq_getElem hlt⟩
        obtain ⟨b1, o1, ea, hc⟩ := h k r hr
        obtain rfl := Option.some.inj ea
        clear ea
        have hok' := hok r (List.mem_of_getElem? hr)
        obtain ⟨ai, li, ci, c0, c1, c2, c3, c4, c5, c6, c7, hi⟩ := hc.later hb
        have hli := ints_len hi hok'
        have HC : Hid (∀ W, Lat wr W → Calls Try.prog 31 #[.slice ai li ci] W fun e w' => ∃ a' cap', e = .returned (.slice a' li cap') ∧ IntsAt (fun b => W.heap.size ≤ b) w' a' li r.cls ∧ Lat W w') :=
          fun W hW => cloneInts_any (S := S) ai li ci r.cls W (hi.later hW) hli
        have k0 : (0 : Int) ≤ (k : Int) := by omega
        have k1 : (k : Int) < (rs.length : Int) := by omega
        have hne : b1 ≠ w.heap.size := by
          obtain ⟨_, _, _, d0, _⟩ := hc
          have := World.block_lt_of_cell? _ _ d0
          exact Nat.ne_of_lt this
        clear h hok hc hok' hi
        go_wp2_with fail
        go_region_held3 (fun w' => w'.cell? ⟨b1, o1 + k * 8, none⟩ = some (.string r.pre) ∧ w'.cell? ⟨b1, o1 + k * 8 + 1, none⟩ = some (.string r.kind) ∧ w'.cell? ⟨b1, o1 + k * 8 + 2, none⟩ = some (.string r.dst) ∧ w'.cell? ⟨b1, o1 + k * 8 + 3, none⟩ = some (.int .i64 r.mn) ∧ w'.cell? ⟨b1, o1 + k * 8 + 4, none⟩ = some (.int .i64 r.mx) ∧ w'.cell? ⟨b1, o1 + k * 8 + 5, none⟩ = some (.int .i64 r.st) ∧ w'.cell? ⟨b1, o1 + k * 8 + 6, none⟩ = some (.string r.prep) ∧ w'.cell? ⟨b1, o1 + k * 8 + 7, none⟩ = some (.slice ai li ci))
          (first | (with_reducible exact ⟨s0, s1, s2, s3, s4, s5, s6, s7⟩) | (with_reducible exact ⟨cell_store8 hne s0, cell_store8 hne s1, cell_store8 hne s2, cell_store8 hne s3, cell_store8 hne s4, cell_store8 hne s5, cell_store8 hne s6, cell_store8 hne s7⟩) | go_keep)
          ((go_at_call 31; refine (HC.out _ ?_).mono ?_; exact (Lat.refl _).drew; rintro e w1 ⟨a', cap', rfl, hi', hb1⟩; have hb2 := (Lat.refl wr).drew.trans hb1; have he1 := he.later hb2; obtain ⟨v0, v1, v2, v3, v4, v5, v6, v7, g0, g1, g2, g3, g4, g5, g6, g7, gf⟩ := he1.cells hlt; have s0 := hb2.cell c0; have s1 := hb2.cell c1; have s2 := hb2.cell c2; have s3 := hb2.cell c3; have s4 := hb2.cell c4; have s5 := hb2.cell c5; have s6 := hb2.cell c6; have s7 := hb2.cell c7; clear hb1))
        have HS := he1.store hlt (by simp) (r := r) (cap := cap') (hi'.mono (fun b hb => by have := he.lt; simp at hb; omega))
        have HB := hb.trans hb2
        have HRW : Hid (rs[k]? = some r) := hr
        clear he he1 hb hb2 hi' HC hr c0 c1 c2 c3 c4 c5 c6 c7 s0 s1 s2 s3 s4 s5 s6 s7 g0 g1 g2 g3 g4 g5 g6 g7
        go_wp2_with fail
        go_roundw
        case rel => exact ⟨k + 1, by omega, by go_num, HS.congr (fun j _ => fill_step HRW.out j), HB.store8 (Nat.le_refl _) _ _ _ _ _ _ _ _ _ _ _ _ _ _ _ _⟩
        case measure => simp [intOf]; omega
      · go_wp2_with fail
        go_ret
        exact ⟨_, _, rfl, (he.mono (fun _ _ => trivial)).rs rfl (fun j r hr => by rw [if_pos (by have := (List.getElem?_eq_some_iff.1 hr).1; omega)]; exact hr), hb⟩
end Go.Proofs.Qxb6630238a
