/- The walk of NewTable. -/
import Derived.Test.Qxb6630238aTb
import Derived.Deep.DrawnRows
namespace Go.Proofs.Qxb6630238a
open Go.RowKit Pl Go.Maps

theorem makeMap_hint (t k e : TypeId) (ht : Try.prog.underlying t = some (.map k e)) (n : Int) (w : World) : (Instr.makeMap t (some (.int .i64 n))).run Try.prog w = .ok (.map (some w.heap.size)) (w.alloc (.map #[] 0)) := by
  simp [Instr.makeMap, run_underlying ht, asInt, asIntOf]

/-- The table in the making. -/
def TI (w wr : World) (T : Nat) (rs : List Rt) (ns : List ByteArray) : Prop :=
  ∃ m1 m2 n1 n2 D1 D2, wr.cell? ⟨T, 0, none⟩ = some (.map (some m1)) ∧ wr.cell? ⟨T, 1, none⟩ = some (.int .i64 (lg rs)) ∧ wr.cell? ⟨T, 2, none⟩ = some (.map (some m2)) ∧ (∀ o, wr.frozen? ⟨T, o, none⟩ = false) ∧
    wr.ownsMap Try.prog 9 RV m1 n1 D1 ∧ n1 ≤ rs.length ∧ IsMapR w D1 rs ∧ wr.ownsMap Try.prog 9 RV m2 n2 D2 ∧ n2 ≤ ns.length ∧ IsMapN D2 ns ∧ m1 ≠ m2 ∧ T ≠ m1 ∧ T ≠ m2 ∧ w.heap.size ≤ m1 ∧ w.heap.size ≤ m2 ∧ w.heap.size ≤ T ∧ T < wr.heap.size ∧ Lat w wr

theorem TI.made {w : World} {m1 m2 : Nat} (h : m1 = w.heap.size ∧ m2 = w.heap.size + 1 ∨ m2 = w.heap.size ∧ m1 = w.heap.size + 1) :
    TI w (((w.alloc (.map #[] 0)).alloc (.map #[] 0)).alloc (.cells #[.map (some m1), .int .i64 0, .map (some m2)] 61)).drew (w.heap.size + 1 + 1) [] [] := by
  have o0 := World.ownsMap_made w Try.prog 9 RV
  have o1 := World.ownsMap_made (w.alloc (.map #[] 0)) Try.prog 9 RV
  have e1 : (w.alloc (.map #[] 0)).heap.size = w.heap.size + 1 := by simp
  have e2 : ((w.alloc (.map #[] 0)).alloc (.map #[] 0)).heap.size = w.heap.size + 1 + 1 := by simp
  rw [e1] at o1
  have O0 := ((o0.alloc (.map #[] 0)).alloc (.cells #[.map (some m1), .int .i64 0, .map (some m2)] 61)).drew
  have O1 := (o1.alloc (.cells #[.map (some m1), .int .i64 0, .map (some m2)] 61)).drew
  have hL : Lat w (((w.alloc (.map #[] 0)).alloc (.map #[] 0)).alloc (.cells #[.map (some m1), .int .i64 0, .map (some m2)] 61)).drew := ((((Lat.refl w).alloc _).alloc _).alloc _).drew
  have c : ∀ i, (((w.alloc (.map #[] 0)).alloc (.map #[] 0)).alloc (.cells #[.map (some m1), .int .i64 0, .map (some m2)] 61)).drew.cell? ⟨w.heap.size + 1 + 1, i, none⟩ = (#[.map (some m1), .int .i64 0, .map (some m2)] : Array Value)[i]? := by
    intro i
    rw [World.cell?_drew, World.cell?_alloc_at _ _ _ _ e2.symm]
  have f : ∀ o, (((w.alloc (.map #[] 0)).alloc (.map #[] 0)).alloc (.cells #[.map (some m1), .int .i64 0, .map (some m2)] 61)).drew.frozen? ⟨w.heap.size + 1 + 1, o, none⟩ = false := fun o => by
    have := World.frozen?_alloc_at (w := (w.alloc (.map #[] 0)).alloc (.map #[] 0)) #[.map (some m1), .int .i64 0, .map (some m2)] 61 (w.heap.size + 1 + 1) o e2.symm
    exact this
  have hz : w.heap.size + 1 + 1 < (((w.alloc (.map #[] 0)).alloc (.map #[] 0)).alloc (.cells #[.map (some m1), .int .i64 0, .map (some m2)] 61)).drew.heap.size := by simp
  rcases h with ⟨rfl, rfl⟩ | ⟨rfl, rfl⟩
  · exact ⟨_, _, 0, 0, .map [], .map [], c 0, c 1, c 2, f, O0, Nat.le_refl _, isMapR_empty w, O1, Nat.le_refl _, isMapN_empty, by omega, by omega, by omega, by omega, by omega, by omega, hz, hL⟩
  · exact ⟨_, _, 0, 0, .map [], .map [], c 0, c 1, c 2, f, O1, Nat.le_refl _, isMapR_empty w, O0, Nat.le_refl _, isMapN_empty, by omega, by omega, by omega, by omega, by omega, by omega, hz, hL⟩

theorem take_snoc {α : Type} {l : List α} {k : Nat} {x : α} (h : l[k]? = some x) : l.take (k + 1) = l.take k ++ [x] := by
  obtain ⟨hk, rfl⟩ := List.getElem?_eq_some_iff.1 h
  exact List.take_succ_eq_append_getElem hk

theorem grown_cell {w w' : World} {m : Nat} (g : w.grownBy w' (some m)) {b o : Nat} {v : Value} (hne : m ≠ b) (h : w.cell? ⟨b, o, none⟩ = some v) : w'.cell? ⟨b, o, none⟩ = some v := by
  have hb : b < w.heap.size := World.block_lt_of_cell? _ _ h
  rw [World.cell?_of_block (w := w) (g.block b hb (by simpa using fun e => hne e.symm))]; exact h
theorem grown_frozen {w w' : World} {m : Nat} (g : w.grownBy w' (some m)) {b : Nat} (hb : b < w.heap.size) (hne : m ≠ b) (o : Nat) : w'.frozen? ⟨b, o, none⟩ = w.frozen? ⟨b, o, none⟩ :=
  World.frozen?_of_block (w := w) (g.block b hb (by simpa using fun e => hne e.symm))

set_option maxHeartbeats 2000000 in
theorem newTable_any {S : Nat → Prop} (a b : Option Addr) (rs : List Rt) (ns : List ByteArray) (ca cb : Nat) (w : World) (ha : RsAt S w a rs) (hbb : SsAt w b ns) (hla : rs.length ≤ 65536) (hlb : ns.length ≤ 65536) (hok : ∀ r ∈ rs, Ok r) (hnk : ∀ s ∈ ns, s.size ≤ 1048576) :
    Calls Try.prog 10 #[.slice a rs.length ca, .slice b ns.length cb] w fun e w' => ∃ t, e = .returned t ∧ TabAt w' t rs ns ∧ Lat w w' := by
  have hm1 := fun n w => makeMap_hint 58 9 45 Try.underlying58 n w
  have hm2 := fun n w => makeMap_hint 59 9 4 Try.underlying59 n w
  have HM1 := @TI.made w w.heap.size (w.heap.size + 1) (.inl ⟨rfl, rfl⟩)
  have HM2 := @TI.made w (w.heap.size + 1) w.heap.size (.inr ⟨rfl, rfl⟩)
  have HM1' : Hid _ := HM1
  have HM2' : Hid _ := HM2
  clear HM1 HM2
  go_enter Try.func10, Try.ntmps10
  go_wp2_with fail
  go_region
  all_goals go_wp2_with fail
  all_goals clear hm1 hm2
  all_goals
    go_loopw [20] (fun i wr => ∃ k : Nat, k ≤ rs.length ∧ i = .int .i64 k ∧ TI w wr (w.heap.size + 1 + 1) (rs.take k) []) (fun i _ => rs.length - (intOf i).toNat)
    case atStart => exact ⟨0, Nat.zero_le _, rfl, by first | exact HM1'.out | exact HM2'.out⟩
    case round =>
      obtain ⟨k, hk, rfl, m1, m2, n1, n2, D1, D2, t0, t1, t2, tf, o1, hn1, i1, o2, hn2, i2, h12, hT1, hT2, hb1, hb2, hbT, hTs, hL⟩ := hrel
      by_cases hlt : k < rs.length
      · obtain ⟨r, hr⟩ : ∃ r, rs[k]? = some r := ⟨_, List.getElem?_eq_getElem hlt⟩
        obtain ⟨b1, off1, rfl, hc⟩ := ha k r hr
        have hsz := (hok r (List.mem_of_getElem? hr)).1
        obtain ⟨ai, li, ci, d0, d1, d2, d3, d4, d5, d6, d7, hi⟩ := hc
        have c0 := hL.cell d0; have c1 := hL.cell d1; have c2 := hL.cell d2; have c3 := hL.cell d3; have c4 := hL.cell d4; have c5 := hL.cell d5; have c6 := hL.cell d6; have c7 := hL.cell d7
        have HV : Hid (RtV (fun _ => True) w (.agg #[.string r.pre, .string r.kind, .string r.dst, .int .i64 r.mn, .int .i64 r.mx, .int .i64 r.st, .string r.prep, .slice ai li ci]) r) := ⟨ai, li, ci, rfl, hi.mono (fun _ _ => trivial)⟩
        clear d0 d1 d2 d3 d4 d5 d6 d7 hi
        go_wp2_with fail
        obtain ⟨Wa, hWa⟩ : ∃ Wa, Wa = wr.alloc (.cells #[.string r.pre, .string r.kind, .string r.dst, .int .i64 r.mn, .int .i64 r.mx, .int .i64 r.st, .string r.prep, .slice ai li ci] 45) := ⟨_, rfl⟩
        rw [← hWa]
        have hLa : Lat wr Wa := by rw [hWa]; exact (Lat.refl wr).alloc _
        have oa : Wa.ownsMap Try.prog 9 RV m1 n1 D1 := by rw [hWa]; exact o1.alloc _
        have ob : Wa.ownsMap Try.prog 9 RV m2 n2 D2 := by rw [hWa]; exact o2.alloc _
        have r0 : Wa.cell? ⟨wr.heap.size, 0, none⟩ = some (.string r.pre) := by rw [hWa]; go_simp
        have r1 : Wa.cell? ⟨wr.heap.size, 1, none⟩ = some (.string r.kind) := by rw [hWa]; go_simp
        have r2 : Wa.cell? ⟨wr.heap.size, 2, none⟩ = some (.string r.dst) := by rw [hWa]; go_simp
        have r3 : Wa.cell? ⟨wr.heap.size, 3, none⟩ = some (.int .i64 r.mn) := by rw [hWa]; go_simp
        have r4 : Wa.cell? ⟨wr.heap.size, 4, none⟩ = some (.int .i64 r.mx) := by rw [hWa]; go_simp
        have r5 : Wa.cell? ⟨wr.heap.size, 5, none⟩ = some (.int .i64 r.st) := by rw [hWa]; go_simp
        have r6 : Wa.cell? ⟨wr.heap.size, 6, none⟩ = some (.string r.prep) := by rw [hWa]; go_simp
        have r7 : Wa.cell? ⟨wr.heap.size, 7, none⟩ = some (.slice ai li ci) := by rw [hWa]; go_simp
        have u0 := hLa.cell t0
        have u1 := hLa.cell t1
        have u2 := hLa.cell t2
        have uf : ∀ o, Wa.frozen? ⟨w.heap.size + 1 + 1, o, none⟩ = false := fun o => (Below.frozen hLa (p := ⟨w.heap.size + 1 + 1, o, none⟩) hTs).trans (tf o)
        have hma : m1 < wr.heap.size := o1.lt
        have hzl : n1 < maxLen := by unfold maxLen; simp at hn1; omega
        obtain ⟨W6, hup, o6, g6⟩ := (oa.drew).update law9 Try.underlying58 hzl (key_of r.pre (by unfold maxLen; omega)) (val := .agg #[.string r.pre, .string r.kind, .string r.dst, .int .i64 r.mn, .int .i64 r.mx, .int .i64 r.st, .string r.prep, .slice ai li ci]) (d := .held _) (ps := []) rfl
        have zT : w.heap.size + 1 + 1 < Wa.heap.size := Nat.lt_of_lt_of_le hTs hLa.size
        have x0 : W6.cell? ⟨w.heap.size + 1 + 1, 0, none⟩ = some (.map (some m1)) := grown_cell g6 hT1.symm u0
        have x1 : W6.cell? ⟨w.heap.size + 1 + 1, 1, none⟩ = some (.int .i64 (lg (rs.take k))) := grown_cell g6 hT1.symm u1
        have x2 : W6.cell? ⟨w.heap.size + 1 + 1, 2, none⟩ = some (.map (some m2)) := grown_cell g6 hT1.symm u2
        have xf : ∀ o, W6.frozen? ⟨w.heap.size + 1 + 1, o, none⟩ = false := fun o => (grown_frozen g6 zT hT1.symm o).trans (uf o)
        have xr : W6.cell? ⟨wr.heap.size, 0, none⟩ = some (.string r.pre) := grown_cell g6 (by omega) r0
        have hlg : lg (rs.take k) ≤ 1048576 := lg_le (fun x hx => hok x (List.mem_of_mem_take hx))
        have FIN : Hid (TI w (W6.setCell ⟨w.heap.size + 1 + 1, 1, none⟩ (.int .i64 (lg (rs.take (k + 1))))).drew (w.heap.size + 1 + 1) (rs.take (k + 1)) []) := by
          have i6 := i1.put (oa.tidy law9) HV.out
          rw [← take_snoc hr] at i6
          have hz6 : Wa.heap.size ≤ W6.heap.size := g6.size
          have hL6 : Lat w W6 := by
            have h1 := hL.trans hLa
            exact Below.grown (h1.drew) g6 (by have := h1.size; simpa using this) (fun j hj => by cases hj; exact hb1)
          refine ⟨m1, m2, n1 + 1, n2, _, D2, ?_, ?_, ?_, ?_, ownsMap_of_block o6 ?_, ?_, i6, ownsMap_of_block ob ?_, hn2, i2, h12, hT1, hT2, hb1, hb2, hbT, ?_, (hL6.setCell hbT _).drew⟩
          · rw [World.cell?_drew, World.cell?_setCell_other _ _ _ _ (by simp)]; exact x0
          · rw [World.cell?_drew]; exact World.cell?_setCell_same _ _ _ x1
          · rw [World.cell?_drew, World.cell?_setCell_other _ _ _ _ (by simp)]; exact x2
          · intro o
            exact (World.frozen?_setCell _ _ _ _).trans (xf o)
          · exact Below.heap_setCell _ _ _ _ (by simpa using fun e => hT1 e.symm)
          · rw [List.length_take] at hn1 ⊢; omega
          · rw [show (W6.setCell ⟨w.heap.size + 1 + 1, 1, none⟩ (.int .i64 (lg (rs.take (k + 1))))).drew.heap[m2]? = (W6.setCell ⟨w.heap.size + 1 + 1, 1, none⟩ (.int .i64 (lg (rs.take (k + 1))))).heap[m2]? from rfl, Below.heap_setCell _ _ _ _ (by simpa using fun e => hT2 e.symm)]
            exact g6.block m2 ob.lt (by simpa using h12.symm)
          · have : (W6.setCell ⟨w.heap.size + 1 + 1, 1, none⟩ (.int .i64 (lg (rs.take (k + 1))))).drew.heap.size = W6.heap.size := by simp [World.setCell]
            rw [this]; omega
        have LGS : Hid (lg (rs.take (k + 1)) = max (lg (rs.take k)) r.pre.size) := by
          show _ = _
          rw [take_snoc hr, lg_append]; simp [lg]
        clear hWa hLa t0 t1 t2 tf c0 c1 c2 c3 c4 c5 c6 c7 o6 g6 x0 x2 zT i1 i2 o1 o2 oa ob ha hbb hok hnk HV hL
        generalize lg (rs.take k) = L at *
        generalize lg (rs.take (k + 1)) = L' at *
        by_cases hgt : L < r.pre.size
        · have hL' : L' = r.pre.size := by have := LGS.out; omega
          subst hL'
          have hgt' : (L : Int) < (r.pre.size : Int) := by omega
          go_region
          clear hup u0 u1 u2 uf r0 r1 r2 r3 r4 r5 r6 r7
          go_wp2_with fail
          go_region
          go_wp2_with fail
          go_roundw
          case rel => exact ⟨k + 1, by omega, by go_num, FIN.out⟩
          case measure => simp [intOf]; omega
        · have hL' : L' = L := by have := LGS.out; omega
          subst hL'
          have hgt' : ¬ (L' : Int) < (r.pre.size : Int) := by omega
          go_region
          clear hup u0 u1 u2 uf r0 r1 r2 r3 r4 r5 r6 r7
          go_wp2_with fail
          go_region
          go_wp2_with fail
          go_roundw
          case rel => exact ⟨k + 1, by omega, by go_num, FIN.out⟩
          case measure => simp [intOf]; omega
      · have TIN : TI w wr (w.heap.size + 1 + 1) rs (ns.take 0) := by
          have e : rs.take k = rs := List.take_of_length_le (by omega)
          rw [e] at t1 i1 hn1
          exact ⟨m1, m2, n1, n2, D1, D2, t0, t1, t2, tf, o1, hn1, i1, o2, hn2, i2, h12, hT1, hT2, hb1, hb2, hbT, hTs, hL⟩
        have HTI : Hid (TI w wr (w.heap.size + 1 + 1) rs (ns.take 0)) := TIN
        clear t0 t1 t2 tf o1 i1 o2 i2 hL TIN
        go_wp2_with fail
        go_loopw [45] (fun i wx => ∃ k : Nat, k ≤ ns.length ∧ i = .int .i64 k ∧ TI w wx (w.heap.size + 1 + 1) rs (ns.take k)) (fun i _ => ns.length - (intOf i).toNat)
        case atStart => exact ⟨0, Nat.zero_le _, rfl, HTI.out⟩
        case round =>
          clear HTI hn1 hn2 h12 hT1 hT2 hb1 hb2 hbT hTs
          obtain ⟨q, hq, rfl, m1, m2, n1, n2, D1, D2, t0, t1, t2, tf, o1, hn1, i1, o2, hn2, i2, h12, hT1, hT2, hb1, hb2, hbT, hTs, hL⟩ := hrel
          by_cases hlt2 : q < ns.length
          · obtain ⟨x, hx⟩ : ∃ x, ns[q]? = some x := ⟨_, List.getElem?_eq_getElem hlt2⟩
            obtain ⟨b1, off1, rfl, hc⟩ := hbb q x hx
            have hsz := hnk x (List.mem_of_getElem? hx)
            have c0 := hL.cell hc
            clear hc
            go_wp2_with fail
            obtain ⟨Wa, hWa⟩ : ∃ Wa, Wa = wr.alloc (.cells #[.string x] 63) := ⟨_, rfl⟩
            rw [← hWa]
            have hLa : Lat wr Wa := by rw [hWa]; exact (Lat.refl wr).alloc _
            have oa : Wa.ownsMap Try.prog 9 RV m1 n1 D1 := by rw [hWa]; exact o1.alloc _
            have ob : Wa.ownsMap Try.prog 9 RV m2 n2 D2 := by rw [hWa]; exact o2.alloc _
            have r0 : Wa.cell? ⟨wr.heap.size, 0, none⟩ = some (.string x) := by rw [hWa]; go_simp
            have u0 := hLa.cell t0
            have u1 := hLa.cell t1
            have u2 := hLa.cell t2
            have uf : ∀ o, Wa.frozen? ⟨w.heap.size + 1 + 1, o, none⟩ = false := fun o => (Below.frozen hLa (p := ⟨w.heap.size + 1 + 1, o, none⟩) hTs).trans (tf o)
            have hzl : n2 < maxLen := by unfold maxLen; simp at hn2; omega
            obtain ⟨W6, hup, o6, g6⟩ := (ob.drew).update law9 Try.underlying59 hzl (key_of x (by unfold maxLen; omega)) (val := .bool true) (d := .held _) (ps := []) rfl
            have zT : w.heap.size + 1 + 1 < Wa.heap.size := Nat.lt_of_lt_of_le hTs hLa.size
            have FIN : Hid (TI w W6 (w.heap.size + 1 + 1) rs (ns.take (q + 1))) := by
              have i6 := i2.put (ob.tidy law9) x
              rw [← take_snoc hx] at i6
              have hz6 : Wa.heap.size ≤ W6.heap.size := g6.size
              have hL6 : Lat w W6 := by
                have h1 := hL.trans hLa
                exact Below.grown (h1.drew) g6 (by have := h1.size; simpa using this) (fun j hj => by cases hj; exact hb2)
              refine ⟨m1, m2, n1, n2 + 1, D1, _, grown_cell g6 hT2.symm u0, grown_cell g6 hT2.symm u1, grown_cell g6 hT2.symm u2, fun o => (grown_frozen g6 zT hT2.symm o).trans (uf o), ownsMap_of_block oa ?_, hn1, i1, o6, ?_, i6, h12, hT1, hT2, hb1, hb2, hbT, by omega, hL6⟩
              · exact g6.block m1 oa.lt (by simpa using h12)
              · rw [List.length_take] at hn2 ⊢; omega
            clear hWa hLa t0 t1 t2 tf c0 o6 g6 zT i1 i2 o1 o2 oa ob ha hbb hok hnk hL u1
            go_region
            clear hup u0 u2 uf r0
            go_wp2_with fail
            go_roundw
            case rel => exact ⟨q + 1, by omega, by go_num, FIN.out⟩
            case measure => simp [intOf]; omega
          · have e : ns.take q = ns := List.take_of_length_le (by omega)
            rw [e] at i2
            have TAB : Hid (TabAt wr (.pointer (some ⟨w.heap.size + 1 + 1, 0, none⟩)) rs ns) := ⟨_, m1, m2, n1, n2, D1, D2, rfl, t0, t1, t2, o1, i1.later hL, o2, i2⟩
            have HL : Hid (Lat w wr) := hL
            clear t0 t1 t2 tf o1 i1 o2 i2 hL e
            go_wp2_with fail
            go_ret
            exact ⟨_, rfl, TAB.out, HL.out⟩
end Go.Proofs.Qxb6630238a
