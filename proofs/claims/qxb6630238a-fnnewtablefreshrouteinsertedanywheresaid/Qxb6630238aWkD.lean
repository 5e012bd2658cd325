/- The walks of seat b6630238a: slices of routes made anew: cloneRoutes, joinRoutes, insertRoute. -/
import Derived.Test.Qxb6630238aWkC
namespace Go.Proofs.Qxb6630238a
open Go.RowKit Pl

/-- A route's zero cells. -/
def zc : Array Value := #[.string ⟨#[]⟩, .string ⟨#[]⟩, .string ⟨#[]⟩, .int .i64 0, .int .i64 0, .int .i64 0, .string ⟨#[]⟩, .slice none 0 0]

theorem info43 : (Try.prog.info? 43).map (fun i => (i.zero, i.size, i.bytes)) = some (some (.agg zc), 8, 112) := by kernel_rfl
theorem info45 : (Try.prog.info? 45).map (fun i => (i.zero, i.size, i.bytes)) = some (some (.agg zc), 8, 112) := by kernel_rfl

theorem make8 (t e : TypeId) (ht : Try.prog.underlying t = some (.slice e)) (hinfo : (Try.prog.info? e).map (fun i => (i.zero, i.size, i.bytes)) = some (some (.agg zc), 8, 112)) (n : Nat) (hn : n ≤ 65536) (w : World) :
    (Instr.makeSlice t (.int .i64 (n : Int)) (.int .i64 (n : Int))).run Try.prog w = .ok (.slice (some ⟨w.heap.size, 0, none⟩) n n) (w.alloc (.cells (madeCells zc (n * 8)) e)) := by
  obtain ⟨i, hi, hzz⟩ := Option.map_eq_some_iff.1 hinfo
  simp only [Prod.mk.injEq] at hzz
  obtain ⟨hz, hs, hb⟩ := hzz
  have h := run_make (P := Try.prog) w t e i (.agg zc) ht hi hz .i64 .i64 n n (by omega) (Int.le_refl _) (by rw [hb]; omega) (by omega)
  rw [hs] at h
  simpa [Value.cells] using h

theorem row8_made (S : Nat → Prop) (e n : Nat) (w : World) : Row8 S (w.alloc (.cells (madeCells zc (n * 8)) e)) w.heap.size e n (fun _ => none) := by
  have h := World.rowIs_alloc w (madeCells zc (n * 8)) e (fun i => ((madeCells zc (n * 8))[i]?).getD undef) (fun i hi => by rw [Array.getElem?_eq_getElem hi]; rfl)
  rw [size_madeCells] at h
  exact ⟨_, h, fun j r _ hr => by cases hr⟩

/-- The cells that a store meets. -/
theorem Row8.cells {S : Nat → Prop} {w : World} {b e n : Nat} {L : Nat → Option Rt} (h : Row8 S w b e n L) {k : Nat} (hk : k < n) :
    ∃ v0 v1 v2 v3 v4 v5 v6 v7, w.cell? ⟨b, k * 8, none⟩ = some v0 ∧ w.cell? ⟨b, k * 8 + 1, none⟩ = some v1 ∧ w.cell? ⟨b, k * 8 + 2, none⟩ = some v2 ∧ w.cell? ⟨b, k * 8 + 3, none⟩ = some v3 ∧ w.cell? ⟨b, k * 8 + 4, none⟩ = some v4 ∧ w.cell? ⟨b, k * 8 + 5, none⟩ = some v5 ∧ w.cell? ⟨b, k * 8 + 6, none⟩ = some v6 ∧ w.cell? ⟨b, k * 8 + 7, none⟩ = some v7 ∧ ∀ o, w.frozen? ⟨b, o, none⟩ = false := by
  obtain ⟨f, hf, _⟩ := h
  exact ⟨_, _, _, _, _, _, _, _, hf.cell (i := k * 8) (by omega), hf.cell (i := k * 8 + 1) (by omega), hf.cell (i := k * 8 + 2) (by omega), hf.cell (i := k * 8 + 3) (by omega), hf.cell (i := k * 8 + 4) (by omega), hf.cell (i := k * 8 + 5) (by omega), hf.cell (i := k * 8 + 6) (by omega), hf.cell (i := k * 8 + 7) (by omega), fun o => hf.frozen o⟩

theorem Row8.lt {S : Nat → Prop} {w : World} {b e n : Nat} {L : Nat → Option Rt} (h : Row8 S w b e n L) : b < w.heap.size := by
  obtain ⟨f, hf, _⟩ := h; exact hf.lt

theorem Row8.mono {S S' : Nat → Prop} {w : World} {b e n : Nat} {L : Nat → Option Rt} (h : Row8 S w b e n L) (k : ∀ b, S b → S' b) : Row8 S' w b e n L := by
  obtain ⟨f, hf, hE⟩ := h
  refine ⟨f, hf, fun j r hj hr => ?_⟩
  obtain ⟨a, len, cap, h0, h1, h2, h3, h4, h5, h6, h7, hi⟩ := hE j r hj hr
  exact ⟨a, len, cap, h0, h1, h2, h3, h4, h5, h6, h7, hi.mono k⟩

theorem Lat.store8 {a w : World} {b : Nat} (h : Lat a w) (hb : a.heap.size ≤ b) (o0 o1 o2 o3 o4 o5 o6 o7 : Nat) (v0 v1 v2 v3 v4 v5 v6 v7 : Value) :
    Lat a ((((((((w.setCell ⟨b, o0, none⟩ v0).setCell ⟨b, o1, none⟩ v1).setCell ⟨b, o2, none⟩ v2).setCell ⟨b, o3, none⟩ v3).setCell ⟨b, o4, none⟩ v4).setCell ⟨b, o5, none⟩ v5).setCell ⟨b, o6, none⟩ v6).setCell ⟨b, o7, none⟩ v7) :=
  (((((((h.setCell hb _).setCell hb _).setCell hb _).setCell hb _).setCell hb _).setCell hb _).setCell hb _).setCell hb _

theorem fill_step {rs : List Rt} {k : Nat} {r : Rt} (hr : rs[k]? = some r) (j : Nat) : (if j < k + 1 then rs[j]? else none) = if j = k then some r else if j < k then rs[j]? else none := by
  by_cases e : j = k
  · subst e; rw [if_pos (by omega), if_pos rfl, hr]
  · rw [if_neg e]
    by_cases h : j < k
    · rw [if_pos (by omega), if_pos h]
    · rw [if_neg (by omega), if_neg h]

set_option maxHeartbeats 1000000 in
theorem cloneRoutes_any {S : Nat → Prop} (a : Option Addr) (rs : List Rt) (cap : Nat) (w : World) (h : RsAt S w a rs) (hl : rs.length ≤ 65536) (hok : ∀ r ∈ rs, Ok r) :
    Calls Try.prog 8 #[.slice a rs.length cap] w fun e w' => ∃ a' cap', e = .returned (.slice a' rs.length cap') ∧ RsAt (fun _ => True) w' a' rs ∧ Lat w w' := by
  have q1 := fun (w : World) (a : Option Addr) (n c : Nat) => Lib.run_eql_slice_nil (P := Try.prog) w 22 43 a n c 0 0 Try.underlying22
  rcases a with _ | x
  · have hrs : rs = [] := by
      rcases rs with _ | ⟨r, rs⟩
      · rfl
      · obtain ⟨b, off, e, _⟩ := h 0 r rfl; cases e
    subst hrs
    go_enter Try.func8, Try.ntmps8
    go_wp2_with fail
    go_ret
    exact ⟨none, 0, rfl, fun i r hr => by simp at hr, Lat.refl w⟩
  · have hmk := fun w => make8 22 43 Try.underlying22 info43 rs.length hl w
    go_enter Try.func8, Try.ntmps8
    go_wp2_with fail
    go_loopw [4] (fun i wr => ∃ k : Nat, k ≤ rs.length ∧ i = .int .i64 k ∧ Row8 (fun b => w.heap.size < b) wr w.heap.size 43 rs.length (fun j => if j < k then rs[j]? else none) ∧ Lat w wr) (fun i _ => rs.length - (intOf i).toNat)
    case atStart => exact ⟨0, Nat.zero_le _, rfl, (row8_made _ 43 rs.length w).congr (fun j _ => by simp), (Lat.refl w).alloc _⟩
    case round =>
      obtain ⟨k, hk, rfl, he, hb⟩ := hrel
      clear hmk
      by_cases hlt : k < rs.length
      · obtain ⟨r, hr⟩ : ∃ r, rs[k]? = some r := ⟨_, List.getElem?_eq_getElem hlt⟩
        obtain ⟨b1, o1, ea, hc⟩ := h k r hr
        obtain rfl := Option.some.inj ea
        clear ea
        have hok' := hok r (List.mem_of_getElem? hr)
        obtain ⟨ai, li, ci, c0, c1, c2, c3, c4, c5, c6, c7, hi⟩ := hc.later hb
        have HC : Hid (∀ W, W = wr → Calls Try.prog 27 #[.agg #[.string r.pre, .string r.kind, .string r.dst, .int .i64 r.mn, .int .i64 r.mx, .int .i64 r.st, .string r.prep, .slice ai li ci]] W fun e w' => ∃ u, e = .returned u ∧ RtV (fun b => W.heap.size ≤ b) w' u r ∧ Lat W w') :=
          fun W hW => cloneRoute_any (S := S) _ r W (by subst hW; exact ⟨ai, li, ci, rfl, hi⟩) hok'
        clear h hok hc hok' hi
        go_wp2_with fail
        refine (HC.out _ rfl).mono ?_
        rintro e w1 ⟨u, rfl, ⟨a', l', cap', rfl, hi'⟩, hb1⟩
        have he1 := he.later hb1
        have hlt8 := he.lt
        obtain ⟨v0, v1, v2, v3, v4, v5, v6, v7, g0, g1, g2, g3, g4, g5, g6, g7, gf⟩ := he1.cells hlt
        have HS := he1.store hlt (by simp) (r := r) (cap := cap') (hi'.mono (fun b hb => by omega))
        have HB := (hb.trans hb1)
        have HRW : Hid (rs[k]? = some r) := hr
        clear he he1 hb hb1 hi' HC hr
        go_wp2_with fail
        go_roundw
        case rel => exact ⟨k + 1, by omega, by go_num, HS.congr (fun j _ => fill_step HRW.out j), HB.store8 (Nat.le_refl _) _ _ _ _ _ _ _ _ _ _ _ _ _ _ _ _⟩
        case measure => simp [intOf]; omega
      · go_wp2_with fail
        go_ret
        exact ⟨_, _, rfl, (he.mono (fun _ _ => trivial)).rs rfl (fun j r hr => by rw [if_pos (by have := (List.getElem?_eq_some_iff.1 hr).1; omega)]; exact hr), hb⟩

/-- A route of the list, as it lies, its classes in memory that was there. -/
theorem route_old {S : Nat → Prop} {w wr : World} {b o : Nat} {r : Rt} (h : RtC S w b o r) (k : Lat w wr) : RtC (fun b => b < w.heap.size) wr b o r := by
  obtain ⟨a, len, cap, h0, h1, h2, h3, h4, h5, h6, h7, hi⟩ := h
  exact ⟨a, len, cap, k.cell h0, k.cell h1, k.cell h2, k.cell h3, k.cell h4, k.cell h5, k.cell h6, k.cell h7, hi.old.later k⟩

set_option maxHeartbeats 1000000 in
theorem joinRoutes_any {S S' : Nat → Prop} (a b : Option Addr) (ra rb : List Rt) (ca cb : Nat) (w : World) (ha : RsAt S w a ra) (hbb : RsAt S' w b rb) (hla : ra.length ≤ 4096) (hlb : rb.length ≤ 4096) :
    Calls Try.prog 13 #[.slice a ra.length ca, .slice b rb.length cb] w fun e w' => ∃ a' cap', e = .returned (.slice a' (ra ++ rb).length cap') ∧ RsAt (fun _ => True) w' a' (ra ++ rb) ∧ Lat w w' := by
  have hmk := fun w => make8 22 43 Try.underlying22 info43 (ra.length + rb.length) (by omega) w
  have e1 : ((ra.length + rb.length : Nat) : Int) = (ra.length : Int) + (rb.length : Int) := by omega
  rw [e1] at hmk
  clear e1
  obtain ⟨N, hN⟩ : ∃ N, N = ra.length + rb.length := ⟨_, rfl⟩
  have HN : Hid (N = ra.length + rb.length) := hN
  have hNl : ra.length ≤ N := by omega
  have hNr : ra.length + rb.length ≤ N := by omega
  have hNN : N ≤ ra.length + rb.length := by omega
  rw [← hN] at hmk
  clear hN
  go_enter Try.func13, Try.ntmps13
  go_wp2_with fail
  clear hmk
  go_loopw [6] (fun i wr => ∃ k : Nat, k ≤ ra.length ∧ i = .int .i64 k ∧ Row8 (fun b => b < w.heap.size) wr w.heap.size 43 N (fun j => if j < k then (ra ++ rb)[j]? else none) ∧ Lat w wr) (fun i _ => ra.length - (intOf i).toNat)
  case atStart => exact ⟨0, Nat.zero_le _, rfl, (row8_made _ 43 N w).congr (fun j _ => by simp), (Lat.refl w).alloc _⟩
  case round =>
    obtain ⟨k, hk, rfl, he, hb⟩ := hrel
    by_cases hlt : k < ra.length
    · obtain ⟨r, hr⟩ : ∃ r, ra[k]? = some r := ⟨_, List.getElem?_eq_getElem hlt⟩
      obtain ⟨b1, o1, rfl, hc⟩ := ha k r hr
      obtain ⟨ai, li, ci, c0, c1, c2, c3, c4, c5, c6, c7, hi⟩ := route_old hc hb
      obtain ⟨v0, v1, v2, v3, v4, v5, v6, v7, g0, g1, g2, g3, g4, g5, g6, g7, gf⟩ := he.cells (k := k) (by omega)
      have HS := he.store (k := k) (by omega) (by simp) (cap := ci) hi
      have HRW : Hid ((ra ++ rb)[k]? = some r) := by
        show _ = _
        rw [List.getElem?_append_left hlt]; exact hr
      clear ha hbb hc hi he hr
      go_wp2_with fail
      go_roundw
      case rel => exact ⟨k + 1, by omega, by go_num, HS.congr (fun j _ => fill_step HRW.out j), hb.store8 (Nat.le_refl _) _ _ _ _ _ _ _ _ _ _ _ _ _ _ _ _⟩
      case measure => simp [intOf]; omega
    · have he2 : Row8 (fun b => b < w.heap.size) wr w.heap.size 43 N (fun j => if j < ra.length + 0 then (ra ++ rb)[j]? else none) := he.congr (fun j _ => by rw [show ra.length + 0 = k by omega])
      clear he
      go_wp2_with fail
      go_loopw [7] (fun i wx => ∃ k : Nat, k ≤ rb.length ∧ i = .int .i64 k ∧ Row8 (fun b => b < w.heap.size) wx w.heap.size 43 N (fun j => if j < ra.length + k then (ra ++ rb)[j]? else none) ∧ Lat w wx) (fun i _ => rb.length - (intOf i).toNat)
      case atStart => exact ⟨0, Nat.zero_le _, rfl, he2, hb⟩
      case round =>
        clear he2 hb
        obtain ⟨m, hm, rfl, he, hb⟩ := hrel
        by_cases hlt2 : m < rb.length
        · obtain ⟨r, hr⟩ : ∃ r, rb[m]? = some r := ⟨_, List.getElem?_eq_getElem hlt2⟩
          obtain ⟨b1, o1, rfl, hc⟩ := hbb m r hr
          obtain ⟨ai, li, ci, c0, c1, c2, c3, c4, c5, c6, c7, hi⟩ := route_old hc hb
          obtain ⟨v0, v1, v2, v3, v4, v5, v6, v7, g0, g1, g2, g3, g4, g5, g6, g7, gf⟩ := he.cells (k := ra.length + m) (by omega)
          have HS := he.store (k := ra.length + m) (by omega) (by simp) (cap := ci) hi
          have HRW : Hid ((ra ++ rb)[ra.length + m]? = some r) := by
            show _ = _
            rw [List.getElem?_append_right (by omega), Nat.add_sub_cancel_left]; exact hr
          clear ha hbb hc hi he hr
          go_wp2_with fail
          go_roundw
          case rel => exact ⟨m + 1, by omega, by go_num, HS.congr (fun j _ => fill_step HRW.out j), hb.store8 (Nat.le_refl _) _ _ _ _ _ _ _ _ _ _ _ _ _ _ _ _⟩
          case measure => simp [intOf]; omega
        · have hfin : (ra ++ rb).length = N := by rw [List.length_append]; omega
          go_wp2_with fail
          go_ret
          refine ⟨_, _, by rw [hfin]; rfl, (he.mono (fun _ _ => trivial)).rs hfin (fun j r hr => ?_), hb⟩
          rw [if_pos (by have := (List.getElem?_eq_some_iff.1 hr).1; rw [List.length_append] at this; omega)]; exact hr
/-- A list with one element put in at place p. -/
def ins {α : Type} (p : Nat) (x : α) (l : List α) : List α := l.take p ++ x :: l.drop p

theorem ins_length {α : Type} {p : Nat} {x : α} {l : List α} (h : p ≤ l.length) : (ins p x l).length = l.length + 1 := by
  unfold ins; simp; omega
theorem ins_lt {α : Type} {p : Nat} {x : α} {l : List α} {j : Nat} (h : p ≤ l.length) (hj : j < p) : (ins p x l)[j]? = l[j]? := by
  unfold ins
  rw [List.getElem?_append_left (by simp; omega), List.getElem?_take, if_pos hj]
theorem ins_at {α : Type} {p : Nat} {x : α} {l : List α} (h : p ≤ l.length) : (ins p x l)[p]? = some x := by
  unfold ins
  rw [List.getElem?_append_right (by simp; omega)]
  simp [Nat.min_eq_left h]
theorem ins_gt {α : Type} {p : Nat} {x : α} {l : List α} {j : Nat} (h : p ≤ l.length) (hj : p ≤ j) : (ins p x l)[j + 1]? = l[j]? := by
  unfold ins
  rw [List.getElem?_append_right (by simp; omega)]
  have e : j + 1 - (l.take p).length = (j - p) + 1 := by simp; omega
  rw [e, List.getElem?_cons_succ, List.getElem?_drop]
  congr 1; omega

set_option maxHeartbeats 1000000 in
theorem insertRoute_any {S S' : Nat → Prop} (a : Option Addr) (rs : List Rt) (ca p : Nat) (v : Value) (x : Rt) (w : World) (ha : RsAt S w a rs) (hv : RtV S' w v x) (hla : rs.length ≤ 4096) (hp : p ≤ rs.length) :
    Calls Try.prog 28 #[.slice a rs.length ca, .int .i64 p, v] w fun e w' => ∃ a' cap', e = .returned (.slice a' (rs.length + 1) cap') ∧ RsAt (fun _ => True) w' a' (ins p x rs) ∧ Lat w w' := by
  obtain ⟨xa, xl, xc, rfl, hx⟩ := hv
  have hx := hx.old
  have hmk := fun w => make8 22 43 Try.underlying22 info43 (rs.length + 1) (by omega) w
  have e1 : ((rs.length + 1 : Nat) : Int) = (rs.length : Int) + 1 := by omega
  rw [e1] at hmk
  clear e1
  obtain ⟨W1, hW1⟩ : ∃ W1, W1 = w.alloc (.cells #[.string x.pre, .string x.kind, .string x.dst, .int .i64 x.mn, .int .i64 x.mx, .int .i64 x.st, .string x.prep, .slice xa xl xc] 43) := ⟨_, rfl⟩
  have hL1 : Lat w W1 := by rw [hW1]; exact (Lat.refl w).alloc _
  have hz1 : W1.heap.size = w.heap.size + 1 := by rw [hW1]; simp
  have x0 : W1.cell? ⟨w.heap.size, 0, none⟩ = some (.string x.pre) := by rw [hW1]; go_simp
  have x1 : W1.cell? ⟨w.heap.size, 1, none⟩ = some (.string x.kind) := by rw [hW1]; go_simp
  have x2 : W1.cell? ⟨w.heap.size, 2, none⟩ = some (.string x.dst) := by rw [hW1]; go_simp
  have x3 : W1.cell? ⟨w.heap.size, 3, none⟩ = some (.int .i64 x.mn) := by rw [hW1]; go_simp
  have x4 : W1.cell? ⟨w.heap.size, 4, none⟩ = some (.int .i64 x.mx) := by rw [hW1]; go_simp
  have x5 : W1.cell? ⟨w.heap.size, 5, none⟩ = some (.int .i64 x.st) := by rw [hW1]; go_simp
  have x6 : W1.cell? ⟨w.heap.size, 6, none⟩ = some (.string x.prep) := by rw [hW1]; go_simp
  have x7 : W1.cell? ⟨w.heap.size, 7, none⟩ = some (.slice xa xl xc) := by rw [hW1]; go_simp
  have HW1 : Hid (w.alloc (.cells #[.string x.pre, .string x.kind, .string x.dst, .int .i64 x.mn, .int .i64 x.mx, .int .i64 x.st, .string x.prep, .slice xa xl xc] 43) = W1) := hW1.symm
  have X : Hid (W1.cell? ⟨w.heap.size, 0, none⟩ = some (.string x.pre) ∧ W1.cell? ⟨w.heap.size, 1, none⟩ = some (.string x.kind) ∧ W1.cell? ⟨w.heap.size, 2, none⟩ = some (.string x.dst) ∧ W1.cell? ⟨w.heap.size, 3, none⟩ = some (.int .i64 x.mn) ∧ W1.cell? ⟨w.heap.size, 4, none⟩ = some (.int .i64 x.mx) ∧ W1.cell? ⟨w.heap.size, 5, none⟩ = some (.int .i64 x.st) ∧ W1.cell? ⟨w.heap.size, 6, none⟩ = some (.string x.prep) ∧ W1.cell? ⟨w.heap.size, 7, none⟩ = some (.slice xa xl xc)) := ⟨x0, x1, x2, x3, x4, x5, x6, x7⟩
  have HZ : Hid (W1.heap.size = w.heap.size + 1) := hz1
  clear hW1 hz1 x0 x1 x2 x3 x4 x5 x6 x7
  go_enter Try.func28, Try.ntmps28
  go_wp2_with fail
  clear hmk
  rw [HW1.out]
  go_loopw [8] (fun i wr => ∃ k : Nat, k ≤ p ∧ i = .int .i64 k ∧ Row8 (fun b => b < w.heap.size) wr (w.heap.size + 1) 43 (rs.length + 1) (fun j => if j < k then (ins p x rs)[j]? else none) ∧ Lat W1 wr) (fun i _ => p - (intOf i).toNat)
  case atStart =>
    refine ⟨0, Nat.zero_le _, rfl, ?_, (Lat.refl W1).alloc _⟩
    have := row8_made (fun b => b < w.heap.size) 43 (rs.length + 1) W1
    rw [HZ.out] at this
    exact this.congr (fun j _ => by simp)
  case round =>
    obtain ⟨k, hk, rfl, he, hb⟩ := hrel
    by_cases hlt : k < p
    · obtain ⟨r, hr⟩ : ∃ r, rs[k]? = some r := ⟨_, List.getElem?_eq_getElem (by omega)⟩
      obtain ⟨b1, o1, rfl, hc⟩ := ha k r hr
      obtain ⟨ai, li, ci, c0, c1, c2, c3, c4, c5, c6, c7, hi⟩ := route_old hc (hL1.trans hb)
      obtain ⟨v0, v1, v2, v3, v4, v5, v6, v7, g0, g1, g2, g3, g4, g5, g6, g7, gf⟩ := he.cells (k := k) (by omega)
      have HS := he.store (k := k) (by omega) (by simp) (cap := ci) hi
      have HRW : Hid ((ins p x rs)[k]? = some r) := (ins_lt hp hlt).trans hr
      clear ha hc hi he hr
      go_wp2_with fail
      go_roundw
      case rel => exact ⟨k + 1, by omega, by go_num, HS.congr (fun j _ => fill_step HRW.out j), hb.store8 (by rw [HZ.out]; exact Nat.le_refl _) _ _ _ _ _ _ _ _ _ _ _ _ _ _ _ _⟩
      case measure => simp [intOf]; omega
    · obtain rfl : p = k := by omega
      obtain ⟨v0, v1, v2, v3, v4, v5, v6, v7, g0, g1, g2, g3, g4, g5, g6, g7, gf⟩ := he.cells (k := p) (by omega)
      have HS := he.store (k := p) (by omega) (by simp) (cap := xc) (hx.later (hL1.trans hb))
      have HRW : Hid ((ins p x rs)[p]? = some x) := ins_at hp
      have he2 := HS.congr (fun j _ => fill_step HRW.out j)
      have hb2 := hb.store8 (b := w.heap.size + 1) (by rw [HZ.out]; exact Nat.le_refl _) (p * 8) (p * 8 + 1) (p * 8 + 2) (p * 8 + 3) (p * 8 + 4) (p * 8 + 5) (p * 8 + 6) (p * 8 + 7) (.string x.pre) (.string x.kind) (.string x.dst) (.int .i64 x.mn) (.int .i64 x.mx) (.int .i64 x.st) (.string x.prep) (.slice xa xl xc)
      have x0 := hb.cell X.out.1
      have x1 := hb.cell X.out.2.1
      have x2 := hb.cell X.out.2.2.1
      have x3 := hb.cell X.out.2.2.2.1
      have x4 := hb.cell X.out.2.2.2.2.1
      have x5 := hb.cell X.out.2.2.2.2.2.1
      have x6 := hb.cell X.out.2.2.2.2.2.2.1
      have x7 := hb.cell X.out.2.2.2.2.2.2.2
      clear he HS hb hx
      go_wp2_with fail
      go_loopw [9] (fun i wx => ∃ k : Nat, p ≤ k ∧ k ≤ rs.length ∧ i = .int .i64 k ∧ Row8 (fun b => b < w.heap.size) wx (w.heap.size + 1) 43 (rs.length + 1) (fun j => if j < k + 1 then (ins p x rs)[j]? else none) ∧ Lat W1 wx) (fun i _ => rs.length - (intOf i).toNat)
      case atStart => exact ⟨p, Nat.le_refl _, hp, rfl, he2, hb2⟩
      case round =>
        clear he2 hb2 x0 x1 x2 x3 x4 x5 x6 x7 g0 g1 g2 g3 g4 g5 g6 g7 gf
        obtain ⟨m, hm1, hm, rfl, he, hb⟩ := hrel
        by_cases hlt2 : m < rs.length
        · obtain ⟨r, hr⟩ : ∃ r, rs[m]? = some r := ⟨_, List.getElem?_eq_getElem hlt2⟩
          obtain ⟨b1, o1, rfl, hc⟩ := ha m r hr
          obtain ⟨ai, li, ci, c0, c1, c2, c3, c4, c5, c6, c7, hi⟩ := route_old hc (hL1.trans hb)
          obtain ⟨v0, v1, v2, v3, v4, v5, v6, v7, g0, g1, g2, g3, g4, g5, g6, g7, gf⟩ := he.cells (k := m + 1) (by omega)
          have HS := he.store (k := m + 1) (by omega) (by simp) (cap := ci) hi
          have HR2 : Hid ((ins p x rs)[m + 1]? = some r) := (ins_gt hp hm1).trans hr
          clear ha hc hi he hr
          go_wp2_with fail
          go_roundw
          case rel => exact ⟨m + 1, by omega, by omega, by go_num, HS.congr (fun j _ => fill_step HR2.out j), hb.store8 (by rw [HZ.out]; exact Nat.le_refl _) _ _ _ _ _ _ _ _ _ _ _ _ _ _ _ _⟩
          case measure => simp [intOf]; omega
        · go_wp2_with fail
          go_ret
          refine ⟨_, _, rfl, (he.mono (fun _ _ => trivial)).rs (ins_length hp) (fun j r hr => ?_), hL1.trans hb⟩
          rw [if_pos (by have := (List.getElem?_eq_some_iff.1 hr).1; rw [ins_length hp] at this; omega)]; exact hr
end Go.Proofs.Qxb6630238a
