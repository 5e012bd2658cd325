/- The walks of seat b6630238a: slices of strings made anew: cloneStrings, joinStrings, insertString, toEntries. -/
import Derived.Test.Qxb6630238aWkD
namespace Go.Proofs.Qxb6630238a
open Go.RowKit Pl

theorem info9 : (Try.prog.info? 9).map (fun i => (i.zero, i.size, i.bytes)) = some (some (.string ⟨#[]⟩), 1, 16) := by kernel_rfl

/-- Block b is a row of n cells; where L says so, the string is there. -/
def RowS (w : World) (b e n : Nat) (L : Nat → Option ByteArray) : Prop :=
  ∃ f, w.rowIs b e n f ∧ ∀ j s, j < n → L j = some s → f j = .string s

theorem RowS.congr {w : World} {b e n : Nat} {L L' : Nat → Option ByteArray} (h : RowS w b e n L) (k : ∀ j, j < n → L' j = L j) : RowS w b e n L' := by
  obtain ⟨f, hf, hE⟩ := h
  exact ⟨f, hf, fun j r hj hr => hE j r hj (by rw [← k j hj]; exact hr)⟩

theorem RowS.store {w : World} {b e n : Nat} {L : Nat → Option ByteArray} (h : RowS w b e n L) (k : Nat) (s : ByteArray) : RowS (w.setCell ⟨b, k, none⟩ (.string s)) b e n (fun j => if j = k then some s else L j) := by
  obtain ⟨f, hf, hE⟩ := h
  refine ⟨_, hf.set k (.string s), fun j r hj hr => ?_⟩
  dsimp only at hr ⊢
  by_cases e : j = k
  · rw [if_pos e] at hr ⊢
    rw [Option.some.inj hr]
  · rw [if_neg e] at hr ⊢
    exact hE j r hj hr

theorem RowS.cell {w : World} {b e n : Nat} {L : Nat → Option ByteArray} (h : RowS w b e n L) {k : Nat} (hk : k < n) : (∃ v, w.cell? ⟨b, k, none⟩ = some v) ∧ w.frozen? ⟨b, k, none⟩ = false := by
  obtain ⟨f, hf, _⟩ := h
  exact ⟨⟨_, hf.cell hk⟩, hf.frozen k⟩

theorem RowS.ss {w : World} {b e n : Nat} {L : Nat → Option ByteArray} (h : RowS w b e n L) {ss : List ByteArray} (hn : ss.length = n) (hL : ∀ j s, ss[j]? = some s → L j = some s) : SsAt w (some ⟨b, 0, none⟩) ss := by
  obtain ⟨f, hf, hE⟩ := h
  intro i s hs
  have hi : i < ss.length := (List.getElem?_eq_some_iff.1 hs).1
  refine ⟨b, 0, rfl, ?_⟩
  rw [Nat.zero_add, hf.cell (by omega), hE i s (by omega) (hL i s hs)]

theorem rowS_made (e n : Nat) (w : World) (z : Value) : RowS (w.alloc (.cells (madeCells #[z] n) e)) w.heap.size e n (fun _ => none) :=
  ⟨_, World.rowIs_made w z n e, fun j r _ hr => by cases hr⟩

theorem fill_stepS {rs : List ByteArray} {k : Nat} {r : ByteArray} (hr : rs[k]? = some r) (j : Nat) : (if j < k + 1 then rs[j]? else none) = if j = k then some r else if j < k then rs[j]? else none := by
  by_cases e : j = k
  · subst e; rw [if_pos (by omega), if_pos rfl, hr]
  · rw [if_neg e]
    by_cases h : j < k
    · rw [if_pos (by omega), if_pos h]
    · rw [if_neg (by omega), if_neg h]

set_option maxHeartbeats 1000000 in
theorem cloneStrings_any (a : Option Addr) (ss : List ByteArray) (cap : Nat) (w : World) (h : SsAt w a ss) (hl : ss.length ≤ 65536) :
    Calls Try.prog 9 #[.slice a ss.length cap] w fun e w' => ∃ a' cap', e = .returned (.slice a' ss.length cap') ∧ SsAt w' a' ss ∧ Lat w w' := by
  have q1 := fun (w : World) (a : Option Addr) (n c : Nat) => Lib.run_eql_slice_nil (P := Try.prog) w 23 9 a n c 0 0 Try.underlying23
  rcases a with _ | x
  · have hrs : ss = [] := by
      rcases ss with _ | ⟨r, rs⟩
      · rfl
      · obtain ⟨b, off, e, _⟩ := h 0 r rfl; cases e
    subst hrs
    go_enter Try.func9, Try.ntmps9
    go_wp2_with fail
    go_ret
    exact ⟨none, 0, rfl, fun i r hr => by simp at hr, Lat.refl w⟩
  · have hmk := run_make_row' (P := Try.prog) 23 9 (.string ⟨#[]⟩) 16 Try.underlying23 info9 rfl .i64 .i64 ss.length (by omega) (by omega)
    go_enter Try.func9, Try.ntmps9
    go_wp2_with fail
    go_loopw [4] (fun i wr => ∃ k : Nat, k ≤ ss.length ∧ i = .int .i64 k ∧ RowS wr w.heap.size 9 ss.length (fun j => if j < k then ss[j]? else none) ∧ Lat w wr) (fun i _ => ss.length - (intOf i).toNat)
    case atStart => exact ⟨0, Nat.zero_le _, rfl, (rowS_made 9 ss.length w _).congr (fun j _ => by simp), (Lat.refl w).alloc _⟩
    case round =>
      obtain ⟨k, hk, rfl, he, hb⟩ := hrel
      clear hmk
      by_cases hlt : k < ss.length
      · obtain ⟨r, hr⟩ : ∃ r, ss[k]? = some r := ⟨_, List.getElem?_eq_getElem hlt⟩
        obtain ⟨b1, o1, ea, hc⟩ := h k r hr
        obtain rfl := Option.some.inj ea
        clear ea
        have c0 := hb.cell hc
        obtain ⟨⟨v0, g0⟩, gf⟩ := he.cell hlt
        have HS := he.store k r
        have HRW : Hid (ss[k]? = some r) := hr
        clear h hc he hr
        go_wp2_with fail
        go_roundw
        case rel => exact ⟨k + 1, by omega, by go_num, HS.congr (fun j _ => fill_stepS HRW.out j), hb.setCell (Nat.le_refl _) _⟩
        case measure => simp [intOf]; omega
      · go_wp2_with fail
        go_ret
        exact ⟨_, _, rfl, he.ss rfl (fun j r hr => by rw [if_pos (by have := (List.getElem?_eq_some_iff.1 hr).1; omega)]; exact hr), hb⟩

set_option maxHeartbeats 1000000 in
theorem joinStrings_any (a b : Option Addr) (ra rb : List ByteArray) (ca cb : Nat) (w : World) (ha : SsAt w a ra) (hbb : SsAt w b rb) (hla : ra.length ≤ 4096) (hlb : rb.length ≤ 4096) :
    Calls Try.prog 14 #[.slice a ra.length ca, .slice b rb.length cb] w fun e w' => ∃ a' cap', e = .returned (.slice a' (ra ++ rb).length cap') ∧ SsAt w' a' (ra ++ rb) ∧ Lat w w' := by
  have hmk := run_make_row' (P := Try.prog) 23 9 (.string ⟨#[]⟩) 16 Try.underlying23 info9 rfl .i64 .i64 (ra.length + rb.length) (by omega) (by omega)
  have e1 : ((ra.length + rb.length : Nat) : Int) = (ra.length : Int) + (rb.length : Int) := by omega
  rw [e1] at hmk
  clear e1
  obtain ⟨N, hN⟩ : ∃ N, N = ra.length + rb.length := ⟨_, rfl⟩
  have hNl : ra.length ≤ N := by omega
  have hNr : ra.length + rb.length ≤ N := by omega
  have hNN : N ≤ ra.length + rb.length := by omega
  rw [← hN] at hmk
  clear hN
  go_enter Try.func14, Try.ntmps14
  go_wp2_with fail
  clear hmk
  go_loopw [6] (fun i wr => ∃ k : Nat, k ≤ ra.length ∧ i = .int .i64 k ∧ RowS wr w.heap.size 9 N (fun j => if j < k then (ra ++ rb)[j]? else none) ∧ Lat w wr) (fun i _ => ra.length - (intOf i).toNat)
  case atStart => exact ⟨0, Nat.zero_le _, rfl, (rowS_made 9 N w _).congr (fun j _ => by simp), (Lat.refl w).alloc _⟩
  case round =>
    obtain ⟨k, hk, rfl, he, hb⟩ := hrel
    by_cases hlt : k < ra.length
    · obtain ⟨r, hr⟩ : ∃ r, ra[k]? = some r := ⟨_, List.getElem?_eq_getElem hlt⟩
      obtain ⟨b1, o1, rfl, hc⟩ := ha k r hr
      have c0 := hb.cell hc
      obtain ⟨⟨v0, g0⟩, gf⟩ := he.cell (k := k) (by omega)
      have HS := he.store k r
      have HRW : Hid ((ra ++ rb)[k]? = some r) := by
        show _ = _
        rw [List.getElem?_append_left hlt]; exact hr
      clear ha hbb hc he hr
      go_wp2_with fail
      go_roundw
      case rel => exact ⟨k + 1, by omega, by go_num, HS.congr (fun j _ => fill_stepS HRW.out j), hb.setCell (Nat.le_refl _) _⟩
      case measure => simp [intOf]; omega
    · have he2 : RowS wr w.heap.size 9 N (fun j => if j < ra.length + 0 then (ra ++ rb)[j]? else none) := he.congr (fun j _ => by rw [show ra.length + 0 = k by omega])
      clear he
      go_wp2_with fail
      go_loopw [7] (fun i wx => ∃ k : Nat, k ≤ rb.length ∧ i = .int .i64 k ∧ RowS wx w.heap.size 9 N (fun j => if j < ra.length + k then (ra ++ rb)[j]? else none) ∧ Lat w wx) (fun i _ => rb.length - (intOf i).toNat)
      case atStart => exact ⟨0, Nat.zero_le _, rfl, he2, hb⟩
      case round =>
        clear he2 hb
        obtain ⟨m, hm, rfl, he, hb⟩ := hrel
        by_cases hlt2 : m < rb.length
        · obtain ⟨r, hr⟩ : ∃ r, rb[m]? = some r := ⟨_, List.getElem?_eq_getElem hlt2⟩
          obtain ⟨b1, o1, rfl, hc⟩ := hbb m r hr
          have c0 := hb.cell hc
          obtain ⟨⟨v0, g0⟩, gf⟩ := he.cell (k := ra.length + m) (by omega)
          have HS := he.store (ra.length + m) r
          have HRW : Hid ((ra ++ rb)[ra.length + m]? = some r) := by
            show _ = _
            rw [List.getElem?_append_right (by omega), Nat.add_sub_cancel_left]; exact hr
          clear ha hbb hc he hr
          go_wp2_with fail
          go_roundw
          case rel => exact ⟨m + 1, by omega, by go_num, HS.congr (fun j _ => fill_stepS HRW.out j), hb.setCell (Nat.le_refl _) _⟩
          case measure => simp [intOf]; omega
        · have hfin : (ra ++ rb).length = N := by rw [List.length_append]; omega
          go_wp2_with fail
          go_ret
          refine ⟨_, _, by rw [hfin]; rfl, he.ss hfin (fun j r hr => ?_), hb⟩
          rw [if_pos (by have := (List.getElem?_eq_some_iff.1 hr).1; rw [List.length_append] at this; omega)]; exact hr

set_option maxHeartbeats 1000000 in
theorem insertString_any (a : Option Addr) (rs : List ByteArray) (ca p : Nat) (x : ByteArray) (w : World) (ha : SsAt w a rs) (hla : rs.length ≤ 4096) (hp : p ≤ rs.length) :
    Calls Try.prog 29 #[.slice a rs.length ca, .int .i64 p, .string x] w fun e w' => ∃ a' cap', e = .returned (.slice a' (rs.length + 1) cap') ∧ SsAt w' a' (ins p x rs) ∧ Lat w w' := by
  have hmk := run_make_row' (P := Try.prog) 23 9 (.string ⟨#[]⟩) 16 Try.underlying23 info9 rfl .i64 .i64 (rs.length + 1) (by omega) (by omega)
  have e1 : ((rs.length + 1 : Nat) : Int) = (rs.length : Int) + 1 := by omega
  rw [e1] at hmk
  clear e1
  go_enter Try.func29, Try.ntmps29
  go_wp2_with fail
  clear hmk
  go_loopw [8] (fun i wr => ∃ k : Nat, k ≤ p ∧ i = .int .i64 k ∧ RowS wr w.heap.size 9 (rs.length + 1) (fun j => if j < k then (ins p x rs)[j]? else none) ∧ Lat w wr) (fun i _ => p - (intOf i).toNat)
  case atStart => exact ⟨0, Nat.zero_le _, rfl, (rowS_made 9 (rs.length + 1) w _).congr (fun j _ => by simp), (Lat.refl w).alloc _⟩
  case round =>
    obtain ⟨k, hk, rfl, he, hb⟩ := hrel
    by_cases hlt : k < p
    · obtain ⟨r, hr⟩ : ∃ r, rs[k]? = some r := ⟨_, List.getElem?_eq_getElem (by omega)⟩
      obtain ⟨b1, o1, rfl, hc⟩ := ha k r hr
      have c0 := hb.cell hc
      obtain ⟨⟨v0, g0⟩, gf⟩ := he.cell (k := k) (by omega)
      have HS := he.store k r
      have HRW : Hid ((ins p x rs)[k]? = some r) := (ins_lt hp hlt).trans hr
      clear ha hc he hr
      go_wp2_with fail
      go_roundw
      case rel => exact ⟨k + 1, by omega, by go_num, HS.congr (fun j _ => fill_stepS HRW.out j), hb.setCell (Nat.le_refl _) _⟩
      case measure => simp [intOf]; omega
    · obtain rfl : p = k := by omega
      obtain ⟨⟨v0, g0⟩, gf⟩ := he.cell (k := p) (by omega)
      have HS := he.store p x
      have HRW : Hid ((ins p x rs)[p]? = some x) := ins_at hp
      have he2 := HS.congr (fun j _ => fill_stepS HRW.out j)
      have hb2 := hb.setCell (p := ⟨w.heap.size, p, none⟩) (Nat.le_refl _) (.string x)
      clear he HS hb
      go_wp2_with fail
      go_loopw [9] (fun i wx => ∃ k : Nat, p ≤ k ∧ k ≤ rs.length ∧ i = .int .i64 k ∧ RowS wx w.heap.size 9 (rs.length + 1) (fun j => if j < k + 1 then (ins p x rs)[j]? else none) ∧ Lat w wx) (fun i _ => rs.length - (intOf i).toNat)
      case atStart => exact ⟨p, Nat.le_refl _, hp, rfl, he2, hb2⟩
      case round =>
        clear he2 hb2 g0 gf
        obtain ⟨m, hm1, hm, rfl, he, hb⟩ := hrel
        by_cases hlt2 : m < rs.length
        · obtain ⟨r, hr⟩ : ∃ r, rs[m]? = some r := ⟨_, List.getElem?_eq_getElem hlt2⟩
          obtain ⟨b1, o1, rfl, hc⟩ := ha m r hr
          have c0 := hb.cell hc
          obtain ⟨⟨v0, g0⟩, gf⟩ := he.cell (k := m + 1) (by omega)
          have HS := he.store (m + 1) r
          have HR2 : Hid ((ins p x rs)[m + 1]? = some r) := (ins_gt hp hm1).trans hr
          clear ha hc he hr
          go_wp2_with fail
          go_roundw
          case rel => exact ⟨m + 1, by omega, by omega, by go_num, HS.congr (fun j _ => fill_stepS HR2.out j), hb.setCell (Nat.le_refl _) _⟩
          case measure => simp [intOf]; omega
        · go_wp2_with fail
          go_ret
          refine ⟨_, _, rfl, he.ss (ins_length hp) (fun j r hr => ?_), hb⟩
          rw [if_pos (by have := (List.getElem?_eq_some_iff.1 hr).1; rw [ins_length hp] at this; omega)]; exact hr

end Go.Proofs.Qxb6630238a
