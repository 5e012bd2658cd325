/- The walks of seat b6630238a: greatestLen, distinctRoutes, distinctStrings, sameRoute, sameCfg. -/
import Derived.Test.Qxb6630238aWkA
namespace Go.Proofs.Qxb6630238a
open Go.RowKit Pl

/-- A route whose texts and classes are not too long. -/
def Ok (r : Rt) : Prop := r.pre.size ≤ 1048576 ∧ ∀ zs, r.cls = some zs → zs.length ≤ 1048576

theorem lg_le {rs : List Rt} (h : ∀ r ∈ rs, Ok r) : lg rs ≤ 1048576 := by
  by_cases e : rs = []
  · subst e; simp [lg]
  · obtain ⟨i, r, h1, h2⟩ := lg_hit e
    rw [← h2]; exact (h r (List.mem_of_getElem? h1)).1

set_option maxHeartbeats 400000 in
theorem greatest_any {S : Nat → Prop} (a : Option Addr) (rs : List Rt) (cap : Nat) (w : World) (h : RsAt S w a rs) (hl : rs.length ≤ 65536) (hok : ∀ r ∈ rs, Ok r) :
    Calls Try.prog 32 #[.slice a rs.length cap, .int .i64 (lg rs)] w fun e w' => e = .returned (.bool true) ∧ w' = w := by
  have hlg := lg_le hok
  have HT : Hid (∀ (b : Bool), (∀ j r, j < rs.length → rs[j]? = some r → r.pre.size = lg rs → b = true) → (rs = [] → b = true) → b = true) := by
    intro b h1 h2
    by_cases e : rs = []
    · exact h2 e
    · obtain ⟨i, r, g1, g2⟩ := lg_hit e
      exact h1 i r (List.getElem?_eq_some_iff.1 g1).1 g1 g2
  have HG : Hid (∀ (k : Nat) (r : Rt), rs[k]? = some r → r.pre.size ≤ lg rs) := fun k r hr => lg_ge hr
  have H0 : Hid (rs.length = 0 → lg rs = 0) := by
    intro e
    have : rs = [] := List.eq_nil_of_length_eq_zero e
    subst this; rfl
  obtain ⟨L, hL⟩ : ∃ L, L = lg rs := ⟨_, rfl⟩
  rw [← hL] at HT HG hlg ⊢
  rw [← hL] at H0
  clear hL
  by_cases hz : rs.length = 0
  · have hz' : ((rs.length : Int) == 0) = true := by simp [hz]
    have hL0 : ((L : Int) == 0) = true := by simp [H0.out hz]
    go_enter Try.func32, Try.ntmps32
    go_wp2
    refine wp_loop_rounds 1 ?_
    rw [rounds_succ]
    go_wp2
    go_ret
    exact ⟨rfl, rfl⟩
  · have hz' : ((rs.length : Int) == 0) = false := by simp; exact List.ne_nil_of_length_pos (by omega)
    go_enter Try.func32, Try.ntmps32
    go_wp2
    go_loop [5, 6] (fun t i => ∃ (k : Nat) (b : Bool), k ≤ rs.length ∧ i = .int .i64 k ∧ t = .bool b ∧ ∀ j r, j < k → rs[j]? = some r → r.pre.size = L → b = true) (fun _ i => rs.length - (intOf i).toNat)
    case atStart => exact ⟨0, false, Nat.zero_le _, rfl, rfl, fun j r hj => by omega⟩
    case round =>
      obtain ⟨k, b, hk, rfl, rfl, hatt⟩ := hrel
      have HA : Hid (∀ j r, j < k → rs[j]? = some r → r.pre.size = L → b = true) := hatt
      clear hatt
      by_cases hlt : k < rs.length
      · obtain ⟨r, hr⟩ : ∃ r, rs[k]? = some r := ⟨_, List.getElem?_eq_getElem hlt⟩
        obtain ⟨bk, off, rfl, hc⟩ := h k r hr
        obtain ⟨_, _, _, c0, hc'⟩ := hc
        have g1 := HG.out k r hr
        have HR : Hid (rs[k]? = some r) := hr
        clear hr hc' h hok
        by_cases he : r.pre.size = L
        · have he' : ((r.pre.size : Int) == (L : Int)) = true := by simp [he]
          have HX : Hid (r.pre.size = L) := he
          clear he
          go_wp2
          go_round
          case rel => exact ⟨k + 1, true, by omega, by go_num, rfl, fun _ _ _ _ _ => rfl⟩
          case measure => simp [intOf]; omega
        · have he' : ((r.pre.size : Int) == (L : Int)) = false := by simp; omega
          go_wp2
          go_round
          case rel =>
            refine ⟨k + 1, b, by omega, by go_num, rfl, fun j r' hj hr' hs => ?_⟩
            by_cases ejk : j = k
            · subst ejk
              rw [HR.out] at hr'
              cases hr'
              exact absurd hs he
            · exact HA.out j r' (by omega) hr' hs
          case measure => simp [intOf]; omega
      · have hb : b = true := HT.out b (fun j r hj => HA.out j r (by omega)) (fun e => by simp [e] at hz)
        subst hb
        go_wp2
        go_ret
        exact ⟨rfl, rfl⟩

theorem keys_getD {rs : List Rt} {k : Nat} {r : Rt} (h : rs[k]? = some r) : (keys rs).getD k [] = bs r.pre := by
  rw [List.getD_eq_getElem?_getD, key_at h]; rfl

set_option maxHeartbeats 400000 in
theorem distinctRoutes_any {S : Nat → Prop} (a : Option Addr) (rs : List Rt) (cap : Nat) (w : World) (h : RsAt S w a rs) (hl : rs.length ≤ 65536) :
    Calls Try.prog 33 #[.slice a rs.length cap] w fun e w' => e = .returned (.int .i64 (nd (keys rs))) ∧ w' = w := by
  have HW : Hid (∀ p, Calls Try.prog 18 #[.slice a rs.length cap, .string p] w fun e w' => e = .returned (.int .i64 (lastK (keys rs) (bs p))) ∧ w' = w) := fun p => lastWith_any a rs cap p w h hl
  have HF : Hid (cnt (isLast (keys rs)) rs.length = nd (keys rs)) := by
    have := cnt_isLast (keys rs)
    rwa [keys_length] at this
  rw [← HF.out]
  go_enter Try.func33, Try.ntmps33
  go_wp2
  go_loop [3, 4] (fun t i => ∃ (k : Nat), k ≤ rs.length ∧ i = .int .i64 k ∧ t = .int .i64 (cnt (isLast (keys rs)) k)) (fun _ i => rs.length - (intOf i).toNat)
  case atStart => exact ⟨0, Nat.zero_le _, rfl, rfl⟩
  case round =>
    obtain ⟨k, hk, rfl, rfl⟩ := hrel
    have hcl := cnt_le (isLast (keys rs)) k
    have HC : Hid (cnt (isLast (keys rs)) (k + 1) = cnt (isLast (keys rs)) k + if isLast (keys rs) k then 1 else 0) := rfl
    by_cases hlt : k < rs.length
    · obtain ⟨r, hr⟩ : ∃ r, rs[k]? = some r := ⟨_, List.getElem?_eq_getElem hlt⟩
      have HI : Hid (isLast (keys rs) k = decide (lastK (keys rs) (bs r.pre) = (k : Int))) := by
        show _ = _
        unfold isLast; rw [keys_getD hr]
      obtain ⟨bk, off, rfl, hc⟩ := h k r hr
      obtain ⟨_, _, _, c0, hc'⟩ := hc
      clear hr hc' h
      go_wp2_with fail
      refine (HW.out r.pre).mono ?_
      rintro e w' ⟨rfl, hw⟩
      obtain rfl := hw.symm
      clear hw
      by_cases he : lastK (keys rs) (bs r.pre) = (k : Int)
      · have he' : (lastK (keys rs) (bs r.pre) == (k : Int)) = true := by simp [he]
        have HX : Hid (lastK (keys rs) (bs r.pre) = (k : Int)) := he
        clear he
        generalize cnt (isLast (keys rs)) k = c at *
        go_wp2_with fail
        go_round
        case rel => exact ⟨k + 1, by omega, by go_num, by rw [HC.out, HI.out, decide_eq_true HX.out]; go_num⟩
        case measure => simp [intOf]; omega
      · have he' : (lastK (keys rs) (bs r.pre) == (k : Int)) = false := by simp [he]
        have HX : Hid (¬ lastK (keys rs) (bs r.pre) = (k : Int)) := he
        clear he
        generalize cnt (isLast (keys rs)) k = c at *
        go_wp2_with fail
        go_round
        case rel => exact ⟨k + 1, by omega, by go_num, by rw [HC.out, HI.out, decide_eq_false HX.out]; go_num⟩
        case measure => simp [intOf]; omega
    · obtain rfl : k = rs.length := by omega
      go_wp2_with fail
      go_ret
      exact ⟨rfl, rfl⟩

theorem ss_getD {ss : List ByteArray} {k : Nat} {s : ByteArray} (h : ss[k]? = some s) : (ss.map bs).getD k [] = bs s := by
  rw [List.getD_eq_getElem?_getD, ss_at h]; rfl

set_option maxHeartbeats 400000 in
theorem distinctStrings_any (a : Option Addr) (ss : List ByteArray) (cap : Nat) (w : World) (h : SsAt w a ss) (hl : ss.length ≤ 65536) :
    Calls Try.prog 34 #[.slice a ss.length cap] w fun e w' => e = .returned (.int .i64 (nd (ss.map bs))) ∧ w' = w := by
  have HW : Hid (∀ p, Calls Try.prog 22 #[.slice a ss.length cap, .string p] w fun e w' => e = .returned (.int .i64 (lastK (ss.map bs) (bs p))) ∧ w' = w) := fun p => lastString_any a ss cap p w h hl
  have HF : Hid (cnt (isLast (ss.map bs)) ss.length = nd (ss.map bs)) := by
    have := cnt_isLast (ss.map bs)
    rwa [List.length_map] at this
  rw [← HF.out]
  go_enter Try.func34, Try.ntmps34
  go_wp2
  go_loop [3, 4] (fun t i => ∃ (k : Nat), k ≤ ss.length ∧ i = .int .i64 k ∧ t = .int .i64 (cnt (isLast (ss.map bs)) k)) (fun _ i => ss.length - (intOf i).toNat)
  case atStart => exact ⟨0, Nat.zero_le _, rfl, rfl⟩
  case round =>
    obtain ⟨k, hk, rfl, rfl⟩ := hrel
    have hcl := cnt_le (isLast (ss.map bs)) k
    have HC : Hid (cnt (isLast (ss.map bs)) (k + 1) = cnt (isLast (ss.map bs)) k + if isLast (ss.map bs) k then 1 else 0) := rfl
    by_cases hlt : k < ss.length
    · obtain ⟨r, hr⟩ : ∃ r, ss[k]? = some r := ⟨_, List.getElem?_eq_getElem hlt⟩
      have HI : Hid (isLast (ss.map bs) k = decide (lastK (ss.map bs) (bs r) = (k : Int))) := by
        show _ = _
        unfold isLast; rw [ss_getD hr]
      obtain ⟨bk, off, rfl, hc⟩ := h k r hr
      clear hr h
      go_wp2_with fail
      refine (HW.out r).mono ?_
      rintro e w' ⟨rfl, hw⟩
      obtain rfl := hw.symm
      clear hw
      by_cases he : lastK (ss.map bs) (bs r) = (k : Int)
      · have he' : (lastK (ss.map bs) (bs r) == (k : Int)) = true := by simp [he]
        have HX : Hid (lastK (ss.map bs) (bs r) = (k : Int)) := he
        clear he
        generalize cnt (isLast (ss.map bs)) k = c at *
        go_wp2_with fail
        go_round
        case rel => exact ⟨k + 1, by omega, by go_num, by rw [HC.out, HI.out, decide_eq_true HX.out]; go_num⟩
        case measure => simp [intOf]; omega
      · have he' : (lastK (ss.map bs) (bs r) == (k : Int)) = false := by simp [he]
        have HX : Hid (¬ lastK (ss.map bs) (bs r) = (k : Int)) := he
        clear he
        generalize cnt (isLast (ss.map bs)) k = c at *
        go_wp2_with fail
        go_round
        case rel => exact ⟨k + 1, by omega, by go_num, by rw [HC.out, HI.out, decide_eq_false HX.out]; go_num⟩
        case measure => simp [intOf]; omega
    · obtain rfl : k = ss.length := by omega
      go_wp2_with fail
      go_ret
      exact ⟨rfl, rfl⟩

end Go.Proofs.Qxb6630238a
