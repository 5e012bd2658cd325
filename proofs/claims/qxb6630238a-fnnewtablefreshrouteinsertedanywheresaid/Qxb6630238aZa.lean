/- The walks of seat b6630238a: the two bounds laid by program. -/
import Derived.Test.Qxb6630238aBy
namespace Go.Proofs.Qxb6630238a
open Go.RowKit Pl

/-- A bool comes back; where it is true, p holds. -/
def Says (e : Ending) (p : Prop) : Prop := ∃ res : Bool, e = .returned (.bool res) ∧ (res = true → p)
theorem says_false (p : Prop) : Says (.returned (.bool false)) p := ⟨false, rfl, fun h => by cases h⟩
theorem says_true {p : Prop} (h : p) : Says (.returned (.bool true)) p := ⟨true, rfl, fun _ => h⟩

def OkTo (rs : List Rt) (k : Nat) : Prop := ∀ j r, j < k → rs[j]? = some r → Okk r
theorem okTo_zero (rs : List Rt) : OkTo rs 0 := fun j r h => by omega
theorem OkTo.step {rs : List Rt} {k : Nat} (h : OkTo rs k) {r : Rt} (hr : rs[k]? = some r) (ho : Okk r) : OkTo rs (k + 1) := by
  intro j x hj hx
  by_cases e : j = k
  · subst e; rw [hr] at hx; cases hx; exact ho
  · exact h j x (by omega) hx
theorem OkTo.all {rs : List Rt} {k : Nat} (h : OkTo rs k) (hk : rs.length ≤ k) : ∀ r ∈ rs, Okk r := by
  intro r hr
  obtain ⟨j, hj⟩ := List.mem_iff_getElem?.1 hr
  exact h j r (by have := (List.getElem?_eq_some_iff.1 hj).1; omega) hj
theorem okk_of {S : Nat → Prop} {w : World} {a : Option Addr} {len : Nat} {r : Rt} (h : IntsAt S w a len r.cls) (h0 : r.pre.size ≤ 1048576) (h1 : r.kind.size ≤ 1048576) (h2 : r.dst.size ≤ 1048576) (h3 : r.prep.size ≤ 1048576) (h4 : len ≤ 1048576) : Okk r := by
  refine ⟨⟨h0, fun zs hz => ?_⟩, h1, h2, h3⟩
  rw [hz] at h
  obtain ⟨_, h5, _⟩ := h
  omega
def SmTo (ss : List ByteArray) (k : Nat) : Prop := ∀ j s, j < k → ss[j]? = some s → s.size ≤ 1048576
theorem smTo_zero (ss : List ByteArray) : SmTo ss 0 := fun j r h => by omega
theorem SmTo.step {ss : List ByteArray} {k : Nat} (h : SmTo ss k) {s : ByteArray} (hs : ss[k]? = some s) (ho : s.size ≤ 1048576) : SmTo ss (k + 1) := by
  intro j x hj hx
  by_cases e : j = k
  · subst e; rw [hs] at hx; cases hx; exact ho
  · exact h j x (by omega) hx
theorem SmTo.all {ss : List ByteArray} {k : Nat} (h : SmTo ss k) (hk : ss.length ≤ k) : ∀ s ∈ ss, s.size ≤ 1048576 := by
  intro r hr
  obtain ⟨j, hj⟩ := List.mem_iff_getElem?.1 hr
  exact h j r (by have := (List.getElem?_eq_some_iff.1 hj).1; omega) hj

set_option maxRecDepth 100000 in
set_option maxHeartbeats 4000000 in
theorem zzJoin_any {S S' : Nat → Prop} (a b c d : Option Addr) (ra rb : List Rt) (xs ys : List ByteArray) (ca cb cc cd : Nat) (w : World) (ha : RsAt S w a ra) (hb : RsAt S' w b rb) (hc : SsAt w c xs) (hd : SsAt w d ys)
    (la : ra.length ≤ 9223372036854775807) (lb : rb.length ≤ 9223372036854775807) (lc : xs.length ≤ 9223372036854775807) (ld : ys.length ≤ 9223372036854775807) :
    Calls Try.prog 5 #[.slice a ra.length ca, .slice b rb.length cb, .slice c xs.length cc, .slice d ys.length cd] w fun e w' => Says e ((∀ r ∈ ra, Okk r) ∧ (∀ r ∈ rb, Okk r) ∧ (∀ s ∈ xs, s.size ≤ 1048576) ∧ (∀ s ∈ ys, s.size ≤ 1048576)) ∧ w' = w := by
  have HA : Hid (RsAt S w a ra) := ha
  have HB : Hid (RsAt S' w b rb) := hb
  have HC : Hid (SsAt w c xs) := hc
  have HD : Hid (SsAt w d ys) := hd
  clear ha hb hc hd
  go_enter Try.func5, Try.ntmps5
  go_wp2_with fail
  all_goals first | (go_ret; exact ⟨says_false _, rfl⟩) | skip
  go_loop [9, 10] (fun s i => ∃ (k : Nat) (m : Int), k ≤ ra.length ∧ i = .int .i64 k ∧ s = .int .i64 m ∧ 0 ≤ m ∧ m ≤ 1048576 ∧ OkTo ra k) (fun _ i => ra.length - (intOf i).toNat)
  case atStart => exact ⟨0, _, Nat.zero_le _, rfl, rfl, by omega, by omega, okTo_zero _⟩
  case round =>
    obtain ⟨k, m, hk, rfl, rfl, m0, m1, hto⟩ := hrel
    by_cases hlt : k < ra.length
    · obtain ⟨r, hr⟩ : ∃ r, ra[k]? = some r := ⟨_, List.getElem?_eq_getElem hlt⟩
      obtain ⟨b1, o1, rfl, hc⟩ := HA.out k r hr
      obtain ⟨ai, li, ci, c0, c1, c2, c3, c4, c5, c6, c7, hi⟩ := hc
      have HO : Hid (r.pre.size ≤ 1048576 → r.kind.size ≤ 1048576 → r.dst.size ≤ 1048576 → r.prep.size ≤ 1048576 → li ≤ 1048576 → OkTo ra (k + 1)) := fun h0 h1 h2 h3 h4 => hto.step hr (okk_of hi h0 h1 h2 h3 h4)
      clear hi hr hto
      go_wp2_with fail
      all_goals first | (go_ret; exact ⟨says_false _, rfl⟩) | skip
      go_round
      case rel => exact ⟨k + 1, _, by omega, by go_num, rfl, by omega, by omega, HO.out (by omega) (by omega) (by omega) (by omega) (by omega)⟩
      case measure => simp [intOf]; omega
    · have OKra : Hid (∀ r ∈ ra, Okk r) := hto.all (by omega)
      clear hto
      go_wp2_with fail
      all_goals first | (go_ret; exact ⟨says_false _, rfl⟩) | skip
      go_loop [9, 11] (fun s i => ∃ (k : Nat) (m : Int), k ≤ rb.length ∧ i = .int .i64 k ∧ s = .int .i64 m ∧ 0 ≤ m ∧ m ≤ 1048576 ∧ OkTo rb k) (fun _ i => rb.length - (intOf i).toNat)
      case atStart => exact ⟨0, _, Nat.zero_le _, rfl, rfl, by omega, by omega, okTo_zero _⟩
      case round =>
        obtain ⟨k, m, hk, rfl, rfl, m0, m1, hto⟩ := hrel
        by_cases hlt : k < rb.length
        · obtain ⟨r, hr⟩ : ∃ r, rb[k]? = some r := ⟨_, List.getElem?_eq_getElem hlt⟩
          obtain ⟨b1, o1, rfl, hc⟩ := HB.out k r hr
          obtain ⟨ai, li, ci, c0, c1, c2, c3, c4, c5, c6, c7, hi⟩ := hc
          have HO : Hid (r.pre.size ≤ 1048576 → r.kind.size ≤ 1048576 → r.dst.size ≤ 1048576 → r.prep.size ≤ 1048576 → li ≤ 1048576 → OkTo rb (k + 1)) := fun h0 h1 h2 h3 h4 => hto.step hr (okk_of hi h0 h1 h2 h3 h4)
          clear hi hr hto
          go_wp2_with fail
          all_goals first | (go_ret; exact ⟨says_false _, rfl⟩) | skip
          go_round
          case rel => exact ⟨k + 1, _, by omega, by go_num, rfl, by omega, by omega, HO.out (by omega) (by omega) (by omega) (by omega) (by omega)⟩
          case measure => simp [intOf]; omega
        · have OKrb : Hid (∀ r ∈ rb, Okk r) := hto.all (by omega)
          clear hto
          go_wp2_with fail
          all_goals first | (go_ret; exact ⟨says_false _, rfl⟩) | skip
          go_loop [9, 12] (fun s i => ∃ (k : Nat) (m : Int), k ≤ xs.length ∧ i = .int .i64 k ∧ s = .int .i64 m ∧ 0 ≤ m ∧ m ≤ 1048576 ∧ SmTo xs k) (fun _ i => xs.length - (intOf i).toNat)
          case atStart => exact ⟨0, _, Nat.zero_le _, rfl, rfl, by omega, by omega, smTo_zero _⟩
          case round =>
            obtain ⟨k, m, hk, rfl, rfl, m0, m1, hto⟩ := hrel
            by_cases hlt : k < xs.length
            · obtain ⟨r, hr⟩ : ∃ r, xs[k]? = some r := ⟨_, List.getElem?_eq_getElem hlt⟩
              obtain ⟨b1, o1, rfl, c0⟩ := HC.out k r hr
              have HO : Hid (r.size ≤ 1048576 → SmTo xs (k + 1)) := fun h0 => hto.step hr h0
              clear hr hto
              go_wp2_with fail
              all_goals first | (go_ret; exact ⟨says_false _, rfl⟩) | skip
              go_round
              case rel => exact ⟨k + 1, _, by omega, by go_num, rfl, by omega, by omega, HO.out (by omega)⟩
              case measure => simp [intOf]; omega
            · have OKxs : Hid (∀ s ∈ xs, s.size ≤ 1048576) := hto.all (by omega)
              clear hto
              go_wp2_with fail
              all_goals first | (go_ret; exact ⟨says_false _, rfl⟩) | skip
              go_loop [9, 13] (fun s i => ∃ (k : Nat) (m : Int), k ≤ ys.length ∧ i = .int .i64 k ∧ s = .int .i64 m ∧ 0 ≤ m ∧ m ≤ 1048576 ∧ SmTo ys k) (fun _ i => ys.length - (intOf i).toNat)
              case atStart => exact ⟨0, _, Nat.zero_le _, rfl, rfl, by omega, by omega, smTo_zero _⟩
              case round =>
                obtain ⟨k, m, hk, rfl, rfl, m0, m1, hto⟩ := hrel
                by_cases hlt : k < ys.length
                · obtain ⟨r, hr⟩ : ∃ r, ys[k]? = some r := ⟨_, List.getElem?_eq_getElem hlt⟩
                  obtain ⟨b1, o1, rfl, c0⟩ := HD.out k r hr
                  have HO : Hid (r.size ≤ 1048576 → SmTo ys (k + 1)) := fun h0 => hto.step hr h0
                  clear hr hto
                  go_wp2_with fail
                  all_goals first | (go_ret; exact ⟨says_false _, rfl⟩) | skip
                  go_round
                  case rel => exact ⟨k + 1, _, by omega, by go_num, rfl, by omega, by omega, HO.out (by omega)⟩
                  case measure => simp [intOf]; omega
                · have OKys : Hid (∀ s ∈ ys, s.size ≤ 1048576) := hto.all (by omega)
                  clear hto
                  go_wp2_with fail
                  all_goals first | (go_ret; exact ⟨says_false _, rfl⟩) | skip
                  go_ret
                  exact ⟨says_true ⟨OKra.out, OKrb.out, OKxs.out, OKys.out⟩, rfl⟩

end Go.Proofs.Qxb6630238a
