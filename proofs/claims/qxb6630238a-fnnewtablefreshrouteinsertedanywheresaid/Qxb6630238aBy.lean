/- The walks of seat b6630238a: the counts of bytes. -/
import Derived.Test.Qxb6630238aTh
namespace Go.Proofs.Qxb6630238a
open Go.RowKit Pl

/-- All texts and the classes are not too long. -/
def Okk (r : Rt) : Prop := Ok r ∧ r.kind.size ≤ 1048576 ∧ r.dst.size ≤ 1048576 ∧ r.prep.size ≤ 1048576

set_option maxHeartbeats 1000000 in
theorem oneBytes_any {S : Nat → Prop} (v : Value) (r : Rt) (n : Int) (w : World) (hv : RtV S w v r) (hok : Okk r) (h0 : 0 ≤ n) (h1 : n ≤ 1048576) :
    Calls Try.prog 26 #[v, .int .i64 n] w fun e w' => ∃ m, e = .returned (.int .i64 m) ∧ 0 ≤ m ∧ m ≤ 16777216 ∧ Lat w w' := by
  obtain ⟨a, la, ca, rfl, ha⟩ := hv
  have hla := ints_len ha hok.1
  obtain ⟨⟨p0, _⟩, p1, p2, p3⟩ := hok
  clear ha
  go_enter Try.func26, Try.ntmps26
  go_wp2_with fail
  go_ret
  exact ⟨_, rfl, by omega, by omega, (Lat.refl w).alloc _⟩

set_option maxHeartbeats 1000000 in
theorem routeBytes_any {S : Nat → Prop} (a : Option Addr) (rs : List Rt) (cap : Nat) (n : Int) (w : World) (h : RsAt S w a rs) (hl : rs.length ≤ 65536) (hok : ∀ r ∈ rs, Okk r) (h0 : 0 ≤ n) (h1 : n ≤ 16777216) :
    Calls Try.prog 6 #[.slice a rs.length cap, .int .i64 n] w fun e w' => ∃ m, e = .returned (.int .i64 m) ∧ 0 ≤ m ∧ m ≤ 16777216 ∧ Lat w w' := by
  go_enter Try.func6, Try.ntmps6
  go_wp2_with fail
  go_loopw [1, 5] (fun s i wr => ∃ (k : Nat) (m : Int), k ≤ rs.length ∧ i = .int .i64 k ∧ s = .int .i64 m ∧ 0 ≤ m ∧ m ≤ 16777216 ∧ Lat w wr) (fun _ i _ => rs.length - (intOf i).toNat)
  case atStart => exact ⟨0, n, Nat.zero_le _, rfl, rfl, h0, h1, Lat.refl w⟩
  case round =>
    obtain ⟨k, m, hk, rfl, rfl, m0, m1, hL⟩ := hrel
    by_cases hlt : k < rs.length
    · by_cases hm : m ≤ 1048576
      · obtain ⟨r, hr⟩ : ∃ r, rs[k]? = some r := ⟨_, List.getElem?_eq_getElem hlt⟩
        obtain ⟨b1, o1, rfl, hc⟩ := h k r hr
        obtain ⟨ai, li, ci, c0, c1, c2, c3, c4, c5, c6, c7, hi⟩ := hc.later hL
        have HC : Hid (Calls Try.prog 26 #[.agg #[.string r.pre, .string r.kind, .string r.dst, .int .i64 r.mn, .int .i64 r.mx, .int .i64 r.st, .string r.prep, .slice ai li ci], .int .i64 m] wr fun e w' => ∃ m, e = .returned (.int .i64 m) ∧ 0 ≤ m ∧ m ≤ 16777216 ∧ Lat wr w') :=
          oneBytes_any (S := S) _ r m wr ⟨ai, li, ci, rfl, hi⟩ (hok r (List.mem_of_getElem? hr)) m0 hm
        clear hi hc h hok hr
        go_wp2_with fail
        refine HC.out.mono ?_
        rintro e w1 ⟨m', rfl, q0, q1, hb1⟩
        go_wp2_with fail
        go_roundw
        case rel => exact ⟨k + 1, m', by omega, by go_num, rfl, q0, q1, hL.trans hb1⟩
        case measure => simp [intOf]; omega
      · go_wp2_with fail
        go_ret
        exact ⟨_, rfl, m0, m1, hL⟩
    · have hd : decide ((k : Int) < (rs.length : Int)) = false := by simp; omega
      go_wp2_with fail
      go_ret
      exact ⟨_, rfl, m0, m1, hL⟩

set_option maxHeartbeats 1000000 in
theorem stringBytes_any (a : Option Addr) (ss : List ByteArray) (cap : Nat) (n : Int) (w : World) (h : SsAt w a ss) (hl : ss.length ≤ 65536) (hok : ∀ s ∈ ss, s.size ≤ 1048576) (h0 : 0 ≤ n) (h1 : n ≤ 16777216) :
    Calls Try.prog 7 #[.slice a ss.length cap, .int .i64 n] w fun e w' => ∃ m, e = .returned (.int .i64 m) ∧ 0 ≤ m ∧ m ≤ 16777216 ∧ w' = w := by
  go_enter Try.func7, Try.ntmps7
  go_wp2_with fail
  go_loop [1, 5] (fun s i => ∃ (k : Nat) (m : Int), k ≤ ss.length ∧ i = .int .i64 k ∧ s = .int .i64 m ∧ 0 ≤ m ∧ m ≤ 16777216) (fun _ i => ss.length - (intOf i).toNat)
  case atStart => exact ⟨0, n, Nat.zero_le _, rfl, rfl, h0, h1⟩
  case round =>
    obtain ⟨k, m, hk, rfl, rfl, m0, m1⟩ := hrel
    by_cases hlt : k < ss.length
    · by_cases hm : m ≤ 1048576
      · obtain ⟨r, hr⟩ : ∃ r, ss[k]? = some r := ⟨_, List.getElem?_eq_getElem hlt⟩
        obtain ⟨b1, o1, rfl, c0⟩ := h k r hr
        have hsz := hok r (List.mem_of_getElem? hr)
        clear h hok hr
        go_wp2_with fail
        go_round
        case rel => exact ⟨k + 1, _, by omega, by go_num, rfl, by omega, by omega⟩
        case measure => simp [intOf]; omega
      · go_wp2_with fail
        go_ret
        exact ⟨_, rfl, m0, m1, rfl⟩
    · have hd : decide ((k : Int) < (ss.length : Int)) = false := by simp; omega
      go_wp2_with fail
      go_ret
      exact ⟨_, rfl, m0, m1, rfl⟩
end Go.Proofs.Qxb6630238a
