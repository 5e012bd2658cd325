/- The walks of seat b6630238a: the second bound laid by program. -/
import Derived.Test.Qxb6630238aZa
namespace Go.Proofs.Qxb6630238a
open Go.RowKit Pl

set_option maxRecDepth 100000 in
set_option maxHeartbeats 4000000 in
theorem zzFresh_any {S S' : Nat → Prop} (a c : Option Addr) (ra : List Rt) (v : Value) (x : Rt) (xs : List ByteArray) (s : ByteArray) (ca cc : Nat) (p q : Int) (w : World) (ha : RsAt S w a ra) (hv : RtV S' w v x) (hc : SsAt w c xs)
    (la : ra.length ≤ 9223372036854775807) (lc : xs.length ≤ 9223372036854775807) (ls : s.size ≤ 9223372036854775807) (l0 : x.pre.size ≤ 9223372036854775807) (l1 : x.kind.size ≤ 9223372036854775807) (l2 : x.dst.size ≤ 9223372036854775807) (l3 : x.prep.size ≤ 9223372036854775807) (l4 : ∀ zs, x.cls = some zs → zs.length ≤ 9223372036854775807) :
    Calls Try.prog 25 #[.slice a ra.length ca, v, .int .i64 p, .slice c xs.length cc, .string s, .int .i64 q] w fun e w' => Says e ((∀ r ∈ ra, Okk r) ∧ Okk x ∧ (∀ s ∈ xs, s.size ≤ 1048576) ∧ s.size ≤ 1048576) ∧ Lat w w' := by
  obtain ⟨xa, xl, xc, rfl, hx⟩ := hv
  have HX : Hid (x.pre.size ≤ 1048576 → x.kind.size ≤ 1048576 → x.dst.size ≤ 1048576 → x.prep.size ≤ 1048576 → xl ≤ 1048576 → Okk x) := fun h0 h1 h2 h3 h4 => okk_of hx h0 h1 h2 h3 h4
  have lx : xl ≤ 9223372036854775807 := by
    cases hcl : x.cls with
    | none => rw [hcl] at hx; obtain ⟨_, rfl⟩ := hx; omega
    | some zs => rw [hcl] at hx; obtain ⟨_, h2, _⟩ := hx; rw [← h2]; exact l4 zs hcl
  obtain ⟨W1, hW1⟩ : ∃ W1, W1 = w.alloc (.cells #[.string x.pre, .string x.kind, .string x.dst, .int .i64 x.mn, .int .i64 x.mx, .int .i64 x.st, .string x.prep, .slice xa xl xc] 43) := ⟨_, rfl⟩
  have hL1 : Lat w W1 := by rw [hW1]; exact (Lat.refl w).alloc _
  have x0 : W1.cell? ⟨w.heap.size, 0, none⟩ = some (.string x.pre) := by rw [hW1]; go_simp
  have x1 : W1.cell? ⟨w.heap.size, 1, none⟩ = some (.string x.kind) := by rw [hW1]; go_simp
  have x2 : W1.cell? ⟨w.heap.size, 2, none⟩ = some (.string x.dst) := by rw [hW1]; go_simp
  have x6 : W1.cell? ⟨w.heap.size, 6, none⟩ = some (.string x.prep) := by rw [hW1]; go_simp
  have x7 : W1.cell? ⟨w.heap.size, 7, none⟩ = some (.slice xa xl xc) := by rw [hW1]; go_simp
  have HW1 : Hid (w.alloc (.cells #[.string x.pre, .string x.kind, .string x.dst, .int .i64 x.mn, .int .i64 x.mx, .int .i64 x.st, .string x.prep, .slice xa xl xc] 43) = W1) := hW1.symm
  have LW : Hid (Lat w W1) := hL1
  have HA : Hid (RsAt S W1 a ra) := ha.later hL1
  have HC : Hid (SsAt W1 c xs) := hc.later hL1
  clear ha hc hx hW1 hL1 l4
  go_enter Try.func25, Try.ntmps25
  go_wp2_with fail
  all_goals first | (go_ret; exact ⟨says_false _, (Lat.refl w).alloc _⟩) | skip
  rw [HW1.out]
  go_loop [13, 14] (fun s i => ∃ (k : Nat) (m : Int), k ≤ ra.length ∧ i = .int .i64 k ∧ s = .int .i64 m ∧ 0 ≤ m ∧ m ≤ 1048576 ∧ OkTo ra k) (fun _ i => ra.length - (intOf i).toNat)
  case atStart => exact ⟨0, _, Nat.zero_le _, rfl, rfl, by omega, by omega, okTo_zero _⟩
  case round =>
    obtain ⟨k, m, hk, rfl, rfl, m0, m1, hto⟩ := hrel
    by_cases hlt : k < ra.length
    · obtain ⟨r, hr⟩ : ∃ r, ra[k]? = some r := ⟨_, List.getElem?_eq_getElem hlt⟩
      obtain ⟨b1, o1, rfl, hc⟩ := HA.out k r hr
      obtain ⟨ai, li, ci, c0, c1, c2, c3, c4, c5, c6, c7, hi⟩ := hc
      have HO : Hid (r.pre.size ≤ 1048576 → r.kind.size ≤ 1048576 → r.dst.size ≤ 1048576 → r.prep.size ≤ 1048576 → li ≤ 1048576 → OkTo ra (k + 1)) := fun h0 h1 h2 h3 h4 => hto.step hr (okk_of hi h0 h1 h2 h3 h4)
      clear hi hr hto
      go_wp2_with fail
      all_goals first | (go_ret; exact ⟨says_false _, LW.out⟩) | skip
      go_round
      case rel => exact ⟨k + 1, _, by omega, by go_num, rfl, by omega, by omega, HO.out (by omega) (by omega) (by omega) (by omega) (by omega)⟩
      case measure => simp [intOf]; omega
    · have OKra : Hid (∀ r ∈ ra, Okk r) := hto.all (by omega)
      clear hto
      go_wp2_with fail
      all_goals first | (go_ret; exact ⟨says_false _, LW.out⟩) | skip
      have OKX : Hid (Okk x) := HX.out (by omega) (by omega) (by omega) (by omega) (by omega)
      go_loop [13, 15] (fun s i => ∃ (k : Nat) (m : Int), k ≤ xs.length ∧ i = .int .i64 k ∧ s = .int .i64 m ∧ 0 ≤ m ∧ m ≤ 1048576 ∧ SmTo xs k) (fun _ i => xs.length - (intOf i).toNat)
      case atStart => exact ⟨0, _, Nat.zero_le _, rfl, rfl, by omega, by omega, smTo_zero _⟩
      case round =>
        obtain ⟨k, m, hk, rfl, rfl, m0, m1, hto⟩ := hrel
        by_cases hlt : k < xs.length
        · obtain ⟨r, hr⟩ : ∃ r, xs[k]? = some r := ⟨_, List.getElem?_eq_getElem hlt⟩
          obtain ⟨b1, o1, rfl, c0⟩ := HC.out k r hr
          have HO : Hid (r.size ≤ 1048576 → SmTo xs (k + 1)) := fun h0 => hto.step hr h0
          clear hr hto
          go_wp2_with fail
          all_goals first | (go_ret; exact ⟨says_false _, LW.out⟩) | skip
          go_round
          case rel => exact ⟨k + 1, _, by omega, by go_num, rfl, by omega, by omega, HO.out (by omega)⟩
          case measure => simp [intOf]; omega
        · have OKxs : Hid (∀ s ∈ xs, s.size ≤ 1048576) := hto.all (by omega)
          clear hto
          go_wp2_with fail
          all_goals first | (go_ret; exact ⟨says_false _, LW.out⟩) | skip
          go_ret
          exact ⟨says_true ⟨OKra.out, OKX.out, OKxs.out, by omega⟩, LW.out⟩

end Go.Proofs.Qxb6630238a
