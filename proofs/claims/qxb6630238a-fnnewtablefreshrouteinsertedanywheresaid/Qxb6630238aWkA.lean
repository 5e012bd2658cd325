/- The walks of seat b6630238a: what only reads. -/
import Derived.Test.Qxb6630238aRp
namespace Go.Proofs.Qxb6630238a
open Go.RowKit Pl

theorem max_any (a b : Int) (w : World) : Calls Try.prog 17 #[.int .i64 a, .int .i64 b] w fun e w' => e = .returned (.int .i64 (max a b)) ∧ w' = w := by
  by_cases h : b < a
  · rw [show max a b = a by omega]
    go_enter Try.func17, Try.ntmps17
    go_wp2
    go_ret
    exact ⟨rfl, rfl⟩
  · rw [show max a b = b by omega]
    go_enter Try.func17, Try.ntmps17
    go_wp2
    go_ret
    exact ⟨rfl, rfl⟩

theorem key_at {rs : List Rt} {k : Nat} {r : Rt} (h : rs[k]? = some r) : (keys rs)[k]? = some (bs r.pre) := by
  rw [keys_get, h]; rfl

set_option maxHeartbeats 400000 in
theorem lastWith_any {S : Nat → Prop} (a : Option Addr) (rs : List Rt) (cap : Nat) (p : ByteArray) (w : World) (h : RsAt S w a rs) (hl : rs.length ≤ 65536) :
    Calls Try.prog 18 #[.slice a rs.length cap, .string p] w fun e w' => e = .returned (.int .i64 (lastK (keys rs) (bs p))) ∧ w' = w := by
  go_enter Try.func18, Try.ntmps18
  go_wp2
  go_loop [5] (fun i => ∃ k : Nat, k ≤ rs.length ∧ i = .int .i64 ((k : Int) - 1) ∧ lastK (keys rs) (bs p) = lastTo (keys rs) (bs p) k) (fun i => (intOf i + 1).toNat)
  case atStart => exact ⟨rs.length, Nat.le_refl _, rfl, by unfold lastK; rw [keys_length]⟩
  case round =>
    obtain ⟨k, hk, rfl, he⟩ := hrel
    have HE : Hid (lastK (keys rs) (bs p) = lastTo (keys rs) (bs p) k) := he
    clear he
    match k, HE with
    | 0, HE =>
      go_wp2
      go_ret
      exact ⟨by rw [HE.out]; rfl, rfl⟩
    | k + 1, HE =>
      obtain ⟨r, hr⟩ : ∃ r, rs[k]? = some r := ⟨_, List.getElem?_eq_getElem (by omega)⟩
      obtain ⟨b, off, rfl, hc⟩ := h k r hr
      obtain ⟨_, _, _, c0, hc'⟩ := hc
      have hk1 : ((k + 1 : Nat) : Int) - 1 = (k : Int) := by omega
      rw [hk1]
      have HR : Hid (rs[k]? = some r) := hr
      clear hk1 hc' hr h
      cases hq : (r.pre.toList == p.toList)
      · have HN : Hid (lastTo (keys rs) (bs p) (k + 1) = lastTo (keys rs) (bs p) k) := by
          refine lastTo_succ_miss ?_
          rw [key_at HR.out]
          intro e
          rw [beq_eq_false_iff_ne] at hq
          exact hq (Option.some.inj e)
        go_wp2
        go_round
        case rel => exact ⟨k, by omega, rfl, HE.out.trans HN.out⟩
        case measure => simp [intOf] <;> omega
      · have HN : Hid (lastTo (keys rs) (bs p) (k + 1) = k) := by
          refine lastTo_succ_hit ?_
          rw [key_at HR.out]
          rw [beq_iff_eq] at hq
          exact congrArg some hq
        go_wp2
        go_ret
        exact ⟨by rw [HE.out, HN.out]; rfl, rfl⟩

theorem ss_at {ss : List ByteArray} {k : Nat} {s : ByteArray} (h : ss[k]? = some s) : (ss.map bs)[k]? = some (bs s) := by
  rw [List.getElem?_map, h]; rfl

set_option maxHeartbeats 400000 in
theorem lastString_any (a : Option Addr) (ss : List ByteArray) (cap : Nat) (p : ByteArray) (w : World) (h : SsAt w a ss) (hl : ss.length ≤ 65536) :
    Calls Try.prog 22 #[.slice a ss.length cap, .string p] w fun e w' => e = .returned (.int .i64 (lastK (ss.map bs) (bs p))) ∧ w' = w := by
  go_enter Try.func22, Try.ntmps22
  go_wp2
  go_loop [5] (fun i => ∃ k : Nat, k ≤ ss.length ∧ i = .int .i64 ((k : Int) - 1) ∧ lastK (ss.map bs) (bs p) = lastTo (ss.map bs) (bs p) k) (fun i => (intOf i + 1).toNat)
  case atStart => exact ⟨ss.length, Nat.le_refl _, rfl, by unfold lastK; rw [List.length_map]⟩
  case round =>
    obtain ⟨k, hk, rfl, he⟩ := hrel
    have HE : Hid (lastK (ss.map bs) (bs p) = lastTo (ss.map bs) (bs p) k) := he
    clear he
    match k, HE with
    | 0, HE =>
      go_wp2
      go_ret
      exact ⟨by rw [HE.out]; rfl, rfl⟩
    | k + 1, HE =>
      obtain ⟨r, hr⟩ : ∃ r, ss[k]? = some r := ⟨_, List.getElem?_eq_getElem (by omega)⟩
      obtain ⟨b, off, rfl, hc⟩ := h k r hr
      have hk1 : ((k + 1 : Nat) : Int) - 1 = (k : Int) := by omega
      rw [hk1]
      have HR : Hid (ss[k]? = some r) := hr
      clear hk1 hr h
      cases hq : (r.toList == p.toList)
      · have HN : Hid (lastTo (ss.map bs) (bs p) (k + 1) = lastTo (ss.map bs) (bs p) k) := by
          refine lastTo_succ_miss ?_
          rw [ss_at HR.out]
          intro e
          rw [beq_eq_false_iff_ne] at hq
          exact hq (Option.some.inj e)
        go_wp2
        go_round
        case rel => exact ⟨k, by omega, rfl, HE.out.trans HN.out⟩
        case measure => simp [intOf] <;> omega
      · have HN : Hid (lastTo (ss.map bs) (bs p) (k + 1) = k) := by
          refine lastTo_succ_hit ?_
          rw [ss_at HR.out]
          rw [beq_iff_eq] at hq
          exact congrArg some hq
        go_wp2
        go_ret
        exact ⟨by rw [HE.out, HN.out]; rfl, rfl⟩

/-- Two slices of ints of one content are the same. -/
theorem sameInts_any {S S' : Nat → Prop} (a b : Option Addr) (la lb ca cb : Nat) (c : Option (List Int)) (w : World) (ha : IntsAt S w a la c) (hb : IntsAt S' w b lb c) (hl : la ≤ 1048576) :
    Calls Try.prog 35 #[.slice a la ca, .slice b lb cb] w fun e w' => e = .returned (.bool true) ∧ ∃ n, w' = w.drewN n := by
  have q1 := fun (w : World) (a : Option Addr) (n c : Nat) => Lib.run_eql_slice_nil (P := Try.prog) w 41 3 a n c 0 0 Try.underlying41
  cases c with
  | none =>
    obtain ⟨rfl, rfl⟩ := ha
    obtain ⟨rfl, rfl⟩ := hb
    go_enter Try.func35, Try.ntmps35
    go_wp2
    refine wp_loop_rounds 1 ?_
    rw [rounds_succ]
    go_wp2
    go_ret
    exact ⟨rfl, 0, rfl⟩
  | some zs =>
    obtain ⟨ha1, ha2, ha3⟩ := ha
    obtain ⟨hb1, hb2, hb3⟩ := hb
    obtain rfl : lb = la := hb2.symm.trans ha2
    have a0 : a.isNone = false := by cases a <;> simp_all
    have b0 : b.isNone = false := by cases b <;> simp_all
    have nn : ((lb : Int) != (lb : Int)) = false := by simp
    clear ha1 hb1 hb2
    go_enter Try.func35, Try.ntmps35
    go_wp2
    go_loopw [5] (fun i wr => ∃ k : Nat, k ≤ lb ∧ i = .int .i64 k ∧ ∃ n, wr = w.drewN n) (fun i _ => lb - (intOf i).toNat)
    case atStart => exact ⟨0, Nat.zero_le _, rfl, 0, rfl⟩
    case round =>
      obtain ⟨k, hk, rfl, n, rfl⟩ := hrel
      by_cases hlt : k < lb
      · obtain ⟨b1, o1, _, rfl, g1⟩ := ha3 k hlt
        obtain ⟨b2, o2, _, rfl, g2⟩ := hb3 k hlt
        have k0 : (0 : Int) ≤ (k : Int) := by omega
        have k1 : (k : Int) < (lb : Int) := by omega
        have zz : (zs.getD k 0 != zs.getD k 0) = false := by simp
        clear ha3 hb3 ha2
        generalize zs.getD k 0 = z at *
        go_wp2_with fail
        go_quiet (fail)
        go_wp2_with fail
        go_roundw
        case rel => exact ⟨k + 1, by omega, by go_num, n + nq, rfl⟩
        case measure => simp [intOf]; omega
      · go_wp2_with fail
        go_ret
        exact ⟨rfl, n, rfl⟩
end Go.Proofs.Qxb6630238a
