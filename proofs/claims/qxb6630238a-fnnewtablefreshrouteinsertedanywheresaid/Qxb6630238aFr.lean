/- The walk of FnNewTableFreshRouteInsertedAnywhere. -/
import Derived.Test.Qxb6630238aFa
namespace Go.Proofs.Qxb6630238a
open Go.RowKit Pl

set_option maxRecDepth 100000 in
set_option maxHeartbeats 20000000 in
theorem fresh_walk {S S' : Nat → Prop} (a c : Option Addr) (ra : List Rt) (v : Value) (x : Rt) (xs : List ByteArray) (s : ByteArray) (ca cc : Nat) (p q : Int) (w : World) (ha : RsAt S w a ra) (hv : RtV S' w v x) (hc : SsAt w c xs)
    (la : ra.length ≤ 9223372036854775807) (lc : xs.length ≤ 9223372036854775807) (ls : s.size ≤ 9223372036854775807) (l0 : x.pre.size ≤ 9223372036854775807) (l1 : x.kind.size ≤ 9223372036854775807) (l2 : x.dst.size ≤ 9223372036854775807) (l3 : x.prep.size ≤ 9223372036854775807) (l4 : ∀ zs, x.cls = some zs → zs.length ≤ 9223372036854775807) :
    Calls Try.prog 4 #[.slice a ra.length ca, v, .int .i64 p, .slice c xs.length cc, .string s, .int .i64 q] w fun e w' => e = .returned (.bool true) ∧ Lat w w' := by
  obtain ⟨xa, xl, xc, rfl, hx⟩ := hv
  obtain ⟨W0, hW0, hA0, hB0⟩ := b8_alloc43 w x xa xl xc
  have HW0 : Hid (w.alloc (.cells #[.string x.pre, .string x.kind, .string x.dst, .int .i64 x.mn, .int .i64 x.mx, .int .i64 x.st, .string x.prep, .slice xa xl xc] 43) = W0) := hW0.symm
  obtain ⟨N, hN⟩ : ∃ N, N = w.heap.size := ⟨_, rfl⟩
  have HN : Hid (w.heap.size = N) := hN.symm
  have FZ : Hid (∀ o, W0.frozen? ⟨N, o, none⟩ = false) := by
    intro o
    rw [hN, hW0]
    go_simp
  have hNlt : N < W0.heap.size := by rw [hN, hW0]; go_simp
  have hNle : w.heap.size ≤ N := by omega
  rw [← hN] at hB0
  have KA : Hid (Lat w W0) := hA0
  have KB : Hid (B8 W0 N x xa xl xc) := hB0
  have ZF : Hid (∀ W, Lat w W → Calls Try.prog 25 #[.slice a ra.length ca, .agg #[.string x.pre, .string x.kind, .string x.dst, .int .i64 x.mn, .int .i64 x.mx, .int .i64 x.st, .string x.prep, .slice xa xl xc], .int .i64 p, .slice c xs.length cc, .string s, .int .i64 q] W fun e w' => Says e ((∀ r ∈ ra, Okk r) ∧ Okk x ∧ (∀ s ∈ xs, s.size ≤ 1048576) ∧ s.size ≤ 1048576) ∧ Lat W w') := fun W hW => zzFresh_any (S' := S') a c ra _ x xs s ca cc p q W (ha.later hW) ⟨xa, xl, xc, rfl, hx.later hW⟩ (hc.later hW) la lc ls l0 l1 l2 l3 l4
  have HA : Hid (RsAt S w a ra) := ha
  have HC : Hid (SsAt w c xs) := hc
  have HXI : Hid (IntsAt S' w xa xl x.cls) := hx
  clear ha hc hx hW0 hN l0 l1 l2 l3 l4 ls hA0 hB0
  have HNL : Hid (N < W0.heap.size) := hNlt
  clear hNlt
  go_enter Try.func4, Try.ntmps4
  -- the bound
  obtain ⟨x0, x1, x2, x3, x4, x5, x6, x7⟩ := KB.out
  go_wp2_with fail
  rw [HW0.out, HN.out]
  refine (ZF.out _ KA.out).mono ?_
  rintro e w1 ⟨⟨res, rfl, hres⟩, k1⟩
  have K1 : Hid (Lat W0 w1) := k1
  clear x0 x1 x2 x3 x4 x5 x6 x7 ZF HW0 HN
  cases res
  · clear hres k1
    go_wp2_with fail
    go_ret
    exact ⟨rfl, KA.out.trans K1.out⟩
  obtain ⟨oka, okx, oks, okn⟩ := hres rfl
  have OA : Hid (∀ r ∈ ra, Okk r) := oka
  have OX : Hid (Okk x) := okx
  have ON : Hid (∀ s ∈ xs, s.size ≤ 1048576) := oks
  clear oka okx oks hres k1
  by_cases g0 : ra.length ≤ 4096
  rotate_left
  · have d0 : decide ((4096 : Int) < (ra.length : Int)) = true := decide_eq_true (by omega)
    go_wp2_with fail
    go_ret
    exact ⟨rfl, KA.out.trans K1.out⟩
  have d0 : decide ((4096 : Int) < (ra.length : Int)) = false := decide_eq_false (by omega)
  by_cases g1 : xs.length ≤ 4096
  rotate_left
  · have d1 : decide ((4096 : Int) < (xs.length : Int)) = true := decide_eq_true (by omega)
    go_wp2_with fail
    go_ret
    exact ⟨rfl, KA.out.trans K1.out⟩
  have d1 : decide ((4096 : Int) < (xs.length : Int)) = false := decide_eq_false (by omega)
  -- the sums
  go_wp2_with fail
  refine (routeBytes_any a ra ca 0 _ (HA.out.later (KA.out.trans K1.out)) (by omega) OA.out (by omega) (by omega)).mono ?_
  rintro e w2 ⟨m1, rfl, m10, m11, k2⟩
  have K2 : Hid (Lat W0 w2) := K1.out.trans k2
  clear k2 K1 d0 d1
  by_cases g2 : m1 ≤ 1048576
  rotate_left
  · have d2 : decide (m1 ≤ (1048576 : Int)) = false := decide_eq_false (by omega)
    have d3 : decide ((1048576 : Int) < m1) = true := decide_eq_true (by omega)
    go_wp2_with fail
    refine (stringBytes_big c xs cc m1 _ (by omega)).mono ?_
    rintro e w' ⟨rfl, hw⟩
    obtain rfl := hw.symm
    clear hw
    go_wp2_with fail
    go_ret
    exact ⟨rfl, KA.out.trans K2.out⟩
  have d2 : decide (m1 ≤ (1048576 : Int)) = true := decide_eq_true (by omega)
  obtain ⟨x0, x1, x2, x3, x4, x5, x6, x7⟩ := KB.out.later K2.out
  go_wp2_with fail
  refine (oneBytes_any _ x m1 _ ⟨xa, xl, xc, rfl, HXI.out.later (KA.out.trans K2.out)⟩ OX.out m10 g2).mono ?_
  rintro e w3 ⟨m2, rfl, m20, m21, k3⟩
  have K3 : Hid (Lat W0 w3) := K2.out.trans k3
  clear k3 K2 d2 g2 m10 m11 x0 x1 x2 x3 x4 x5 x6 x7
  go_wp2_with fail
  refine (stringBytes_any c xs cc m2 _ (HC.out.later (KA.out.trans K3.out)) (by omega) ON.out m20 m21).mono ?_
  rintro e w' ⟨m3, rfl, m30, m31, hw⟩
  obtain rfl := hw.symm
  clear hw m20 m21
  by_cases g3 : m3 ≤ 1048576
  rotate_left
  · have d2 : decide (m3 ≤ (1048576 : Int)) = false := decide_eq_false (by omega)
    have d3 : decide ((1048576 : Int) < m3) = true := decide_eq_true (by omega)
    go_wp2_with fail
    go_ret
    exact ⟨rfl, KA.out.trans K3.out⟩
  have d3 : decide (m3 ≤ (1048576 : Int)) = true := decide_eq_true (by omega)
  have d4 : decide ((1048576 : Int) < (s.size : Int)) = false := decide_eq_false (by omega)
  by_cases g4 : (1048576 : Int) < m3 + 16 + (s.size : Int)
  · have d5 : decide ((1048576 : Int) < m3 + 16 + (s.size : Int)) = true := decide_eq_true g4
    go_wp2_with fail
    go_ret
    exact ⟨rfl, KA.out.trans K3.out⟩
  have d5 : decide ((1048576 : Int) < m3 + 16 + (s.size : Int)) = false := decide_eq_false g4
  -- the places
  by_cases g5 : p < 0
  · have d6 : decide (p < (0 : Int)) = true := decide_eq_true g5
    go_wp2_with fail
    go_ret
    exact ⟨rfl, KA.out.trans K3.out⟩
  have d6 : decide (p < (0 : Int)) = false := decide_eq_false g5
  by_cases g6 : (ra.length : Int) < p
  · have d7 : decide ((ra.length : Int) < p) = true := decide_eq_true g6
    go_wp2_with fail
    go_ret
    exact ⟨rfl, KA.out.trans K3.out⟩
  have d7 : decide ((ra.length : Int) < p) = false := decide_eq_false g6
  by_cases g7 : q < 0
  · have d8 : decide (q < (0 : Int)) = true := decide_eq_true g7
    go_wp2_with fail
    go_ret
    exact ⟨rfl, KA.out.trans K3.out⟩
  have d8 : decide (q < (0 : Int)) = false := decide_eq_false g7
  by_cases g8 : (xs.length : Int) < q
  · have d9 : decide ((xs.length : Int) < q) = true := decide_eq_true g8
    go_wp2_with fail
    go_ret
    exact ⟨rfl, KA.out.trans K3.out⟩
  have d9 : decide ((xs.length : Int) < q) = false := decide_eq_false g8
  obtain ⟨pn, rfl⟩ := Int.eq_ofNat_of_zero_le (show 0 ≤ p by omega)
  obtain ⟨qn, rfl⟩ := Int.eq_ofNat_of_zero_le (show 0 ≤ q by omega)
  have hpn : pn ≤ ra.length := by omega
  have hqn : qn ≤ xs.length := by omega
  obtain ⟨x0, _⟩ := KB.out.later K3.out
  go_wp2_with fail
  refine (lastWith_any a ra ca x.pre _ (HA.out.later (KA.out.trans K3.out)) (by omega)).mono ?_
  rintro e w' ⟨rfl, hw⟩
  obtain rfl := hw.symm
  clear hw
  by_cases g9 : 0 ≤ lastK (keys ra) (bs x.pre)
  · have dx : decide (0 ≤ lastK (keys ra) (bs x.pre)) = true := decide_eq_true g9
    go_wp2_with fail
    go_ret
    exact ⟨rfl, KA.out.trans K3.out⟩
  have dx : decide (0 ≤ lastK (keys ra) (bs x.pre)) = false := decide_eq_false g9
  have FR : Hid (bs x.pre ∉ keys ra) := fun h => g9 (lastK_mem.2 h)
  -- the clones
  clear g9 d3 d4 d5 d6 d7 d8 d9 g3 g4 g5 g6 g7 g8 m30 m31 x0
  go_wp2_with fail
  clear dx
  refine (cloneRoutes_fresh a ra ca _ (HA.out.later (KA.out.trans K3.out)) (by omega) (okk_ok OA.out)).mono ?_
  rintro e w4 ⟨a', ca', rfl, nr4, k4⟩
  have K4 : Hid (Lat W0 w4) := K3.out.trans k4
  have hN3 : N < w3.heap.size := Nat.lt_of_lt_of_le HNL.out K3.out.size
  have hN4 : N < w4.heap.size := Nat.lt_of_lt_of_le HNL.out K4.out.size
  have NR4 : Hid (NewRs w3.heap.size w4 a' ra) := nr4
  clear nr4 k4 HA
  obtain ⟨x0, x1, x2, x3, x4, x5, x6, x7⟩ := KB.out.later K4.out
  go_wp2_with fail
  refine (cloneRoute_any _ x _ ⟨xa, xl, xc, rfl, HXI.out.later (KA.out.trans K4.out)⟩ OX.out.1).mono ?_
  rintro e w5 ⟨u, rfl, ⟨ua, ul, uc, rfl, ui⟩, k5⟩
  have K5 : Hid (Lat W0 w5) := K4.out.trans k5
  have NR5 : Hid (NewRs w3.heap.size w5 a' ra) := NR4.out.later k5
  have UI5 : Hid (IntsAt (fun b => w4.heap.size ≤ b) w5 ua ul x.cls) := ui
  clear x0 x1 x2 x3 x4 x5 x6 x7 ui NR4 HXI k5 K4
  obtain ⟨x0, x1, x2, x3, x4, x5, x6, x7⟩ := KB.out.later K5.out
  have fz : ∀ o, w5.frozen? ⟨N, o, none⟩ = false := fun o => (Below.frozen K5.out HNL.out).trans (FZ.out o)
  obtain ⟨W6, hW6⟩ : ∃ W6, W6 = ((((((((w5.setCell ⟨N, 0, none⟩ (.string x.pre)).setCell ⟨N, 1, none⟩ (.string x.kind)).setCell ⟨N, 2, none⟩ (.string x.dst)).setCell ⟨N, 3, none⟩ (.int .i64 x.mn)).setCell ⟨N, 4, none⟩ (.int .i64 x.mx)).setCell ⟨N, 5, none⟩ (.int .i64 x.st)).setCell ⟨N, 6, none⟩ (.string x.prep)).setCell ⟨N, 7, none⟩ (.slice ua ul uc)) := ⟨_, rfl⟩
  have KW6 : Hid (Lat w W6) := by
    have h : Lat w W6 := by rw [hW6]; exact (KA.out.trans K5.out).store8 hNle _ _ _ _ _ _ _ _ _ _ _ _ _ _ _ _
    exact h
  have KB6 : Hid (B8 W6 N x ua ul uc) := by
    have h : B8 W6 N x ua ul uc := by rw [hW6]; exact b8_store (KB.out.later K5.out) x ua ul uc
    exact h
  have RA6 : Hid (RsAt (fun _ => True) W6 a' ra) := by
    have h : NewRs w3.heap.size W6 a' ra := by rw [hW6]; exact NR5.out.store8 hN3 _ _ _ _ _ _ _ _ _ _ _ _ _ _ _ _
    exact h.rs
  have UI6 : Hid (IntsAt (fun _ => True) W6 ua ul x.cls) := by
    have h : IntsAt (fun b => w4.heap.size ≤ b) W6 ua ul x.cls := by rw [hW6]; exact UI5.out.store8 hN4 _ _ _ _ _ _ _ _ _ _ _ _ _ _ _ _
    exact h.mono (fun _ _ => trivial)
  have HW6 : Hid (((((((((w5.setCell ⟨N, 0, none⟩ (.string x.pre)).setCell ⟨N, 1, none⟩ (.string x.kind)).setCell ⟨N, 2, none⟩ (.string x.dst)).setCell ⟨N, 3, none⟩ (.int .i64 x.mn)).setCell ⟨N, 4, none⟩ (.int .i64 x.mx)).setCell ⟨N, 5, none⟩ (.int .i64 x.st)).setCell ⟨N, 6, none⟩ (.string x.prep)).setCell ⟨N, 7, none⟩ (.slice ua ul uc)) = W6) := hW6.symm
  clear hW6 hN3 hN4 UI5 NR5 K3
  go_wp2_with fail
  rw [HW6.out]
  clear x0 x1 x2 x3 x4 x5 x6 x7 HW6 fz K5 KB FZ HNL hNle KA
  refine (cloneStrings_any c xs cc _ (HC.out.later KW6.out) (by omega)).mono ?_
  rintro e w7 ⟨c', cc', rfl, X7, k7⟩
  have RX7 : Hid (SsAt w7 c' xs) := X7
  have KW7 : Hid (Lat w w7) := KW6.out.trans k7
  have RA7 : Hid (RsAt (fun _ => True) w7 a' ra) := RA6.out.later k7
  have KB7 : Hid (B8 w7 N x ua ul uc) := KB6.out.later k7
  have UI7 : Hid (IntsAt (fun _ => True) w7 ua ul x.cls) := UI6.out.later k7
  clear X7 KW6 RA6 KB6 UI6 k7 HC
  -- t0
  go_wp2_with fail
  refine (toConfig_any a' ra ca' _ RA7.out (by omega) (okk_ok OA.out)).mono ?_
  rintro e w8 ⟨p1, q1, rfl, P1, k8⟩
  go_wp2_with fail
  refine (toEntries_any c' xs cc' _ (RX7.out.later k8) (by omega)).mono ?_
  rintro e w9 ⟨p2, q2, rfl, P2, k9'⟩
  have P1' := P1.later k9'
  have k9 := k8.trans k9'
  clear P1 k8 k9'
  go_wp2_with fail
  refine (newTable_any p1 p2 ra xs q1 q2 _ P1' P2 (by omega) (by omega) (okk_ok OA.out) ON.out).mono ?_
  rintro e w10 ⟨t0, rfl, T0, k10'⟩
  have k10 := k9.trans k10'
  clear P1' P2 k9 k10'
  -- t1
  obtain ⟨rj, hrj⟩ : ∃ rj, rj = ins pn x ra := ⟨_, rfl⟩
  obtain ⟨sj, hsj⟩ : ∃ sj, sj = ins qn s xs := ⟨_, rfl⟩
  have lj : ra.length + 1 = rj.length := by rw [hrj, ins_length hpn]
  have lsj : xs.length + 1 = sj.length := by rw [hsj, ins_length hqn]
  have hlj : rj.length ≤ 8192 := by omega
  have hls : sj.length ≤ 8192 := by omega
  have LJ : Hid (ra.length + 1 = rj.length) := lj
  have LS : Hid (xs.length + 1 = sj.length) := lsj
  have EJ : Hid (rj = ins pn x ra) := hrj
  have ES : Hid (sj = ins qn s xs) := hsj
  have OJ : Hid (∀ r ∈ rj, Ok r) := by
    have h : ∀ r ∈ rj, Ok r := by
      intro r hr
      rw [hrj, ins_mem] at hr
      rcases hr with rfl | hr
      · exact OX.out.1
      · exact okk_ok OA.out r hr
    exact h
  have OS : Hid (∀ s ∈ sj, s.size ≤ 1048576) := by
    have h : ∀ s ∈ sj, s.size ≤ 1048576 := by
      intro r hr
      rw [hsj, ins_mem] at hr
      rcases hr with rfl | hr
      · exact okn
      · exact ON.out r hr
    exact h
  clear hrj hsj lj lsj
  obtain ⟨x0, x1, x2, x3, x4, x5, x6, x7⟩ := KB7.out.later k10
  go_wp2_with fail
  have CJ := insertRoute_any (S := fun _ => True) (S' := fun _ => True) a' ra ca' pn _ x _ (RA7.out.later k10) ⟨ua, ul, uc, rfl, UI7.out.later k10⟩ g0 hpn
  rw [← EJ.out, LJ.out] at CJ
  refine CJ.mono ?_
  clear CJ x0 x1 x2 x3 x4 x5 x6 x7
  rintro e w11 ⟨p5, q5, rfl, P5, k11'⟩
  have T0' := T0.later k11'
  have k11 := k10.trans k11'
  clear T0 k10 k11'
  go_wp2_with fail
  refine (toConfig_any p5 rj q5 _ P5 (by omega) OJ.out).mono ?_
  rintro e w12 ⟨p6, q6, rfl, P6, k12'⟩
  have T02 := T0'.later k12'
  have k12 := k11.trans k12'
  clear T0' k11 k12' P5
  go_wp2_with fail
  have CS := insertString_any c' xs cc' qn s _ (RX7.out.later k12) g1 hqn
  rw [← ES.out, LS.out] at CS
  refine CS.mono ?_
  clear CS
  rintro e w13 ⟨p7, q7, rfl, P7, k13'⟩
  have T03 := T02.later k13'
  have P6' := P6.later k13'
  have k13 := k12.trans k13'
  clear T02 k12 k13' P6
  go_wp2_with fail
  refine (toEntries_any p7 sj q7 _ P7 (by omega)).mono ?_
  rintro e w14 ⟨p8, q8, rfl, P8, k14'⟩
  have T04 := T03.later k14'
  have P6x := P6'.later k14'
  have k14 := k13.trans k14'
  clear T03 k13 k14' P6' P7
  go_wp2_with fail
  refine (newTable_any p6 p8 rj sj q6 q8 _ P6x P8 (by omega) (by omega) OJ.out OS.out).mono ?_
  rintro e w18 ⟨t1, rfl, TJ, k18'⟩
  have T05 := T04.later k18'
  have k18 := k14.trans k18'
  clear T04 k14 k18' P6x P8
  have QA : Hid (TabAt w18 t0 ra xs) := T05
  have QJ : Hid (TabAt w18 t1 rj sj) := TJ
  have K18 : Hid (Lat w w18) := KW7.out.trans k18
  have RA8 : Hid (RsAt (fun _ => True) w18 a' ra) := RA7.out.later k18
  have RX8 : Hid (SsAt w18 c' xs) := RX7.out.later k18
  have KB8 : Hid (B8 w18 N x ua ul uc) := KB7.out.later k18
  have UI8 : Hid (IntsAt (fun _ => True) w18 ua ul x.cls) := UI7.out.later k18
  clear T05 TJ KW7 k18 RA7 RX7 KB7 UI7
  -- tests
  obtain ⟨Ta, hta⟩ : ∃ Ta, t0 = .pointer (some ⟨Ta, 0, none⟩) := by obtain ⟨T, _, _, _, _, _, _, h, _⟩ := QA.out; exact ⟨T, h⟩
  obtain ⟨Tj, htj⟩ : ∃ Tj, t1 = .pointer (some ⟨Tj, 0, none⟩) := by obtain ⟨T, _, _, _, _, _, _, h, _⟩ := QJ.out; exact ⟨T, h⟩
  subst hta htj
  have hxp := OX.out.1.1
  have C15a : Hid (∀ W, Lat w18 W → Calls Try.prog 15 #[.pointer (some ⟨Ta, 0, none⟩), .slice a' ra.length ca', .slice c' xs.length cc'] W fun e w' => e = .returned (.bool true) ∧ Lat W w') := fun W hW => tableHolds_any _ a' c' ra xs ca' cc' W (QA.out.later hW) (RA8.out.later hW) (RX8.out.later hW) (by omega) (by omega) (okk_ok OA.out) ON.out
  have C16a : Hid (∀ W, Lat w18 W → Calls Try.prog 16 #[.pointer (some ⟨Ta, 0, none⟩)] W fun e w' => e = .returned (.int .i64 (lg ra)) ∧ w' = W) := fun W hW => longest_any _ ra xs W (QA.out.later hW)
  have C16j : Hid (∀ W, Lat w18 W → Calls Try.prog 16 #[.pointer (some ⟨Tj, 0, none⟩)] W fun e w' => e = .returned (.int .i64 (lg rj)) ∧ w' = W) := fun W hW => longest_any _ rj sj W (QJ.out.later hW)
  have C17 : Hid (∀ W, Calls Try.prog 17 #[.int .i64 (lg ra), .int .i64 x.pre.size] W fun e w' => e = .returned (.int .i64 (lg rj)) ∧ w' = W) := by
    intro W
    have h := max_any (lg ra) x.pre.size W
    have e : max ((lg ra : Nat) : Int) ((x.pre.size : Nat) : Int) = ((lg rj : Nat) : Int) := by rw [EJ.out, ins_lg]; omega
    rwa [e] at h
  have nl : ((lg rj : Int) != (lg rj : Int)) = false := by simp
  have C19a : Hid (∀ W, Lat w18 W → Calls Try.prog 19 #[.pointer (some ⟨Ta, 0, none⟩)] W fun e w' => e = .returned (.int .i64 (nd (keys ra))) ∧ w' = W) := fun W hW => routeCount_any _ ra xs W (QA.out.later hW)
  have C19j : Hid (∀ W, Lat w18 W → Calls Try.prog 19 #[.pointer (some ⟨Tj, 0, none⟩)] W fun e w' => e = .returned (.int .i64 (nd (keys rj))) ∧ w' = W) := fun W hW => routeCount_any _ rj sj W (QJ.out.later hW)
  have F19 : Hid (nd (keys rj) = nd (keys ra) + 1) := by
    have h : nd (keys rj) = nd (keys ra) + 1 := by
      have h2 : keys (ins pn x ra) = ins pn x.key (keys ra) := ins_map Rt.key pn x ra
      have h3 : x.key ∉ keys ra := FR.out
      rw [EJ.out, h2, ins_nd, if_neg h3]
    exact h
  have C20a : Hid (∀ W (s : ByteArray) r, Lat w18 W → s.size ≤ 1048576 → getL ra (bs s) = some r → Calls Try.prog 20 #[.pointer (some ⟨Ta, 0, none⟩), .string s] W fun e w' => ∃ v, e = .returned (.tuple #[v, .bool true]) ∧ RtV (fun _ => True) w' v r ∧ Lat W w') := fun W s r hW hs hr => route_in _ ra xs s r W (QA.out.later hW) (by unfold maxLen; omega) hr
  have C20j : Hid (∀ W (s : ByteArray) r, Lat w18 W → s.size ≤ 1048576 → getL rj (bs s) = some r → Calls Try.prog 20 #[.pointer (some ⟨Tj, 0, none⟩), .string s] W fun e w' => ∃ v, e = .returned (.tuple #[v, .bool true]) ∧ RtV (fun _ => True) w' v r ∧ Lat W w') := fun W s r hW hs hr => route_in _ rj sj s r W (QJ.out.later hW) (by unfold maxLen; omega) hr
  have C20x : Hid (∀ W, Lat w18 W → Calls Try.prog 20 #[.pointer (some ⟨Tj, 0, none⟩), .string x.pre] W fun e w' => ∃ v, e = .returned (.tuple #[v, .bool true]) ∧ RtV (fun _ => True) w' v x ∧ Lat W w') := fun W hW => C20j.out W x.pre x hW hxp (by rw [EJ.out]; exact ins_get_self pn FR.out)
  have C20n : Hid (∀ W, Lat w18 W → Calls Try.prog 20 #[.pointer (some ⟨Ta, 0, none⟩), .string x.pre] W fun e w' => e = .returned (.tuple #[.agg zc, .bool false]) ∧ Lat W w') := fun W hW => route_out _ ra xs x.pre W (QA.out.later hW) (by unfold maxLen; omega) FR.out
  have C23a : Hid (∀ W, Lat w18 W → Calls Try.prog 23 #[.pointer (some ⟨Ta, 0, none⟩)] W fun e w' => e = .returned (.int .i64 (nd (xs.map bs))) ∧ w' = W) := fun W hW => blackCount_any _ ra xs W (QA.out.later hW)
  have C23j : Hid (∀ W, Lat w18 W → Calls Try.prog 23 #[.pointer (some ⟨Tj, 0, none⟩)] W fun e w' => e = .returned (.int .i64 (nd (sj.map bs))) ∧ w' = W) := fun W hW => blackCount_any _ rj sj W (QJ.out.later hW)
  have F23 : Hid (nd (sj.map bs) = nd (xs.map bs) + if bs s ∈ xs.map bs then 0 else 1) := by
    have h : nd (sj.map bs) = nd (xs.map bs) + if bs s ∈ xs.map bs then 0 else 1 := by rw [ES.out, ins_map, ins_nd]
    exact h
  have C24j : Hid (∀ W (s : ByteArray), Lat w18 W → s.size ≤ 1048576 → bs s ∈ sj.map bs → Calls Try.prog 24 #[.pointer (some ⟨Tj, 0, none⟩), .string s] W fun e w' => e = .returned (.tuple #[.bool true, .bool true]) ∧ w' = W) := fun W s hW hs hr => black_in _ rj sj s W (QJ.out.later hW) (by unfold maxLen; omega) hr
  have C24i : Hid (∀ W, Lat w18 W → bs s ∈ xs.map bs → Calls Try.prog 24 #[.pointer (some ⟨Ta, 0, none⟩), .string s] W fun e w' => e = .returned (.tuple #[.bool true, .bool true]) ∧ w' = W) := fun W hW hr => black_in _ ra xs s W (QA.out.later hW) (by unfold maxLen; omega) hr
  have C24o : Hid (∀ W, Lat w18 W → bs s ∉ xs.map bs → Calls Try.prog 24 #[.pointer (some ⟨Ta, 0, none⟩), .string s] W fun e w' => e = .returned (.tuple #[.bool false, .bool false]) ∧ w' = W) := fun W hW hr => black_out _ ra xs s W (QA.out.later hW) (by unfold maxLen; omega) hr
  have C22 : Hid (∀ W, Lat w18 W → Calls Try.prog 22 #[.slice c' xs.length cc', .string s] W fun e w' => e = .returned (.int .i64 (lastK (xs.map bs) (bs s))) ∧ w' = W) := fun W hW => lastString_any c' xs cc' s W (RX8.out.later hW) (by omega)
  have MS : Hid (bs s ∈ sj.map bs) := by
    have h : bs s ∈ sj.map bs := by rw [ES.out, ins_map, ins_mem]; exact .inl rfl
    exact h
  have MX : Hid (∀ k, k ∈ xs.map bs → k ∈ sj.map bs) := by
    intro k hk
    rw [ES.out, ins_map, ins_mem]
    exact .inr hk
  have B1 : nd (keys ra) ≤ 4096 := by have := nd_le (keys ra); rw [keys_length] at this; omega
  have B3 : nd (xs.map bs) ≤ 4096 := by have := nd_le (xs.map bs); rw [List.length_map] at this; omega
  generalize nd (keys rj) = Nj at *
  generalize nd (keys ra) = Na at *
  generalize nd (sj.map bs) = Mj at *
  generalize nd (xs.map bs) = Ma at *
  generalize lg rj = Lj at *
  generalize lg ra = La at *
  clear QA QJ g0 g1 hpn hqn hlj hls LJ LS OJ OS
  go_wp2_with fail
  refine (C15a.out _ (Lat.refl w18)).mono ?_
  rintro e w19 ⟨rfl, k19⟩
  clear C15a
  obtain ⟨x0, x1, x2, x3, x4, x5, x6, x7⟩ := KB8.out.later k19
  go_wp2_with fail
  refine (C20x.out _ k19).mono ?_
  rintro e w20 ⟨v1, rfl, ⟨i1, l1, j1, rfl, hi1⟩, k20'⟩
  have k20 := k19.trans k20'
  clear x0 x1 x2 x3 x4 x5 x6 x7 k19 k20' C20x
  obtain ⟨x0, x1, x2, x3, x4, x5, x6, x7⟩ := KB8.out.later k20
  have hNlt : N < w20.heap.size := World.block_lt_of_cell? _ _ x0
  obtain ⟨W1, hW1, hA1, hB1⟩ := b8_alloc w20 x i1 l1 j1
  have HW1 : Hid (w20.alloc (.cells #[.string x.pre, .string x.kind, .string x.dst, .int .i64 x.mn, .int .i64 x.mx, .int .i64 x.st, .string x.prep, .slice i1 l1 j1] 45) = W1) := hW1.symm
  have hV1 := k20.trans hA1
  have SR : Hid (∀ W, Lat W1 W → Calls Try.prog 30 #[.agg #[.string x.pre, .string x.kind, .string x.dst, .int .i64 x.mn, .int .i64 x.mx, .int .i64 x.st, .string x.prep, .slice i1 l1 j1], .agg #[.string x.pre, .string x.kind, .string x.dst, .int .i64 x.mn, .int .i64 x.mx, .int .i64 x.st, .string x.prep, .slice ua ul uc]] W fun e w' => e = .returned (.bool true) ∧ Lat W w') :=
    fun W hW => sameRoute_any (S := fun _ => True) (S' := fun _ => True) _ _ x W ⟨i1, l1, j1, rfl, hi1.later (hA1.trans hW)⟩ ⟨ua, ul, uc, rfl, UI8.out.later (hV1.trans hW)⟩ OX.out.1
  clear hi1 hB1 hW1 hA1
  go_wp2_with fail
  rw [HW1.out]
  refine (SR.out _ (Lat.refl _)).mono ?_
  rintro e w21 ⟨rfl, k21'⟩
  have k21 := hV1.trans k21'
  clear x0 x1 x2 x3 x4 x5 x6 x7 k20 k21' hV1 HW1 SR hNlt UI8
  obtain ⟨x0, x1, x2, x3, x4, x5, x6, x7⟩ := KB8.out.later k21
  go_wp2_with fail
  refine (C20n.out _ k21).mono ?_
  rintro e w22 ⟨rfl, k22'⟩
  have k22 := k21.trans k22'
  clear x0 x1 x2 x3 x4 x5 x6 x7 k21 k22' C20n
  unfold zc
  obtain ⟨W2, hW2, hA2⟩ : ∃ Wa, Wa = w22.alloc (.cells #[.string ⟨#[]⟩, .string ⟨#[]⟩, .string ⟨#[]⟩, .int .i64 0, .int .i64 0, .int .i64 0, .string ⟨#[]⟩, .slice none 0 0] 45) ∧ Lat w22 Wa := ⟨_, rfl, (Lat.refl _).alloc _⟩
  have k23 := k22.trans hA2
  go_wp2_with fail
  rw [← hW2]
  clear hW2 hA2 k22
  -- loop 1
  go_loopw [20] (fun i wr => ∃ k : Nat, k ≤ ra.length ∧ i = .int .i64 k ∧ Lat w18 wr) (fun i _ => ra.length - (intOf i).toNat)
  case atStart => exact ⟨0, Nat.zero_le _, rfl, k23⟩
  case round =>
    obtain ⟨k, hk, rfl, hL⟩ := hrel
    clear k23
    by_cases hlt : k < ra.length
    · obtain ⟨r, hr⟩ : ∃ r, ra[k]? = some r := ⟨_, List.getElem?_eq_getElem hlt⟩
      have hm : bs r.pre ∈ keys ra := List.mem_of_getElem? (key_at hr)
      have hsz := (OA.out r (List.mem_of_getElem? hr)).1.1
      obtain ⟨bk, off, rfl, hc⟩ := RA8.out k r hr
      obtain ⟨_, _, _, d0, hc'⟩ := hc
      have c0 := hL.cell d0
      obtain ⟨l, y, _, _, _, hy⟩ := last_of hr
      have hy2 : getL rj (bs r.pre) = some y := by
        rw [EJ.out, ins_get_other pn (fun e => FR.out (by show x.key ∈ keys ra; rw [e]; exact hm))]
        exact hy
      have oky : Hid (Ok y) := (OA.out y (getL_mem hy)).1
      have LJ : Hid (∀ W, Lat w18 W → Calls Try.prog 20 #[.pointer (some ⟨Tj, 0, none⟩), .string r.pre] W fun e w' => ∃ v, e = .returned (.tuple #[v, .bool true]) ∧ RtV (fun _ => True) w' v y ∧ Lat W w') := fun W hW => C20j.out W r.pre y hW hsz hy2
      have LA : Hid (∀ W, Lat w18 W → Calls Try.prog 20 #[.pointer (some ⟨Ta, 0, none⟩), .string r.pre] W fun e w' => ∃ v, e = .returned (.tuple #[v, .bool true]) ∧ RtV (fun _ => True) w' v y ∧ Lat W w') := fun W hW => C20a.out W r.pre y hW hsz hy
      clear hr hc' hm hy hy2 hsz F19 F23 nl
      go_wp2_with fail
      refine (LJ.out _ hL).mono ?_
      rintro e u1 ⟨v1, rfl, ⟨i1, l1, j1, rfl, hi1⟩, hu1⟩
      have hU1 := hL.trans hu1
      have c1 := hU1.cell d0
      have t1 : bk < u1.heap.size := World.block_lt_of_cell? _ _ c1
      obtain ⟨W1, hW1, hA1, hB1⟩ := b8_alloc u1 y i1 l1 j1
      have hV1 := hU1.trans hA1
      go_wp2_with fail
      rw [← hW1]
      clear hW1
      refine (LA.out _ hV1).mono ?_
      rintro e u2 ⟨v2, rfl, ⟨i2, l2, j2, rfl, hi2⟩, hu2⟩
      have hU2 := hV1.trans hu2
      have c2 := hU2.cell d0
      have t2 : bk < u2.heap.size := World.block_lt_of_cell? _ _ c2
      obtain ⟨W2, hW2, hA2, hB2⟩ := b8_alloc u2 y i2 l2 j2
      have hV2 := hU2.trans hA2
      obtain ⟨q0, q1, q2, q3, q4, q5, q6, q7⟩ := hB1.later hu2
      have s1 : u1.heap.size < u2.heap.size := World.block_lt_of_cell? _ _ q0
      have SC : Hid (∀ W, Lat W2 W → Calls Try.prog 21 #[.agg #[.string y.pre, .string y.kind, .string y.dst, .int .i64 y.mn, .int .i64 y.mx, .int .i64 y.st, .string y.prep, .slice i1 l1 j1], .agg #[.string y.pre, .string y.kind, .string y.dst, .int .i64 y.mn, .int .i64 y.mx, .int .i64 y.st, .string y.prep, .slice i2 l2 j2]] W fun e w' => e = .returned (.bool true) ∧ Lat W w') :=
        fun W hW => sameCfg_any (S := fun _ => True) (S' := fun _ => True) _ _ y W ⟨i1, l1, j1, rfl, hi1.later (((hA1.trans hu2).trans hA2).trans hW)⟩ ⟨i2, l2, j2, rfl, hi2.later (hA2.trans hW)⟩ oky.out
      clear hB1 hB2 hi1 hi2 c1 t1 c0 hU1 hU2 hV1 hA1 hu1 hu2
      go_wp2_with fail
      rw [← hW2]
      clear hW2
      refine (SC.out _ (Lat.refl _)).mono ?_
      rintro e u4 ⟨rfl, hu4⟩
      have hU4 := hV2.trans hu4
      go_wp2_with fail
      go_roundw
      case rel => exact ⟨k + 1, by omega, by go_num, hU4⟩
      case measure => simp [intOf]; omega
    obtain rfl : k = ra.length := by omega
    have F := F19.out
    have dn : ((Nj : Int) != (Na : Int) + 1) = false := by simp; omega
    clear F F19 C20a C20j hk hlt
    go_wp2_with fail
    refine (C19j.out _ hL).mono ?_
    rintro e w' ⟨rfl, hw⟩
    obtain rfl := hw.symm
    clear hw
    go_wp2_with fail
    refine (C19a.out _ hL).mono ?_
    rintro e w' ⟨rfl, hw⟩
    obtain rfl := hw.symm
    clear hw
    obtain ⟨x0, _⟩ := KB8.out.later hL
    have D16a : Hid (∀ n, Calls Try.prog 16 #[.pointer (some ⟨Ta, 0, none⟩)] (wr.drewN n) fun e w' => e = .returned (.int .i64 La) ∧ w' = wr.drewN n) := fun n => C16a.out _ (hL.drewN n)
    have D16j : Hid (∀ n, Calls Try.prog 16 #[.pointer (some ⟨Tj, 0, none⟩)] (wr.drewN n) fun e w' => e = .returned (.int .i64 Lj) ∧ w' = wr.drewN n) := fun n => C16j.out _ (hL.drewN n)
    clear C16a C16j C19a C19j
    go_wp2_with fail
    clear dn B1
    go_quiet ((first | (go_at_call 16; first | with_reducible exact Calls.quiet_of_same (D16j.out _) | with_reducible exact Calls.quiet_of_same (D16a.out _)) | (go_at_call 17; with_reducible exact Calls.quiet_of_same (C17.out _))))
    obtain ⟨wq, hwq⟩ : ∃ wq, wq = wr.drewN nq := ⟨_, rfl⟩
    rw [← hwq]
    have hq : Lat w18 wq := by rw [hwq]; exact hL.drewN nq
    clear hwq hL x0 D16a D16j C17
    go_wp2_with fail
    clear nl
    have HQ := C24j.out wq s hq okn MS.out
    refine HQ.mono ?_
    rintro e w' ⟨rfl, hw⟩
    obtain rfl := hw.symm
    clear hw
    clear HQ
    go_wp2_with fail
    by_cases hin : bs s ∈ xs.map bs
    · skip
      have dl : decide (0 ≤ lastK (xs.map bs) (bs s)) = true := decide_eq_true (lastK_mem.2 hin)
      have F := F23.out
      rw [if_pos hin] at F
      have dm : ((Mj : Int) != (Ma : Int)) = false := by simp; omega
      have HQ := C24i.out wq hq hin
      clear F F23 hin C24i C24o
      refine HQ.mono ?_
      rintro e w' ⟨rfl, hw⟩
      obtain rfl := hw.symm
      clear hw
      clear HQ
      go_wp2_with fail
      refine (C22.out _ hq).mono ?_
      rintro e w' ⟨rfl, hw⟩
      obtain rfl := hw.symm
      clear hw
      go_wp2_with fail
      refine (C23j.out _ hq).mono ?_
      rintro e w' ⟨rfl, hw⟩
      obtain rfl := hw.symm
      clear hw
      go_wp2_with fail
      refine (C23a.out _ hq).mono ?_
      rintro e w' ⟨rfl, hw⟩
      obtain rfl := hw.symm
      clear hw
      go_wp2_with fail
      clear C22 C23j C23a dm dl B3
      go_loop [31] (fun i => ∃ k : Nat, k ≤ xs.length ∧ i = .int .i64 k) (fun i => xs.length - (intOf i).toNat)
      case atStart => exact ⟨0, Nat.zero_le _, rfl⟩
      case round =>
        obtain ⟨k, hk, rfl⟩ := hrel
        by_cases hlt : k < xs.length
        · obtain ⟨z, hs⟩ : ∃ s, xs[k]? = some s := ⟨_, List.getElem?_eq_getElem hlt⟩
          have hm : bs z ∈ sj.map bs := MX.out _ (List.mem_of_getElem? (ss_at hs))
          obtain ⟨b1, o1, rfl, hc⟩ := RX8.out k z hs
          have c0 := hq.cell hc
          have HC := C24j.out wq z hq (ON.out z (List.mem_of_getElem? hs)) hm
          clear hm hs hc
          go_wp2_with fail
          refine HC.mono ?_
          rintro e w' ⟨rfl, hw⟩
          obtain rfl := hw.symm
          clear HC
          go_wp2_with fail
          go_round
          case rel => exact ⟨k + 1, by omega, by go_num⟩
          case measure => simp [intOf]; omega
        go_wp2_with fail
        go_ret
        exact ⟨rfl, K18.out.trans hq⟩
    · skip
      have dl : decide (0 ≤ lastK (xs.map bs) (bs s)) = false := decide_eq_false (fun h => hin (lastK_mem.1 h))
      have F := F23.out
      rw [if_neg hin] at F
      have dm : ((Mj : Int) != (Ma : Int) + 1) = false := by simp; omega
      have HQ := C24o.out wq hq hin
      clear F F23 hin C24i C24o
      refine HQ.mono ?_
      rintro e w' ⟨rfl, hw⟩
      obtain rfl := hw.symm
      clear hw
      clear HQ
      go_wp2_with fail
      refine (C22.out _ hq).mono ?_
      rintro e w' ⟨rfl, hw⟩
      obtain rfl := hw.symm
      clear hw
      go_wp2_with fail
      refine (C23j.out _ hq).mono ?_
      rintro e w' ⟨rfl, hw⟩
      obtain rfl := hw.symm
      clear hw
      go_wp2_with fail
      refine (C23a.out _ hq).mono ?_
      rintro e w' ⟨rfl, hw⟩
      obtain rfl := hw.symm
      clear hw
      go_wp2_with fail
      clear C22 C23j C23a dm dl B3
      go_loop [31] (fun i => ∃ k : Nat, k ≤ xs.length ∧ i = .int .i64 k) (fun i => xs.length - (intOf i).toNat)
      case atStart => exact ⟨0, Nat.zero_le _, rfl⟩
      case round =>
        obtain ⟨k, hk, rfl⟩ := hrel
        by_cases hlt : k < xs.length
        · obtain ⟨z, hs⟩ : ∃ s, xs[k]? = some s := ⟨_, List.getElem?_eq_getElem hlt⟩
          have hm : bs z ∈ sj.map bs := MX.out _ (List.mem_of_getElem? (ss_at hs))
          obtain ⟨b1, o1, rfl, hc⟩ := RX8.out k z hs
          have c0 := hq.cell hc
          have HC := C24j.out wq z hq (ON.out z (List.mem_of_getElem? hs)) hm
          clear hm hs hc
          go_wp2_with fail
          refine HC.mono ?_
          rintro e w' ⟨rfl, hw⟩
          obtain rfl := hw.symm
          clear HC
          go_wp2_with fail
          go_round
          case rel => exact ⟨k + 1, by omega, by go_num⟩
          case measure => simp [intOf]; omega
        go_wp2_with fail
        go_ret
        exact ⟨rfl, K18.out.trans hq⟩
end Go.Proofs.Qxb6630238a
