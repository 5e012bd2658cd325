/- The walk of FnNewTableJoinAgreesWithParts. -/
import Derived.Test.Qxb6630238aZb
namespace Go.Proofs.Qxb6630238a
open Go.RowKit Pl

theorem okk_ok {rs : List Rt} (h : ∀ r ∈ rs, Okk r) : ∀ r ∈ rs, Ok r := fun r hr => (h r hr).1
theorem ok_append {a b : List Rt} (ha : ∀ r ∈ a, Ok r) (hb : ∀ r ∈ b, Ok r) : ∀ r ∈ a ++ b, Ok r := fun r hr => by
  rcases List.mem_append.1 hr with h | h
  · exact ha r h
  · exact hb r h
theorem sm_append {a b : List ByteArray} (ha : ∀ r ∈ a, r.size ≤ 1048576) (hb : ∀ r ∈ b, r.size ≤ 1048576) : ∀ r ∈ a ++ b, r.size ≤ 1048576 := fun r hr => by
  rcases List.mem_append.1 hr with h | h
  · exact ha r h
  · exact hb r h

/-- Eight cells of a block are a route. -/
def B8 (W : World) (b : Nat) (x : Rt) (a : Option Addr) (l c : Nat) : Prop :=
  W.cell? ⟨b, 0, none⟩ = some (.string x.pre) ∧ W.cell? ⟨b, 1, none⟩ = some (.string x.kind) ∧ W.cell? ⟨b, 2, none⟩ = some (.string x.dst) ∧ W.cell? ⟨b, 3, none⟩ = some (.int .i64 x.mn) ∧ W.cell? ⟨b, 4, none⟩ = some (.int .i64 x.mx) ∧ W.cell? ⟨b, 5, none⟩ = some (.int .i64 x.st) ∧ W.cell? ⟨b, 6, none⟩ = some (.string x.prep) ∧ W.cell? ⟨b, 7, none⟩ = some (.slice a l c)

theorem B8.later {W W' : World} {b : Nat} {x : Rt} {a : Option Addr} {l c : Nat} (h : B8 W b x a l c) (k : Lat W W') : B8 W' b x a l c := by
  obtain ⟨h0, h1, h2, h3, h4, h5, h6, h7⟩ := h
  exact ⟨k.cell h0, k.cell h1, k.cell h2, k.cell h3, k.cell h4, k.cell h5, k.cell h6, k.cell h7⟩

theorem b8_alloc (W : World) (x : Rt) (a : Option Addr) (l c : Nat) : ∃ Wa, Wa = W.alloc (.cells #[.string x.pre, .string x.kind, .string x.dst, .int .i64 x.mn, .int .i64 x.mx, .int .i64 x.st, .string x.prep, .slice a l c] 45) ∧ Lat W Wa ∧ B8 Wa W.heap.size x a l c := by
  refine ⟨_, rfl, (Lat.refl W).alloc _, ?_, ?_, ?_, ?_, ?_, ?_, ?_, ?_⟩ <;> go_simp

/-- Whose route the joined table holds. -/
theorem join_get {ra rb rj : List Rt} (e : rj = ra ++ rb) {p : Bs} (h : p ∈ keys ra) : (∃ x, getL rb p = some x ∧ getL rj p = some x) ∨ (p ∉ keys rb ∧ ∃ x, getL ra p = some x ∧ getL rj p = some x) := by
  rw [e, getL_append]
  cases hb : getL rb p with
  | some x => exact .inl ⟨x, rfl, rfl⟩
  | none =>
    refine .inr ⟨?_, ?_⟩
    · have := getL_isSome p rb
      rw [hb] at this
      simpa using this.symm
    · have := getL_isSome p ra
      rw [decide_eq_true h] at this
      obtain ⟨x, hx⟩ := Option.isSome_iff_exists.1 this
      exact ⟨x, hx, hx⟩

theorem join_get_right {ra rb rj : List Rt} (e : rj = ra ++ rb) {p : Bs} (h : p ∈ keys rb) : ∃ x, getL rb p = some x ∧ getL rj p = some x := by
  rw [e, getL_append]
  have := getL_isSome p rb
  rw [decide_eq_true h] at this
  obtain ⟨x, hx⟩ := Option.isSome_iff_exists.1 this
  rw [hx]
  exact ⟨x, rfl, rfl⟩

theorem getL_mem {p : Bs} {x : Rt} : ∀ {rs : List Rt}, getL rs p = some x → x ∈ rs
  | [], h => by simp [getL] at h
  | r :: rs, h => by
    simp only [getL] at h
    cases hr : getL rs p with
    | some y =>
      rw [hr] at h
      obtain rfl := Option.some.inj h
      exact List.mem_cons_of_mem _ (getL_mem hr)
    | none =>
      rw [hr] at h
      dsimp only at h
      split at h
      · obtain rfl := Option.some.inj h
        exact List.mem_cons_self
      · exact absurd h (by simp)

set_option maxRecDepth 100000 in
set_option maxHeartbeats 20000000 in
theorem join_walk {S S' : Nat → Prop} (a b c d : Option Addr) (ra rb : List Rt) (xs ys : List ByteArray) (ca cb cc cd : Nat) (w : World) (ha : RsAt S w a ra) (hb : RsAt S' w b rb) (hc : SsAt w c xs) (hd : SsAt w d ys)
    (la : ra.length ≤ 9223372036854775807) (lb : rb.length ≤ 9223372036854775807) (lc : xs.length ≤ 9223372036854775807) (ld : ys.length ≤ 9223372036854775807) :
    Calls Try.prog 3 #[.slice a ra.length ca, .slice b rb.length cb, .slice c xs.length cc, .slice d ys.length cd] w fun e w' => e = .returned (.bool true) ∧ Lat w w' := by
  have HZ : Hid (Calls Try.prog 5 #[.slice a ra.length ca, .slice b rb.length cb, .slice c xs.length cc, .slice d ys.length cd] w fun e w' => Says e ((∀ r ∈ ra, Okk r) ∧ (∀ r ∈ rb, Okk r) ∧ (∀ s ∈ xs, s.size ≤ 1048576) ∧ (∀ s ∈ ys, s.size ≤ 1048576)) ∧ w' = w) := zzJoin_any a b c d ra rb xs ys ca cb cc cd w ha hb hc hd la lb lc ld
  have HA : Hid (RsAt S w a ra) := ha
  have HB : Hid (RsAt S' w b rb) := hb
  have HC : Hid (SsAt w c xs) := hc
  have HD : Hid (SsAt w d ys) := hd
  clear ha hb hc hd
  by_cases g0 : ra.length ≤ 4096
  rotate_left
  ·
    have d0 : decide ((4096 : Int) < (ra.length : Int)) = true := by simp; omega
    go_enter Try.func3, Try.ntmps3
    go_wp2_with fail
    refine HZ.out.mono ?_
    rintro e w' ⟨⟨res, rfl, hres⟩, hw⟩
    obtain rfl := hw.symm
    clear hres
    cases res
    all_goals
      go_wp2_with fail
      go_ret
      exact ⟨rfl, Lat.refl w⟩
  by_cases g1 : rb.length ≤ 4096
  rotate_left
  ·
    have d0 : decide ((4096 : Int) < (ra.length : Int)) = false := by simp; omega
    have d1 : decide ((4096 : Int) < (rb.length : Int)) = true := by simp; omega
    go_enter Try.func3, Try.ntmps3
    go_wp2_with fail
    refine HZ.out.mono ?_
    rintro e w' ⟨⟨res, rfl, hres⟩, hw⟩
    obtain rfl := hw.symm
    clear hres
    cases res
    all_goals
      go_wp2_with fail
      go_ret
      exact ⟨rfl, Lat.refl w⟩
  by_cases g2 : xs.length ≤ 4096
  rotate_left
  ·
    have d0 : decide ((4096 : Int) < (ra.length : Int)) = false := by simp; omega
    have d1 : decide ((4096 : Int) < (rb.length : Int)) = false := by simp; omega
    have d2 : decide ((4096 : Int) < (xs.length : Int)) = true := by simp; omega
    go_enter Try.func3, Try.ntmps3
    go_wp2_with fail
    refine HZ.out.mono ?_
    rintro e w' ⟨⟨res, rfl, hres⟩, hw⟩
    obtain rfl := hw.symm
    clear hres
    cases res
    all_goals
      go_wp2_with fail
      go_ret
      exact ⟨rfl, Lat.refl w⟩
  by_cases g3 : ys.length ≤ 4096
  rotate_left
  ·
    have d0 : decide ((4096 : Int) < (ra.length : Int)) = false := by simp; omega
    have d1 : decide ((4096 : Int) < (rb.length : Int)) = false := by simp; omega
    have d2 : decide ((4096 : Int) < (xs.length : Int)) = false := by simp; omega
    have d3 : decide ((4096 : Int) < (ys.length : Int)) = true := by simp; omega
    go_enter Try.func3, Try.ntmps3
    go_wp2_with fail
    refine HZ.out.mono ?_
    rintro e w' ⟨⟨res, rfl, hres⟩, hw⟩
    obtain rfl := hw.symm
    clear hres
    cases res
    all_goals
      go_wp2_with fail
      go_ret
      exact ⟨rfl, Lat.refl w⟩
  have d0 : decide ((4096 : Int) < (ra.length : Int)) = false := by simp; omega
  have d1 : decide ((4096 : Int) < (rb.length : Int)) = false := by simp; omega
  have d2 : decide ((4096 : Int) < (xs.length : Int)) = false := by simp; omega
  have d3 : decide ((4096 : Int) < (ys.length : Int)) = false := by simp; omega
  go_enter Try.func3, Try.ntmps3
  go_wp2_with fail
  refine HZ.out.mono ?_
  rintro e w' ⟨⟨res, rfl, hres⟩, hw⟩
  obtain rfl := hw.symm
  cases res
  · go_wp2_with fail
    go_ret
    exact ⟨rfl, Lat.refl w⟩
  obtain ⟨oka, okb, okx, oky⟩ := hres rfl
  have OA : Hid (∀ r ∈ ra, Okk r) := oka
  have OB : Hid (∀ r ∈ rb, Okk r) := okb
  have OX : Hid (∀ s ∈ xs, s.size ≤ 1048576) := okx
  have OY : Hid (∀ s ∈ ys, s.size ≤ 1048576) := oky
  clear oka okb okx oky hres HZ hw
  -- the sums
  go_wp2_with fail
  refine (routeBytes_any a ra ca 0 _ HA.out (by omega) OA.out (by omega) (by omega)).mono ?_
  rintro e w1 ⟨m1, rfl, m10, m11, k1⟩
  go_wp2_with fail
  refine (routeBytes_any b rb cb m1 _ (HB.out.later k1) (by omega) OB.out m10 m11).mono ?_
  rintro e w2 ⟨m2, rfl, m20, m21, k2'⟩
  have k2 := k1.trans k2'
  clear k1 k2' m10 m11
  go_wp2_with fail
  refine (stringBytes_any c xs cc m2 _ (HC.out.later k2) (by omega) OX.out m20 m21).mono ?_
  rintro e w3 ⟨m3, rfl, m30, m31, hw⟩
  obtain rfl := hw.symm
  clear hw m20 m21
  go_wp2_with fail
  refine (stringBytes_any d ys cd m3 _ (HD.out.later k2) (by omega) OY.out m30 m31).mono ?_
  rintro e w3 ⟨m4, rfl, m40, m41, hw⟩
  obtain rfl := hw.symm
  clear hw m30 m31
  by_cases g4 : (1048576 : Int) < m4
  · have d4 : decide ((1048576 : Int) < m4) = true := by simp; omega
    go_wp2_with fail
    go_ret
    exact ⟨rfl, k2⟩
  have d4 : decide ((1048576 : Int) < m4) = false := by simp; omega
  -- the clones
  go_wp2_with fail
  refine (cloneRoutes_any a ra ca _ (HA.out.later k2) (by omega) (okk_ok OA.out)).mono ?_
  rintro e w4 ⟨a', ca', rfl, A1, k4'⟩
  have k4 := k2.trans k4'
  go_wp2_with fail
  refine (cloneRoutes_any b rb cb _ (HB.out.later k4) (by omega) (okk_ok OB.out)).mono ?_
  rintro e w5 ⟨b', cb', rfl, B1, k5'⟩
  have A2 := A1.later k5'
  have k5 := k4.trans k5'
  clear A1 k4' k4 k2
  go_wp2_with fail
  refine (cloneStrings_any c xs cc _ (HC.out.later k5) (by omega)).mono ?_
  rintro e w6 ⟨c', cc', rfl, X1, k6'⟩
  have A3 := A2.later k6'
  have B3 := B1.later k6'
  have k6 := k5.trans k6'
  clear A2 B1 k5' k5 k6'
  go_wp2_with fail
  refine (cloneStrings_any d ys cd _ (HD.out.later k6) (by omega)).mono ?_
  rintro e w7 ⟨d', cd', rfl, Y7, k7'⟩
  have A7 := A3.later k7'
  have B7 := B3.later k7'
  have X7 := X1.later k7'
  have k7 := k6.trans k7'
  clear A3 B3 X1 k6 k7' HA HB HC HD
  have RA : Hid (RsAt (fun _ => True) w7 a' ra) := A7
  have RB : Hid (RsAt (fun _ => True) w7 b' rb) := B7
  have RX : Hid (SsAt w7 c' xs) := X7
  have RY : Hid (SsAt w7 d' ys) := Y7
  have K7 : Hid (Lat w w7) := k7
  clear A7 B7 X7 Y7 k7
  -- ta
  go_wp2_with fail
  refine (toConfig_any a' ra ca' _ RA.out (by omega) (okk_ok OA.out)).mono ?_
  rintro e w8 ⟨p1, q1, rfl, P1, k8⟩
  go_wp2_with fail
  refine (toEntries_any c' xs cc' _ (RX.out.later k8) (by omega)).mono ?_
  rintro e w9 ⟨p2, q2, rfl, P2, k9'⟩
  have P1' := P1.later k9'
  have k9 := k8.trans k9'
  clear P1 k8 k9'
  go_wp2_with fail
  refine (newTable_any p1 p2 ra xs q1 q2 _ P1' P2 (by omega) (by omega) (okk_ok OA.out) OX.out).mono ?_
  rintro e w10 ⟨ta, rfl, TA, k10'⟩
  have k10 := k9.trans k10'
  clear P1' P2 k9 k10'
  -- tb
  go_wp2_with fail
  refine (toConfig_any b' rb cb' _ (RB.out.later k10) (by omega) (okk_ok OB.out)).mono ?_
  rintro e w11 ⟨p3, q3, rfl, P3, k11'⟩
  have TA1 := TA.later k11'
  have k11 := k10.trans k11'
  clear TA k10 k11'
  go_wp2_with fail
  refine (toEntries_any d' ys cd' _ (RY.out.later k11) (by omega)).mono ?_
  rintro e w12 ⟨p4, q4, rfl, P4, k12'⟩
  have TA2 := TA1.later k12'
  have P3' := P3.later k12'
  have k12 := k11.trans k12'
  clear TA1 P3 k11 k12'
  go_wp2_with fail
  refine (newTable_any p3 p4 rb ys q3 q4 _ P3' P4 (by omega) (by omega) (okk_ok OB.out) OY.out).mono ?_
  rintro e w13 ⟨tb, rfl, TB, k13'⟩
  have TA3 := TA2.later k13'
  have k13 := k12.trans k13'
  clear TA2 P3' P4 k12 k13'
  -- tj
  obtain ⟨rj, hrj⟩ : ∃ rj, rj = ra ++ rb := ⟨_, rfl⟩
  obtain ⟨sj, hsj⟩ : ∃ sj, sj = xs ++ ys := ⟨_, rfl⟩
  have hlj : rj.length ≤ 8192 := by rw [hrj, List.length_append]; omega
  have hls : sj.length ≤ 8192 := by rw [hsj, List.length_append]; omega
  have EJ : Hid (rj = ra ++ rb) := hrj
  have ES : Hid (sj = xs ++ ys) := hsj
  clear hrj hsj
  have OJ : Hid (∀ r ∈ rj, Ok r) := by
    have h : ∀ r ∈ rj, Ok r := by
      rw [EJ.out]
      exact ok_append (okk_ok OA.out) (okk_ok OB.out)
    exact h
  have OS : Hid (∀ s ∈ sj, s.size ≤ 1048576) := by
    have h : ∀ s ∈ sj, s.size ≤ 1048576 := by
      rw [ES.out]
      exact sm_append OX.out OY.out
    exact h
  go_wp2_with fail
  have CJ := joinRoutes_any a' b' ra rb ca' cb' _ (RA.out.later k13) (RB.out.later k13) g0 g1
  rw [← EJ.out] at CJ
  refine CJ.mono ?_
  clear CJ
  rintro e w14 ⟨p5, q5, rfl, P5, k14'⟩
  have TA4 := TA3.later k14'
  have TB4 := TB.later k14'
  have k14 := k13.trans k14'
  clear TA3 TB k13 k14'
  go_wp2_with fail
  refine (toConfig_any p5 rj q5 _ P5 (by omega) OJ.out).mono ?_
  rintro e w15 ⟨p6, q6, rfl, P6, k15'⟩
  have TA5 := TA4.later k15'
  have TB5 := TB4.later k15'
  have k15 := k14.trans k15'
  clear TA4 TB4 k14 k15' P5
  go_wp2_with fail
  have CS := joinStrings_any c' d' xs ys cc' cd' _ (RX.out.later k15) (RY.out.later k15) g2 g3
  rw [← ES.out] at CS
  refine CS.mono ?_
  clear CS
  rintro e w16 ⟨p7, q7, rfl, P7, k16'⟩
  have TA6 := TA5.later k16'
  have TB6 := TB5.later k16'
  have P6' := P6.later k16'
  have k16 := k15.trans k16'
  clear TA5 TB5 k15 k16' P6
  go_wp2_with fail
  refine (toEntries_any p7 sj q7 _ P7 (by omega)).mono ?_
  rintro e w17 ⟨p8, q8, rfl, P8, k17'⟩
  have TA7 := TA6.later k17'
  have TB7 := TB6.later k17'
  have P6x := P6'.later k17'
  have k17 := k16.trans k17'
  clear TA6 TB6 k16 k17' P6' P7
  go_wp2_with fail
  refine (newTable_any p6 p8 rj sj q6 q8 _ P6x P8 (by omega) (by omega) OJ.out OS.out).mono ?_
  rintro e w18 ⟨tj, rfl, TJ, k18'⟩
  have TA8 := TA7.later k18'
  have TB8 := TB7.later k18'
  have k18 := k17.trans k18'
  clear TA7 TB7 k17 k18' P6x P8
  have QA : Hid (TabAt w18 ta ra xs) := TA8
  have QB : Hid (TabAt w18 tb rb ys) := TB8
  have QJ : Hid (TabAt w18 tj rj sj) := TJ
  have K18 : Hid (Lat w w18) := K7.out.trans k18
  have RA8 : Hid (RsAt (fun _ => True) w18 a' ra) := RA.out.later k18
  have RB8 : Hid (RsAt (fun _ => True) w18 b' rb) := RB.out.later k18
  have RX8 : Hid (SsAt w18 c' xs) := RX.out.later k18
  have RY8 : Hid (SsAt w18 d' ys) := RY.out.later k18
  clear TA8 TB8 TJ RA RB RX RY K7 k18
  -- tests
  obtain ⟨Ta, hta⟩ : ∃ Ta, ta = .pointer (some ⟨Ta, 0, none⟩) := by obtain ⟨T, _, _, _, _, _, _, h, _⟩ := QA.out; exact ⟨T, h⟩
  obtain ⟨Tb, htb⟩ : ∃ Tb, tb = .pointer (some ⟨Tb, 0, none⟩) := by obtain ⟨T, _, _, _, _, _, _, h, _⟩ := QB.out; exact ⟨T, h⟩
  obtain ⟨Tj, htj⟩ : ∃ Tj, tj = .pointer (some ⟨Tj, 0, none⟩) := by obtain ⟨T, _, _, _, _, _, _, h, _⟩ := QJ.out; exact ⟨T, h⟩
  subst hta htb htj
  have C15a : Hid (∀ W, Lat w18 W → Calls Try.prog 15 #[.pointer (some ⟨Ta, 0, none⟩), .slice a' ra.length ca', .slice c' xs.length cc'] W fun e w' => e = .returned (.bool true) ∧ Lat W w') := fun W hW => tableHolds_any _ a' c' ra xs ca' cc' W (QA.out.later hW) (RA8.out.later hW) (RX8.out.later hW) (by omega) (by omega) (okk_ok OA.out) OX.out
  have C15b : Hid (∀ W, Lat w18 W → Calls Try.prog 15 #[.pointer (some ⟨Tb, 0, none⟩), .slice b' rb.length cb', .slice d' ys.length cd'] W fun e w' => e = .returned (.bool true) ∧ Lat W w') := fun W hW => tableHolds_any _ b' d' rb ys cb' cd' W (QB.out.later hW) (RB8.out.later hW) (RY8.out.later hW) (by omega) (by omega) (okk_ok OB.out) OY.out
  have C16a : Hid (∀ W, Lat w18 W → Calls Try.prog 16 #[.pointer (some ⟨Ta, 0, none⟩)] W fun e w' => e = .returned (.int .i64 (lg ra)) ∧ w' = W) := fun W hW => longest_any _ ra xs W (QA.out.later hW)
  have C16b : Hid (∀ W, Lat w18 W → Calls Try.prog 16 #[.pointer (some ⟨Tb, 0, none⟩)] W fun e w' => e = .returned (.int .i64 (lg rb)) ∧ w' = W) := fun W hW => longest_any _ rb ys W (QB.out.later hW)
  have C16j : Hid (∀ W, Lat w18 W → Calls Try.prog 16 #[.pointer (some ⟨Tj, 0, none⟩)] W fun e w' => e = .returned (.int .i64 (lg rj)) ∧ w' = W) := fun W hW => longest_any _ rj sj W (QJ.out.later hW)
  have C17 : Hid (∀ W, Calls Try.prog 17 #[.int .i64 (lg ra), .int .i64 (lg rb)] W fun e w' => e = .returned (.int .i64 (lg rj)) ∧ w' = W) := by
    intro W
    have h := max_any (lg ra) (lg rb) W
    have e : max ((lg ra : Nat) : Int) ((lg rb : Nat) : Int) = ((lg rj : Nat) : Int) := by rw [EJ.out, lg_append]; omega
    rwa [e] at h
  have nl : ((lg rj : Int) != (lg rj : Int)) = false := by simp
  have C18a : Hid (∀ W p, Lat w18 W → Calls Try.prog 18 #[.slice a' ra.length ca', .string p] W fun e w' => e = .returned (.int .i64 (lastK (keys ra) (bs p))) ∧ w' = W) := fun W p hW => lastWith_any a' ra ca' p W (RA8.out.later hW) (by omega)
  have C18b : Hid (∀ W p, Lat w18 W → Calls Try.prog 18 #[.slice b' rb.length cb', .string p] W fun e w' => e = .returned (.int .i64 (lastK (keys rb) (bs p))) ∧ w' = W) := fun W p hW => lastWith_any b' rb cb' p W (RB8.out.later hW) (by omega)
  have C19a : Hid (∀ W, Lat w18 W → Calls Try.prog 19 #[.pointer (some ⟨Ta, 0, none⟩)] W fun e w' => e = .returned (.int .i64 (nd (keys ra))) ∧ w' = W) := fun W hW => routeCount_any _ ra xs W (QA.out.later hW)
  have C19b : Hid (∀ W, Lat w18 W → Calls Try.prog 19 #[.pointer (some ⟨Tb, 0, none⟩)] W fun e w' => e = .returned (.int .i64 (nd (keys rb))) ∧ w' = W) := fun W hW => routeCount_any _ rb ys W (QB.out.later hW)
  have C19j : Hid (∀ W, Lat w18 W → Calls Try.prog 19 #[.pointer (some ⟨Tj, 0, none⟩)] W fun e w' => e = .returned (.int .i64 (nd (keys rj))) ∧ w' = W) := fun W hW => routeCount_any _ rj sj W (QJ.out.later hW)
  have F19 : Hid (nd (keys rj) + cnt (isCom (keys ra) (keys rb)) ra.length = nd (keys ra) + nd (keys rb)) := by
    have h := com_eq (keys rb) (keys ra)
    rw [keys_length, ← keys_append, ← EJ.out] at h
    exact h
  have C22x : Hid (∀ W p, Lat w18 W → Calls Try.prog 22 #[.slice c' xs.length cc', .string p] W fun e w' => e = .returned (.int .i64 (lastK (xs.map bs) (bs p))) ∧ w' = W) := fun W p hW => lastString_any c' xs cc' p W (RX8.out.later hW) (by omega)
  have C22y : Hid (∀ W p, Lat w18 W → Calls Try.prog 22 #[.slice d' ys.length cd', .string p] W fun e w' => e = .returned (.int .i64 (lastK (ys.map bs) (bs p))) ∧ w' = W) := fun W p hW => lastString_any d' ys cd' p W (RY8.out.later hW) (by omega)
  have C23a : Hid (∀ W, Lat w18 W → Calls Try.prog 23 #[.pointer (some ⟨Ta, 0, none⟩)] W fun e w' => e = .returned (.int .i64 (nd (xs.map bs))) ∧ w' = W) := fun W hW => blackCount_any _ ra xs W (QA.out.later hW)
  have C23b : Hid (∀ W, Lat w18 W → Calls Try.prog 23 #[.pointer (some ⟨Tb, 0, none⟩)] W fun e w' => e = .returned (.int .i64 (nd (ys.map bs))) ∧ w' = W) := fun W hW => blackCount_any _ rb ys W (QB.out.later hW)
  have C23j : Hid (∀ W, Lat w18 W → Calls Try.prog 23 #[.pointer (some ⟨Tj, 0, none⟩)] W fun e w' => e = .returned (.int .i64 (nd (sj.map bs))) ∧ w' = W) := fun W hW => blackCount_any _ rj sj W (QJ.out.later hW)
  have F23 : Hid (nd (sj.map bs) + cnt (isCom (xs.map bs) (ys.map bs)) xs.length = nd (xs.map bs) + nd (ys.map bs)) := by
    have h := com_eq (ys.map bs) (xs.map bs)
    rw [List.length_map, ← List.map_append, ← ES.out] at h
    exact h
  have B1 : nd (keys ra) ≤ 4096 := by have := nd_le (keys ra); rw [keys_length] at this; omega
  have B2 : nd (keys rb) ≤ 4096 := by have := nd_le (keys rb); rw [keys_length] at this; omega
  have B3 : nd (xs.map bs) ≤ 4096 := by have := nd_le (xs.map bs); rw [List.length_map] at this; omega
  have B4 : nd (ys.map bs) ≤ 4096 := by have := nd_le (ys.map bs); rw [List.length_map] at this; omega
  generalize nd (keys rj) = Nj at *
  generalize nd (keys ra) = Na at *
  generalize nd (keys rb) = Nb at *
  generalize nd (sj.map bs) = Mj at *
  generalize nd (xs.map bs) = Ma at *
  generalize nd (ys.map bs) = Mb at *
  generalize lg rj = Lj at *
  generalize lg ra = La at *
  generalize lg rb = Lb at *
  have C20a : Hid (∀ W (s : ByteArray) r, Lat w18 W → s.size ≤ 1048576 → getL ra (bs s) = some r → Calls Try.prog 20 #[.pointer (some ⟨Ta, 0, none⟩), .string s] W fun e w' => ∃ v, e = .returned (.tuple #[v, .bool true]) ∧ RtV (fun _ => True) w' v r ∧ Lat W w') := fun W s r hW hs hr => route_in _ ra xs s r W (QA.out.later hW) (by unfold maxLen; omega) hr
  have C20b : Hid (∀ W (s : ByteArray) r, Lat w18 W → s.size ≤ 1048576 → getL rb (bs s) = some r → Calls Try.prog 20 #[.pointer (some ⟨Tb, 0, none⟩), .string s] W fun e w' => ∃ v, e = .returned (.tuple #[v, .bool true]) ∧ RtV (fun _ => True) w' v r ∧ Lat W w') := fun W s r hW hs hr => route_in _ rb ys s r W (QB.out.later hW) (by unfold maxLen; omega) hr
  have C20j : Hid (∀ W (s : ByteArray) r, Lat w18 W → s.size ≤ 1048576 → getL rj (bs s) = some r → Calls Try.prog 20 #[.pointer (some ⟨Tj, 0, none⟩), .string s] W fun e w' => ∃ v, e = .returned (.tuple #[v, .bool true]) ∧ RtV (fun _ => True) w' v r ∧ Lat W w') := fun W s r hW hs hr => route_in _ rj sj s r W (QJ.out.later hW) (by unfold maxLen; omega) hr
  have C20n : Hid (∀ W (s : ByteArray), Lat w18 W → s.size ≤ 1048576 → bs s ∉ keys rb → Calls Try.prog 20 #[.pointer (some ⟨Tb, 0, none⟩), .string s] W fun e w' => e = .returned (.tuple #[.agg zc, .bool false]) ∧ Lat W w') := fun W s hW hs hr => route_out _ rb ys s W (QB.out.later hW) (by unfold maxLen; omega) hr
  have C24 : Hid (∀ W (s : ByteArray), Lat w18 W → s.size ≤ 1048576 → bs s ∈ sj.map bs → Calls Try.prog 24 #[.pointer (some ⟨Tj, 0, none⟩), .string s] W fun e w' => e = .returned (.tuple #[.bool true, .bool true]) ∧ w' = W) := fun W s hW hs hr => black_in _ rj sj s W (QJ.out.later hW) (by unfold maxLen; omega) hr
  clear QA QB QJ
  clear g0 g1 g2 g3 d0 d1 d2 d3 d4 g4 m40 m41
  go_wp2_with fail
  refine (C15a.out _ (Lat.refl w18)).mono ?_
  rintro e w19 ⟨rfl, k19⟩
  go_wp2_with fail
  refine (C15b.out _ k19).mono ?_
  rintro e w20 ⟨rfl, k20'⟩
  have k20 := k19.trans k20'
  clear k19 k20' C15a C15b
  go_wp2_with fail
  refine (C16j.out _ k20).mono ?_
  rintro e w' ⟨rfl, hw⟩
  obtain rfl := hw.symm
  go_wp2_with fail
  refine (C16a.out _ k20).mono ?_
  rintro e w' ⟨rfl, hw⟩
  obtain rfl := hw.symm
  go_wp2_with fail
  refine (C16b.out _ k20).mono ?_
  rintro e w' ⟨rfl, hw⟩
  obtain rfl := hw.symm
  go_wp2_with fail
  refine (C17.out _).mono ?_
  rintro e w' ⟨rfl, hw⟩
  obtain rfl := hw.symm
  go_wp2_with fail
  clear C16j C16a C16b C17 nl hw
  -- loop 1
  go_loop [13, 14] (fun t i => ∃ (k : Nat), k ≤ ra.length ∧ i = .int .i64 k ∧ t = .int .i64 (cnt (isCom (keys ra) (keys rb)) k)) (fun _ i => ra.length - (intOf i).toNat)
  case atStart => exact ⟨0, Nat.zero_le _, rfl, rfl⟩
  case round =>
    obtain ⟨k, hk, rfl, rfl⟩ := hrel
    have hcl := cnt_le (isCom (keys ra) (keys rb)) k
    have HC : Hid (cnt (isCom (keys ra) (keys rb)) (k + 1) = cnt (isCom (keys ra) (keys rb)) k + if isCom (keys ra) (keys rb) k then 1 else 0) := rfl
    by_cases hlt : k < ra.length
    · obtain ⟨r, hr⟩ : ∃ r, ra[k]? = some r := ⟨_, List.getElem?_eq_getElem hlt⟩
      have HI : Hid (isCom (keys ra) (keys rb) k = (decide (lastK (keys ra) (bs r.pre) = (k : Int)) && decide (0 ≤ lastK (keys rb) (bs r.pre)))) := by
        show _ = _
        unfold isCom isLast; rw [keys_getD hr]
      obtain ⟨bk, off, rfl, hc⟩ := RA8.out k r hr
      obtain ⟨_, _, _, d0, hc'⟩ := hc
      have c0 := k20.cell d0
      clear hr hc' d0 F19 F23
      go_wp2_with fail
      refine (C18a.out _ r.pre k20).mono ?_
      rintro e w' ⟨rfl, hw⟩
      obtain rfl := hw.symm
      clear hw
      by_cases he : lastK (keys ra) (bs r.pre) = (k : Int)
      · have he' : (lastK (keys ra) (bs r.pre) == (k : Int)) = true := by simp [he]
        have HX : Hid (lastK (keys ra) (bs r.pre) = (k : Int)) := he
        clear he
        go_wp2_with fail
        refine (C18b.out _ r.pre k20).mono ?_
        rintro e w' ⟨rfl, hw⟩
        obtain rfl := hw.symm
        clear hw
        by_cases hf : 0 ≤ lastK (keys rb) (bs r.pre)
        · have hf' : decide (0 ≤ lastK (keys rb) (bs r.pre)) = true := decide_eq_true hf
          generalize cnt (isCom (keys ra) (keys rb)) k = c at *
          go_wp2_with fail
          go_round
          case rel => exact ⟨k + 1, by omega, by go_num, by rw [HC.out, HI.out, decide_eq_true HX.out, hf']; go_num⟩
          case measure => simp [intOf]; omega
        · have hf' : decide (0 ≤ lastK (keys rb) (bs r.pre)) = false := decide_eq_false hf
          generalize cnt (isCom (keys ra) (keys rb)) k = c at *
          go_wp2_with fail
          go_round
          case rel => exact ⟨k + 1, by omega, by go_num, by rw [HC.out, HI.out, decide_eq_true HX.out, hf']; go_num⟩
          case measure => simp [intOf]; omega
      · have he' : (lastK (keys ra) (bs r.pre) == (k : Int)) = false := by simp [he]
        have HX : Hid (¬ lastK (keys ra) (bs r.pre) = (k : Int)) := he
        clear he
        generalize cnt (isCom (keys ra) (keys rb)) k = c at *
        go_wp2_with fail
        go_round
        case rel => exact ⟨k + 1, by omega, by go_num, by rw [HC.out, HI.out, decide_eq_false HX.out]; go_num⟩
        case measure => simp [intOf]; omega
    obtain rfl : k = ra.length := by omega
    have F := F19.out
    clear HC F19
    generalize cnt (isCom (keys ra) (keys rb)) ra.length = Nc at *
    have dn : ((Nj : Int) != (Na : Int) + (Nb : Int) - (Nc : Int)) = false := by simp; omega
    clear F
    go_wp2_with fail
    refine (C19j.out _ k20).mono ?_
    rintro e w' ⟨rfl, hw⟩
    obtain rfl := hw.symm
    go_wp2_with fail
    refine (C19a.out _ k20).mono ?_
    rintro e w' ⟨rfl, hw⟩
    obtain rfl := hw.symm
    go_wp2_with fail
    refine (C19b.out _ k20).mono ?_
    rintro e w' ⟨rfl, hw⟩
    obtain rfl := hw.symm
    go_wp2_with fail
    clear C19j C19a C19b C18a C18b dn hw hcl hk hlt B1 B2
    -- loop 2
    go_loopw [15] (fun i wr => ∃ k : Nat, k ≤ ra.length ∧ i = .int .i64 k ∧ Lat w18 wr) (fun i _ => ra.length - (intOf i).toNat)
    case atStart => exact ⟨0, Nat.zero_le _, rfl, k20⟩
    case round =>
      obtain ⟨k, hk, rfl, hL⟩ := hrel
      by_cases hlt : k < ra.length
      · obtain ⟨r, hr⟩ : ∃ r, ra[k]? = some r := ⟨_, List.getElem?_eq_getElem hlt⟩
        have hm : bs r.pre ∈ keys ra := List.mem_of_getElem? (key_at hr)
        have hsz := (OA.out r (List.mem_of_getElem? hr)).1.1
        obtain ⟨bk, off, rfl, hc⟩ := RA8.out k r hr
        obtain ⟨_, _, _, d0, hc'⟩ := hc
        have c0 := hL.cell d0
        rcases join_get EJ.out hm with ⟨x, hx1, hx2⟩ | ⟨hn, x, hx1, hx2⟩
        · obtain ⟨l, y, _, _, _, hy⟩ := last_of hr
          have okx : Hid (Ok x) := (OB.out x (getL_mem hx1)).1
          have LJ : Hid (∀ W, Lat w18 W → Calls Try.prog 20 #[.pointer (some ⟨Tj, 0, none⟩), .string r.pre] W fun e w' => ∃ v, e = .returned (.tuple #[v, .bool true]) ∧ RtV (fun _ => True) w' v x ∧ Lat W w') := fun W hW => C20j.out W r.pre x hW hsz hx2
          have LB : Hid (∀ W, Lat w18 W → Calls Try.prog 20 #[.pointer (some ⟨Tb, 0, none⟩), .string r.pre] W fun e w' => ∃ v, e = .returned (.tuple #[v, .bool true]) ∧ RtV (fun _ => True) w' v x ∧ Lat W w') := fun W hW => C20b.out W r.pre x hW hsz hx1
          have LA : Hid (∀ W, Lat w18 W → Calls Try.prog 20 #[.pointer (some ⟨Ta, 0, none⟩), .string r.pre] W fun e w' => ∃ v, e = .returned (.tuple #[v, .bool true]) ∧ RtV (fun _ => True) w' v y ∧ Lat W w') := fun W hW => C20a.out W r.pre y hW hsz hy
          clear hr hc' hm hx1 hx2 hy hsz F23
          go_wp2_with fail
          refine (LJ.out _ hL).mono ?_
          rintro e u1 ⟨v1, rfl, ⟨i1, l1, j1, rfl, hi1⟩, hu1⟩
          have hU1 := hL.trans hu1
          have c1 := hU1.cell d0
          have t1 : bk < u1.heap.size := World.block_lt_of_cell? _ _ c1
          obtain ⟨W1, hW1, hA1, hB1⟩ := b8_alloc u1 x i1 l1 j1
          have hV1 := hU1.trans hA1
          go_wp2_with fail
          rw [← hW1]
          clear hW1
          refine (LB.out _ hV1).mono ?_
          rintro e u2 ⟨v2, rfl, ⟨i2, l2, j2, rfl, hi2⟩, hu2⟩
          have hU2 := hV1.trans hu2
          have c2 := hU2.cell d0
          have t2 : bk < u2.heap.size := World.block_lt_of_cell? _ _ c2
          obtain ⟨W2, hW2, hA2, hB2⟩ := b8_alloc u2 x i2 l2 j2
          have hV2 := hU2.trans hA2
          go_wp2_with fail
          rw [← hW2]
          clear hW2
          refine (LA.out _ hV2).mono ?_
          rintro e u3 ⟨v3, rfl, ⟨i3, l3, j3, rfl, hi3⟩, hu3⟩
          have hU3 := hV2.trans hu3
          have c3 := hU3.cell d0
          have t3 : bk < u3.heap.size := World.block_lt_of_cell? _ _ c3
          obtain ⟨W3, hW3, hA3, hB3⟩ := b8_alloc u3 y i3 l3 j3
          have hV3 := hU3.trans hA3
          obtain ⟨q0, q1, q2, q3, q4, q5, q6, q7⟩ := hB1.later (((hu2.trans hA2).trans hu3))
          obtain ⟨y0, y1, y2, y3, y4, y5, y6, y7⟩ := hB2.later hu3
          have s1 : u1.heap.size < u3.heap.size := World.block_lt_of_cell? _ _ q0
          have s2 : u2.heap.size < u3.heap.size := World.block_lt_of_cell? _ _ y0
          have SC : Hid (∀ W, Lat W3 W → Calls Try.prog 21 #[.agg #[.string x.pre, .string x.kind, .string x.dst, .int .i64 x.mn, .int .i64 x.mx, .int .i64 x.st, .string x.prep, .slice i1 l1 j1], .agg #[.string x.pre, .string x.kind, .string x.dst, .int .i64 x.mn, .int .i64 x.mx, .int .i64 x.st, .string x.prep, .slice i2 l2 j2]] W fun e w' => e = .returned (.bool true) ∧ Lat W w') :=
            fun W hW => sameCfg_any (S := fun _ => True) (S' := fun _ => True) _ _ x W ⟨i1, l1, j1, rfl, hi1.later ((((hA1.trans hu2).trans hA2).trans (hu3.trans hA3)).trans hW)⟩ ⟨i2, l2, j2, rfl, hi2.later ((hA2.trans (hu3.trans hA3)).trans hW)⟩ okx.out
          clear hB1 hB2 hB3 hi1 hi2 hi3 c1 c2 t1 t2 c0 hU1 hU2 hU3 hV1 hV2 hA1 hA2 hu1 hu2 hu3
          go_wp2_with fail
          rw [← hW3]
          clear hW3
          refine (SC.out _ (Lat.refl _)).mono ?_
          rintro e u4 ⟨rfl, hu4⟩
          have hU4 := hV3.trans hu4
          go_wp2_with fail
          go_roundw
          case rel => exact ⟨k + 1, by omega, by go_num, hU4⟩
          case measure => simp [intOf]; omega
        · have okx : Hid (Ok x) := (OA.out x (getL_mem hx1)).1
          have LJ : Hid (∀ W, Lat w18 W → Calls Try.prog 20 #[.pointer (some ⟨Tj, 0, none⟩), .string r.pre] W fun e w' => ∃ v, e = .returned (.tuple #[v, .bool true]) ∧ RtV (fun _ => True) w' v x ∧ Lat W w') := fun W hW => C20j.out W r.pre x hW hsz hx2
          have LB : Hid (∀ W, Lat w18 W → Calls Try.prog 20 #[.pointer (some ⟨Tb, 0, none⟩), .string r.pre] W fun e w' => e = .returned (.tuple #[.agg zc, .bool false]) ∧ Lat W w') := fun W hW => C20n.out W r.pre hW hsz hn
          have LA : Hid (∀ W, Lat w18 W → Calls Try.prog 20 #[.pointer (some ⟨Ta, 0, none⟩), .string r.pre] W fun e w' => ∃ v, e = .returned (.tuple #[v, .bool true]) ∧ RtV (fun _ => True) w' v x ∧ Lat W w') := fun W hW => C20a.out W r.pre x hW hsz hx1
          clear hr hc' hm hx1 hx2 hn hsz F23
          go_wp2_with fail
          refine (LJ.out _ hL).mono ?_
          rintro e u1 ⟨v1, rfl, ⟨i1, l1, j1, rfl, hi1⟩, hu1⟩
          have hU1 := hL.trans hu1
          have c1 := hU1.cell d0
          have t1 : bk < u1.heap.size := World.block_lt_of_cell? _ _ c1
          obtain ⟨W1, hW1, hA1, hB1⟩ := b8_alloc u1 x i1 l1 j1
          have hV1 := hU1.trans hA1
          go_wp2_with fail
          rw [← hW1]
          clear hW1
          refine (LB.out _ hV1).mono ?_
          rintro e u2 ⟨rfl, hu2⟩
          unfold zc
          have hU2 := hV1.trans hu2
          have c2 := hU2.cell d0
          have t2 : bk < u2.heap.size := World.block_lt_of_cell? _ _ c2
          obtain ⟨W2, hW2, hA2⟩ : ∃ Wa, Wa = u2.alloc (.cells #[.string ⟨#[]⟩, .string ⟨#[]⟩, .string ⟨#[]⟩, .int .i64 0, .int .i64 0, .int .i64 0, .string ⟨#[]⟩, .slice none 0 0] 45) ∧ Lat u2 Wa := ⟨_, rfl, (Lat.refl _).alloc _⟩
          have hV2 := hU2.trans hA2
          go_wp2_with fail
          rw [← hW2]
          clear hW2
          refine (LA.out _ hV2).mono ?_
          rintro e u3 ⟨v3, rfl, ⟨i3, l3, j3, rfl, hi3⟩, hu3⟩
          have hU3 := hV2.trans hu3
          have c3 := hU3.cell d0
          have t3 : bk < u3.heap.size := World.block_lt_of_cell? _ _ c3
          obtain ⟨W3, hW3, hA3, hB3⟩ := b8_alloc u3 x i3 l3 j3
          have hV3 := hU3.trans hA3
          obtain ⟨q0, q1, q2, q3, q4, q5, q6, q7⟩ := hB1.later (((hu2.trans hA2).trans hu3))
          have s1 : u1.heap.size < u3.heap.size := World.block_lt_of_cell? _ _ q0
          have SC : Hid (∀ W, Lat W3 W → Calls Try.prog 21 #[.agg #[.string x.pre, .string x.kind, .string x.dst, .int .i64 x.mn, .int .i64 x.mx, .int .i64 x.st, .string x.prep, .slice i1 l1 j1], .agg #[.string x.pre, .string x.kind, .string x.dst, .int .i64 x.mn, .int .i64 x.mx, .int .i64 x.st, .string x.prep, .slice i3 l3 j3]] W fun e w' => e = .returned (.bool true) ∧ Lat W w') :=
            fun W hW => sameCfg_any (S := fun _ => True) (S' := fun _ => True) _ _ x W ⟨i1, l1, j1, rfl, hi1.later ((((hA1.trans hu2).trans hA2).trans (hu3.trans hA3)).trans hW)⟩ ⟨i3, l3, j3, rfl, hi3.later (hA3.trans hW)⟩ okx.out
          clear hB1 hB3 hi1 hi3 c1 c2 t1 t2 c0 hU1 hU2 hU3 hV1 hV2 hA1 hA2 hu1 hu2 hu3
          go_wp2_with fail
          rw [← hW3]
          clear hW3
          refine (SC.out _ (Lat.refl _)).mono ?_
          rintro e u4 ⟨rfl, hu4⟩
          have hU4 := hV3.trans hu4
          go_wp2_with fail
          go_roundw
          case rel => exact ⟨k + 1, by omega, by go_num, hU4⟩
          case measure => simp [intOf]; omega
      obtain rfl : k = ra.length := by omega
      clear C20a C20n hk hlt
      go_wp2_with fail
      -- loop 3
      go_loopw [22] (fun i wr => ∃ k : Nat, k ≤ rb.length ∧ i = .int .i64 k ∧ Lat w18 wr) (fun i _ => rb.length - (intOf i).toNat)
      case atStart => exact ⟨0, Nat.zero_le _, rfl, hL⟩
      case round =>
        clear hL
        obtain ⟨k, hk, rfl, hL⟩ := hrel
        by_cases hlt : k < rb.length
        · obtain ⟨r, hr⟩ : ∃ r, rb[k]? = some r := ⟨_, List.getElem?_eq_getElem hlt⟩
          have hm : bs r.pre ∈ keys rb := List.mem_of_getElem? (key_at hr)
          have hsz := (OB.out r (List.mem_of_getElem? hr)).1.1
          obtain ⟨bk, off, rfl, hc⟩ := RB8.out k r hr
          obtain ⟨_, _, _, d0, hc'⟩ := hc
          have c0 := hL.cell d0
          obtain ⟨x, hx1, hx2⟩ := join_get_right EJ.out hm
          have okx : Hid (Ok x) := (OB.out x (getL_mem hx1)).1
          have LJ : Hid (∀ W, Lat w18 W → Calls Try.prog 20 #[.pointer (some ⟨Tj, 0, none⟩), .string r.pre] W fun e w' => ∃ v, e = .returned (.tuple #[v, .bool true]) ∧ RtV (fun _ => True) w' v x ∧ Lat W w') := fun W hW => C20j.out W r.pre x hW hsz hx2
          have LB : Hid (∀ W, Lat w18 W → Calls Try.prog 20 #[.pointer (some ⟨Tb, 0, none⟩), .string r.pre] W fun e w' => ∃ v, e = .returned (.tuple #[v, .bool true]) ∧ RtV (fun _ => True) w' v x ∧ Lat W w') := fun W hW => C20b.out W r.pre x hW hsz hx1
          clear hr hc' hm hx1 hx2 hsz F23
          go_wp2_with fail
          refine (LJ.out _ hL).mono ?_
          rintro e u1 ⟨v1, rfl, ⟨i1, l1, j1, rfl, hi1⟩, hu1⟩
          have hU1 := hL.trans hu1
          have c1 := hU1.cell d0
          have t1 : bk < u1.heap.size := World.block_lt_of_cell? _ _ c1
          obtain ⟨W1, hW1, hA1, hB1⟩ := b8_alloc u1 x i1 l1 j1
          have hV1 := hU1.trans hA1
          go_wp2_with fail
          rw [← hW1]
          clear hW1
          refine (LB.out _ hV1).mono ?_
          rintro e u2 ⟨v2, rfl, ⟨i2, l2, j2, rfl, hi2⟩, hu2⟩
          have hU2 := hV1.trans hu2
          have c2 := hU2.cell d0
          have t2 : bk < u2.heap.size := World.block_lt_of_cell? _ _ c2
          obtain ⟨W2, hW2, hA2, hB2⟩ := b8_alloc u2 x i2 l2 j2
          have hV2 := hU2.trans hA2
          obtain ⟨q0, q1, q2, q3, q4, q5, q6, q7⟩ := hB1.later hu2
          have s1 : u1.heap.size < u2.heap.size := World.block_lt_of_cell? _ _ q0
          have SC : Hid (∀ W, Lat W2 W → Calls Try.prog 21 #[.agg #[.string x.pre, .string x.kind, .string x.dst, .int .i64 x.mn, .int .i64 x.mx, .int .i64 x.st, .string x.prep, .slice i1 l1 j1], .agg #[.string x.pre, .string x.kind, .string x.dst, .int .i64 x.mn, .int .i64 x.mx, .int .i64 x.st, .string x.prep, .slice i2 l2 j2]] W fun e w' => e = .returned (.bool true) ∧ Lat W w') :=
            fun W hW => sameCfg_any (S := fun _ => True) (S' := fun _ => True) _ _ x W ⟨i1, l1, j1, rfl, hi1.later (((hA1.trans hu2).trans hA2).trans hW)⟩ ⟨i2, l2, j2, rfl, hi2.later (hA2.trans hW)⟩ okx.out
          clear hB1 hB2 hi1 hi2 c1 t1 c0 hU1 hU2 hV1 hA1 hu1 hu2
          go_wp2_with fail
          rw [← hW2]
          clear hW2
          refine (SC.out _ (Lat.refl _)).mono ?_
          rintro e u4 ⟨rfl, hu4⟩
          have hU4 := hV2.trans hu4
          go_wp2_with fail
          go_roundw
          case rel => exact ⟨k + 1, by omega, by go_num, hU4⟩
          case measure => simp [intOf]; omega
        obtain rfl : k = rb.length := by omega
        clear C20b C20j hk hlt
        go_wp2_with fail
        -- loop 4
        go_loop [27, 28] (fun t i => ∃ (k : Nat), k ≤ xs.length ∧ i = .int .i64 k ∧ t = .int .i64 (cnt (isCom (xs.map bs) (ys.map bs)) k)) (fun _ i => xs.length - (intOf i).toNat)
        case atStart => exact ⟨0, Nat.zero_le _, rfl, rfl⟩
        case round =>
          obtain ⟨k, hk, rfl, rfl⟩ := hrel
          have hcl := cnt_le (isCom (xs.map bs) (ys.map bs)) k
          have HC : Hid (cnt (isCom (xs.map bs) (ys.map bs)) (k + 1) = cnt (isCom (xs.map bs) (ys.map bs)) k + if isCom (xs.map bs) (ys.map bs) k then 1 else 0) := rfl
          by_cases hlt : k < xs.length
          · obtain ⟨r, hr⟩ : ∃ r, xs[k]? = some r := ⟨_, List.getElem?_eq_getElem hlt⟩
            have HI : Hid (isCom (xs.map bs) (ys.map bs) k = (decide (lastK (xs.map bs) (bs r) = (k : Int)) && decide (0 ≤ lastK (ys.map bs) (bs r)))) := by
              show _ = _
              unfold isCom isLast; rw [ss_getD hr]
            obtain ⟨bk, off, rfl, d0⟩ := RX8.out k r hr
            have c0 := hL.cell d0
            clear hr d0 F23
            go_wp2_with fail
            refine (C22x.out _ r hL).mono ?_
            rintro e w' ⟨rfl, hw⟩
            obtain rfl := hw.symm
            clear hw
            by_cases he : lastK (xs.map bs) (bs r) = (k : Int)
            · have he' : (lastK (xs.map bs) (bs r) == (k : Int)) = true := by simp [he]
              have HX : Hid (lastK (xs.map bs) (bs r) = (k : Int)) := he
              clear he
              go_wp2_with fail
              refine (C22y.out _ r hL).mono ?_
              rintro e w' ⟨rfl, hw⟩
              obtain rfl := hw.symm
              clear hw
              by_cases hf : 0 ≤ lastK (ys.map bs) (bs r)
              · have hf' : decide (0 ≤ lastK (ys.map bs) (bs r)) = true := decide_eq_true hf
                generalize cnt (isCom (xs.map bs) (ys.map bs)) k = c at *
                go_wp2_with fail
                go_round
                case rel => exact ⟨k + 1, by omega, by go_num, by rw [HC.out, HI.out, decide_eq_true HX.out, hf']; go_num⟩
                case measure => simp [intOf]; omega
              · have hf' : decide (0 ≤ lastK (ys.map bs) (bs r)) = false := decide_eq_false hf
                generalize cnt (isCom (xs.map bs) (ys.map bs)) k = c at *
                go_wp2_with fail
                go_round
                case rel => exact ⟨k + 1, by omega, by go_num, by rw [HC.out, HI.out, decide_eq_true HX.out, hf']; go_num⟩
                case measure => simp [intOf]; omega
            · have he' : (lastK (xs.map bs) (bs r) == (k : Int)) = false := by simp [he]
              have HX : Hid (¬ lastK (xs.map bs) (bs r) = (k : Int)) := he
              clear he
              generalize cnt (isCom (xs.map bs) (ys.map bs)) k = c at *
              go_wp2_with fail
              go_round
              case rel => exact ⟨k + 1, by omega, by go_num, by rw [HC.out, HI.out, decide_eq_false HX.out]; go_num⟩
              case measure => simp [intOf]; omega
          obtain rfl : k = xs.length := by omega
          have F := F23.out
          clear HC F23
          generalize cnt (isCom (xs.map bs) (ys.map bs)) xs.length = Mc at *
          have dn : ((Mj : Int) != (Ma : Int) + (Mb : Int) - (Mc : Int)) = false := by simp; omega
          clear F
          go_wp2_with fail
          refine (C23j.out _ hL).mono ?_
          rintro e w' ⟨rfl, hw⟩
          obtain rfl := hw.symm
          go_wp2_with fail
          refine (C23a.out _ hL).mono ?_
          rintro e w' ⟨rfl, hw⟩
          obtain rfl := hw.symm
          go_wp2_with fail
          refine (C23b.out _ hL).mono ?_
          rintro e w' ⟨rfl, hw⟩
          obtain rfl := hw.symm
          go_wp2_with fail
          clear C23j C23a C23b C22x C22y dn hw hcl hk hlt B3 B4
          -- loop 5
          go_loop [29] (fun i => ∃ k : Nat, k ≤ xs.length ∧ i = .int .i64 k) (fun i => xs.length - (intOf i).toNat)
          case atStart => exact ⟨0, Nat.zero_le _, rfl⟩
          case round =>
            obtain ⟨k, hk, rfl⟩ := hrel
            by_cases hlt : k < xs.length
            · obtain ⟨s, hs⟩ : ∃ s, xs[k]? = some s := ⟨_, List.getElem?_eq_getElem hlt⟩
              have hm : bs s ∈ sj.map bs := by rw [ES.out, List.map_append]; exact List.mem_append_left _ (List.mem_of_getElem? (ss_at hs))
              obtain ⟨b1, o1, rfl, hc⟩ := RX8.out k s hs
              have c0 := hL.cell hc
              have HC := C24.out wr s hL (OX.out s (List.mem_of_getElem? hs)) hm
              clear hm hs hc
              go_wp2_with fail
              refine HC.mono ?_
              rintro e w' ⟨rfl, hw⟩
              obtain rfl := hw.symm
              clear HC
              go_wp2_with fail
              go_round
              case rel => exact ⟨k + 1, by omega, by go_num⟩
              case measure => simp [intOf]; omega
            obtain rfl : k = xs.length := by omega
            clear hk hlt
            go_wp2_with fail
            -- loop 6
            go_loop [32] (fun i => ∃ k : Nat, k ≤ ys.length ∧ i = .int .i64 k) (fun i => ys.length - (intOf i).toNat)
            case atStart => exact ⟨0, Nat.zero_le _, rfl⟩
            case round =>
              obtain ⟨k, hk, rfl⟩ := hrel
              by_cases hlt : k < ys.length
              · obtain ⟨s, hs⟩ : ∃ s, ys[k]? = some s := ⟨_, List.getElem?_eq_getElem hlt⟩
                have hm : bs s ∈ sj.map bs := by rw [ES.out, List.map_append]; exact List.mem_append_right _ (List.mem_of_getElem? (ss_at hs))
                obtain ⟨b1, o1, rfl, hc⟩ := RY8.out k s hs
                have c0 := hL.cell hc
                have HC := C24.out wr s hL (OY.out s (List.mem_of_getElem? hs)) hm
                clear hm hs hc
                go_wp2_with fail
                refine HC.mono ?_
                rintro e w' ⟨rfl, hw⟩
                obtain rfl := hw.symm
                clear HC
                go_wp2_with fail
                go_round
                case rel => exact ⟨k + 1, by omega, by go_num⟩
                case measure => simp [intOf]; omega
              go_wp2_with fail
              go_ret
              exact ⟨rfl, K18.out.trans hL⟩
end Go.Proofs.Qxb6630238a
