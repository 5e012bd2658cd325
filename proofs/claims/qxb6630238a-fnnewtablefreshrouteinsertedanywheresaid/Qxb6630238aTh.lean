/- The walk of tableHolds. -/
import Derived.Test.Qxb6630238aNt
namespace Go.Proofs.Qxb6630238a
open Go.RowKit Pl Go.Maps

/-- The route that stands last at the prefix of the k-th. -/
theorem last_of {rs : List Rt} {k : Nat} {r : Rt} (hr : rs[k]? = some r) : ∃ l x, l < rs.length ∧ lastK (keys rs) (bs r.pre) = (l : Int) ∧ rs[l]? = some x ∧ getL rs (bs r.pre) = some x := by
  have hm : bs r.pre ∈ keys rs := List.mem_of_getElem? (key_at hr)
  obtain ⟨l, hl⟩ := Int.eq_ofNat_of_zero_le (lastK_mem.2 hm)
  obtain ⟨x, h1, h2⟩ := getL_lastK hl
  exact ⟨l, x, (List.getElem?_eq_some_iff.1 h1).1, hl, h1, h2⟩

set_option maxHeartbeats 4000000 in
theorem tableHolds_any {S : Nat → Prop} (t : Value) (a b : Option Addr) (rs : List Rt) (ns : List ByteArray) (ca cb : Nat) (w : World) (hT : TabAt w t rs ns) (ha : RsAt S w a rs) (hbb : SsAt w b ns) (hla : rs.length ≤ 65536) (hlb : ns.length ≤ 65536) (hok : ∀ r ∈ rs, Ok r) (hnk : ∀ s ∈ ns, s.size ≤ 1048576) :
    Calls Try.prog 15 #[t, .slice a rs.length ca, .slice b ns.length cb] w fun e w' => e = .returned (.bool true) ∧ Lat w w' := by
  have C16 : Hid (∀ W, Lat w W → Calls Try.prog 16 #[t] W fun e w' => e = .returned (.int .i64 (lg rs)) ∧ w' = W) := fun W hW => longest_any t rs ns W (hT.later hW)
  have C32 : Hid (∀ W, Lat w W → Calls Try.prog 32 #[.slice a rs.length ca, .int .i64 (lg rs)] W fun e w' => e = .returned (.bool true) ∧ w' = W) := fun W hW => greatest_any a rs ca W (ha.later hW) hla hok
  have C19 : Hid (∀ W, Lat w W → Calls Try.prog 19 #[t] W fun e w' => e = .returned (.int .i64 (nd (keys rs))) ∧ w' = W) := fun W hW => routeCount_any t rs ns W (hT.later hW)
  have C33 : Hid (∀ W, Lat w W → Calls Try.prog 33 #[.slice a rs.length ca] W fun e w' => e = .returned (.int .i64 (nd (keys rs))) ∧ w' = W) := fun W hW => distinctRoutes_any a rs ca W (ha.later hW) hla
  have C23 : Hid (∀ W, Lat w W → Calls Try.prog 23 #[t] W fun e w' => e = .returned (.int .i64 (nd (ns.map bs))) ∧ w' = W) := fun W hW => blackCount_any t rs ns W (hT.later hW)
  have C34 : Hid (∀ W, Lat w W → Calls Try.prog 34 #[.slice b ns.length cb] W fun e w' => e = .returned (.int .i64 (nd (ns.map bs))) ∧ w' = W) := fun W hW => distinctStrings_any b ns cb W (hbb.later hW) hlb
  have C18 : Hid (∀ W p, Lat w W → Calls Try.prog 18 #[.slice a rs.length ca, .string p] W fun e w' => e = .returned (.int .i64 (lastK (keys rs) (bs p))) ∧ w' = W) := fun W p hW => lastWith_any a rs ca p W (ha.later hW) hla
  have C20 : Hid (∀ W (s : ByteArray) r, Lat w W → s.size ≤ 1048576 → getL rs (bs s) = some r → Calls Try.prog 20 #[t, .string s] W fun e w' => ∃ v, e = .returned (.tuple #[v, .bool true]) ∧ RtV (fun _ => True) w' v r ∧ Lat W w') := fun W s r hW hs hr => route_in t rs ns s r W (hT.later hW) (by unfold maxLen; omega) hr
  have C24 : Hid (∀ W (s : ByteArray), Lat w W → s.size ≤ 1048576 → bs s ∈ ns.map bs → Calls Try.prog 24 #[t, .string s] W fun e w' => e = .returned (.tuple #[.bool true, .bool true]) ∧ w' = W) := fun W s hW hs hr => black_in t rs ns s W (hT.later hW) (by unfold maxLen; omega) hr
  clear hT
  have n1 : ((nd (keys rs) : Int) != (nd (keys rs) : Int)) = false := by simp
  have n2 : ((nd (ns.map bs) : Int) != (nd (ns.map bs) : Int)) = false := by simp
  generalize nd (ns.map bs) = N2 at *
  go_enter Try.func15, Try.ntmps15
  go_wp2_with fail
  refine (C16.out _ (Lat.refl w)).mono ?_
  rintro e w' ⟨rfl, hw⟩
  obtain rfl := hw.symm
  go_wp2_with fail
  refine (C32.out _ (Lat.refl w)).mono ?_
  rintro e w' ⟨rfl, hw⟩
  obtain rfl := hw.symm
  go_wp2_with fail
  refine (C19.out _ (Lat.refl w)).mono ?_
  rintro e w' ⟨rfl, hw⟩
  obtain rfl := hw.symm
  go_wp2_with fail
  refine (C33.out _ (Lat.refl w)).mono ?_
  rintro e w' ⟨rfl, hw⟩
  obtain rfl := hw.symm
  go_wp2_with fail
  clear C16 C32 C19 C33
  go_loopw [7] (fun i wr => ∃ k : Nat, k ≤ rs.length ∧ i = .int .i64 k ∧ Lat w wr) (fun i _ => rs.length - (intOf i).toNat)
  case atStart => exact ⟨0, Nat.zero_le _, rfl, Lat.refl w⟩
  case round =>
    obtain ⟨k, hk, rfl, hL⟩ := hrel
    by_cases hlt : k < rs.length
    · obtain ⟨r, hr⟩ : ∃ r, rs[k]? = some r := ⟨_, List.getElem?_eq_getElem hlt⟩
      obtain ⟨l, x, hll, hlk, hlx, hgx⟩ := last_of hr
      obtain ⟨b1, o1, rfl, hc⟩ := ha k r hr
      obtain ⟨b2, o2, e2, hcl⟩ := ha l x hlx
      obtain ⟨rfl, rfl⟩ : b1 = b2 ∧ o1 = o2 := by
        have := Option.some.inj e2
        exact ⟨congrArg Addr.block this, congrArg Addr.off this⟩
      have hsz := (hok r (List.mem_of_getElem? hr)).1
      have hokx := hok x (List.mem_of_getElem? hlx)
      obtain ⟨_, _, _, d0, _⟩ := hc
      have c0 := hL.cell d0
      obtain ⟨ai, li, ci, y0, y1, y2, y3, y4, y5, y6, y7, hi⟩ := hcl
      have HC := C20.out wr r.pre x hL hsz hgx
      clear e2
      go_wp2_with fail
      refine HC.mono ?_
      rintro e w1 ⟨v, rfl, ⟨ag, lgg, cg, rfl, hig⟩, hb1⟩
      clear HC
      go_wp2_with fail
      have hL1 := (hL.trans hb1)
      obtain ⟨Wa, hWa⟩ : ∃ Wa, Wa = w1.alloc (.cells #[.string x.pre, .string x.kind, .string x.dst, .int .i64 x.mn, .int .i64 x.mx, .int .i64 x.st, .string x.prep, .slice ag lgg cg] 45) := ⟨_, rfl⟩
      rw [← hWa]
      have hLa : Lat w1 Wa := by rw [hWa]; exact (Lat.refl w1).alloc _
      have hL2 : Lat w Wa := hL1.trans hLa
      have p0 := hL2.cell d0
      have z0 := hL2.cell y0
      have z1 := hL2.cell y1
      have z2 := hL2.cell y2
      have z3 := hL2.cell y3
      have z4 := hL2.cell y4
      have z5 := hL2.cell y5
      have z6 := hL2.cell y6
      have z7 := hL2.cell y7
      have q0 : Wa.cell? ⟨w1.heap.size, 0, none⟩ = some (.string x.pre) := by rw [hWa]; go_simp
      have q1 : Wa.cell? ⟨w1.heap.size, 1, none⟩ = some (.string x.kind) := by rw [hWa]; go_simp
      have q2 : Wa.cell? ⟨w1.heap.size, 2, none⟩ = some (.string x.dst) := by rw [hWa]; go_simp
      have q3 : Wa.cell? ⟨w1.heap.size, 3, none⟩ = some (.int .i64 x.mn) := by rw [hWa]; go_simp
      have q4 : Wa.cell? ⟨w1.heap.size, 4, none⟩ = some (.int .i64 x.mx) := by rw [hWa]; go_simp
      have q5 : Wa.cell? ⟨w1.heap.size, 5, none⟩ = some (.int .i64 x.st) := by rw [hWa]; go_simp
      have q6 : Wa.cell? ⟨w1.heap.size, 6, none⟩ = some (.string x.prep) := by rw [hWa]; go_simp
      have q7 : Wa.cell? ⟨w1.heap.size, 7, none⟩ = some (.slice ag lgg cg) := by rw [hWa]; go_simp
      have C18x : Hid (∀ W, Lat w W → Calls Try.prog 18 #[.slice (some ⟨b1, o1, none⟩) rs.length ca, .string r.pre] W fun e w' => e = .returned (.int .i64 (l : Int)) ∧ w' = W) := by
        intro W hW
        have := C18.out W r.pre hW
        rwa [hlk] at this
      have C30 : Hid (∀ W, Lat Wa W → Calls Try.prog 30 #[.agg #[.string x.pre, .string x.kind, .string x.dst, .int .i64 x.mn, .int .i64 x.mx, .int .i64 x.st, .string x.prep, .slice ag lgg cg], .agg #[.string x.pre, .string x.kind, .string x.dst, .int .i64 x.mn, .int .i64 x.mx, .int .i64 x.st, .string x.prep, .slice ai li ci]] W fun e w' => e = .returned (.bool true) ∧ Lat W w') :=
        fun W hW => sameRoute_any (S := fun _ => True) (S' := S) _ _ x W ⟨ag, lgg, cg, rfl, hig.later (hLa.trans hW)⟩ ⟨ai, li, ci, rfl, hi.later (hL2.trans hW)⟩ hokx
      have HL2 : Hid (Lat w Wa) := hL2
      have k0 : (0 : Int) ≤ (k : Int) := by omega
      have k1 : (k : Int) < (rs.length : Int) := by omega
      have l0 : (0 : Int) ≤ (l : Int) := by omega
      have l1 : (l : Int) < (rs.length : Int) := by omega
      clear hWa hLa hL2 hL1 d0 y0 y1 y2 y3 y4 y5 y6 y7 hi hig hlk hlx hgx hr c0 C23 C34 C18 C20 C24 hokx hok hnk ha hbb n1 n2 hb1 hL
      go_region_held3 (fun w' => w'.cell? ⟨b1, o1 + k * 8, none⟩ = some (.string r.pre) ∧ w'.cell? ⟨b1, o1 + l * 8, none⟩ = some (.string x.pre) ∧ w'.cell? ⟨b1, o1 + l * 8 + 1, none⟩ = some (.string x.kind) ∧ w'.cell? ⟨b1, o1 + l * 8 + 2, none⟩ = some (.string x.dst) ∧ w'.cell? ⟨b1, o1 + l * 8 + 3, none⟩ = some (.int .i64 x.mn) ∧ w'.cell? ⟨b1, o1 + l * 8 + 4, none⟩ = some (.int .i64 x.mx) ∧ w'.cell? ⟨b1, o1 + l * 8 + 5, none⟩ = some (.int .i64 x.st) ∧ w'.cell? ⟨b1, o1 + l * 8 + 6, none⟩ = some (.string x.prep) ∧ w'.cell? ⟨b1, o1 + l * 8 + 7, none⟩ = some (.slice ai li ci) ∧ w'.cell? ⟨w1.heap.size, 0, none⟩ = some (.string x.pre) ∧ w'.cell? ⟨w1.heap.size, 1, none⟩ = some (.string x.kind) ∧ w'.cell? ⟨w1.heap.size, 2, none⟩ = some (.string x.dst) ∧ w'.cell? ⟨w1.heap.size, 3, none⟩ = some (.int .i64 x.mn) ∧ w'.cell? ⟨w1.heap.size, 4, none⟩ = some (.int .i64 x.mx) ∧ w'.cell? ⟨w1.heap.size, 5, none⟩ = some (.int .i64 x.st) ∧ w'.cell? ⟨w1.heap.size, 6, none⟩ = some (.string x.prep) ∧ w'.cell? ⟨w1.heap.size, 7, none⟩ = some (.slice ag lgg cg))
        (first | (with_reducible exact ⟨P0, Z0, Z1, Z2, Z3, Z4, Z5, Z6, Z7, Q0, Q1, Q2, Q3, Q4, Q5, Q6, Q7⟩) | (exact ⟨p0, z0, z1, z2, z3, z4, z5, z6, z7, q0, q1, q2, q3, q4, q5, q6, q7⟩))
        ((first | (go_at_call 18; refine (C18x.out _ ?_).mono ?_; exact (HL2.out).drew; rintro e w2 ⟨rfl, hw2⟩; subst hw2) | (go_at_call 30; refine (C30.out _ ?_).mono ?_; exact (Lat.refl _).drew; rintro e w3 ⟨rfl, hb3⟩; have hb4 := (Lat.refl Wa).drew.trans hb3; have P0 := hb4.cell p0; have Z0 := hb4.cell z0; have Z1 := hb4.cell z1; have Z2 := hb4.cell z2; have Z3 := hb4.cell z3; have Z4 := hb4.cell z4; have Z5 := hb4.cell z5; have Z6 := hb4.cell z6; have Z7 := hb4.cell z7; have Q0 := hb4.cell q0; have Q1 := hb4.cell q1; have Q2 := hb4.cell q2; have Q3 := hb4.cell q3; have Q4 := hb4.cell q4; have Q5 := hb4.cell q5; have Q6 := hb4.cell q6; have Q7 := hb4.cell q7; clear hb3)))
      go_wp2_with fail
      go_roundw
      case rel => exact ⟨k + 1, by omega, by go_num, HL2.out.trans hb4⟩
      case measure => simp [intOf]; omega
    · go_wp2_with fail
      refine (C23.out _ hL).mono ?_
      rintro e w' ⟨rfl, hw⟩
      obtain rfl := hw.symm
      go_wp2_with fail
      refine (C34.out _ hL).mono ?_
      rintro e w' ⟨rfl, hw⟩
      obtain rfl := hw.symm
      go_wp2_with fail
      clear C23 C34 C18 C20
      go_loop [10] (fun i => ∃ k : Nat, k ≤ ns.length ∧ i = .int .i64 k) (fun i => ns.length - (intOf i).toNat)
      case atStart => exact ⟨0, Nat.zero_le _, rfl⟩
      case round =>
        obtain ⟨q, hq, rfl⟩ := hrel
        by_cases hlt2 : q < ns.length
        · obtain ⟨s, hs⟩ : ∃ s, ns[q]? = some s := ⟨_, List.getElem?_eq_getElem hlt2⟩
          obtain ⟨b1, o1, rfl, hc⟩ := hbb q s hs
          have c0 := hL.cell hc
          have HC := C24.out wr s hL (hnk s (List.mem_of_getElem? hs)) (List.mem_of_getElem? (ss_at hs))
          go_wp2_with fail
          refine HC.mono ?_
          rintro e w' ⟨rfl, hw⟩
          obtain rfl := hw.symm
          clear HC
          go_wp2_with fail
          go_round
          case rel => exact ⟨q + 1, by omega, by go_num⟩
          case measure => simp [intOf]; omega
        · go_wp2_with fail
          go_ret
          exact ⟨rfl, hL⟩
end Go.Proofs.Qxb6630238a
