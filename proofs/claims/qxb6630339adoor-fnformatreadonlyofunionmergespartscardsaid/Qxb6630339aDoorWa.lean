/- The walk of FnFormatReadOnlyInsertOneTrueKey. -/
import Derived.Test.Qxb6630339aDoorPp
import Derived.Deep.DrawnRows
namespace Go.Proofs.Qxb6630339aDoor
open Go.RowKit Go.Maps

/-- The map of the first n pairs. -/
def fp (ks : List Int) (vs : List Bool) : Nat → Int → Option Bool
  | 0 => fun _ => none
  | n + 1 => match ks[n]?, vs[n]? with
    | some k, some v => upd (fp ks vs n) k v
    | _, _ => fp ks vs n

theorem fp_succ {ks : List Int} {vs : List Bool} {n : Nat} {k : Int} {v : Bool} (hk : ks[n]? = some k) (hv : vs[n]? = some v) : fp ks vs (n + 1) = upd (fp ks vs n) k v := by
  rw [fp, hk, hv]

theorem fp_mem {ks : List Int} {vs : List Bool} : ∀ {n : Nat} {z : Int} {b : Bool}, fp ks vs n z = some b → z ∈ ks.take n
  | 0, z, b, h => by cases h
  | n + 1, z, b, h => by
    rw [List.take_add_one]
    cases hk : ks[n]? with
    | none =>
      have h' : fp ks vs n z = some b := by simpa [fp, hk] using h
      exact List.mem_append_left _ (fp_mem h')
    | some k =>
      cases hv : vs[n]? with
      | none =>
        have h' : fp ks vs n z = some b := by simpa [fp, hk, hv] using h
        exact List.mem_append_left _ (fp_mem h')
      | some v =>
        rw [fp_succ hk hv] at h
        unfold upd at h
        by_cases e : z = k
        · subst e; simp
        · rw [if_neg e] at h
          exact List.mem_append_left _ (fp_mem h)

theorem makeMap26 (w : World) : (Instr.makeMap 26 none).run Tryd.prog w = .ok (.map (some w.heap.size)) (w.alloc (.map #[] 0)) := by
  simp [Instr.makeMap]
theorem makeMap28 (w : World) : (Instr.makeMap 28 none).run Tryd.prog w = .ok (.map (some w.heap.size)) (w.alloc (.map #[] 0)) := by
  simp [Instr.makeMap]

/-- The keys that stand true among the first q. -/
def Seen (ks : List Int) (g : Int → Option Bool) (q : Nat) (seen : List Int) : Prop := seen.Nodup ∧ ∀ z, z ∈ seen ↔ (z ∈ ks.take q ∧ g z = some true)

theorem seen_nil (ks : List Int) (g : Int → Option Bool) : Seen ks g 0 [] := ⟨List.nodup_nil, fun z => by simp⟩

theorem mem_take_succ {ks : List Int} {q : Nat} {x z : Int} (hx : ks[q]? = some x) : z ∈ ks.take (q + 1) ↔ (z ∈ ks.take q ∨ z = x) := by
  rw [List.take_add_one, hx]
  simp

theorem Seen.off {ks : List Int} {g : Int → Option Bool} {q : Nat} {seen : List Int} (h : Seen ks g q seen) {x : Int} (hx : ks[q]? = some x) (hon : on g x = false) : Seen ks g (q + 1) seen := by
  refine ⟨h.1, fun z => ?_⟩
  rw [h.2 z, mem_take_succ hx]
  constructor
  · exact fun ⟨h1, h2⟩ => ⟨.inl h1, h2⟩
  · rintro ⟨h1 | rfl, h2⟩
    · exact ⟨h1, h2⟩
    · rw [on_true.2 h2] at hon; cases hon

theorem Seen.again {ks : List Int} {g : Int → Option Bool} {q : Nat} {seen : List Int} (h : Seen ks g q seen) {x : Int} (hx : ks[q]? = some x) (hin : x ∈ seen) : Seen ks g (q + 1) seen := by
  refine ⟨h.1, fun z => ?_⟩
  rw [h.2 z, mem_take_succ hx]
  constructor
  · exact fun ⟨h1, h2⟩ => ⟨.inl h1, h2⟩
  · rintro ⟨h1 | rfl, h2⟩
    · exact ⟨h1, h2⟩
    · exact (h.2 _).1 hin

theorem Seen.fresh {ks : List Int} {g : Int → Option Bool} {q : Nat} {seen : List Int} (h : Seen ks g q seen) {x : Int} (hx : ks[q]? = some x) (hon : on g x = true) (hin : x ∉ seen) : Seen ks g (q + 1) (seen ++ [x]) := by
  refine ⟨List.nodup_append.2 ⟨h.1, by simp, fun a ha b hb => by simp at hb; subst hb; exact fun e => hin (e ▸ ha)⟩, fun z => ?_⟩
  rw [List.mem_append, h.2 z, mem_take_succ hx]
  constructor
  · rintro (⟨h1, h2⟩ | h1)
    · exact ⟨.inl h1, h2⟩
    · obtain rfl : z = x := by simpa using h1
      exact ⟨.inr rfl, on_true.1 hon⟩
  · rintro ⟨h1 | rfl, h2⟩
    · exact .inl ⟨h1, h2⟩
    · exact .inr (by simp)

theorem MT.more {w : World} {m N : Nat} {seen : List Int} (h : MT w m N seen) : MT w m (N + 1) seen := by
  obtain ⟨n, D, o, hn, r⟩ := h
  exact ⟨n, D, o, by omega, r⟩

set_option maxRecDepth 100000 in
set_option maxHeartbeats 20000000 in
theorem ins_walk (a b : Option Addr) (ca cb : Nat) (ks : List Int) (vs : List Bool) (k : Int) (w : World) (ha : InAt w a ks) (hb : BoAt w b vs) (hwf : ∀ z ∈ ks, (Lit.int .i64 z).wf = true) (hk : (Lit.int .i64 k).wf = true)
    (la : ks.length ≤ 9223372036854775807) (lb : vs.length ≤ 9223372036854775807) (htab : Lib.TabIs Tryd.prog w "internal/strconv.uint64pow10" .u64 Lib.pow10Tab) :
    Calls Tryd.prog 3 #[.slice a ks.length ca, .slice b vs.length cb, .int .i64 k] w fun e w' => e = .returned (.bool true) ∧ Lat w w' := by
  have HA : Hid (InAt w a ks) := ha
  have HB : Hid (BoAt w b vs) := hb
  have HWF : Hid (∀ z ∈ ks, (Lit.int .i64 z).wf = true) := hwf
  have HK : Hid ((Lit.int .i64 k).wf = true) := hk
  have HT : Hid (Lib.TabIs Tryd.prog w "internal/strconv.uint64pow10" .u64 Lib.pow10Tab) := htab
  clear ha hb hwf hk htab
  go_enter Tryd.func3, Tryd.ntmps3
  go_wp2_with fail
  refine (zz1_any a b ks.length vs.length ca cb k w la lb).mono ?_
  rintro e w' ⟨⟨r, rfl⟩, hw⟩
  obtain rfl := hw.symm
  clear hw
  cases r
  · go_wp2_with fail
    go_ret
    exact ⟨rfl, Lat.refl w⟩
  by_cases g0 : ks.length ≤ 65536
  rotate_left
  · have d0 : decide ((65536 : Int) < (ks.length : Int)) = true := decide_eq_true (by omega)
    go_wp2_with fail
    go_ret
    exact ⟨rfl, Lat.refl w⟩
  have d0 : decide ((65536 : Int) < (ks.length : Int)) = false := decide_eq_false (by omega)
  by_cases g1 : vs.length ≤ 65536
  rotate_left
  · have d1 : decide ((65536 : Int) < (vs.length : Int)) = true := decide_eq_true (by omega)
    go_wp2_with fail
    go_ret
    exact ⟨rfl, Lat.refl w⟩
  have d1 : decide ((65536 : Int) < (vs.length : Int)) = false := decide_eq_false (by omega)
  go_wp2_with fail
  refine (pc_any a b ks.length vs.length ca cb w).mono ?_
  rintro e w' ⟨rfl, hw⟩
  obtain rfl := hw.symm
  clear hw d0 d1
  obtain ⟨n, hn⟩ : ∃ n, n = min ks.length vs.length := ⟨_, rfl⟩
  rw [← hn]
  have hnk : n ≤ ks.length := by omega
  have hnv : n ≤ vs.length := by omega
  clear hn
  -- the maps
  have hm := makeMap26
  obtain ⟨W2, hW2⟩ : ∃ W2, W2 = (w.alloc (.map #[] 0)).alloc (.map #[] 0) := ⟨_, rfl⟩
  have M1 : Hid (MB W2 w.heap.size 0 (fun _ => none)) := by
    have h : MB W2 w.heap.size 0 (fun _ => none) := by
      rw [hW2]
      exact (MB.made w).of_block (Below.heap_alloc _ _ _ (by simp))
    exact h
  have M2 : Hid (MB W2 (w.heap.size + 1) 0 (fun _ => none)) := by
    have h : MB W2 (w.heap.size + 1) 0 (fun _ => none) := by
      rw [hW2]
      have := MB.made (w.alloc (.map #[] 0))
      simpa using this
    exact h
  have L2 : Hid (Lat w W2) := by
    have h : Lat w W2 := by rw [hW2]; exact ((Lat.refl w).alloc _).alloc _
    exact h
  have HW2 : Hid ((w.alloc (.map #[] 0)).alloc (.map #[] 0) = W2) := hW2.symm
  clear hW2
  go_wp2_with fail
  rw [HW2.out]
  clear HW2 hm
  obtain ⟨m1, hm1⟩ : ∃ m, m = w.heap.size := ⟨_, rfl⟩
  obtain ⟨m2, hm2⟩ : ∃ m, m = w.heap.size + 1 := ⟨_, rfl⟩
  rw [← hm2, ← hm1]
  rw [← hm1] at M1
  rw [← hm2] at M2
  have hm12 : m1 ≠ m2 := by omega
  have hm1w : w.heap.size ≤ m1 := by omega
  have hm2w : w.heap.size ≤ m2 := by omega
  clear hm1 hm2
  -- loop 1
  go_loopw [10] (fun i wr => ∃ j : Nat, j ≤ n ∧ i = .int .i64 j ∧ MB wr m1 j (fp ks vs j) ∧ MB wr m2 j (fp ks vs j) ∧ Lat w wr) (fun i _ => n - (intOf i).toNat)
  case atStart => exact ⟨0, Nat.zero_le _, rfl, M1.out, M2.out, L2.out⟩
  case round =>
    obtain ⟨j, hj, rfl, B1, B2, hL⟩ := hrel
    clear M1 M2 L2
    by_cases hlt : j < n
    · obtain ⟨x, hx⟩ : ∃ x, ks[j]? = some x := ⟨_, List.getElem?_eq_getElem (by omega)⟩
      obtain ⟨v, hv⟩ : ∃ v, vs[j]? = some v := ⟨_, List.getElem?_eq_getElem (by omega)⟩
      obtain ⟨ba, oa, rfl, da⟩ := HA.out j x hx
      obtain ⟨bb, ob, rfl, db⟩ := HB.out j v hv
      have hwx := HWF.out x (List.mem_of_getElem? hx)
      have FS : Hid (fp ks vs (j + 1) = upd (fp ks vs j) x v) := fp_succ hx hv
      have ca0 := hL.cell da
      have cb0 := hL.cell db
      have B1d : MB wr.drew m1 j (fp ks vs j) := B1.of_block rfl
      have B2d : MB wr.drew m2 j (fp ks vs j) := B2.of_block rfl
      obtain ⟨W3, r3, P3, g3⟩ := B1d.put (by omega) hwx v
      have Q3 : MB W3 m2 j (fp ks vs j) := B2d.other g3 hm12.symm
      have L3 : Lat w W3 := Lat.grown hL.drew g3 (fun g hg => by cases hg; exact hm1w)
      have ca3 := L3.cell da
      have cb3 := L3.cell db
      obtain ⟨W4, r4, P4, g4⟩ := (show MB W3.drew m2 j (fp ks vs j) from Q3.of_block rfl).put (by omega) hwx v
      have Q4 : MB W4 m1 (j + 1) (upd (fp ks vs j) x v) := (show MB W3.drew m1 (j + 1) _ from P3.of_block rfl).other g4 hm12
      have L4 : Lat w W4 := Lat.grown L3.drew g4 (fun g hg => by cases hg; exact hm2w)
      have F1 : Hid (MB W4 m1 (j + 1) (fp ks vs (j + 1))) := by
        have h : MB W4 m1 (j + 1) (fp ks vs (j + 1)) := by rw [FS.out]; exact Q4
        exact h
      have F2 : Hid (MB W4 m2 (j + 1) (fp ks vs (j + 1))) := by
        have h : MB W4 m2 (j + 1) (fp ks vs (j + 1)) := by rw [FS.out]; exact P4
        exact h
      have F3 : Hid (Lat w W4) := L4
      have j0 : (0 : Int) ≤ (j : Int) := by omega
      have j1 : (j : Int) < (ks.length : Int) := by omega
      have j2 : (j : Int) < (vs.length : Int) := by omega
      clear hx hv da db FS B1 B2 B1d B2d P3 g3 Q3 L3 P4 g4 Q4 L4 hL hwx
      go_wp2_with fail
      go_region
      clear r3 ca0 cb0
      go_wp2_with fail
      go_region
      clear r4 ca3 cb3
      go_wp2_with fail
      go_roundw
      case rel => exact ⟨j + 1, by omega, by go_num, F1.out, F2.out, F3.out⟩
      case measure => simp [intOf]; omega
    obtain rfl : j = n := by omega
    -- the key
    obtain ⟨f, hf⟩ : ∃ f, f = fp ks vs j := ⟨_, rfl⟩
    rw [← hf] at B1 B2
    have EF : Hid (f = fp ks vs j) := hf
    obtain ⟨W3, r3, P3, g3⟩ := B1.put (by omega) HK.out false
    have Q3 : MB W3 m2 j f := B2.other g3 hm12.symm
    have L3 : Lat w W3 := Lat.grown hL g3 (fun g hg => by cases hg; exact hm1w)
    obtain ⟨W4, r4, P4, g4⟩ := Q3.put (by omega) HK.out true
    have Q4 : MB W4 m1 (j + 1) (upd f k false) := P3.other g4 hm12
    have L4 : Lat w W4 := Lat.grown L3 g4 (fun g hg => by cases hg; exact hm2w)
    have H1 : Hid (MB W4 m1 (j + 1) (upd f k false)) := Q4
    have H2 : Hid (MB W4 m2 (j + 1) (upd f k true)) := P4
    have H4 : Hid (Lat w W4) := L4
    clear hf B1 B2 P3 g3 Q3 L3 P4 g4 Q4 L4 hL hlt
    go_wp2_with fail
    clear r3 r4
    refine (H1.out.fmt (by omega) (tab_lat HT.out H4.out)).mono ?_
    rintro e w5 ⟨⟨T0, t0, rfl, ht0, sT0, mT0⟩, k5⟩
    have X0 : Hid (bs t0 = Lib.join (T0.map Lib.itoa) [44]) := ht0
    have S0 : Hid (T0.Pairwise (· < ·)) := sT0
    have N0 : Hid (∀ z, z ∈ T0 ↔ upd f k false z = some true) := mT0
    clear ht0 sT0 mT0
    go_wp2_with fail
    refine ((H2.out.later k5).fmt (by omega) (tab_lat HT.out (H4.out.trans k5))).mono ?_
    rintro e w6 ⟨⟨T1, t1, rfl, ht1, sT1, mT1⟩, k6⟩
    have X1 : Hid (bs t1 = Lib.join (T1.map Lib.itoa) [44]) := ht1
    have S1 : Hid (T1.Pairwise (· < ·)) := sT1
    have N1 : Hid (∀ z, z ∈ T1 ↔ upd f k true z = some true) := mT1
    clear ht1 sT1 mT1
    have A1 : Hid (MB w6 m1 (j + 1) (upd f k false)) := (H1.out.later k5).later k6
    have L6 : Hid (Lat w w6) := (H4.out.trans k5).trans k6
    clear k5 k6 H1 H2 H4
    have hm := makeMap28
    obtain ⟨W7, hW7⟩ : ∃ W7, W7 = w6.alloc (.map #[] 0) := ⟨_, rfl⟩
    have A7 : Hid (MB W7 m1 (j + 1) (upd f k false)) := by
      have h : MB W7 m1 (j + 1) (upd f k false) := by rw [hW7]; exact A1.out.later ((Lat.refl w6).alloc _)
      exact h
    have T7 : Hid (MT W7 w6.heap.size 0 []) := by
      have h : MT W7 w6.heap.size 0 [] := by rw [hW7]; exact MT.made w6
      exact h
    have L7 : Hid (Lat w W7) := by
      have h : Lat w W7 := by rw [hW7]; exact L6.out.alloc _
      exact h
    have HW7 : Hid (w6.alloc (.map #[] 0) = W7) := hW7.symm
    have hw6 : w.heap.size ≤ w6.heap.size := L6.out.size
    have hm1lt : m1 < w6.heap.size := A1.out.lt
    clear hW7
    go_wp2_with fail
    rw [HW7.out]
    clear HW7 hm A1 L6
    obtain ⟨m3, hm3⟩ : ∃ m, m = w6.heap.size := ⟨_, rfl⟩
    rw [← hm3]
    rw [← hm3] at T7
    have hm13 : m1 ≠ m3 := by omega
    have hm3w : w.heap.size ≤ m3 := by omega
    clear hm3 hm1lt hw6
    -- loop 2
    obtain ⟨g, hg⟩ : ∃ g, g = upd f k false := ⟨_, rfl⟩
    rw [← hg] at A7 N0
    have EG : Hid (g = upd f k false) := hg
    clear hg
    go_loopw [14, 15] (fun c i wr => ∃ (q : Nat) (seen : List Int), q ≤ j ∧ i = .int .i64 q ∧ c = .int .i64 seen.length ∧ seen.length ≤ q ∧ Seen ks g q seen ∧ MT wr m3 q seen ∧ MB wr m1 (j + 1) g ∧ Lat w wr) (fun _ i _ => j - (intOf i).toNat)
    case atStart => exact ⟨0, [], Nat.zero_le _, rfl, rfl, Nat.le_refl _, seen_nil ks g, T7.out, A7.out, L7.out⟩
    case round =>
      obtain ⟨q, seen, hq, rfl, rfl, hsq, hS, hT, hM, hL⟩ := hrel
      clear T7 A7 L7
      by_cases hlt : q < j
      · obtain ⟨x, hx⟩ : ∃ x, ks[q]? = some x := ⟨_, List.getElem?_eq_getElem (by omega)⟩
        obtain ⟨ba, oa, rfl, da⟩ := HA.out q x hx
        have hwx := HWF.out x (List.mem_of_getElem? hx)
        have ca0 := hL.cell da
        have lk := hM.look hwx
        cases hon : on g x
        · rw [hon] at lk
          have SN : Hid (Seen ks g (q + 1) seen) := hS.off hx hon
          have HT1 : Hid (MT wr m3 (q + 1) seen) := hT.more
          have HM1 : Hid (MB wr m1 (j + 1) g) := hM
          clear hS hT hM hx da hwx hon
          go_wp2_with fail
          go_roundw
          case rel => exact ⟨q + 1, seen, by omega, by go_num, rfl, by omega, SN.out, HT1.out, HM1.out, hL⟩
          case measure => simp [intOf]; omega
        · rw [hon] at lk
          have HD := dec_any x wr hwx
          have HX : Hid (ks[q]? = some x) := hx
          have HON : Hid (on g x = true) := hon
          clear hon hx
          go_wp2_with fail
          refine HD.mono ?_
          rintro e w8 ⟨rfl, k8⟩
          have hT8 := hT.later k8
          have hM8 := hM.later k8
          have hL8 := hL.trans k8
          clear HD hT hM hL k8 lk ca0
          unfold numeral
          by_cases hin : x ∈ seen
          · have lk2 := hT8.look_in hwx hin _ (bs_mk _)
            have SN : Hid (Seen ks g (q + 1) seen) := hS.again HX.out hin
            have HT1 : Hid (MT w8 m3 (q + 1) seen) := hT8.more
            have HM1 : Hid (MB w8 m1 (j + 1) g) := hM8
            clear hS hT8 hM8 hin
            go_wp2_with fail
            go_roundw
            case rel => exact ⟨q + 1, seen, by omega, by go_num, rfl, by omega, SN.out, HT1.out, HM1.out, hL8⟩
            case measure => simp [intOf]; omega
          · have lk2 := hT8.look_out hwx hin
            obtain ⟨W9, r9, P9, g9⟩ := hT8.put (by omega) hwx hin
            have SN : Hid (Seen ks g (q + 1) (seen ++ [x])) := hS.fresh HX.out HON.out hin
            have HT1 : Hid (MT W9 m3 (q + 1) (seen ++ [x])) := P9
            have HM1 : Hid (MB W9 m1 (j + 1) g) := hM8.other g9 hm13
            have HL9 : Hid (Lat w W9) := Lat.grown hL8 g9 (fun g hg => by cases hg; exact hm3w)
            clear hS hT8 hM8 hin P9 g9 hL8
            go_wp2_with fail
            go_roundw
            case rel => exact ⟨q + 1, seen ++ [x], by omega, by go_num, by rw [List.length_append]; go_num, by rw [List.length_append]; simp; omega, SN.out, HT1.out, HM1.out, HL9.out⟩
            case measure => simp [intOf]; omega
      obtain rfl : q = j := by omega
      -- the pieces
      have TSE : Hid (∀ z, z ∈ seen ↔ z ∈ T0) := fun z => by
        rw [hS.2 z, N0.out z]
        constructor
        · exact fun h => h.2
        · intro h
          refine ⟨?_, h⟩
          rw [EG.out] at h
          unfold upd at h
          split at h
          · cases h
          · rw [EF.out] at h
            exact fp_mem h
      have TWF : Hid (∀ z ∈ T0, (Lit.int .i64 z).wf = true) := fun z hz => HWF.out z (List.mem_of_mem_take ((hS.2 z).1 ((TSE.out z).2 hz)).1)
      have hTl : seen.length = T0.length := ((List.perm_ext_iff_of_nodup hS.1 (nodup_of_lt S0.out)).2 TSE.out).length_eq
      have KT : Hid (k ∉ T0) := fun h => by
        have := (N0.out k).1 h
        rw [EG.out] at this
        simp [upd] at this
      have hT0 : T0.length ≤ 65536 := by omega
      have hsz : t0.size ≤ 1099511627776 := by
        rw [← bs_length, X0.out]
        have := join_len (T0.map Lib.itoa) 21 (fun x hx => by
          obtain ⟨z, hz, rfl⟩ := List.mem_map.1 hx
          have hb := bounds_i64 (TWF.out z hz)
          exact Lib.itoa_length_le z hb.1 hb.2)
        rw [List.length_map] at this
        omega
      have CS := splitC_any t0 wr hsz
      rw [hTl]
      have HM3 : Hid (MT wr m3 q seen) := hT
      clear hS hT hM hsz hlt hTl
      go_wp2_with fail
      refine CS.mono ?_
      rintro e w8 ⟨⟨pa, a8, c8, rfl, hpa, hss⟩, k8⟩
      have PA : Hid (pa.map bs = T0.map Lib.itoa) := by
        have h : pa.map bs = T0.map Lib.itoa := by
          rw [hpa, X0.out]
          exact pcs_join _ (fun x hx => by obtain ⟨z, _, rfl⟩ := List.mem_map.1 hx; exact itoa_comma z) (fun x hx => by obtain ⟨z, _, rfl⟩ := List.mem_map.1 hx; exact itoa_ne z)
        exact h
      have hpl : pa.length = T0.length := by
        have := congrArg List.length PA.out
        simpa using this
      rw [hpl]
      have HSS : Hid (SsAt w8 a8 pa) := hss
      have HM8 : Hid (MT w8 m3 q seen) := HM3.out.later k8
      have HL8 : Hid (Lat w w8) := hL.trans k8
      have dne : ((T0.length : Int) != (T0.length : Int)) = false := by simp
      clear CS hpa hss k8 hL HM3 hpl
      go_wp2_with fail
      clear dne
      -- loop 3
      obtain ⟨i0, hi, hz0, hz1, hz2⟩ := info_parts info9
      go_loopw [21, 22, 23, 24] (fun v pl pr ii wr => ∃ (i : Nat) (E : List Int) (p : Bool) (z : Int), i ≤ T0.length ∧ ii = .int .i64 i ∧ pl = .bool p ∧ pr = .int .i64 z ∧ plc k (T0.take i) = (E, p) ∧ (0 < i → T0[i - 1]? = some z) ∧ wr.ownsRow w8.heap.size 9 1 v E.length (E.map numeral) ∧ Lat w8 wr) (fun _ _ _ ii _ => T0.length - (intOf ii).toNat)
      case atStart => exact ⟨0, [], false, 0, Nat.zero_le _, rfl, rfl, rfl, rfl, fun h => by omega, World.ownsRow_nil _ _ _ _, Lat.refl w8⟩
      case round =>
        obtain ⟨i, E, p, z, hi', rfl, rfl, rfl, hpl, hprev, ho, hL⟩ := hrel
        have hEl : E.length ≤ 131072 := by
          have h := (plc_inv k _ (T0.take i) rfl (S0.out.sublist (List.take_sublist _ _)) (fun h => KT.out (List.mem_of_mem_take h))).2.2.2.2
          rw [hpl] at h
          have h2 : (T0.take i).length ≤ T0.length := by rw [List.length_take]; omega
          simp only at h
          split at h <;> omega
        have HOB : Hid (∀ g, u21.ownBlock = some g → w8.heap.size ≤ g) := fun g hg => (World.ownsRow.lt ho g hg).1
        have hs8 : w8.heap.size ≤ wr.heap.size := hL.size
        by_cases hlt : i < T0.length
        · obtain ⟨x, hx⟩ : ∃ x, T0[i]? = some x := ⟨_, List.getElem?_eq_getElem hlt⟩
          obtain ⟨s, hsx, hbs⟩ : ∃ s, pa[i]? = some s ∧ bs s = Lib.itoa x := by
            have h := congrArg (fun l => l[i]?) PA.out
            simp only [List.getElem?_map, hx] at h
            obtain ⟨s, h1, h2⟩ := Option.map_eq_some_iff.1 h
            exact ⟨s, h1, h2⟩
          obtain ⟨bp, op, rfl, hcp⟩ := HSS.out i s hsx
          have cp := hL.cell hcp
          have HCW : Hid (w8.cell? ⟨bp, op + i, none⟩ = some (.string s)) := hcp
          have hxm : x ∈ T0 := List.mem_of_getElem? hx
          have lk := (HM8.out.later hL).look_in (TWF.out x hxm) ((TSE.out x).2 hxm) s hbs
          have SX : Hid (bs s = Lib.itoa x) := hbs
          have HX : Hid (T0[i]? = some x) := hx
          have TK : Hid (plc k (T0.take (i + 1)) = stp k (E, p) x) := by
            have h : plc k (T0.take (i + 1)) = stp k (E, p) x := by
              rw [List.take_add_one, hx, Option.toList_some, plc_snoc, hpl]
            exact h
          by_cases hi0 : i = 0
          · have di : decide (0 < i) = false := decide_eq_false (by omega)
            clear hprev hx hsx hbs hcp hxm hpl hi0
            cases p
            · by_cases hkx : k < x
              · have dkx : decide (k < x) = true := decide_eq_true hkx
                have ES : Hid (plc k (T0.take (i + 1)) = (E ++ [k, x], true)) := by
                  have h : plc k (T0.take (i + 1)) = (E ++ [k, x], true) := by rw [TK.out, stp, if_pos ⟨rfl, hkx⟩]
                  exact h
                have HD := dec_any k wr HK.out
                go_wp2_with fail
                refine HD.mono ?_
                rintro e w3 ⟨rfl, k3⟩
                have ho3 := own_later ho k3
                have hL3 := hL.trans k3
                have hs3 : w8.heap.size ≤ w3.heap.size := hL3.size
                clear HD ho k3
                unfold numeral
                go_wp2_with (first | (at_builtin; refine wpList_append_own _ rfl (.tmp 142) (.tmp 145) 31 rfl w8.heap.size 9 i0 (.string ⟨#[]⟩) 1 16 Tryd.underlying31 hi hz0 hz1 hz2 rfl (by decide) _ _ _ rfl (ho3.alloc _) ⟨w3.heap.size, 0, none⟩ 1 1 [.string (mk (Lib.itoa k))] rfl rfl ?x1a ?x1b ?x1c ?x1d ?x1e ?_))
                case x1a =>
                  intro j u hj
                  match j, hj with
                  | 0, hj => simp at hj; subst hj; simp [Addr.add]
                case x1b => first | rfl | (intro u hu; simp at hu; subst hu; rfl)
                case x1c => unfold maxLen; omega
                case x1d => omega
                case x1e => first | omega | (simp; omega)
                intro v5 w5 ho5 hg5 _
                have hL5 : Lat w8 w5 := Lat.grown (hL3.alloc _) hg5 HOB.out
                have ho5' : w5.ownsRow w8.heap.size 9 1 v5 (E.length + 1) ((E ++ [k]).map numeral) := by
                  rw [List.map_append]
                  exact ho5
                have HOB5 : Hid (∀ g, v5.ownBlock = some g → w8.heap.size ≤ g) := fun g hg => (World.ownsRow.lt ho5' g hg).1
                have hs5 : w8.heap.size ≤ w5.heap.size := hL5.size
                have c5 := hL5.cell HCW.out
                clear ho5 hg5 ho3 hL3
                go_wp2_with (first | (at_builtin; refine wpList_append_own _ rfl (.tmp 147) (.tmp 152) 31 rfl w8.heap.size 9 i0 (.string ⟨#[]⟩) 1 16 Tryd.underlying31 hi hz0 hz1 hz2 rfl (by decide) _ _ _ rfl (ho5'.alloc _) ⟨w5.heap.size, 0, none⟩ 1 1 [.string s] rfl rfl ?x2a ?x2b ?x2c ?x2d ?x2e ?_))
                case x2a =>
                  intro j u hj
                  match j, hj with
                  | 0, hj => simp at hj; subst hj; simp [Addr.add]
                case x2b => first | rfl | (intro u hu; simp at hu; subst hu; rfl)
                case x2c => unfold maxLen; omega
                case x2d => omega
                case x2e => first | omega | (simp; omega)
                intro v' w4 ho4 hg4 _
                have hL4 : Lat w8 w4 := Lat.grown (hL5.alloc _) hg4 HOB5.out
                have HO4 : Hid (w4.ownsRow w8.heap.size 9 1 v' (E ++ [k, x]).length ((E ++ [k, x]).map numeral)) := by
                  have h : w4.ownsRow w8.heap.size 9 1 v' (E ++ [k, x]).length ((E ++ [k, x]).map numeral) := by
                    have e : (E ++ [k, x]).map numeral = E.map numeral ++ [numeral k, Value.string s] := by simp [numeral, ← SX.out, mk_bs]
                    have e2 : (E ++ [k, x]).length = E.length + 1 + 1 := by simp
                    rw [e, e2]
                    exact ho4
                  exact h
                clear ho4 hg4
                go_wp2_with fail
                go_roundw
                case rel => exact ⟨i + 1, E ++ [k, x], true, x, by omega, by go_num, rfl, rfl, ES.out, fun _ => by simpa using HX.out, HO4.out, hL4⟩
                case measure => simp [intOf]; omega
              · have dkx : decide (k < x) = false := decide_eq_false hkx
                obtain ⟨p, hp⟩ : ∃ p, p = false := ⟨_, rfl⟩
                have ES : Hid (plc k (T0.take (i + 1)) = (E ++ [x], p)) := by
                  have h : plc k (T0.take (i + 1)) = (E ++ [x], p) := by rw [TK.out, stp, if_neg (fun h => hkx h.2), hp]
                  exact h
                go_wp2_with (first | (at_builtin; refine wpList_append_own _ rfl (.tmp 147) (.tmp 152) 31 rfl w8.heap.size 9 i0 (.string ⟨#[]⟩) 1 16 Tryd.underlying31 hi hz0 hz1 hz2 rfl (by decide) _ _ _ rfl (ho.alloc _) ⟨wr.heap.size, 0, none⟩ 1 1 [.string s] rfl rfl ?x3a ?x3b ?x3c ?x3d ?x3e ?_))
                case x3b => first | rfl | (intro u hu; simp at hu; subst hu; rfl)
                case x3c => unfold maxLen; omega
                case x3d => omega
                case x3e => first | omega | (simp; omega)
                intro v' w4 ho4 hg4 _
                have hL4 : Lat w8 w4 := Lat.grown (hL.alloc _) hg4 HOB.out
                have HO4 : Hid (w4.ownsRow w8.heap.size 9 1 v' (E ++ [x]).length ((E ++ [x]).map numeral)) := by
                  have h : w4.ownsRow w8.heap.size 9 1 v' (E ++ [x]).length ((E ++ [x]).map numeral) := by
                    rw [List.length_append, List.map_append]
                    have e : ([x].map numeral) = [Value.string s] := by simp [numeral, ← SX.out, mk_bs]
                    rw [e]
                    exact ho4
                  exact h
                clear ho4 hg4 ho
                go_wp2_with fail
                go_roundw
                case rel => exact ⟨i + 1, E ++ [x], p, x, by omega, by go_num, by rw [hp], rfl, ES.out, fun _ => by simpa using HX.out, HO4.out, hL4⟩
                case measure => simp [intOf]; omega
            · skip
              obtain ⟨p, hp⟩ : ∃ p, p = true := ⟨_, rfl⟩
              have ES : Hid (plc k (T0.take (i + 1)) = (E ++ [x], p)) := by
                have h : plc k (T0.take (i + 1)) = (E ++ [x], p) := by rw [TK.out, stp, if_neg (fun h => by cases h.1), hp]
                exact h
              go_wp2_with (first | (at_builtin; refine wpList_append_own _ rfl (.tmp 147) (.tmp 152) 31 rfl w8.heap.size 9 i0 (.string ⟨#[]⟩) 1 16 Tryd.underlying31 hi hz0 hz1 hz2 rfl (by decide) _ _ _ rfl (ho.alloc _) ⟨wr.heap.size, 0, none⟩ 1 1 [.string s] rfl rfl ?x4a ?x4b ?x4c ?x4d ?x4e ?_))
              case x4a =>
                intro j u hj
                match j, hj with
                | 0, hj => simp at hj; subst hj; simp [Addr.add]
              case x4b => first | rfl | (intro u hu; simp at hu; subst hu; rfl)
              case x4c => unfold maxLen; omega
              case x4d => omega
              case x4e => first | omega | (simp; omega)
              intro v' w4 ho4 hg4 _
              have hL4 : Lat w8 w4 := Lat.grown (hL.alloc _) hg4 HOB.out
              have HO4 : Hid (w4.ownsRow w8.heap.size 9 1 v' (E ++ [x]).length ((E ++ [x]).map numeral)) := by
                have h : w4.ownsRow w8.heap.size 9 1 v' (E ++ [x]).length ((E ++ [x]).map numeral) := by
                  rw [List.length_append, List.map_append]
                  have e : ([x].map numeral) = [Value.string s] := by simp [numeral, ← SX.out, mk_bs]
                  rw [e]
                  exact ho4
                exact h
              clear ho4 hg4 ho
              go_wp2_with fail
              go_roundw
              case rel => exact ⟨i + 1, E ++ [x], p, x, by omega, by go_num, by rw [hp], rfl, ES.out, fun _ => by simpa using HX.out, HO4.out, hL4⟩
              case measure => simp [intOf]; omega
          · have di : decide (0 < i) = true := decide_eq_true (by omega)
            have hzx : z < x := by
              have h1 := hprev (by omega)
              obtain ⟨a1, b1⟩ := List.getElem?_eq_some_iff.1 h1
              obtain ⟨a2, b2⟩ := List.getElem?_eq_some_iff.1 hx
              have := List.pairwise_iff_getElem.1 S0.out (i - 1) i a1 a2 (by omega)
              omega
            have dz : decide (x ≤ z) = false := decide_eq_false (by omega)
            clear hprev hx hsx hbs hcp hxm hpl hi0
            cases p
            · by_cases hkx : k < x
              · have dkx : decide (k < x) = true := decide_eq_true hkx
                have ES : Hid (plc k (T0.take (i + 1)) = (E ++ [k, x], true)) := by
                  have h : plc k (T0.take (i + 1)) = (E ++ [k, x], true) := by rw [TK.out, stp, if_pos ⟨rfl, hkx⟩]
                  exact h
                have HD := dec_any k wr HK.out
                go_wp2_with fail
                refine HD.mono ?_
                rintro e w3 ⟨rfl, k3⟩
                have ho3 := own_later ho k3
                have hL3 := hL.trans k3
                have hs3 : w8.heap.size ≤ w3.heap.size := hL3.size
                clear HD ho k3
                unfold numeral
                go_wp2_with (first | (at_builtin; refine wpList_append_own _ rfl (.tmp 142) (.tmp 145) 31 rfl w8.heap.size 9 i0 (.string ⟨#[]⟩) 1 16 Tryd.underlying31 hi hz0 hz1 hz2 rfl (by decide) _ _ _ rfl (ho3.alloc _) ⟨w3.heap.size, 0, none⟩ 1 1 [.string (mk (Lib.itoa k))] rfl rfl ?x5a ?x5b ?x5c ?x5d ?x5e ?_))
                case x5a =>
                  intro j u hj
                  match j, hj with
                  | 0, hj => simp at hj; subst hj; simp [Addr.add]
                case x5b => first | rfl | (intro u hu; simp at hu; subst hu; rfl)
                case x5c => unfold maxLen; omega
                case x5d => omega
                case x5e => first | omega | (simp; omega)
                intro v5 w5 ho5 hg5 _
                have hL5 : Lat w8 w5 := Lat.grown (hL3.alloc _) hg5 HOB.out
                have ho5' : w5.ownsRow w8.heap.size 9 1 v5 (E.length + 1) ((E ++ [k]).map numeral) := by
                  rw [List.map_append]
                  exact ho5
                have HOB5 : Hid (∀ g, v5.ownBlock = some g → w8.heap.size ≤ g) := fun g hg => (World.ownsRow.lt ho5' g hg).1
                have hs5 : w8.heap.size ≤ w5.heap.size := hL5.size
                have c5 := hL5.cell HCW.out
                clear ho5 hg5 ho3 hL3
                go_wp2_with (first | (at_builtin; refine wpList_append_own _ rfl (.tmp 147) (.tmp 152) 31 rfl w8.heap.size 9 i0 (.string ⟨#[]⟩) 1 16 Tryd.underlying31 hi hz0 hz1 hz2 rfl (by decide) _ _ _ rfl (ho5'.alloc _) ⟨w5.heap.size, 0, none⟩ 1 1 [.string s] rfl rfl ?x6a ?x6b ?x6c ?x6d ?x6e ?_))
                case x6a =>
                  intro j u hj
                  match j, hj with
                  | 0, hj => simp at hj; subst hj; simp [Addr.add]
                case x6b => first | rfl | (intro u hu; simp at hu; subst hu; rfl)
                case x6c => unfold maxLen; omega
                case x6d => omega
                case x6e => first | omega | (simp; omega)
                intro v' w4 ho4 hg4 _
                have hL4 : Lat w8 w4 := Lat.grown (hL5.alloc _) hg4 HOB5.out
                have HO4 : Hid (w4.ownsRow w8.heap.size 9 1 v' (E ++ [k, x]).length ((E ++ [k, x]).map numeral)) := by
                  have h : w4.ownsRow w8.heap.size 9 1 v' (E ++ [k, x]).length ((E ++ [k, x]).map numeral) := by
                    have e : (E ++ [k, x]).map numeral = E.map numeral ++ [numeral k, Value.string s] := by simp [numeral, ← SX.out, mk_bs]
                    have e2 : (E ++ [k, x]).length = E.length + 1 + 1 := by simp
                    rw [e, e2]
                    exact ho4
                  exact h
                clear ho4 hg4
                go_wp2_with fail
                go_roundw
                case rel => exact ⟨i + 1, E ++ [k, x], true, x, by omega, by go_num, rfl, rfl, ES.out, fun _ => by simpa using HX.out, HO4.out, hL4⟩
                case measure => simp [intOf]; omega
              · have dkx : decide (k < x) = false := decide_eq_false hkx
                obtain ⟨p, hp⟩ : ∃ p, p = false := ⟨_, rfl⟩
                have ES : Hid (plc k (T0.take (i + 1)) = (E ++ [x], p)) := by
                  have h : plc k (T0.take (i + 1)) = (E ++ [x], p) := by rw [TK.out, stp, if_neg (fun h => hkx h.2), hp]
                  exact h
                go_wp2_with (first | (at_builtin; refine wpList_append_own _ rfl (.tmp 147) (.tmp 152) 31 rfl w8.heap.size 9 i0 (.string ⟨#[]⟩) 1 16 Tryd.underlying31 hi hz0 hz1 hz2 rfl (by decide) _ _ _ rfl (ho.alloc _) ⟨wr.heap.size, 0, none⟩ 1 1 [.string s] rfl rfl ?x7a ?x7b ?x7c ?x7d ?x7e ?_))
                case x7b => first | rfl | (intro u hu; simp at hu; subst hu; rfl)
                case x7c => unfold maxLen; omega
                case x7d => omega
                case x7e => first | omega | (simp; omega)
                intro v' w4 ho4 hg4 _
                have hL4 : Lat w8 w4 := Lat.grown (hL.alloc _) hg4 HOB.out
                have HO4 : Hid (w4.ownsRow w8.heap.size 9 1 v' (E ++ [x]).length ((E ++ [x]).map numeral)) := by
                  have h : w4.ownsRow w8.heap.size 9 1 v' (E ++ [x]).length ((E ++ [x]).map numeral) := by
                    rw [List.length_append, List.map_append]
                    have e : ([x].map numeral) = [Value.string s] := by simp [numeral, ← SX.out, mk_bs]
                    rw [e]
                    exact ho4
                  exact h
                clear ho4 hg4 ho
                go_wp2_with fail
                go_roundw
                case rel => exact ⟨i + 1, E ++ [x], p, x, by omega, by go_num, by rw [hp], rfl, ES.out, fun _ => by simpa using HX.out, HO4.out, hL4⟩
                case measure => simp [intOf]; omega
            · skip
              obtain ⟨p, hp⟩ : ∃ p, p = true := ⟨_, rfl⟩
              have ES : Hid (plc k (T0.take (i + 1)) = (E ++ [x], p)) := by
                have h : plc k (T0.take (i + 1)) = (E ++ [x], p) := by rw [TK.out, stp, if_neg (fun h => by cases h.1), hp]
                exact h
              go_wp2_with (first | (at_builtin; refine wpList_append_own _ rfl (.tmp 147) (.tmp 152) 31 rfl w8.heap.size 9 i0 (.string ⟨#[]⟩) 1 16 Tryd.underlying31 hi hz0 hz1 hz2 rfl (by decide) _ _ _ rfl (ho.alloc _) ⟨wr.heap.size, 0, none⟩ 1 1 [.string s] rfl rfl ?x8a ?x8b ?x8c ?x8d ?x8e ?_))
              case x8a =>
                intro j u hj
                match j, hj with
                | 0, hj => simp at hj; subst hj; simp [Addr.add]
              case x8b => first | rfl | (intro u hu; simp at hu; subst hu; rfl)
              case x8c => unfold maxLen; omega
              case x8d => omega
              case x8e => first | omega | (simp; omega)
              intro v' w4 ho4 hg4 _
              have hL4 : Lat w8 w4 := Lat.grown (hL.alloc _) hg4 HOB.out
              have HO4 : Hid (w4.ownsRow w8.heap.size 9 1 v' (E ++ [x]).length ((E ++ [x]).map numeral)) := by
                have h : w4.ownsRow w8.heap.size 9 1 v' (E ++ [x]).length ((E ++ [x]).map numeral) := by
                  rw [List.length_append, List.map_append]
                  have e : ([x].map numeral) = [Value.string s] := by simp [numeral, ← SX.out, mk_bs]
                  rw [e]
                  exact ho4
                exact h
              clear ho4 hg4 ho
              go_wp2_with fail
              go_roundw
              case rel => exact ⟨i + 1, E ++ [x], p, x, by omega, by go_num, by rw [hp], rfl, ES.out, fun _ => by simpa using HX.out, HO4.out, hL4⟩
              case measure => simp [intOf]; omega
        obtain rfl : i = T0.length := by omega
        -- the end
        have TL : Hid (plc k T0 = (E, p)) := by
          have h := hpl
          rw [List.take_length] at h
          exact h
        have EFT : Hid (fin k T0 = T1) := by
          have h : fin k T0 = T1 := by
            obtain ⟨h1, h2⟩ := fin_spec S0.out KT.out
            refine sorted_ext h1 S1.out fun y => ?_
            rw [h2 y, N1.out y, N0.out y, EG.out]
            unfold upd
            by_cases e : y = k
            · simp [e]
            · simp [e]
          exact h
        have ET1 : Hid (∀ F : List Int, F = T1 → mk (jn ((F.map fun z => mk (Lib.itoa z)).map bs)) = t1) := fun F hF => by
          subst hF
          apply bs_inj
          rw [bs_mk, X1.out, List.map_map]
          have e : (bs ∘ fun z => mk (Lib.itoa z)) = Lib.itoa := by funext y; exact bs_mk _
          rw [e]
          rfl
        have WF1 : Hid (∀ F : List Int, F = T1 → ∀ y ∈ F, (Lit.int .i64 y).wf = true) := fun F hF y hy => by
          subst hF
          rw [← EFT.out] at hy
          rcases ((fin_spec S0.out KT.out).2 y).1 hy with h | rfl
          · exact TWF.out y h
          · exact HK.out
        have JO : Hid (∀ (W : World) (v : Value) (F : List Int), F = T1 → F.length ≤ 131073 → W.ownsRow w8.heap.size 9 1 v F.length (F.map numeral) → Calls Tryd.prog 10 #[v] W fun e w' => e = .returned (.string t1) ∧ Lat W w') := fun W v F hF hl hown => by
          have hown' : W.ownsRow w8.heap.size 9 1 v (F.map fun z => mk (Lib.itoa z)).length ((F.map fun z => mk (Lib.itoa z)).map Value.string) := by
            rw [List.length_map, List.map_map]
            exact hown
          obtain ⟨a9, c9, rfl, hss⟩ := own_ss hown'
          have h := joinC_any a9 c9 (F.map fun z => mk (Lib.itoa z)) W hss (by rw [List.length_map]; omega) (fun s hs => by
            obtain ⟨y, hy, rfl⟩ := List.mem_map.1 hs
            have := numeral_size (WF1.out F hF y hy)
            omega)
          rw [ET1.out F hF] at h
          exact h
        clear hlt
        cases p
        · have FE : Hid (E ++ [k] = T1) := by
            have h : E ++ [k] = T1 := by rw [← EFT.out]; unfold fin; rw [TL.out]; rfl
            exact h
          have HD := dec_any k wr HK.out
          clear hprev hpl
          go_wp2_with fail
          refine HD.mono ?_
          rintro e w3 ⟨rfl, k3⟩
          have ho3 := own_later ho k3
          have hL3 := hL.trans k3
          have hs3 : w8.heap.size ≤ w3.heap.size := hL3.size
          clear HD ho k3 hL
          unfold numeral
          go_wp2_with (first | (at_builtin; refine wpList_append_own _ rfl (.tmp 156) (.tmp 159) 31 rfl w8.heap.size 9 i0 (.string ⟨#[]⟩) 1 16 Tryd.underlying31 hi hz0 hz1 hz2 rfl (by decide) _ _ _ rfl (ho3.alloc _) ⟨w3.heap.size, 0, none⟩ 1 1 [.string (mk (Lib.itoa k))] rfl rfl ?x9a ?x9b ?x9c ?x9d ?x9e ?_))
          case x9a =>
            intro j u hj
            match j, hj with
            | 0, hj => simp at hj; subst hj; simp [Addr.add]
          case x9b => first | rfl | (intro u hu; simp at hu; subst hu; rfl)
          case x9c => unfold maxLen; omega
          case x9d => omega
          case x9e => first | omega | (simp; omega)
          intro v5 w5 ho5 hg5 _
          have hL5 : Lat w8 w5 := Lat.grown (hL3.alloc _) hg5 HOB.out
          have ho5' : w5.ownsRow w8.heap.size 9 1 v5 (E ++ [k]).length ((E ++ [k]).map numeral) := by
            rw [List.length_append, List.map_append]
            exact ho5
          have CJ := JO.out w5 v5 (E ++ [k]) FE.out (by simp; omega) ho5'
          clear ho5 hg5 ho3 hL3 ho5'
          go_wp2_with fail
          refine CJ.mono ?_
          rintro e w9 ⟨rfl, k9⟩
          go_wp2_with fail
          go_ret
          exact ⟨by simp, HL8.out.trans (hL5.trans k9)⟩
        · have FE : Hid (E = T1) := by
            have h : E = T1 := by rw [← EFT.out]; unfold fin; rw [TL.out]; rfl
            exact h
          have CJ := JO.out wr u21 E FE.out (by omega) ho
          clear hprev hpl ho
          go_wp2_with fail
          refine CJ.mono ?_
          rintro e w9 ⟨rfl, k9⟩
          go_wp2_with fail
          go_ret
          exact ⟨by simp, HL8.out.trans (hL.trans k9)⟩
end Go.Proofs.Qxb6630339aDoor
