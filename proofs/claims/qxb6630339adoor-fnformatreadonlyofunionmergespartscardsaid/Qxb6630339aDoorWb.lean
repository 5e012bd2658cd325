/- The walk of FnFormatReadOnlyOfUnionMergesParts. -/
import Derived.Test.Qxb6630339aDoorTq
import Derived.Deep.DrawnRows
import Derived.BigQuiet
namespace Go.Proofs.Qxb6630339aDoor
open Go.RowKit Go.Maps

set_option maxRecDepth 100000 in
set_option maxHeartbeats 40000000 in
theorem uni_walk (a1 b1 a2 b2 : Option Addr) (c1 c2 c3 c4 : Nat) (ka : List Int) (va : List Bool) (kb : List Int) (vb : List Bool) (w : World) (ha : InAt w a1 ka) (hva : BoAt w b1 va) (hb : InAt w a2 kb) (hvb : BoAt w b2 vb)
    (hfa : ∀ z ∈ ka, (Lit.int .i64 z).wf = true) (hfb : ∀ z ∈ kb, (Lit.int .i64 z).wf = true)
    (l1 : ka.length ≤ 9223372036854775807) (l2 : va.length ≤ 9223372036854775807) (l3 : kb.length ≤ 9223372036854775807) (l4 : vb.length ≤ 9223372036854775807) (htab : Lib.TabIs Tryd.prog w "internal/strconv.uint64pow10" .u64 Lib.pow10Tab) :
    Calls Tryd.prog 4 #[.slice a1 ka.length c1, .slice b1 va.length c2, .slice a2 kb.length c3, .slice b2 vb.length c4] w fun e w' => e = .returned (.bool true) ∧ Lat w w' := by
  have HA : Hid (InAt w a1 ka) := ha
  have HVA : Hid (BoAt w b1 va) := hva
  have HB : Hid (InAt w a2 kb) := hb
  have HVB : Hid (BoAt w b2 vb) := hvb
  have WFA : Hid (∀ z ∈ ka, (Lit.int .i64 z).wf = true) := hfa
  have WFB : Hid (∀ z ∈ kb, (Lit.int .i64 z).wf = true) := hfb
  have HT : Hid (Lib.TabIs Tryd.prog w "internal/strconv.uint64pow10" .u64 Lib.pow10Tab) := htab
  clear ha hva hb hvb hfa hfb htab
  go_enter Tryd.func4, Tryd.ntmps4
  go_wp2_with fail
  refine (zz2_any a1 b1 a2 b2 ka.length va.length kb.length vb.length c1 c2 c3 c4 w l1 l2 l3 l4).mono ?_
  rintro e w' ⟨⟨r, rfl⟩, hw⟩
  obtain rfl := hw.symm
  clear hw
  cases r
  · go_wp2_with fail
    go_ret
    exact ⟨rfl, Lat.refl w⟩
  by_cases g0 : ka.length ≤ 32768
  rotate_left
  · have d0 : decide ((32768 : Int) < (ka.length : Int)) = true := decide_eq_true (by omega)
    go_wp2_with fail
    go_ret
    exact ⟨rfl, Lat.refl w⟩
  have d0 : decide ((32768 : Int) < (ka.length : Int)) = false := decide_eq_false (by omega)
  by_cases g1 : va.length ≤ 32768
  rotate_left
  · have d1 : decide ((32768 : Int) < (va.length : Int)) = true := decide_eq_true (by omega)
    go_wp2_with fail
    go_ret
    exact ⟨rfl, Lat.refl w⟩
  have d1 : decide ((32768 : Int) < (va.length : Int)) = false := decide_eq_false (by omega)
  by_cases g2 : kb.length ≤ 32768
  rotate_left
  · have d2 : decide ((32768 : Int) < (kb.length : Int)) = true := decide_eq_true (by omega)
    go_wp2_with fail
    go_ret
    exact ⟨rfl, Lat.refl w⟩
  have d2 : decide ((32768 : Int) < (kb.length : Int)) = false := decide_eq_false (by omega)
  by_cases g3 : vb.length ≤ 32768
  rotate_left
  · have d3 : decide ((32768 : Int) < (vb.length : Int)) = true := decide_eq_true (by omega)
    go_wp2_with fail
    go_ret
    exact ⟨rfl, Lat.refl w⟩
  have d3 : decide ((32768 : Int) < (vb.length : Int)) = false := decide_eq_false (by omega)
  go_wp2_with fail
  refine (pc_any a1 b1 ka.length va.length c1 c2 w).mono ?_
  rintro e w' ⟨rfl, hw⟩
  obtain rfl := hw.symm
  clear hw d0 d1 d2 d3
  obtain ⟨na, hna⟩ : ∃ n, n = min ka.length va.length := ⟨_, rfl⟩
  rw [← hna]
  have na1 : na ≤ ka.length := by omega
  have na2 : na ≤ va.length := by omega
  clear hna
  go_wp2_with fail
  refine (pc_any a2 b2 kb.length vb.length c3 c4 w).mono ?_
  rintro e w' ⟨rfl, hw⟩
  obtain rfl := hw.symm
  clear hw
  obtain ⟨nb, hnb⟩ : ∃ n, n = min kb.length vb.length := ⟨_, rfl⟩
  rw [← hnb]
  have nb1 : nb ≤ kb.length := by omega
  have nb2 : nb ≤ vb.length := by omega
  clear hnb
  -- the first map
  have hm := makeMap26
  obtain ⟨W1, hW1⟩ : ∃ W1, W1 = w.alloc (.map #[] 0) := ⟨_, rfl⟩
  have M1 : Hid (MB W1 w.heap.size 0 (fun _ => none)) := by
    have h : MB W1 w.heap.size 0 (fun _ => none) := by rw [hW1]; exact MB.made w
    exact h
  have L1 : Hid (Lat w W1) := by
    have h : Lat w W1 := by rw [hW1]; exact (Lat.refl w).alloc _
    exact h
  have HW1 : Hid (w.alloc (.map #[] 0) = W1) := hW1.symm
  clear hW1
  go_wp2_with fail
  rw [HW1.out]
  clear HW1 hm
  obtain ⟨m1, hm1⟩ : ∃ m, m = w.heap.size := ⟨_, rfl⟩
  rw [← hm1]
  rw [← hm1] at M1
  have hm1w : w.heap.size ≤ m1 := by omega
  clear hm1
  go_loopw [12] (fun i wr => ∃ j : Nat, j ≤ na ∧ i = .int .i64 j ∧ MB wr m1 j (fp ka va j) ∧ Lat w wr) (fun i _ => na - (intOf i).toNat)
  case atStart => exact ⟨0, Nat.zero_le _, rfl, M1.out, L1.out⟩
  case round =>
    obtain ⟨j, hj, rfl, B1, hL⟩ := hrel
    clear M1 L1
    by_cases hlt : j < na
    · obtain ⟨x, hx⟩ : ∃ x, ka[j]? = some x := ⟨_, List.getElem?_eq_getElem (by omega)⟩
      obtain ⟨v, hv⟩ : ∃ v, va[j]? = some v := ⟨_, List.getElem?_eq_getElem (by omega)⟩
      obtain ⟨ba, oa, rfl, da⟩ := HA.out j x hx
      obtain ⟨bb, ob, rfl, db⟩ := HVA.out j v hv
      have hwx := WFA.out x (List.mem_of_getElem? hx)
      have FS : Hid (fp ka va (j + 1) = upd (fp ka va j) x v) := fp_succ hx hv
      have ca0 := hL.cell da
      have cb0 := hL.cell db
      have B1d : MB wr.drew m1 j (fp ka va j) := B1.of_block rfl
      obtain ⟨W3, r3, P3, g3⟩ := B1d.put (by omega) hwx v
      have F3 : Hid (Lat w W3) := Lat.grown hL.drew g3 (fun g hg => by cases hg; exact hm1w)
      have F1 : Hid (MB W3 m1 (j + 1) (fp ka va (j + 1))) := by
        have h : MB W3 m1 (j + 1) (fp ka va (j + 1)) := by rw [FS.out]; exact P3
        exact h
      have j0 : (0 : Int) ≤ (j : Int) := by omega
      have j1 : (j : Int) < (ka.length : Int) := by omega
      have j2 : (j : Int) < (va.length : Int) := by omega
      clear hx hv da db FS B1 B1d P3 g3 hL hwx
      go_wp2_with fail
      go_region
      clear r3 ca0 cb0
      go_wp2_with fail
      go_roundw
      case rel => exact ⟨j + 1, by omega, by go_num, F1.out, F3.out⟩
      case measure => simp [intOf]; omega
    obtain rfl : na = j := by omega
    obtain ⟨f, hf⟩ : ∃ f, f = fp ka va na := ⟨_, rfl⟩
    rw [← hf] at B1
    have EF : Hid (f = fp ka va na) := hf
    clear hf hlt hj
    have hm := makeMap26
    obtain ⟨W2, hW2⟩ : ∃ W2, W2 = wr.alloc (.map #[] 0) := ⟨_, rfl⟩
    have N1 : Hid (MB W2 m1 na f) := by
      have h : MB W2 m1 na f := by rw [hW2]; exact B1.later ((Lat.refl wr).alloc _)
      exact h
    have mlm1 : m1 < wr.heap.size := B1.lt
    have N2 : Hid (MB W2 wr.heap.size 0 (fun _ => none)) := by
      have h : MB W2 wr.heap.size 0 (fun _ => none) := by rw [hW2]; exact MB.made wr
      exact h
    have L2 : Hid (Lat w W2) := by
      have h : Lat w W2 := by rw [hW2]; exact hL.alloc _
      exact h
    have HW2 : Hid (wr.alloc (.map #[] 0) = W2) := hW2.symm
    have hsz : w.heap.size ≤ wr.heap.size := hL.size
    clear hW2 hL B1
    go_wp2_with fail
    rw [HW2.out]
    clear HW2 hm
    obtain ⟨m2, hm2⟩ : ∃ m, m = wr.heap.size := ⟨_, rfl⟩
    rw [← hm2]
    rw [← hm2] at N2
    have hm2w : w.heap.size ≤ m2 := by omega
    have hm1m2 : m1 ≠ m2 := by omega
    clear hm2 hsz mlm1
    go_loopw [14] (fun i wr => ∃ j : Nat, j ≤ nb ∧ i = .int .i64 j ∧ MB wr m2 j (fp kb vb j) ∧ MB wr m1 na f ∧ Lat w wr) (fun i _ => nb - (intOf i).toNat)
    case atStart => exact ⟨0, Nat.zero_le _, rfl, N2.out, N1.out, L2.out⟩
    case round =>
      obtain ⟨j, hj, rfl, B1, C1, hL⟩ := hrel
      clear N1 N2 L2
      by_cases hlt : j < nb
      · obtain ⟨x, hx⟩ : ∃ x, kb[j]? = some x := ⟨_, List.getElem?_eq_getElem (by omega)⟩
        obtain ⟨v, hv⟩ : ∃ v, vb[j]? = some v := ⟨_, List.getElem?_eq_getElem (by omega)⟩
        obtain ⟨ba, oa, rfl, da⟩ := HB.out j x hx
        obtain ⟨bb, ob, rfl, db⟩ := HVB.out j v hv
        have hwx := WFB.out x (List.mem_of_getElem? hx)
        have FS : Hid (fp kb vb (j + 1) = upd (fp kb vb j) x v) := fp_succ hx hv
        have ca0 := hL.cell da
        have cb0 := hL.cell db
        have B1d : MB wr.drew m2 j (fp kb vb j) := B1.of_block rfl
        obtain ⟨W3, r3, P3, g3⟩ := B1d.put (by omega) hwx v
        have F3 : Hid (Lat w W3) := Lat.grown hL.drew g3 (fun g hg => by cases hg; exact hm2w)
        have F1 : Hid (MB W3 m2 (j + 1) (fp kb vb (j + 1))) := by
          have h : MB W3 m2 (j + 1) (fp kb vb (j + 1)) := by rw [FS.out]; exact P3
          exact h
        have F2 : Hid (MB W3 m1 na f) := (show MB wr.drew m1 na f from C1.of_block rfl).other g3 hm1m2
        clear C1
        have j0 : (0 : Int) ≤ (j : Int) := by omega
        have j1 : (j : Int) < (kb.length : Int) := by omega
        have j2 : (j : Int) < (vb.length : Int) := by omega
        clear hx hv da db FS B1 B1d P3 g3 hL hwx
        go_wp2_with fail
        go_region
        clear r3 ca0 cb0
        go_wp2_with fail
        go_roundw
        case rel => exact ⟨j + 1, by omega, by go_num, F1.out, F2.out, F3.out⟩
        case measure => simp [intOf]; omega
      obtain rfl : nb = j := by omega
      obtain ⟨g, hg⟩ : ∃ g, g = fp kb vb nb := ⟨_, rfl⟩
      rw [← hg] at B1
      have EG : Hid (g = fp kb vb nb) := hg
      clear hg hlt hj
      have hm := makeMap26
      obtain ⟨W2, hW2⟩ : ∃ W2, W2 = wr.alloc (.map #[] 0) := ⟨_, rfl⟩
      have N1 : Hid (MB W2 m1 na f) := by
        have h : MB W2 m1 na f := by rw [hW2]; exact C1.later ((Lat.refl wr).alloc _)
        exact h
      have mlm1 : m1 < wr.heap.size := C1.lt
      have N2 : Hid (MB W2 m2 nb g) := by
        have h : MB W2 m2 nb g := by rw [hW2]; exact B1.later ((Lat.refl wr).alloc _)
        exact h
      have mlm2 : m2 < wr.heap.size := B1.lt
      have N3 : Hid (MB W2 wr.heap.size 0 (fun _ => none)) := by
        have h : MB W2 wr.heap.size 0 (fun _ => none) := by rw [hW2]; exact MB.made wr
        exact h
      have L2 : Hid (Lat w W2) := by
        have h : Lat w W2 := by rw [hW2]; exact hL.alloc _
        exact h
      have HW2 : Hid (wr.alloc (.map #[] 0) = W2) := hW2.symm
      have hsz : w.heap.size ≤ wr.heap.size := hL.size
      clear hW2 hL C1 B1
      go_wp2_with fail
      rw [HW2.out]
      clear HW2 hm
      obtain ⟨m3, hm3⟩ : ∃ m, m = wr.heap.size := ⟨_, rfl⟩
      rw [← hm3]
      rw [← hm3] at N3
      have hm3w : w.heap.size ≤ m3 := by omega
      have hm1m3 : m1 ≠ m3 := by omega
      have hm2m3 : m2 ≠ m3 := by omega
      clear hm3 hsz mlm1 mlm2
      obtain ⟨K, hK⟩ : ∃ K, K = pool ka kb na nb := ⟨_, rfl⟩
      have EK : Hid (K = pool ka kb na nb) := hK
      have KA : Hid (∀ i x, i < na → ka[i]? = some x → K[i]? = some x) := fun i x hi hx => by rw [EK.out, pool_a na1 hi]; exact hx
      have KB : Hid (∀ i x, i < nb → kb[i]? = some x → K[na + i]? = some x) := fun i x hi hx => by rw [EK.out, pool_b na1 hi]; exact hx
      have KL : Hid (K.length = na + nb) := by
        have h : K.length = na + nb := by rw [hK]; exact pool_len na1 nb1
        exact h
      have KW : Hid (∀ z ∈ K, (Lit.int .i64 z).wf = true) := fun z hz => by
        rw [EK.out] at hz
        rcases pool_mem hz with h | h
        · exact WFA.out z h
        · exact WFB.out z h
      have N0 : Hid (MB W2 m3 0 (uni K f g 0)) := by
        have h : MB W2 m3 0 (uni K f g 0) := by rw [uni_zero]; exact N3.out
        exact h
      clear hK N3
      go_loopw [16] (fun i wr => ∃ j : Nat, j ≤ na ∧ i = .int .i64 j ∧ MB wr m1 na f ∧ MB wr m2 nb g ∧ MB wr m3 (j) (uni K f g (j)) ∧ Lat w wr) (fun i _ => na - (intOf i).toNat)
      case atStart => exact ⟨0, Nat.zero_le _, rfl, N1.out, N2.out, N0.out, L2.out⟩
      case round =>
        obtain ⟨j, hj, rfl, B1, B2, B3, hL⟩ := hrel
        clear N0 N1 N2 L2
        by_cases hlt : j < na
        · obtain ⟨x, hx⟩ : ∃ x, ka[j]? = some x := ⟨_, List.getElem?_eq_getElem (by omega)⟩
          obtain ⟨ba, oa, rfl, da⟩ := HA.out j x hx
          have hwx := WFA.out x (List.mem_of_getElem? hx)
          have US : Hid (uni K f g (j + 1) = upd (uni K f g (j)) x (on f x || on g x)) := uni_succ (KA.out j x hlt hx)
          have ca0 := hL.cell da
          have lk1 := B1.look hwx
          have j0 : (0 : Int) ≤ (j : Int) := by omega
          have j1 : (j : Int) < (ka.length : Int) := by omega
          cases hon : on f x
          · rw [hon] at lk1
            have lk2 := B2.look hwx
            obtain ⟨W3, r3, P3, g3⟩ := B3.put (by omega) hwx (on g x)
            have F0 : Hid (Lat w W3) := Lat.grown hL g3 (fun g hg => by cases hg; exact hm3w)
            have F1 : Hid (MB W3 m1 na f) := B1.other g3 hm1m3
            have F2 : Hid (MB W3 m2 nb g) := B2.other g3 hm2m3
            have F3 : Hid (MB W3 m3 (j + 1) (uni K f g (j + 1))) := by
              have h : MB W3 m3 (j + 1) (uni K f g (j + 1)) := by
                rw [US.out, hon]
                exact P3
              exact h
            clear hx da US B1 B2 B3 P3 g3 hL hwx hon
            go_wp2_with fail
            go_roundw
            case rel => exact ⟨j + 1, by omega, by go_num, F1.out, F2.out, F3.out, F0.out⟩
            case measure => simp [intOf]; omega
          · rw [hon] at lk1
            skip
            obtain ⟨W3, r3, P3, g3⟩ := B3.put (by omega) hwx true
            have F0 : Hid (Lat w W3) := Lat.grown hL g3 (fun g hg => by cases hg; exact hm3w)
            have F1 : Hid (MB W3 m1 na f) := B1.other g3 hm1m3
            have F2 : Hid (MB W3 m2 nb g) := B2.other g3 hm2m3
            have F3 : Hid (MB W3 m3 (j + 1) (uni K f g (j + 1))) := by
              have h : MB W3 m3 (j + 1) (uni K f g (j + 1)) := by
                rw [US.out, hon]
                exact P3
              exact h
            clear hx da US B1 B2 B3 P3 g3 hL hwx hon
            go_wp2_with fail
            go_roundw
            case rel => exact ⟨j + 1, by omega, by go_num, F1.out, F2.out, F3.out, F0.out⟩
            case measure => simp [intOf]; omega
        obtain rfl : na = j := by omega
        clear hlt hj
        have O1 : Hid (MB wr m1 na f) := B1
        have O2 : Hid (MB wr m2 nb g) := B2
        have O3 : Hid (MB wr m3 na (uni K f g na)) := B3
        have OL : Hid (Lat w wr) := hL
        clear B1 B2 B3 hL
        go_wp2_with fail
        go_loopw [18] (fun i wr => ∃ j : Nat, j ≤ nb ∧ i = .int .i64 j ∧ MB wr m1 na f ∧ MB wr m2 nb g ∧ MB wr m3 (na + j) (uni K f g (na + j)) ∧ Lat w wr) (fun i _ => nb - (intOf i).toNat)
        case atStart => exact ⟨0, Nat.zero_le _, rfl, O1.out, O2.out, O3.out, OL.out⟩
        case round =>
          obtain ⟨j, hj, rfl, B1, B2, B3, hL⟩ := hrel
          clear O1 O2 O3 OL
          by_cases hlt : j < nb
          · obtain ⟨x, hx⟩ : ∃ x, kb[j]? = some x := ⟨_, List.getElem?_eq_getElem (by omega)⟩
            obtain ⟨ba, oa, rfl, da⟩ := HB.out j x hx
            have hwx := WFB.out x (List.mem_of_getElem? hx)
            have US : Hid (uni K f g (na + j + 1) = upd (uni K f g (na + j)) x (on f x || on g x)) := uni_succ (KB.out j x hlt hx)
            have ca0 := hL.cell da
            have lk1 := B1.look hwx
            have j0 : (0 : Int) ≤ (j : Int) := by omega
            have j1 : (j : Int) < (kb.length : Int) := by omega
            cases hon : on f x
            · rw [hon] at lk1
              have lk2 := B2.look hwx
              obtain ⟨W3, r3, P3, g3⟩ := B3.put (by omega) hwx (on g x)
              have F0 : Hid (Lat w W3) := Lat.grown hL g3 (fun g hg => by cases hg; exact hm3w)
              have F1 : Hid (MB W3 m1 na f) := B1.other g3 hm1m3
              have F2 : Hid (MB W3 m2 nb g) := B2.other g3 hm2m3
              have F3 : Hid (MB W3 m3 (na + j + 1) (uni K f g (na + j + 1))) := by
                have h : MB W3 m3 (na + j + 1) (uni K f g (na + j + 1)) := by
                  rw [US.out, hon]
                  exact P3
                exact h
              clear hx da US B1 B2 B3 P3 g3 hL hwx hon
              go_wp2_with fail
              go_roundw
              case rel => exact ⟨j + 1, by omega, by go_num, F1.out, F2.out, F3.out, F0.out⟩
              case measure => simp [intOf]; omega
            · rw [hon] at lk1
              skip
              obtain ⟨W3, r3, P3, g3⟩ := B3.put (by omega) hwx true
              have F0 : Hid (Lat w W3) := Lat.grown hL g3 (fun g hg => by cases hg; exact hm3w)
              have F1 : Hid (MB W3 m1 na f) := B1.other g3 hm1m3
              have F2 : Hid (MB W3 m2 nb g) := B2.other g3 hm2m3
              have F3 : Hid (MB W3 m3 (na + j + 1) (uni K f g (na + j + 1))) := by
                have h : MB W3 m3 (na + j + 1) (uni K f g (na + j + 1)) := by
                  rw [US.out, hon]
                  exact P3
                exact h
              clear hx da US B1 B2 B3 P3 g3 hL hwx hon
              go_wp2_with fail
              go_roundw
              case rel => exact ⟨j + 1, by omega, by go_num, F1.out, F2.out, F3.out, F0.out⟩
              case measure => simp [intOf]; omega
          obtain rfl : nb = j := by omega
          obtain ⟨h, hh⟩ : ∃ h, h = uni K f g (na + nb) := ⟨_, rfl⟩
          rw [← hh] at B3
          have EH : Hid (h = uni K f g (na + nb)) := hh
          clear hh hlt hj
          have hm := makeMap26
          obtain ⟨W2, hW2⟩ : ∃ W2, W2 = wr.alloc (.map #[] 0) := ⟨_, rfl⟩
          have N1 : Hid (MB W2 m1 na f) := by
            have h : MB W2 m1 na f := by rw [hW2]; exact B1.later ((Lat.refl wr).alloc _)
            exact h
          have mlm1 : m1 < wr.heap.size := B1.lt
          have N2 : Hid (MB W2 m2 nb g) := by
            have h : MB W2 m2 nb g := by rw [hW2]; exact B2.later ((Lat.refl wr).alloc _)
            exact h
          have mlm2 : m2 < wr.heap.size := B2.lt
          have N3 : Hid (MB W2 m3 (na + nb) h) := by
            have h : MB W2 m3 (na + nb) h := by rw [hW2]; exact B3.later ((Lat.refl wr).alloc _)
            exact h
          have mlm3 : m3 < wr.heap.size := B3.lt
          have N4 : Hid (MB W2 wr.heap.size 0 (fun _ => none)) := by
            have h : MB W2 wr.heap.size 0 (fun _ => none) := by rw [hW2]; exact MB.made wr
            exact h
          have L2 : Hid (Lat w W2) := by
            have h : Lat w W2 := by rw [hW2]; exact hL.alloc _
            exact h
          have HW2 : Hid (wr.alloc (.map #[] 0) = W2) := hW2.symm
          have hsz : w.heap.size ≤ wr.heap.size := hL.size
          clear hW2 hL B1 B2 B3
          go_wp2_with fail
          rw [HW2.out]
          clear HW2 hm
          obtain ⟨m4, hm4⟩ : ∃ m, m = wr.heap.size := ⟨_, rfl⟩
          rw [← hm4]
          rw [← hm4] at N4
          have hm4w : w.heap.size ≤ m4 := by omega
          have hm1m4 : m1 ≠ m4 := by omega
          have hm2m4 : m2 ≠ m4 := by omega
          have hm3m4 : m3 ≠ m4 := by omega
          clear hm4 hsz mlm1 mlm2 mlm3
          have N0 : Hid (MB W2 m4 0 (cnt [])) := by
            have h : MB W2 m4 0 (cnt []) := by rw [cnt_nil]; exact N4.out
            exact h
          clear N4
          go_loopw [21, 22] (fun c i wr => ∃ (j : Nat) (seen : List Int), j ≤ na ∧ i = .int .i64 j ∧ c = .int .i64 seen.length ∧ seen.length ≤ j ∧ Seen K h (j) seen ∧ MB wr m4 (j) (cnt seen) ∧ MB wr m1 na f ∧ MB wr m2 nb g ∧ MB wr m3 (na + nb) h ∧ Lat w wr) (fun _ i _ => na - (intOf i).toNat)
          case atStart => exact ⟨0, [], Nat.zero_le _, rfl, rfl, Nat.le_refl _, seen_nil K h, N0.out, N1.out, N2.out, N3.out, L2.out⟩
          case round =>
            obtain ⟨j, seen, hj, rfl, rfl, hsq, hS, B4, B1, B2, B3, hL⟩ := hrel
            clear N0 N1 N2 N3 L2
            by_cases hlt : j < na
            · obtain ⟨x, hx⟩ : ∃ x, ka[j]? = some x := ⟨_, List.getElem?_eq_getElem (by omega)⟩
              obtain ⟨ba, oa, rfl, da⟩ := HA.out j x hx
              have hwx := WFA.out x (List.mem_of_getElem? hx)
              have hKx := KA.out j x hlt hx
              have ca0 := hL.cell da
              have lk1 := B3.look hwx
              have j0 : (0 : Int) ≤ (j : Int) := by omega
              have j1 : (j : Int) < (ka.length : Int) := by omega
              have H1 : Hid (MB wr m1 na f) := B1
              have H2 : Hid (MB wr m2 nb g) := B2
              have H3 : Hid (MB wr m3 (na + nb) h) := B3
              have HL : Hid (Lat w wr) := hL
              cases hon : on h x
              · rw [hon] at lk1
                have SN : Hid (Seen K h (j + 1) seen) := hS.off hKx hon
                have H4 : Hid (MB wr m4 (j + 1) (cnt seen)) := B4.more
                clear hS B1 B2 B3 B4 hL hx da hwx hKx hon
                go_wp2_with fail
                go_roundw
                case rel => exact ⟨j + 1, seen, by omega, by go_num, rfl, by omega, SN.out, H4.out, H1.out, H2.out, H3.out, HL.out⟩
                case measure => simp [intOf]; omega
              · rw [hon] at lk1
                have lk2 := B4.look hwx
                rw [cnt_on] at lk2
                by_cases hin : x ∈ seen
                · rw [decide_eq_true hin] at lk2
                  have SN : Hid (Seen K h (j + 1) seen) := hS.again hKx hin
                  have H4 : Hid (MB wr m4 (j + 1) (cnt seen)) := B4.more
                  clear hS B1 B2 B3 B4 hL hx da hwx hKx hon hin
                  go_wp2_with fail
                  go_roundw
                  case rel => exact ⟨j + 1, seen, by omega, by go_num, rfl, by omega, SN.out, H4.out, H1.out, H2.out, H3.out, HL.out⟩
                  case measure => simp [intOf]; omega
                · rw [decide_eq_false hin] at lk2
                  obtain ⟨W9, r9, P9, g9⟩ := B4.put (by omega) hwx true
                  have SN : Hid (Seen K h (j + 1) (seen ++ [x])) := hS.fresh hKx hon hin
                  have H4 : Hid (MB W9 m4 (j + 1) (cnt (seen ++ [x]))) := by
                    have h' : MB W9 m4 (j + 1) (cnt (seen ++ [x])) := by rw [cnt_snoc]; exact P9
                    exact h'
                  have K1 : Hid (MB W9 m1 na f) := B1.other g9 hm1m4
                  have K2 : Hid (MB W9 m2 nb g) := B2.other g9 hm2m4
                  have K3 : Hid (MB W9 m3 (na + nb) h) := B3.other g9 hm3m4
                  have HL9 : Hid (Lat w W9) := Lat.grown hL g9 (fun g hg => by cases hg; exact hm4w)
                  clear hS B1 B2 B3 B4 hL hx da hwx hKx hon hin P9 g9 H1 H2 H3 HL
                  go_wp2_with fail
                  go_roundw
                  case rel => exact ⟨j + 1, seen ++ [x], by omega, by go_num, by simp, by simp; omega, SN.out, H4.out, K1.out, K2.out, K3.out, HL9.out⟩
                  case measure => simp [intOf]; omega
            obtain rfl : na = j := by omega
            clear hlt hj
            have O1 : Hid (MB wr m1 na f) := B1
            have O2 : Hid (MB wr m2 nb g) := B2
            have O3 : Hid (MB wr m3 (na + nb) h) := B3
            have O4 : Hid (MB wr m4 na (cnt seen)) := B4
            have OS : Hid (Seen K h na seen) := hS
            have OL : Hid (Lat w wr) := hL
            clear B1 B2 B3 B4 hS hL
            go_wp2_with fail
            go_loopw [21, 24] (fun c i wr => ∃ (j : Nat) (seen : List Int), j ≤ nb ∧ i = .int .i64 j ∧ c = .int .i64 seen.length ∧ seen.length ≤ na + j ∧ Seen K h (na + j) seen ∧ MB wr m4 (na + j) (cnt seen) ∧ MB wr m1 na f ∧ MB wr m2 nb g ∧ MB wr m3 (na + nb) h ∧ Lat w wr) (fun _ i _ => nb - (intOf i).toNat)
            case atStart => exact ⟨0, seen, Nat.zero_le _, rfl, rfl, hsq, OS.out, O4.out, O1.out, O2.out, O3.out, OL.out⟩
            case round =>
              obtain ⟨j, seen, hj, rfl, rfl, hsq, hS, B4, B1, B2, B3, hL⟩ := hrel
              clear O1 O2 O3 O4 OS OL
              by_cases hlt : j < nb
              · obtain ⟨x, hx⟩ : ∃ x, kb[j]? = some x := ⟨_, List.getElem?_eq_getElem (by omega)⟩
                obtain ⟨ba, oa, rfl, da⟩ := HB.out j x hx
                have hwx := WFB.out x (List.mem_of_getElem? hx)
                have hKx := KB.out j x hlt hx
                have ca0 := hL.cell da
                have lk1 := B3.look hwx
                have j0 : (0 : Int) ≤ (j : Int) := by omega
                have j1 : (j : Int) < (kb.length : Int) := by omega
                have H1 : Hid (MB wr m1 na f) := B1
                have H2 : Hid (MB wr m2 nb g) := B2
                have H3 : Hid (MB wr m3 (na + nb) h) := B3
                have HL : Hid (Lat w wr) := hL
                cases hon : on h x
                · rw [hon] at lk1
                  have SN : Hid (Seen K h (na + j + 1) seen) := hS.off hKx hon
                  have H4 : Hid (MB wr m4 (na + j + 1) (cnt seen)) := B4.more
                  clear hS B1 B2 B3 B4 hL hx da hwx hKx hon
                  go_wp2_with fail
                  go_roundw
                  case rel => exact ⟨j + 1, seen, by omega, by go_num, rfl, by omega, SN.out, H4.out, H1.out, H2.out, H3.out, HL.out⟩
                  case measure => simp [intOf]; omega
                · rw [hon] at lk1
                  have lk2 := B4.look hwx
                  rw [cnt_on] at lk2
                  by_cases hin : x ∈ seen
                  · rw [decide_eq_true hin] at lk2
                    have SN : Hid (Seen K h (na + j + 1) seen) := hS.again hKx hin
                    have H4 : Hid (MB wr m4 (na + j + 1) (cnt seen)) := B4.more
                    clear hS B1 B2 B3 B4 hL hx da hwx hKx hon hin
                    go_wp2_with fail
                    go_roundw
                    case rel => exact ⟨j + 1, seen, by omega, by go_num, rfl, by omega, SN.out, H4.out, H1.out, H2.out, H3.out, HL.out⟩
                    case measure => simp [intOf]; omega
                  · rw [decide_eq_false hin] at lk2
                    obtain ⟨W9, r9, P9, g9⟩ := B4.put (by omega) hwx true
                    have SN : Hid (Seen K h (na + j + 1) (seen ++ [x])) := hS.fresh hKx hon hin
                    have H4 : Hid (MB W9 m4 (na + j + 1) (cnt (seen ++ [x]))) := by
                      have h' : MB W9 m4 (na + j + 1) (cnt (seen ++ [x])) := by rw [cnt_snoc]; exact P9
                      exact h'
                    have K1 : Hid (MB W9 m1 na f) := B1.other g9 hm1m4
                    have K2 : Hid (MB W9 m2 nb g) := B2.other g9 hm2m4
                    have K3 : Hid (MB W9 m3 (na + nb) h) := B3.other g9 hm3m4
                    have HL9 : Hid (Lat w W9) := Lat.grown hL g9 (fun g hg => by cases hg; exact hm4w)
                    clear hS B1 B2 B3 B4 hL hx da hwx hKx hon hin P9 g9 H1 H2 H3 HL
                    go_wp2_with fail
                    go_roundw
                    case rel => exact ⟨j + 1, seen ++ [x], by omega, by go_num, by simp, by simp; omega, SN.out, H4.out, K1.out, K2.out, K3.out, HL9.out⟩
                    case measure => simp [intOf]; omega
              obtain rfl : nb = j := by omega
              have P1 : Hid (MB wr m1 na f) := B1
              have P2 : Hid (MB wr m2 nb g) := B2
              have P3 : Hid (MB wr m3 (na + nb) h) := B3
              have OS : Hid (Seen K h (na + nb) seen) := hS
              have OL : Hid (Lat w wr) := hL
              clear B1 B2 B3 B4 hS hL hlt hj
              go_wp2_with fail
              refine (P1.out.fmt (by omega) (tab_lat HT.out OL.out)).mono ?_
              rintro e w5 ⟨⟨A, ta, rfl, hta, sA, mA⟩, k5⟩
              have XA : Hid (bs ta = Lib.join (A.map Lib.itoa) [44]) := hta
              have SA : Hid (A.Pairwise (· < ·)) := sA
              have NA : Hid (∀ z, z ∈ A ↔ f z = some true) := mA
              have L5 : Hid (Lat w w5) := OL.out.trans k5
              have Q2 : Hid (MB w5 m2 nb g) := P2.out.later k5
              have Q3 : Hid (MB w5 m3 (na + nb) h) := P3.out.later k5
              clear hta sA mA k5 P1 P2 P3 OL
              go_wp2_with fail
              refine (Q2.out.fmt (by omega) (tab_lat HT.out L5.out)).mono ?_
              rintro e w6 ⟨⟨B, tb, rfl, htb, sB, mB⟩, k6⟩
              have XB : Hid (bs tb = Lib.join (B.map Lib.itoa) [44]) := htb
              have SB : Hid (B.Pairwise (· < ·)) := sB
              have NB : Hid (∀ z, z ∈ B ↔ g z = some true) := mB
              have L6 : Hid (Lat w w6) := L5.out.trans k6
              have R3 : Hid (MB w6 m3 (na + nb) h) := Q3.out.later k6
              clear htb sB mB k6 Q2 Q3 L5
              go_wp2_with fail
              refine (R3.out.fmt (by omega) (tab_lat HT.out L6.out)).mono ?_
              rintro e w7 ⟨⟨C, tc, rfl, htc, sC, mC⟩, k7⟩
              have XC : Hid (bs tc = Lib.join (C.map Lib.itoa) [44]) := htc
              have SC : Hid (C.Pairwise (· < ·)) := sC
              have NC : Hid (∀ z, z ∈ C ↔ h z = some true) := mC
              have L7 : Hid (Lat w w7) := L6.out.trans k7
              clear htc sC mC k7 R3 L6
              -- what the three lists are
              have MA : Hid (∀ z ∈ A, z ∈ ka.take na) := fun z hz => by
                have h1 := (NA.out z).1 hz
                rw [EF.out] at h1
                exact fp_mem h1
              have MBB : Hid (∀ z ∈ B, z ∈ kb.take nb) := fun z hz => by
                have h1 := (NB.out z).1 hz
                rw [EG.out] at h1
                exact fp_mem h1
              have CM : Hid (∀ z, z ∈ C ↔ (z ∈ A ∨ z ∈ B)) := fun z => by
                rw [NC.out z, NA.out z, NB.out z, EH.out, ← KL.out, EF.out, EG.out, EK.out]
                exact uni_true
              have WA : Hid (∀ z ∈ A, (Lit.int .i64 z).wf = true) := fun z hz => WFA.out z (List.mem_of_mem_take (MA.out z hz))
              have WB : Hid (∀ z ∈ B, (Lit.int .i64 z).wf = true) := fun z hz => WFB.out z (List.mem_of_mem_take (MBB.out z hz))
              have WC : Hid (∀ z ∈ C, (Lit.int .i64 z).wf = true) := fun z hz => by
                rcases (CM.out z).1 hz with h1 | h1
                · exact WA.out z h1
                · exact WB.out z h1
              have hAl : A.length ≤ 32768 := by
                have h1 := nodup_le (nodup_of_lt SA.out) MA.out
                rw [List.length_take] at h1
                omega
              have hBl : B.length ≤ 32768 := by
                have h1 := nodup_le (nodup_of_lt SB.out) MBB.out
                rw [List.length_take] at h1
                omega
              have hTl : seen.length = C.length := ((List.perm_ext_iff_of_nodup OS.out.1 (nodup_of_lt SC.out)).2 (fun z => by
                rw [OS.out.2 z, NC.out z]
                constructor
                · exact fun h1 => h1.2
                · intro h1
                  refine ⟨?_, h1⟩
                  rw [EH.out] at h1
                  exact uni_mem h1)).length_eq
              have hCl : C.length ≤ 65536 := by omega
              rw [hTl]
              clear hTl hsq OS
              have CS := splitC_any ta w7 (text_size XA.out WA.out (by omega))
              go_wp2_with fail
              refine CS.mono ?_
              rintro e w8 ⟨⟨pa, a8, c8, rfl, hpa, hss⟩, k8⟩
              have PA : Hid (pa.map bs = A.map Lib.itoa) := hpa.trans (text_pieces XA.out)
              have hpl : pa.length = A.length := by
                have := congrArg List.length PA.out
                simpa using this
              rw [hpl]
              have HSS : Hid (SsAt w8 a8 pa) := hss
              have L8 : Hid (Lat w w8) := L7.out.trans k8
              clear CS hpa hss k8 hpl L7
              have CS := splitC_any tb w8 (text_size XB.out WB.out (by omega))
              go_wp2_with fail
              refine CS.mono ?_
              rintro e w9 ⟨⟨pb, a9, c9, rfl, hpb, hss⟩, k9⟩
              have PB : Hid (pb.map bs = B.map Lib.itoa) := hpb.trans (text_pieces XB.out)
              have hpl : pb.length = B.length := by
                have := congrArg List.length PB.out
                simpa using this
              rw [hpl]
              have HSA : Hid (SsAt w9 a8 pa) := HSS.out.later k9
              have HSB : Hid (SsAt w9 a9 pb) := hss
              have HL9 : Hid (Lat w w9) := L8.out.trans k9
              clear CS hpb hss k9 hpl L8 HSS
              go_wp2_with fail
              -- the merge
              obtain ⟨i0, hi, hz0, hz1, hz2⟩ := info_parts info9
              go_loopw [31, 32, 33] (fun v ii jj wr => ∃ (i j : Nat) (E : List Int), i ≤ A.length ∧ j ≤ B.length ∧ ii = .int .i64 i ∧ jj = .int .i64 j ∧ Mg A B i j E ∧ wr.ownsRow w9.heap.size 9 1 v E.length (E.map numeral) ∧ Lat w9 wr) (fun _ ii jj _ => (A.length - (intOf ii).toNat) + (B.length - (intOf jj).toNat))
              case atStart => exact ⟨0, 0, [], Nat.zero_le _, Nat.zero_le _, rfl, rfl, Mg.start A B, World.ownsRow_nil _ _ _ _, Lat.refl w9⟩
              case round =>
                obtain ⟨i, j, E, hi1, hj1, rfl, rfl, hM, ho, hL⟩ := hrel
                have hEl : E.length ≤ 65536 := by
                  have := hM.2.2.2.2
                  omega
                have HM : Hid (Mg A B i j E) := hM
                have HOB : Hid (∀ g, u31.ownBlock = some g → w9.heap.size ≤ g) := fun g hg => (World.ownsRow.lt ho g hg).1
                have hs9 : w9.heap.size ≤ wr.heap.size := hL.size
                clear hM
                by_cases hia : i < A.length
                · obtain ⟨x, hx⟩ : ∃ x, A[i]? = some x := ⟨_, List.getElem?_eq_getElem hia⟩
                  obtain ⟨s, hs, hbs⟩ := piece_at PA.out hx
                  obtain ⟨bp, op, rfl, hcp⟩ := HSA.out i s hs
                  have HCX : Hid (w9.cell? ⟨bp, op + i, none⟩ = some (.string s)) := hcp
                  have SX : Hid (bs s = Lib.itoa x) := hbs
                  have cx := hL.cell hcp
                  have HX : Hid (A[i]? = some x) := hx
                  have di : ((i : Int) == (A.length : Int)) = false := by rw [beq_eq_false_iff_ne]; omega
                  clear hx hs hbs hcp
                  by_cases hjb : j < B.length
                  · obtain ⟨y, hy⟩ : ∃ y, B[j]? = some y := ⟨_, List.getElem?_eq_getElem hjb⟩
                    obtain ⟨t, ht, hbt⟩ := piece_at PB.out hy
                    obtain ⟨bq, oq, rfl, hcq⟩ := HSB.out j t ht
                    have HCY : Hid (w9.cell? ⟨bq, oq + j, none⟩ = some (.string t)) := hcq
                    have SY : Hid (bs t = Lib.itoa y) := hbt
                    have cy := hL.cell hcq
                    have HY : Hid (B[j]? = some y) := hy
                    have dj : ((j : Int) == (B.length : Int)) = false := by rw [beq_eq_false_iff_ne]; omega
                    clear hy ht hbt hcq
                    by_cases hxy : x < y
                    · have CL : Hid (∀ W, Calls Tryd.prog 12 #[.string s, .string t] W fun e w' => e = .returned (.bool true) ∧ ∃ m, w' = W.drewN m) := fun W => by
                        have h1 := less_any s t x y SX.out SY.out W
                        rw [decide_eq_true hxy] at h1
                        exact h1
                      have MG : Hid (Mg A B (i + 1) j (E ++ [x])) := HM.out.left SA.out HX.out (below_rest SB.out HY.out hxy)
                      clear hxy
                      go_wp2_with fail
                      go_quiet ((go_at_call 12; with_reducible exact Calls.quiet_of (CL.out _)))
                      obtain ⟨wq, hwq⟩ : ∃ wq, wq = wr.drewN nq := ⟨_, rfl⟩
                      rw [← hwq]
                      have hoq : wq.ownsRow w9.heap.size 9 1 u31 E.length (E.map numeral) := by rw [hwq]; exact own_later ho ((Lat.refl wr).drewN nq)
                      have hLq : Lat w9 wq := by rw [hwq]; exact hL.drewN nq
                      have hsq : w9.heap.size ≤ wq.heap.size := hLq.size
                      clear hwq ho hL hs9
                      have cqx := hLq.cell HCX.out
                      clear cx cy CL
                      go_wp2_with (first | (at_builtin; refine wpList_append_own _ rfl (.tmp 219) (.tmp 224) 31 rfl w9.heap.size 9 i0 (.string ⟨#[]⟩) 1 16 Tryd.underlying31 hi hz0 hz1 hz2 rfl (by decide) _ _ _ rfl (hoq.alloc _) ⟨wq.heap.size, 0, none⟩ 1 1 [.string s] rfl rfl ?y1a ?y1b ?y1c ?y1d ?y1e ?_))
                      case y1a =>
                        intro j u hj
                        match j, hj with
                        | 0, hj => simp at hj; subst hj; simp [Addr.add]
                      case y1b => first | rfl | (intro u hu; simp at hu; subst hu; rfl)
                      case y1c => unfold maxLen; omega
                      case y1d => omega
                      case y1e => first | omega | (simp; omega)
                      intro v' w4 ho4 hg4 _
                      have hL4 : Lat w9 w4 := Lat.grown (hLq.alloc _) hg4 HOB.out
                      have HO4 : Hid (w4.ownsRow w9.heap.size 9 1 v' (E ++ [x]).length ((E ++ [x]).map numeral)) := by
                        have h1 : w4.ownsRow w9.heap.size 9 1 v' (E ++ [x]).length ((E ++ [x]).map numeral) := by
                          rw [List.length_append, List.map_append]
                          have e : ([x].map numeral) = [Value.string s] := by simp [numeral, ← SX.out, mk_bs]
                          rw [e]
                          exact ho4
                        exact h1
                      clear ho4 hg4 hoq
                      go_wp2_with fail
                      go_roundw
                      case rel => exact ⟨i + 1, j, E ++ [x], by omega, by omega, by go_num, rfl, MG.out, HO4.out, hL4⟩
                      case measure => simp [intOf]; omega
                    · have CL : Hid (∀ W, Calls Tryd.prog 12 #[.string s, .string t] W fun e w' => e = .returned (.bool false) ∧ ∃ m, w' = W.drewN m) := fun W => by
                        have h1 := less_any s t x y SX.out SY.out W
                        rw [decide_eq_false hxy] at h1
                        exact h1
                      by_cases hyx : y < x
                      · have CR : Hid (∀ W, Calls Tryd.prog 12 #[.string t, .string s] W fun e w' => e = .returned (.bool true) ∧ ∃ m, w' = W.drewN m) := fun W => by
                          have h1 := less_any t s y x SY.out SX.out W
                          rw [decide_eq_true hyx] at h1
                          exact h1
                        have MG : Hid (Mg A B i (j + 1) (E ++ [y])) := HM.out.right SB.out HY.out (below_rest SA.out HX.out hyx)
                        clear hxy hyx
                        go_wp2_with fail
                        go_quiet ((go_at_call 12; with_reducible exact Calls.quiet_of (CL.out _)))
                        go_wp2_with fail
                        obtain ⟨wp, hwp⟩ : ∃ wp, wp = wr.drewN nq := ⟨_, rfl⟩
                        rw [← hwp]
                        have hop : wp.ownsRow w9.heap.size 9 1 u31 E.length (E.map numeral) := by rw [hwp]; exact own_later ho ((Lat.refl wr).drewN nq)
                        have hLp : Lat w9 wp := by rw [hwp]; exact hL.drewN nq
                        have cpx := hLp.cell HCX.out
                        have cpy := hLp.cell HCY.out
                        clear hwp ho hL hs9 cx cy CL
                        go_quiet ((go_at_call 12; with_reducible exact Calls.quiet_of (CR.out _)))
                        obtain ⟨wq, hwq⟩ : ∃ wq, wq = wp.drewN nq := ⟨_, rfl⟩
                        rw [← hwq]
                        have hoq : wq.ownsRow w9.heap.size 9 1 u31 E.length (E.map numeral) := by rw [hwq]; exact own_later hop ((Lat.refl wp).drewN nq)
                        have hLq : Lat w9 wq := by rw [hwq]; exact hLp.drewN nq
                        have hsq : w9.heap.size ≤ wq.heap.size := hLq.size
                        have cqy := hLq.cell HCY.out
                        clear hwq hop hLp cpx cpy CR
                        go_wp2_with (first | (at_builtin; refine wpList_append_own _ rfl (.tmp 243) (.tmp 248) 31 rfl w9.heap.size 9 i0 (.string ⟨#[]⟩) 1 16 Tryd.underlying31 hi hz0 hz1 hz2 rfl (by decide) _ _ _ rfl (hoq.alloc _) ⟨wq.heap.size, 0, none⟩ 1 1 [.string t] rfl rfl ?y2a ?y2b ?y2c ?y2d ?y2e ?_))
                        case y2a =>
                          intro j u hj
                          match j, hj with
                          | 0, hj => simp at hj; subst hj; simp [Addr.add]
                        case y2b => first | rfl | (intro u hu; simp at hu; subst hu; rfl)
                        case y2c => unfold maxLen; omega
                        case y2d => omega
                        case y2e => first | omega | (simp; omega)
                        intro v' w4 ho4 hg4 _
                        have hL4 : Lat w9 w4 := Lat.grown (hLq.alloc _) hg4 HOB.out
                        have HO4 : Hid (w4.ownsRow w9.heap.size 9 1 v' (E ++ [y]).length ((E ++ [y]).map numeral)) := by
                          have h1 : w4.ownsRow w9.heap.size 9 1 v' (E ++ [y]).length ((E ++ [y]).map numeral) := by
                            rw [List.length_append, List.map_append]
                            have e : ([y].map numeral) = [Value.string t] := by simp [numeral, ← SY.out, mk_bs]
                            rw [e]
                            exact ho4
                          exact h1
                        clear ho4 hg4 hoq
                        go_wp2_with fail
                        go_roundw
                        case rel => exact ⟨i, j + 1, E ++ [y], by omega, by omega, rfl, by go_num, MG.out, HO4.out, hL4⟩
                        case measure => simp [intOf]; omega
                      · have CR : Hid (∀ W, Calls Tryd.prog 12 #[.string t, .string s] W fun e w' => e = .returned (.bool false) ∧ ∃ m, w' = W.drewN m) := fun W => by
                          have h1 := less_any t s y x SY.out SX.out W
                          rw [decide_eq_false hyx] at h1
                          exact h1
                        have MG : Hid (Mg A B (i + 1) (j + 1) (E ++ [x])) := by
                          have h1 : Mg A B (i + 1) (j + 1) (E ++ [x]) := HM.out.both SA.out SB.out HX.out (by
                            have h2 := HY.out
                            have h3 : y = x := by omega
                            rw [h3] at h2
                            exact h2)
                          exact h1
                        clear hxy hyx
                        go_wp2_with fail
                        go_quiet ((go_at_call 12; with_reducible exact Calls.quiet_of (CL.out _)))
                        go_wp2_with fail
                        obtain ⟨wp, hwp⟩ : ∃ wp, wp = wr.drewN nq := ⟨_, rfl⟩
                        rw [← hwp]
                        have hop : wp.ownsRow w9.heap.size 9 1 u31 E.length (E.map numeral) := by rw [hwp]; exact own_later ho ((Lat.refl wr).drewN nq)
                        have hLp : Lat w9 wp := by rw [hwp]; exact hL.drewN nq
                        have cpx := hLp.cell HCX.out
                        have cpy := hLp.cell HCY.out
                        clear hwp ho hL hs9 cx cy CL
                        go_quiet ((go_at_call 12; with_reducible exact Calls.quiet_of (CR.out _)))
                        obtain ⟨wq, hwq⟩ : ∃ wq, wq = wp.drewN nq := ⟨_, rfl⟩
                        rw [← hwq]
                        have hoq : wq.ownsRow w9.heap.size 9 1 u31 E.length (E.map numeral) := by rw [hwq]; exact own_later hop ((Lat.refl wp).drewN nq)
                        have hLq : Lat w9 wq := by rw [hwq]; exact hLp.drewN nq
                        have hsq : w9.heap.size ≤ wq.heap.size := hLq.size
                        have cqx := hLq.cell HCX.out
                        clear hwq hop hLp cpx cpy CR
                        go_wp2_with (first | (at_builtin; refine wpList_append_own _ rfl (.tmp 252) (.tmp 257) 31 rfl w9.heap.size 9 i0 (.string ⟨#[]⟩) 1 16 Tryd.underlying31 hi hz0 hz1 hz2 rfl (by decide) _ _ _ rfl (hoq.alloc _) ⟨wq.heap.size, 0, none⟩ 1 1 [.string s] rfl rfl ?y3a ?y3b ?y3c ?y3d ?y3e ?_))
                        case y3a =>
                          intro j u hj
                          match j, hj with
                          | 0, hj => simp at hj; subst hj; simp [Addr.add]
                        case y3b => first | rfl | (intro u hu; simp at hu; subst hu; rfl)
                        case y3c => unfold maxLen; omega
                        case y3d => omega
                        case y3e => first | omega | (simp; omega)
                        intro v' w4 ho4 hg4 _
                        have hL4 : Lat w9 w4 := Lat.grown (hLq.alloc _) hg4 HOB.out
                        have HO4 : Hid (w4.ownsRow w9.heap.size 9 1 v' (E ++ [x]).length ((E ++ [x]).map numeral)) := by
                          have h1 : w4.ownsRow w9.heap.size 9 1 v' (E ++ [x]).length ((E ++ [x]).map numeral) := by
                            rw [List.length_append, List.map_append]
                            have e : ([x].map numeral) = [Value.string s] := by simp [numeral, ← SX.out, mk_bs]
                            rw [e]
                            exact ho4
                          exact h1
                        clear ho4 hg4 hoq
                        go_wp2_with fail
                        go_roundw
                        case rel => exact ⟨i + 1, j + 1, E ++ [x], by omega, by omega, by go_num, by go_num, MG.out, HO4.out, hL4⟩
                        case measure => simp [intOf]; omega
                  · have dj : ((j : Int) == (B.length : Int)) = true := by rw [beq_iff_eq]; omega
                    have MG : Hid (Mg A B (i + 1) j (E ++ [x])) := HM.out.left SA.out HX.out (no_rest (by omega))
                    go_wp2_with fail
                    go_quiet (fail)
                    obtain ⟨wq, hwq⟩ : ∃ wq, wq = wr.drewN nq := ⟨_, rfl⟩
                    rw [← hwq]
                    have hoq : wq.ownsRow w9.heap.size 9 1 u31 E.length (E.map numeral) := by rw [hwq]; exact own_later ho ((Lat.refl wr).drewN nq)
                    have hLq : Lat w9 wq := by rw [hwq]; exact hL.drewN nq
                    have hsq : w9.heap.size ≤ wq.heap.size := hLq.size
                    clear hwq ho hL hs9
                    have cqx := hLq.cell HCX.out
                    clear cx
                    go_wp2_with (first | (at_builtin; refine wpList_append_own _ rfl (.tmp 219) (.tmp 224) 31 rfl w9.heap.size 9 i0 (.string ⟨#[]⟩) 1 16 Tryd.underlying31 hi hz0 hz1 hz2 rfl (by decide) _ _ _ rfl (hoq.alloc _) ⟨wq.heap.size, 0, none⟩ 1 1 [.string s] rfl rfl ?y4a ?y4b ?y4c ?y4d ?y4e ?_))
                    case y4a =>
                      intro j u hj
                      match j, hj with
                      | 0, hj => simp at hj; subst hj; simp [Addr.add]
                    case y4b => first | rfl | (intro u hu; simp at hu; subst hu; rfl)
                    case y4c => unfold maxLen; omega
                    case y4d => omega
                    case y4e => first | omega | (simp; omega)
                    intro v' w4 ho4 hg4 _
                    have hL4 : Lat w9 w4 := Lat.grown (hLq.alloc _) hg4 HOB.out
                    have HO4 : Hid (w4.ownsRow w9.heap.size 9 1 v' (E ++ [x]).length ((E ++ [x]).map numeral)) := by
                      have h1 : w4.ownsRow w9.heap.size 9 1 v' (E ++ [x]).length ((E ++ [x]).map numeral) := by
                        rw [List.length_append, List.map_append]
                        have e : ([x].map numeral) = [Value.string s] := by simp [numeral, ← SX.out, mk_bs]
                        rw [e]
                        exact ho4
                      exact h1
                    clear ho4 hg4 hoq
                    go_wp2_with fail
                    go_roundw
                    case rel => exact ⟨i + 1, j, E ++ [x], by omega, by omega, by go_num, rfl, MG.out, HO4.out, hL4⟩
                    case measure => simp [intOf]; omega
                · have di : ((i : Int) == (A.length : Int)) = true := by rw [beq_iff_eq]; omega
                  by_cases hjb : j < B.length
                  · obtain ⟨y, hy⟩ : ∃ y, B[j]? = some y := ⟨_, List.getElem?_eq_getElem hjb⟩
                    obtain ⟨t, ht, hbt⟩ := piece_at PB.out hy
                    obtain ⟨bq, oq, rfl, hcq⟩ := HSB.out j t ht
                    have HCY : Hid (w9.cell? ⟨bq, oq + j, none⟩ = some (.string t)) := hcq
                    have SY : Hid (bs t = Lib.itoa y) := hbt
                    have cy := hL.cell hcq
                    have HY : Hid (B[j]? = some y) := hy
                    have dj : ((j : Int) == (B.length : Int)) = false := by rw [beq_eq_false_iff_ne]; omega
                    have MG : Hid (Mg A B i (j + 1) (E ++ [y])) := HM.out.right SB.out HY.out (no_rest (by omega))
                    clear hy ht hbt hcq
                    go_wp2_with fail
                    go_quiet (fail)
                    go_wp2_with fail
                    obtain ⟨wp, hwp⟩ : ∃ wp, wp = wr.drewN nq := ⟨_, rfl⟩
                    rw [← hwp]
                    have hop : wp.ownsRow w9.heap.size 9 1 u31 E.length (E.map numeral) := by rw [hwp]; exact own_later ho ((Lat.refl wr).drewN nq)
                    have hLp : Lat w9 wp := by rw [hwp]; exact hL.drewN nq
                    have cpy := hLp.cell HCY.out
                    clear hwp ho hL hs9 cy
                    go_quiet (fail)
                    obtain ⟨wq, hwq⟩ : ∃ wq, wq = wp.drewN nq := ⟨_, rfl⟩
                    rw [← hwq]
                    have hoq : wq.ownsRow w9.heap.size 9 1 u31 E.length (E.map numeral) := by rw [hwq]; exact own_later hop ((Lat.refl wp).drewN nq)
                    have hLq : Lat w9 wq := by rw [hwq]; exact hLp.drewN nq
                    have hsq : w9.heap.size ≤ wq.heap.size := hLq.size
                    have cqy := hLq.cell HCY.out
                    clear hwq hop hLp cpy
                    go_wp2_with (first | (at_builtin; refine wpList_append_own _ rfl (.tmp 243) (.tmp 248) 31 rfl w9.heap.size 9 i0 (.string ⟨#[]⟩) 1 16 Tryd.underlying31 hi hz0 hz1 hz2 rfl (by decide) _ _ _ rfl (hoq.alloc _) ⟨wq.heap.size, 0, none⟩ 1 1 [.string t] rfl rfl ?y5a ?y5b ?y5c ?y5d ?y5e ?_))
                    case y5a =>
                      intro j u hj
                      match j, hj with
                      | 0, hj => simp at hj; subst hj; simp [Addr.add]
                    case y5b => first | rfl | (intro u hu; simp at hu; subst hu; rfl)
                    case y5c => unfold maxLen; omega
                    case y5d => omega
                    case y5e => first | omega | (simp; omega)
                    intro v' w4 ho4 hg4 _
                    have hL4 : Lat w9 w4 := Lat.grown (hLq.alloc _) hg4 HOB.out
                    have HO4 : Hid (w4.ownsRow w9.heap.size 9 1 v' (E ++ [y]).length ((E ++ [y]).map numeral)) := by
                      have h1 : w4.ownsRow w9.heap.size 9 1 v' (E ++ [y]).length ((E ++ [y]).map numeral) := by
                        rw [List.length_append, List.map_append]
                        have e : ([y].map numeral) = [Value.string t] := by simp [numeral, ← SY.out, mk_bs]
                        rw [e]
                        exact ho4
                      exact h1
                    clear ho4 hg4 hoq
                    go_wp2_with fail
                    go_roundw
                    case rel => exact ⟨i, j + 1, E ++ [y], by omega, by omega, rfl, by go_num, MG.out, HO4.out, hL4⟩
                    case measure => simp [intOf]; omega
                  · have EC : Hid (E = C) := by
                      have h1 : E = C := by
                        have h2 := HM.out
                        have e1 : i = A.length := by omega
                        have e2 : j = B.length := by omega
                        rw [e1, e2] at h2
                        obtain ⟨h3, h4⟩ := h2.done
                        exact sorted_ext h3 SC.out (fun z => by rw [h4 z, CM.out z])
                      exact h1
                    have HO : Hid (∀ W, Lat wr W → W.ownsRow w9.heap.size 9 1 u31 C.length (C.map numeral)) := fun W hW => by
                      have h1 := own_later ho hW
                      rw [EC.out] at h1
                      exact h1
                    clear ho di
                    have CS := splitC_any tc wr (text_size XC.out WC.out (by omega))
                    go_wp2_with fail
                    refine CS.mono ?_
                    rintro e w10 ⟨⟨pc, a10, c10, rfl, hpc, hss⟩, k10⟩
                    have hpl : pc.length = C.length := by
                      have := congrArg List.length (hpc.trans (text_pieces XC.out))
                      simpa using this
                    rw [hpl]
                    have JO := join_back XC.out WC.out (by omega) (HO.out w10 k10)
                    have HL10 : Hid (Lat w w10) := HL9.out.trans (hL.trans k10)
                    clear CS hpc hss k10 hpl hL
                    go_wp2_with fail
                    refine JO.mono ?_
                    rintro e w11 ⟨rfl, k11⟩
                    go_wp2_with fail
                    go_ret
                    exact ⟨by simp, HL10.out.trans k11⟩
end Go.Proofs.Qxb6630339aDoor
