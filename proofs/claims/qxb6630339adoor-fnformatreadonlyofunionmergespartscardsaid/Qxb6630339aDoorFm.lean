/- FormatReadOnly. -/
import Derived.Test.Qxb6630339aDoorBa
import Derived.Lib.ItoaLen
namespace Go.Proofs.Qxb6630339aDoor
open Go.RowKit Go.Maps

def on (f : Int → Option Bool) (z : Int) : Bool := f z == some true

theorem on_true {f : Int → Option Bool} {z : Int} : on f z = true ↔ f z = some true := by simp [on]

/-- What FormatReadOnly hands back for the map f. -/
def Fmtd (f : Int → Option Bool) (e : Ending) : Prop :=
  ∃ (T : List Int) (t : ByteArray), e = .returned (.string t) ∧ bs t = Lib.join (T.map Lib.itoa) [44] ∧ T.Pairwise (· < ·) ∧ ∀ z, z ∈ T ↔ f z = some true

theorem join_nil : Lib.join [] [44] = [] := by simp [Lib.join, List.intercalate]
theorem join_one (x : Bs) : Lib.join [x] [44] = x := by simp [Lib.join, List.intercalate]
theorem join_cons (x y : Bs) (l : List Bs) : Lib.join (x :: y :: l) [44] = x ++ 44 :: Lib.join (y :: l) [44] := by simp [Lib.join, List.intercalate]

theorem join_len : ∀ (l : List Bs) (B : Nat), (∀ x ∈ l, x.length ≤ B) → (Lib.join l [44]).length ≤ l.length * (B + 1)
  | [], B, _ => by rw [join_nil]; simp
  | [x], B, h => by
    rw [join_one]
    have := h x (by simp)
    simp; omega
  | x :: y :: l, B, h => by
    rw [join_cons]
    have h1 := h x (by simp)
    have h2 := join_len (y :: l) B (fun z hz => h z (List.mem_cons_of_mem _ hz))
    simp only [List.length_append, List.length_cons] at h2 ⊢
    have : (l.length + 1 + 1) * (B + 1) = (l.length + 1) * (B + 1) + (B + 1) := by rw [Nat.add_mul, Nat.one_mul]
    omega

theorem sort_sorted (l : List Int) (hn : l.Nodup) : (l.mergeSort (fun x y => decide (x ≤ y))).Pairwise (· < ·) := by
  have h1 : (l.mergeSort (fun x y => decide (x ≤ y))).Pairwise (fun a b => decide (a ≤ b) = true) :=
    List.pairwise_mergeSort (fun a b c h1 h2 => by simp only [decide_eq_true_eq] at *; omega) (fun a b => by simp only [Bool.or_eq_true, decide_eq_true_eq]; omega) l
  have h2 : (l.mergeSort (fun x y => decide (x ≤ y))).Nodup := (List.mergeSort_perm l _).nodup_iff.2 hn
  have h3 := h1.and h2
  exact h3.imp (fun {a b} h => by
    have := of_decide_eq_true h.1
    have := h.2
    omega)

/-- The keys of a map that is owned, and what they are. -/
theorem keys_of {w : World} {m n : Nat} {D : DataW Value} {f : Int → Option Bool} (hown : w.ownsMap Tryd.prog 3 RV m n D) (hB : IsB D f) :
    (intKeys D).Nodup ∧ (intKeys D).length = Maps.size D ∧ (∀ z, z ∈ intKeys D ↔ (f z).isSome = true) ∧ ∀ z ∈ intKeys D, (Lit.int .i64 z).wf = true := by
  have hwf := intKeys_wf hown Tryd.underlying3
  obtain ⟨es, hD, hpw, _⟩ := hown.entries law3
  obtain ⟨es', hD', hko⟩ := hown.keysOf
  obtain rfl : es = es' := by rw [hD] at hD'; simpa using hD'
  subst hD
  have hk : ∀ p ∈ es, ∃ x, p.1 = .int .i64 x := fun p hp => by obtain ⟨v, hv⟩ := hko p hp; obtain ⟨x, _, hx, _⟩ := Maps.keyOf_i64 Tryd.underlying3 hv; exact ⟨x, hx⟩
  refine ⟨?_, ?_, fun z => ?_, hwf⟩
  · show (es.map fun p => Go.intOf p.1).Nodup
    refine List.pairwise_map.2 (hpw.imp_of_mem fun {p q} hp' hq' hne e => hne ?_)
    obtain ⟨a, ha⟩ := hk p hp'
    obtain ⟨b, hb⟩ := hk q hq'
    rw [ha, hb] at e ⊢
    exact congrArg _ e
  · show (es.map fun p => Go.intOf p.1).length = _
    simp [Maps.size]
  · rw [← hB.1 z, has_eq, List.any_eq_true]
    show z ∈ es.map (fun p => Go.intOf p.1) ↔ _
    rw [List.mem_map]
    constructor
    · rintro ⟨p, hp', rfl⟩
      obtain ⟨a, ha⟩ := hk p hp'
      exact ⟨p, hp', by rw [ha]; simp [Lit.sameKey, Go.intOf]⟩
    · rintro ⟨p, hp', hs⟩
      obtain ⟨a, ha⟩ := hk p hp'
      rw [ha] at hs
      exact ⟨p, hp', by rw [ha]; simpa [Lit.sameKey, Go.intOf] using hs⟩

theorem key3 {z : Int} (h : (Lit.int .i64 z).wf = true) : keyOf Tryd.prog 3 (.int .i64 z) = some (.int .i64 z) := by
  simp [keyOf, Tryd.underlying3, mapKey, h]

theorem look3 {w : World} {m n : Nat} {D : DataW Value} {f : Int → Option Bool} (o : w.ownsMap Tryd.prog 3 RV m n D) (hB : IsB D f) {z : Int} (hz : (Lit.int .i64 z).wf = true) (W : World) (hW : W.heap[m]? = w.heap[m]?) :
    (Instr.lookup 26 (.map (some m)) (.int .i64 z) false).run Tryd.prog W = .ok (.bool (on f z)) W := by
  have oW := ownsMap_of_block o hW
  obtain ⟨u, ps, hrun, hu⟩ := oW.lookup law3 Tryd.underlying26 (zero4 W) (zd := .held (.bool false)) (zp := []) rfl (key3 hz)
  have hv := RV_inv hu
  cases hf : f z with
  | none =>
    have hh : Maps.has D (.int .i64 z) = false := by rw [hB.1, hf]; rfl
    rw [atKey_of_not_has hh] at hv
    cases hv
    rw [hrun]
    simp [on, hf]
  | some b =>
    rw [hB.2 z b hf] at hv
    cases hv
    rw [hrun]
    cases b <;> simp [on, hf]

theorem info9 : (Tryd.prog.info? 9).map (fun i => (i.zero, i.size, i.bytes)) = some (some (.string ⟨#[]⟩), 1, 16) := by kernel_rfl

def numeral (z : Int) : Value := .string (mk (Lib.itoa z))

theorem filt_succ {f : Int → Bool} {L : List Int} {k : Nat} {z : Int} (h : L[k]? = some z) : (L.take (k + 1)).filter f = (L.take k).filter f ++ if f z then [z] else [] := by
  rw [List.take_add_one, h]
  simp only [Option.toList_some, List.filter_append]
  congr 1
  cases hf : f z <;> simp [hf]

theorem filt_le {f : Int → Bool} {L : List Int} {k : Nat} : ((L.take k).filter f).length ≤ L.length := by
  have h1 := List.length_filter_le f (L.take k)
  have h2 : (L.take k).length ≤ L.length := by rw [List.length_take]; omega
  omega

/-- A row of one's own lies on. -/
theorem own_later {w w' : World} {base : Nat} {e : TypeId} {size : Nat} {v : Value} {n : Nat} {xs : List Value} (h : w.ownsRow base e size v n xs) (k : Lat w w') : w'.ownsRow base e size v n xs := by
  obtain ⟨h1, h | ⟨g, cap, cur, h2, h3, h4, r⟩⟩ := h
  · exact ⟨h1, .inl h⟩
  · refine ⟨h1, .inr ⟨g, cap, cur, h2, h3, (k.block ?_).trans h4, r⟩⟩
    rcases Nat.lt_or_ge g w.heap.size with h' | h'
    · exact h'
    · rw [Array.getElem?_eq_none h'] at h4; cases h4

/-- The library's table lies on. -/
theorem tab_lat {w w' : World} {n : String} {k : IntKind} {zs : List Int} (h : Lib.TabIs Tryd.prog w n k zs) (hw : Lat w w') : Lib.TabIs Tryd.prog w' n k zs := by
  cases hg : Tryd.prog.globalNamed n with
  | none =>
    unfold Lib.TabIs World.var? at h
    rw [hg] at h
    simp at h
  | some g => exact Go.Joins.tab_stays hg h hw (Nat.le_refl _)

set_option maxHeartbeats 4000000 in
theorem fmt_any (m n : Nat) (D : DataW Value) (f : Int → Option Bool) (w : World) (hown : w.ownsMap Tryd.prog 3 RV m n D) (hB : IsB D f) (hsz : Maps.size D ≤ 131072) (htab : Lib.TabIs Tryd.prog w "internal/strconv.uint64pow10" .u64 Lib.pow10Tab) :
    Calls Tryd.prog 7 #[.map (some m)] w fun e w' => Fmtd f e ∧ Lat w w' := by
  obtain ⟨kn, kl, km, kw⟩ := keys_of hown hB
  have CS := sorted_any m n D RV w hown (by unfold maxLen; omega) (by omega)
  obtain ⟨W1, hW1⟩ : ∃ W1, W1 = w.alloc (.cells #[.map (some m)] 26) := ⟨_, rfl⟩
  rw [← hW1] at CS
  have hA : Lat w W1 := by rw [hW1]; exact (Lat.refl w).alloc _
  have CSH : Hid (Calls Tryd.prog 13 #[.func (.func 20) #[] #[.pointer (some ⟨w.heap.size, 0, none⟩)]] W1 fun e w' => ∃ (v : Value) (ss : List Int), e = .returned v ∧ ss.Perm (intKeys D) ∧
      w'.ownsRow W1.heap.size 3 1 v ss.length ((ss.mergeSort (fun x y => decide (x ≤ y))).map encZ) ∧ (v = .slice none 0 0 ↔ ss = []) ∧ Below W1.heap.size W1 w') := CS
  have HW1 : Hid (w.alloc (.cells #[.map (some m)] 26) = W1) := hW1.symm
  have hml := hown.lt
  have LK : Hid (∀ W z, Lat w W → (Lit.int .i64 z).wf = true → (Instr.lookup 26 (.map (some m)) (.int .i64 z) false).run Tryd.prog W = .ok (.bool (on f z)) W) := fun W z hW hz => look3 hown hB hz W (hW.block hml)
  have IT : Hid (∀ W z, Lat w W → (Lit.int .i64 z).wf = true → Calls Tryd.prog 15 #[.int .i64 z] W fun e w' => e = .returned (numeral z) ∧ Lat W w') := by
    intro W z hW hz
    have hb := bounds_i64 hz
    refine (Tryd.strconv_Itoa z hb.1 hb.2 W (tab_lat htab hW)).mono ?_
    rintro e w' ⟨rfl, k, os, rfl⟩
    exact ⟨rfl, Lat.grow k os⟩
  clear CS hW1 htab hown
  go_enter Tryd.func7, Tryd.ntmps7
  go_wp2_with fail
  refine (keys_any (some m) w).mono ?_
  rintro e w' ⟨rfl, rfl⟩
  go_wp2_with fail
  rw [HW1.out]
  refine CSH.out.mono ?_
  rintro e w2 ⟨v, ss, rfl, hp, hrow, _, hb2⟩
  have h2 : Lat w w2 := hA.trans hb2
  obtain ⟨a, cap, rfl, _, hcell⟩ := own_form hrow
  obtain ⟨L, hL⟩ : ∃ L, L = ss.mergeSort (fun x y => decide (x ≤ y)) := ⟨_, rfl⟩
  rw [← hL] at hcell
  have pL : L.Perm (intKeys D) := by rw [hL]; exact (List.mergeSort_perm ss _).trans hp
  have LSO : Hid (L.Pairwise (· < ·)) := by
    have h : L.Pairwise (· < ·) := by rw [hL]; exact sort_sorted ss (hp.nodup_iff.2 kn)
    exact h
  have hlen : ss.length = L.length := by rw [hL, List.length_mergeSort]
  have LKM : Hid (∀ z, z ∈ L ↔ (f z).isSome = true) := fun z => (pL.mem_iff).trans (km z)
  have LWF : Hid (∀ z ∈ L, (Lit.int .i64 z).wf = true) := fun z hz => kw z (pL.mem_iff.1 hz)
  have hLl : L.length ≤ 131072 := by rw [pL.length_eq, kl]; exact hsz
  have IA : Hid (InAt w2 a L) := fun i z hz => by
    obtain ⟨b, _, _, e, hc⟩ := hcell i (.int .i64 z) (by rw [List.getElem?_map, hz]; rfl)
    exact ⟨b, 0, e, hc⟩
  rw [hlen]
  have H2 : Hid (Lat w w2) := h2
  clear hrow hcell hp hL pL kn kl km kw hsz hB hA hb2 h2 hml hlen CSH HW1
  go_wp2_with fail
  obtain ⟨i0, hi, hz0, hz1, hz2⟩ := info_parts info9
  go_loopw [3, 10] (fun v i wr => ∃ k : Nat, k ≤ L.length ∧ i = .int .i64 k ∧ wr.ownsRow w2.heap.size 9 1 v ((L.take k).filter (on f)).length (((L.take k).filter (on f)).map numeral) ∧ Lat w2 wr) (fun _ i _ => L.length - (intOf i).toNat)
  case atStart => exact ⟨0, Nat.zero_le _, rfl, World.ownsRow_nil _ _ _ _, Lat.refl w2⟩
  case round =>
    obtain ⟨k, hk, rfl, ho, hL⟩ := hrel
    by_cases hlt : k < L.length
    · obtain ⟨z, hz⟩ : ∃ z, L[k]? = some z := ⟨_, List.getElem?_eq_getElem hlt⟩
      obtain ⟨b, off, rfl, hc⟩ := IA.out k z hz
      have c0 := hL.cell hc
      have hwf := LWF.out z (List.mem_of_getElem? hz)
      have hlk := LK.out wr z (H2.out.trans hL) hwf
      have HI := IT.out wr z (H2.out.trans hL) hwf
      have FS : Hid ((L.take (k + 1)).filter (on f) = (L.take k).filter (on f) ++ if on f z then [z] else []) := filt_succ hz
      have fl : ((L.take k).filter (on f)).length ≤ L.length := filt_le
      clear hc hz
      cases hon : on f z
      · rw [hon] at hlk
        have FS' : Hid ((L.take (k + 1)).filter (on f) = (L.take k).filter (on f)) := by
          have h := FS.out
          rw [hon] at h
          have h2 : (L.take (k + 1)).filter (on f) = (L.take k).filter (on f) := by simpa using h
          exact h2
        have HO : Hid (wr.ownsRow w2.heap.size 9 1 u3 ((L.take (k + 1)).filter (on f)).length (((L.take (k + 1)).filter (on f)).map numeral)) := by
          have h := ho
          rw [← FS'.out] at h
          exact h
        clear ho HI FS FS'
        go_wp2_with fail
        go_roundw
        case rel => exact ⟨k + 1, by omega, by go_num, HO.out, hL⟩
        case measure => simp [intOf]; omega
      · rw [hon] at hlk
        have FS' : Hid ((L.take (k + 1)).filter (on f) = (L.take k).filter (on f) ++ [z]) := by
          have h := FS.out
          rw [hon] at h
          have h2 : (L.take (k + 1)).filter (on f) = (L.take k).filter (on f) ++ [z] := by simpa using h
          exact h2
        clear FS
        go_wp2_with fail
        refine HI.mono ?_
        rintro e w3 ⟨rfl, h3⟩
        have hb3 : w2.heap.size ≤ w3.heap.size := Nat.le_trans hL.size h3.size
        have ho3 : w3.ownsRow w2.heap.size 9 1 u3 ((L.take k).filter (on f)).length (((L.take k).filter (on f)).map numeral) := own_later ho h3
        have hL3 : Lat w2 w3 := hL.trans h3
        have HOB : Hid (∀ g, u3.ownBlock = some g → w2.heap.size ≤ g) := fun g hg => (World.ownsRow.lt ho g hg).1
        generalize ((L.take k).filter (on f)) = F at *
        clear HI ho hlk hon
        unfold numeral
        go_wp2_with (first | (at_builtin; refine wpList_append_own _ rfl _ _ 31 rfl w2.heap.size 9 i0 (.string ⟨#[]⟩) 1 16 Tryd.underlying31 hi hz0 hz1 hz2 rfl (by decide) _ _ _ rfl (ho3.alloc _) ⟨w3.heap.size, 0, none⟩ 1 1 [.string (mk (Lib.itoa z))] rfl rfl ?c1 ?c2 ?c3 ?c4 ?c5 ?_))
        case c1 =>
          intro j u hj
          match j, hj with
          | 0, hj => simp at hj; subst hj; simp [Addr.add]
        case c2 => intro u hu; simp at hu; subst hu; rfl
        case c3 => unfold maxLen; omega
        case c4 => omega
        case c5 => simp; omega
        intro v' w4 ho4 hg4 _
        have hL4 : Lat w2 w4 := Lat.grown (hL3.alloc _) hg4 HOB.out
        have HO4 : Hid (w4.ownsRow w2.heap.size 9 1 v' ((L.take (k + 1)).filter (on f)).length (((L.take (k + 1)).filter (on f)).map numeral)) := by
          have h : w4.ownsRow w2.heap.size 9 1 v' ((L.take (k + 1)).filter (on f)).length (((L.take (k + 1)).filter (on f)).map numeral) := by
            rw [FS'.out]
            simpa [numeral] using ho4
          exact h
        clear ho4 hg4 ho3 hL3
        go_wp2_with fail
        go_roundw
        case rel => exact ⟨k + 1, by omega, by go_num, HO4.out, hL4⟩
        case measure => simp [intOf]; omega
    · obtain rfl : k = L.length := by omega
      rw [List.take_length] at ho
      obtain ⟨T, hT⟩ : ∃ T, T = L.filter (on f) := ⟨_, rfl⟩
      rw [← hT] at ho
      have TS : Hid (T.Pairwise (· < ·)) := by
        have h : T.Pairwise (· < ·) := by rw [hT]; exact LSO.out.filter _
        exact h
      have TM : Hid (∀ z, z ∈ T ↔ f z = some true) := fun z => by
        rw [hT, List.mem_filter, on_true, LKM.out z]
        constructor
        · exact fun h => h.2
        · exact fun h => ⟨by rw [h]; rfl, h⟩
      have TW : ∀ z ∈ T, (Lit.int .i64 z).wf = true := fun z hz => LWF.out z (by rw [hT] at hz; exact (List.mem_filter.1 hz).1)
      have hTl : T.length ≤ 131072 := by
        have := List.length_filter_le (on f) L
        rw [hT]; omega
      clear hT
      obtain ⟨a', cap', rfl, hcap, hcell⟩ := own_form ho
      by_cases hTe : T = []
      · subst hTe
        go_wp2_with fail
        refine (Tryd.strings_Join_none _ _ _ _).mono ?_
        rintro e w' ⟨rfl, hw⟩
        obtain rfl := hw.symm
        go_wp2_with fail
        go_ret
        exact ⟨⟨[], _, rfl, by simp [bs, join_nil], TS.out, TM.out⟩, H2.out.trans hL⟩
      · obtain ⟨z0, hz0⟩ : ∃ z, T[0]? = some z := by
          cases T with
          | nil => exact absurd rfl hTe
          | cons z l => exact ⟨z, rfl⟩
        obtain ⟨b, hb1, hb2, rfl, _⟩ := hcell 0 (numeral z0) (by rw [List.getElem?_map, hz0]; rfl)
        obtain ⟨X, hX⟩ : ∃ X, X = T.map (fun z => mk (Lib.itoa z)) := ⟨_, rfl⟩
        have hXl : X.length = T.length := by rw [hX, List.length_map]
        have hXb : X.map (·.data.toList) = T.map Lib.itoa := by
          rw [hX, List.map_map]
          exact List.map_congr_left fun z _ => bs_mk _
        have CJ := Tryd.strings_Join b 0 cap' X ⟨#[44]⟩ wr (fun j x hx => by
            rw [hX, List.getElem?_map] at hx
            obtain ⟨z, hz, rfl⟩ := Option.map_eq_some_iff.1 hx
            obtain ⟨b', _, _, e', hc⟩ := hcell j (numeral z) (by rw [List.getElem?_map, hz]; rfl)
            cases e'
            exact hc) hb2 (by omega) (by omega) (by
            rw [hXb]
            have := join_len (T.map Lib.itoa) 21 (fun x hx => by
              obtain ⟨z, hz, rfl⟩ := List.mem_map.1 hx
              have hb := bounds_i64 (TW z hz)
              exact Lib.itoa_length_le z hb.1 hb.2)
            rw [List.length_map] at this
            have e : (⟨#[44]⟩ : ByteArray).data.toList = [44] := rfl
            rw [e]
            omega)
        rw [hXb, hXl] at CJ
        have CJH : Hid (Calls Tryd.prog 16 #[.slice (some ⟨b, 0, none⟩) T.length cap', .string ⟨#[44]⟩] wr fun e w' => e = .returned (.string ⟨(Lib.join (T.map Lib.itoa) [44]).toArray⟩) ∧ Below wr.heap.size wr w') := CJ
        clear CJ hX hXl hXb hcell ho hz0
        go_wp2_with fail
        refine CJH.out.mono ?_
        rintro e w5 ⟨rfl, h5⟩
        go_wp2_with fail
        go_ret
        exact ⟨⟨T, _, rfl, by simp [bs], TS.out, TM.out⟩, (H2.out.trans hL).trans h5⟩
end Go.Proofs.Qxb6630339aDoor
