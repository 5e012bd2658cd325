/- splitComma. -/
import Derived.Test.Qxb6630339aDoorJc
namespace Go.Proofs.Qxb6630339aDoor
open Go.RowKit Go.Maps

/-- The pieces between commas. -/
def spl : Bs → List Bs
  | [] => [[]]
  | c :: cs => if c = 44 then [] :: spl cs else match spl cs with
    | [] => [[c]]
    | p :: ps => (c :: p) :: ps

theorem spl_ne (l : Bs) : spl l ≠ [] := by
  cases l with
  | nil => simp [spl]
  | cons c cs =>
    unfold spl
    split
    · simp
    · split <;> simp

theorem spl_plain : ∀ (l : Bs), (44 : UInt8) ∉ l → spl l = [l]
  | [], _ => rfl
  | c :: cs, h => by
    have hc : c ≠ 44 := fun e => h (by rw [e]; simp)
    have hcs : (44 : UInt8) ∉ cs := fun e => h (List.mem_cons_of_mem _ e)
    unfold spl
    rw [if_neg hc, spl_plain cs hcs]

theorem spl_comma : ∀ (l r : Bs), (44 : UInt8) ∉ l → spl (l ++ 44 :: r) = l :: spl r
  | [], r, _ => by simp [spl]
  | c :: cs, r, h => by
    have hc : c ≠ 44 := fun e => h (by rw [e]; simp)
    have hcs : (44 : UInt8) ∉ cs := fun e => h (List.mem_cons_of_mem _ e)
    have ih := spl_comma cs r hcs
    rw [List.cons_append, spl, if_neg hc, ih]

theorem spl_join : ∀ (l : List Bs), l ≠ [] → (∀ x ∈ l, (44 : UInt8) ∉ x) → spl (jn l) = l
  | [], h, _ => absurd rfl h
  | [x], _, h => by
    unfold jn
    rw [join_one]
    exact spl_plain x (h x (by simp))
  | x :: y :: l, _, h => by
    have ih := spl_join (y :: l) (by simp) (fun z hz => h z (List.mem_cons_of_mem _ hz))
    unfold jn at ih ⊢
    rw [join_cons, spl_comma x _ (h x (by simp)), ih]

def pcs (l : Bs) : List Bs := if l = [] then [] else spl l

theorem pcs_join (l : List Bs) (h : ∀ x ∈ l, (44 : UInt8) ∉ x) (hn : ∀ x ∈ l, x ≠ []) : pcs (jn l) = l := by
  unfold pcs
  cases l with
  | nil => simp [jn, join_nil]
  | cons x l =>
    have hne : jn (x :: l) ≠ [] := by
      have hx := hn x (by simp)
      cases l with
      | nil => unfold jn; rw [join_one]; exact hx
      | cons y l => unfold jn; rw [join_cons]; simp
    rw [if_neg hne]
    exact spl_join _ (by simp) h

/-- A comma at k, none from j to it. -/
theorem spl_step {l : Bs} {j k : Nat} (hjk : j ≤ k) (hk : l[k]? = some 44) (hn : ∀ t, j ≤ t → t < k → l[t]? ≠ some 44) : spl (l.drop j) = (l.drop j).take (k - j) :: spl (l.drop (k + 1)) := by
  have hkl : k < l.length := (List.getElem?_eq_some_iff.1 hk).1
  have e : l.drop j = (l.drop j).take (k - j) ++ 44 :: l.drop (k + 1) := by
    have h1 : l.drop j = (l.drop j).take (k - j) ++ (l.drop j).drop (k - j) := (List.take_append_drop _ _).symm
    have h2 : (l.drop j).drop (k - j) = l.drop k := by rw [List.drop_drop]; congr 1; omega
    have h3 : l.drop k = 44 :: l.drop (k + 1) := by
      rw [List.drop_eq_getElem_cons hkl]
      congr 1
      have := (List.getElem?_eq_some_iff.1 hk).2
      exact this
    rw [h2, h3] at h1
    exact h1
  have hno : (44 : UInt8) ∉ (l.drop j).take (k - j) := by
    intro hm
    obtain ⟨t, ht⟩ := List.mem_iff_getElem?.1 hm
    rw [List.getElem?_take] at ht
    split at ht
    · rename_i htk
      rw [List.getElem?_drop] at ht
      exact hn (j + t) (by omega) (by omega) ht
    · cases ht
  conv => lhs; rw [e]
  exact spl_comma _ _ hno

theorem spl_last {l : Bs} {j : Nat} (hn : ∀ t, j ≤ t → t < l.length → l[t]? ≠ some 44) : spl (l.drop j) = [l.drop j] := by
  apply spl_plain
  intro hm
  obtain ⟨t, ht⟩ := List.mem_iff_getElem?.1 hm
  rw [List.getElem?_drop] at ht
  exact hn (j + t) (by omega) (List.getElem?_eq_some_iff.1 ht).1 ht

theorem run_ix (s : ByteArray) (k : Nat) (c : UInt8) (h : (bs s)[k]? = some c) (W : World) : (Instr.index 9 (.string s) (.int .i64 k)).run Tryd.prog W = .ok (.int .u8 c.toNat) W := by
  have hk : k < s.size := by rw [← bs_length]; exact (List.getElem?_eq_some_iff.1 h).1
  rw [run_index_string W 9 s .i64 k Tryd.underlying9, dif_pos (by omega)]
  have : s[(k : Int).toNat]'(by simpa using hk) = c := by
    have h2 := (List.getElem?_eq_some_iff.1 h).2
    rw [← h2]
    rfl
  rw [this]

theorem run_cut (s : ByteArray) (j k : Nat) (hjk : j ≤ k) (hk : k ≤ s.size) (W : World) : (Instr.slice 9 (.string s) (some (.int .i64 j)) (some (.int .i64 k)) none).run Tryd.prog W = .ok (.string (mk (((bs s).drop j).take (k - j)))) W := by
  rw [run_slice_string W 9 s .i64 .i64 j k Tryd.underlying9 (by omega) (by omega) (by omega)]
  have e : s = mk (bs s) := (mk_bs s).symm
  conv => lhs; rw [e]
  unfold mk
  rw [ByteArray.extract_mk]
  simp

theorem run_rest (s : ByteArray) (j : Nat) (hj : j ≤ s.size) (W : World) : (Instr.slice 9 (.string s) (some (.int .i64 j)) none none).run Tryd.prog W = .ok (.string (mk ((bs s).drop j))) W := by
  rw [run_slice_string_from_if W 9 s .i64 j Tryd.underlying9, if_pos ⟨by omega, by omega⟩]
  have e : s = mk (bs s) := (mk_bs s).symm
  have hsz : (bs s).length = s.size := bs_length s
  rw [← hsz]
  conv => lhs; rw [e]
  unfold mk
  rw [ByteArray.extract_mk]
  have h2 : bs ⟨(bs s).toArray⟩ = bs s := by simp [bs]
  rw [h2]
  simp only [Int.toNat_natCast]
  rw [List.take_of_length_le (by rw [List.length_drop]; exact Nat.le_refl _)]

/-- What splitComma hands back. -/
def Split (s : ByteArray) (e : Ending) (w' : World) : Prop :=
  ∃ pa a cap, e = .returned (.slice a (List.length pa) cap) ∧ pa.map bs = pcs (bs s) ∧ SsAt w' a pa

theorem own_ss {w : World} {base : Nat} {v : Value} {pa : List ByteArray} (h : w.ownsRow base 9 1 v pa.length (pa.map Value.string)) : ∃ a cap, v = .slice a pa.length cap ∧ SsAt w a pa := by
  obtain ⟨a, cap, rfl, _, hc⟩ := own_form h
  refine ⟨a, cap, rfl, fun i s hs => ?_⟩
  obtain ⟨b, _, _, e, c⟩ := hc i (.string s) (by rw [List.getElem?_map, hs]; rfl)
  exact ⟨b, 0, e, c⟩

set_option maxHeartbeats 4000000 in
theorem splitC_any (s : ByteArray) (w : World) (hs : s.size ≤ 1099511627776) :
    Calls Tryd.prog 9 #[.string s] w fun e w' => Split s e w' ∧ Lat w w' := by
  obtain ⟨i0, hi, hz0, hz1, hz2⟩ := info_parts info9
  by_cases h0 : s.size = 0
  · have hb : bs s = [] := by
      have := bs_length s
      rw [h0] at this
      exact List.length_eq_zero_iff.1 this
    have h0' : (s.size : Int) = 0 := by omega
    have d0 : ((s.size : Int) == 0) = true := by simp [h0]
    go_enter Tryd.func9, Tryd.ntmps9
    go_wp2_with fail
    go_ret
    exact ⟨⟨[], none, 0, rfl, by simp [pcs, hb], fun i x hx => by simp at hx⟩, Lat.refl w⟩
  · have hb : pcs (bs s) = spl (bs s) := by
      unfold pcs
      rw [if_neg (fun e => h0 (by rw [← bs_length, e]; rfl))]
    have d0 : ((s.size : Int) == 0) = false := by rw [beq_eq_false_iff_ne]; omega
    have HP : Hid (pcs (bs s) = spl (bs s)) := hb
    clear hb
    go_enter Tryd.func9, Tryd.ntmps9
    go_wp2_with fail
    go_loopw [3, 4, 5] (fun v st i wr => ∃ (k j : Nat) (P : List ByteArray), k ≤ s.size ∧ i = .int .i64 k ∧ st = .int .i64 j ∧ j ≤ k ∧ P.length ≤ k ∧ wr.ownsRow w.heap.size 9 1 v P.length (P.map Value.string) ∧ P.map bs ++ spl ((bs s).drop j) = spl (bs s) ∧ (∀ t, j ≤ t → t < k → (bs s)[t]? ≠ some 44) ∧ Lat w wr) (fun _ _ i _ => s.size - (intOf i).toNat)
    case atStart => exact ⟨0, 0, [], Nat.zero_le _, rfl, rfl, Nat.le_refl _, Nat.le_refl _, World.ownsRow_nil _ _ _ _, by simp, fun t h1 h2 => by omega, Lat.refl w⟩
    case round =>
      obtain ⟨k, j, P, hk, rfl, rfl, hjk, hPk, ho, hsp, hno, hL⟩ := hrel
      have SP : Hid (P.map bs ++ spl ((bs s).drop j) = spl (bs s)) := hsp
      have NO : Hid (∀ t, j ≤ t → t < k → (bs s)[t]? ≠ some 44) := hno
      have hsz : w.heap.size ≤ wr.heap.size := hL.size
      have HOB : Hid (∀ g, u3.ownBlock = some g → w.heap.size ≤ g) := fun g hg => (World.ownsRow.lt ho g hg).1
      clear hsp hno
      by_cases hlt : k < s.size
      · obtain ⟨c, hc⟩ : ∃ c, (bs s)[k]? = some c := ⟨_, List.getElem?_eq_getElem (by rw [bs_length]; exact hlt)⟩
        have hix := run_ix s k c hc
        have HC : Hid ((bs s)[k]? = some c) := hc
        clear hc
        by_cases hc4 : c = 44
        · have hcut := run_cut s j k hjk hk
          have d4 : ((c.toNat : Int) == 44) = true := by rw [hc4]; rfl
          have HC4 : Hid (c = 44) := hc4
          obtain ⟨pc, hpc⟩ : ∃ pc, pc = mk (((bs s).drop j).take (k - j)) := ⟨_, rfl⟩
          rw [← hpc] at hcut
          have PC : Hid (bs pc = ((bs s).drop j).take (k - j)) := by
            have h : bs pc = ((bs s).drop j).take (k - j) := by rw [hpc, bs_mk]
            exact h
          clear hc4 hpc
          go_wp2_with (first | (at_builtin; refine wpList_append_own _ rfl (.tmp 20) (.tmp 25) 31 rfl w.heap.size 9 i0 (.string ⟨#[]⟩) 1 16 Tryd.underlying31 hi hz0 hz1 hz2 rfl (by decide) _ _ _ rfl (ho.alloc _) ⟨wr.heap.size, 0, none⟩ 1 1 [.string pc] rfl rfl ?p1 ?p2 ?p3 ?p4 ?p5 ?_))
          case p1 =>
            intro j u hj
            match j, hj with
            | 0, hj => simp at hj; subst hj; simp [Addr.add]
          case p2 => intro u hu; simp at hu; subst hu; rfl
          case p3 => unfold maxLen; omega
          case p4 => omega
          case p5 => simp; omega
          intro v' w4 ho4 hg4 _
          have hL4 : Lat w w4 := Lat.grown (hL.alloc _) hg4 HOB.out
          have HO4 : Hid (w4.ownsRow w.heap.size 9 1 v' (P ++ [pc]).length ((P ++ [pc]).map Value.string)) := by
            have h : w4.ownsRow w.heap.size 9 1 v' (P ++ [pc]).length ((P ++ [pc]).map Value.string) := by
              rw [List.length_append, List.map_append]
              exact ho4
            exact h
          clear ho4 hg4 ho
          go_wp2_with fail
          go_roundw
          case rel =>
            refine ⟨k + 1, k + 1, P ++ [pc], by omega, by go_num, by go_num, Nat.le_refl _, by simp; omega, HO4.out, ?_, fun t h1 h2 => by omega, hL4⟩
            have h1 := SP.out
            rw [spl_step hjk (by rw [HC.out, HC4.out]) NO.out] at h1
            rw [← h1, List.map_append, List.append_assoc]
            simp [PC.out]
          case measure => simp [intOf]; omega
        · have d4 : ((c.toNat : Int) == 44) = false := by
            rw [beq_eq_false_iff_ne]
            intro e
            apply hc4
            have : c.toNat = 44 := by omega
            exact UInt8.toNat_inj.1 this
          have NO' : Hid (∀ t, j ≤ t → t < k + 1 → (bs s)[t]? ≠ some 44) := fun t h1 h2 e => by
            by_cases h3 : t < k
            · exact NO.out t h1 h3 e
            · obtain rfl : t = k := by omega
              rw [HC.out] at e
              exact hc4 (Option.some.inj e)
          have HO : Hid (wr.ownsRow w.heap.size 9 1 u3 P.length (P.map Value.string)) := ho
          clear hc4 ho
          go_wp2_with fail
          go_roundw
          case rel => exact ⟨k + 1, j, P, by omega, by go_num, rfl, by omega, by omega, HO.out, SP.out, NO'.out, hL⟩
          case measure => simp [intOf]; omega
      · obtain rfl : k = s.size := by omega
        have hrest := run_rest s j hjk
        obtain ⟨pc, hpc⟩ : ∃ pc, pc = mk ((bs s).drop j) := ⟨_, rfl⟩
        rw [← hpc] at hrest
        have PC : Hid (bs pc = (bs s).drop j) := by
          have h : bs pc = (bs s).drop j := by rw [hpc, bs_mk]
          exact h
        clear hpc
        go_wp2_with (first | (at_builtin; refine wpList_append_own _ rfl (.tmp 29) (.tmp 33) 31 rfl w.heap.size 9 i0 (.string ⟨#[]⟩) 1 16 Tryd.underlying31 hi hz0 hz1 hz2 rfl (by decide) _ _ _ rfl (ho.alloc _) ⟨wr.heap.size, 0, none⟩ 1 1 [.string pc] rfl rfl ?q1 ?q2 ?q3 ?q4 ?q5 ?_))
        case q1 =>
          intro j u hj
          match j, hj with
          | 0, hj => simp at hj; subst hj; simp [Addr.add]
        case q2 => intro u hu; simp at hu; subst hu; rfl
        case q3 => unfold maxLen; omega
        case q4 => omega
        case q5 => simp; omega
        intro v' w4 ho4 hg4 _
        have hL4 : Lat w w4 := Lat.grown (hL.alloc _) hg4 HOB.out
        have ho5 : w4.ownsRow w.heap.size 9 1 v' (P ++ [pc]).length ((P ++ [pc]).map Value.string) := by
          rw [List.length_append, List.map_append]
          exact ho4
        obtain ⟨a', cap', rfl, hss⟩ := own_ss ho5
        have HSS : Hid (SsAt w4 a' (P ++ [pc])) := hss
        have HQ : Hid ((P ++ [pc]).map bs = pcs (bs s)) := by
          have h : (P ++ [pc]).map bs = pcs (bs s) := by
            rw [HP.out, ← SP.out, spl_last (fun t h1 h2 => NO.out t h1 (by rw [bs_length] at h2; exact h2)), List.map_append]
            simp [PC.out]
          exact h
        clear ho4 hg4 ho ho5 hss
        obtain ⟨Q, hQ⟩ : ∃ Q, Q = P ++ [pc] := ⟨_, rfl⟩
        rw [← hQ]
        have HSS' : Hid (SsAt w4 a' Q) := by
          have h := HSS.out
          rw [← hQ] at h
          exact h
        have HQ' : Hid (Q.map bs = pcs (bs s)) := by
          have h := HQ.out
          rw [← hQ] at h
          exact h
        clear hQ HSS HQ
        go_wp2_with fail
        go_ret
        exact ⟨⟨Q, a', cap', rfl, HQ'.out, HSS'.out⟩, hL4⟩
end Go.Proofs.Qxb6630339aDoor
