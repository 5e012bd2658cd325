/- joinComma. -/
import Derived.Test.Qxb6630339aDoorFm
import Derived.Lib.AppendStr
import Derived.Lib.UnsafeStr
namespace Go.Proofs.Qxb6630339aDoor
open Go.RowKit Go.Maps

theorem info5 : (Tryd.prog.info? 5).map (fun i => (i.zero, i.size, i.bytes)) = some (some (.int .u8 0), 1, 1) := by kernel_rfl

def jn (l : List Bs) : Bs := Lib.join l [44]

theorem jn_snoc : ∀ (l : List Bs) (x : Bs), jn (l ++ [x]) = jn l ++ (if l = [] then [] else [44]) ++ x
  | [], x => by simp [jn, join_one, join_nil]
  | [y], x => by simp [jn, join_one, join_cons]
  | y :: z :: l, x => by
    have ih := jn_snoc (z :: l) x
    unfold jn at ih ⊢
    simp only [List.cons_append] at ih ⊢
    rw [join_cons, join_cons, ih]
    simp

theorem jn_take {pa : List ByteArray} {k : Nat} {s : ByteArray} (h : pa[k]? = some s) : jn ((pa.take (k + 1)).map bs) = jn ((pa.take k).map bs) ++ (if k = 0 then [] else [44]) ++ bs s := by
  rw [List.take_add_one, h]
  simp only [Option.toList_some, List.map_append, List.map_cons, List.map_nil]
  rw [jn_snoc]
  have hk : k < pa.length := (List.getElem?_eq_some_iff.1 h).1
  congr 2
  have : ((pa.take k).map bs = []) = (k = 0) := by
    apply propext
    constructor
    · intro e
      have := congrArg List.length e
      simp only [List.length_map, List.length_take, List.length_nil] at this
      omega
    · rintro rfl; simp
  simp only [this]

theorem jn_len {pa : List ByteArray} (hs : ∀ s ∈ pa, s.size ≤ 1048576) (k : Nat) : (jn ((pa.take k).map bs)).length ≤ pa.length * 1048577 := by
  have := join_len ((pa.take k).map bs) 1048576 (fun x hx => by
    obtain ⟨s, h1, rfl⟩ := List.mem_map.1 hx
    rw [bs_length]
    exact hs s (List.mem_of_mem_take h1))
  unfold jn
  rw [List.length_map, List.length_take] at this
  exact Nat.le_trans this (Nat.mul_le_mul_right _ (Nat.min_le_right _ _))

theorem add0 (b j : Nat) : (⟨b, 0, none⟩ : Addr).add j = ⟨b, 0 + j, none⟩ := by
  unfold Addr.add
  split
  · subst_vars; rfl
  · rfl

/-- 'string(b)' of a row of bytes of one's own. -/
theorem bytes_back {w : World} {base : Nat} {v : Value} {J : Bs} (h : w.ownsRow base 5 1 v J.length (Lib.byteCells J)) : (convert 43 9 v).run Tryd.prog w = .ok (.string (mk J)) w := by
  obtain ⟨a, cap, rfl, _, hc⟩ := own_form h
  have hj : ∀ j (hj : j < J.length), ∃ b, a = some ⟨b, 0, none⟩ ∧ w.cell? ⟨b, 0 + j, none⟩ = some (.int .u8 (J[j].toNat : Int)) := fun j hj => by
    obtain ⟨b, _, _, e, c⟩ := hc j (.int .u8 (J[j].toNat : Int)) (by unfold Lib.byteCells; rw [List.getElem?_map, List.getElem?_eq_getElem hj]; rfl)
    exact ⟨b, e, c⟩
  cases a with
  | none =>
    have hJ : J = [] := by
      cases J with
      | nil => rfl
      | cons x l => obtain ⟨b, e, _⟩ := hj 0 (by simp); cases e
    subst hJ
    exact run_convert_bytes_nil w 43 5 Tryd.underlying43 Tryd.underlying5 _ _ 9 Tryd.underlying9
  | some x =>
    refine run_convert_bytes_back w 43 9 5 x cap J Tryd.underlying43 Tryd.underlying5 Tryd.underlying9 (fun j h => ?_)
    obtain ⟨b, e, c⟩ := hj j h
    cases e
    rw [add0]
    exact c

set_option maxHeartbeats 4000000 in
theorem joinC_any (a : Option Addr) (cap : Nat) (pa : List ByteArray) (w : World) (h : SsAt w a pa) (hl : pa.length ≤ 262144) (hs : ∀ s ∈ pa, s.size ≤ 1048576) :
    Calls Tryd.prog 10 #[.slice a pa.length cap] w fun e w' => e = .returned (.string (mk (jn (pa.map bs)))) ∧ Lat w w' := by
  obtain ⟨i0, hi, hz0, hz1, hz2⟩ := info_parts info5
  go_enter Tryd.func10, Tryd.ntmps10
  go_wp2_with fail
  go_loopw [3, 4] (fun v i wr => ∃ k : Nat, k ≤ pa.length ∧ i = .int .i64 k ∧ wr.ownsRow w.heap.size 5 1 v (jn ((pa.take k).map bs)).length (Lib.byteCells (jn ((pa.take k).map bs))) ∧ Lat w wr) (fun _ i _ => pa.length - (intOf i).toNat)
  case atStart => exact ⟨0, Nat.zero_le _, rfl, World.ownsRow_nil _ _ _ _, Lat.refl w⟩
  case round =>
    obtain ⟨k, hk, rfl, ho, hL⟩ := hrel
    by_cases hlt : k < pa.length
    · obtain ⟨s, hx⟩ : ∃ s, pa[k]? = some s := ⟨_, List.getElem?_eq_getElem hlt⟩
      obtain ⟨b, off, rfl, hc⟩ := h k s hx
      have c0 := hL.cell hc
      have HCW : Hid (w.cell? ⟨b, off + k, none⟩ = some (.string s)) := hc
      have JT : Hid (jn ((pa.take (k + 1)).map bs) = jn ((pa.take k).map bs) ++ (if k = 0 then [] else [44]) ++ bs s) := jn_take hx
      have hjl := jn_len hs k
      have hss := hs s (List.mem_of_getElem? hx)
      have hsz : w.heap.size ≤ wr.heap.size := hL.size
      have HOB : Hid (∀ g, u3.ownBlock = some g → w.heap.size ≤ g) := fun g hg => (World.ownsRow.lt ho g hg).1
      have JL : Hid (jn ((pa.take (k + 1)).map bs) = jn ((pa.take (k + 1)).map bs)) := rfl
      clear hc hx h hs
      generalize jn ((pa.take k).map bs) = J at *
      by_cases hk0 : k = 0
      · have JT' : Hid (jn ((pa.take (k + 1)).map bs) = J ++ bs s) := by
          have h := JT.out
          have h2 : jn ((pa.take (k + 1)).map bs) = J ++ bs s := by rw [h, if_pos hk0]; simp
          exact h2
        have dk : decide (0 < k) = false := decide_eq_false (by omega)
        have HK0 : Hid (k = 0) := hk0
        clear JT hk0
        go_wp2_with (first | (at_builtin; refine Lib.wpList_append_own_string _ rfl _ _ 43 9 rfl w.heap.size 5 i0 Tryd.underlying43 Tryd.underlying9 hi hz0 hz1 hz2 _ _ _ rfl ho s rfl ?p1 ?p2 ?p3 ?_))
        case p1 => unfold maxLen; omega
        case p2 => omega
        intro v' w4 ho4 hg4 _
        have hL4 : Lat w w4 := Lat.grown hL hg4 HOB.out
        have HO4 : Hid (w4.ownsRow w.heap.size 5 1 v' (jn ((pa.take (k + 1)).map bs)).length (Lib.byteCells (jn ((pa.take (k + 1)).map bs)))) := by
          have h : w4.ownsRow w.heap.size 5 1 v' (jn ((pa.take (k + 1)).map bs)).length (Lib.byteCells (jn ((pa.take (k + 1)).map bs))) := by
            rw [JT'.out, Lib.byteCells_append, List.length_append, bs_length]
            exact ho4
          exact h
        clear ho4 hg4
        go_wp2_with fail
        go_roundw
        case rel => exact ⟨k + 1, by omega, by go_num, HO4.out, hL4⟩
        case measure => simp [intOf]; omega
      · have JT' : Hid (jn ((pa.take (k + 1)).map bs) = J ++ [44] ++ bs s) := by
          have h := JT.out
          have h2 : jn ((pa.take (k + 1)).map bs) = J ++ [44] ++ bs s := by rw [h, if_neg hk0]
          exact h2
        have dk : decide (0 < k) = true := decide_eq_true (by omega)
        clear JT
        go_wp2_with (first | (at_builtin; refine wpList_append_own _ rfl (.tmp 13) (.tmp 14) 43 rfl w.heap.size 5 i0 (.int .u8 0) 1 1 Tryd.underlying43 hi hz0 hz1 hz2 rfl (by decide) _ _ _ rfl (ho.alloc _) ⟨wr.heap.size, 0, none⟩ 1 1 [.int .u8 44] rfl rfl ?q1 ?q2 ?q3 ?q4 ?q5 ?_))
        case q2 => rfl
        case q3 => unfold maxLen; omega
        case q4 => omega
        case q5 => omega
        intro v3 w3 ho3 hg3 _
        have hL3 : Lat w w3 := Lat.grown (hL.alloc _) hg3 HOB.out
        have ho3' : w3.ownsRow w.heap.size 5 1 v3 (J.length + 1) (Lib.byteCells (J ++ [44])) := by
          rw [Lib.byteCells_append]; exact ho3
        have HOB3 : Hid (∀ g, v3.ownBlock = some g → w.heap.size ≤ g) := fun g hg => (World.ownsRow.lt ho3' g hg).1
        have c3 : w3.cell? ⟨b, off + k, none⟩ = some (.string s) := hL3.cell HCW.out
        have hsz3 : w.heap.size ≤ w3.heap.size := hL3.size
        clear ho3 hg3 ho
        go_wp2_with (first | (at_builtin; refine Lib.wpList_append_own_string _ rfl (.tmp 16) (.tmp 20) 43 9 rfl w.heap.size 5 i0 Tryd.underlying43 Tryd.underlying9 hi hz0 hz1 hz2 _ _ _ rfl ho3' s rfl ?r1 ?r2 ?r3 ?_))
        case r1 => unfold maxLen; omega
        case r2 => omega
        case r3 => omega
        intro v' w4 ho4 hg4 _
        have hL4 : Lat w w4 := Lat.grown hL3 hg4 HOB3.out
        have HO4 : Hid (w4.ownsRow w.heap.size 5 1 v' (jn ((pa.take (k + 1)).map bs)).length (Lib.byteCells (jn ((pa.take (k + 1)).map bs)))) := by
          have h : w4.ownsRow w.heap.size 5 1 v' (jn ((pa.take (k + 1)).map bs)).length (Lib.byteCells (jn ((pa.take (k + 1)).map bs))) := by
            rw [JT'.out, Lib.byteCells_append, List.length_append, bs_length, List.length_append]
            exact ho4
          exact h
        clear ho4 hg4
        go_wp2_with fail
        go_roundw
        case rel => exact ⟨k + 1, by omega, by go_num, HO4.out, hL4⟩
        case measure => simp [intOf]; omega
    · obtain rfl : k = pa.length := by omega
      rw [List.take_length] at ho
      have hcv := bytes_back ho
      obtain ⟨a', cap', rfl, _, _⟩ := own_form ho
      clear ho
      go_wp2_with fail
      go_ret
      exact ⟨rfl, hL⟩
end Go.Proofs.Qxb6630339aDoor
