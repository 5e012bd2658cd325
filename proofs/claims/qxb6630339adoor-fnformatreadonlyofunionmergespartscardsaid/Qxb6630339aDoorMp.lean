/- The maps of the two laws. -/
import Derived.Test.Qxb6630339aDoorSm
namespace Go.Proofs.Qxb6630339aDoor
open Go.RowKit Go.Maps

/-- Block m is the map[int]bool that f says, of at most N keys. -/
def MB (w : World) (m N : Nat) (f : Int → Option Bool) : Prop := ∃ n D, w.ownsMap Tryd.prog 3 RV m n D ∧ n ≤ N ∧ IsB D f

theorem MB.of_block {w w' : World} {m N : Nat} {f : Int → Option Bool} (h : MB w m N f) (e : w'.heap[m]? = w.heap[m]?) : MB w' m N f := by
  obtain ⟨n, D, o, hn, hB⟩ := h
  exact ⟨n, D, ownsMap_of_block o e, hn, hB⟩
theorem MB.lt {w : World} {m N : Nat} {f : Int → Option Bool} (h : MB w m N f) : m < w.heap.size := by
  obtain ⟨n, D, o, _⟩ := h
  exact o.lt
theorem MB.later {w w' : World} {m N : Nat} {f : Int → Option Bool} (h : MB w m N f) (k : Lat w w') : MB w' m N f := h.of_block (k.block h.lt)
theorem MB.other {w w' : World} {m N b : Nat} {f : Int → Option Bool} (h : MB w m N f) (g : w.grownBy w' (some b)) (hne : m ≠ b) : MB w' m N f := h.of_block (g.block m h.lt (by simpa using hne))
theorem MB.made (w : World) : MB (w.alloc (.map #[] 0)) w.heap.size 0 (fun _ => none) := ⟨0, _, World.ownsMap_made w Tryd.prog 3 RV, Nat.le_refl _, isB_empty⟩

theorem MB.put {w : World} {m N : Nat} {f : Int → Option Bool} (h : MB w m N f) (hN : N ≤ 1048576) {k : Int} (hk : (Lit.int .i64 k).wf = true) (b : Bool) :
    ∃ w', (Instr.mapUpdate 26 (.map (some m)) (.int .i64 k) (.bool b)).run Tryd.prog w = .ok () w' ∧ MB w' m (N + 1) (upd f k b) ∧ w.grownBy w' (some m) := by
  obtain ⟨n, D, o, hn, hB⟩ := h
  obtain ⟨w', h1, h2, h3⟩ := o.update law3 Tryd.underlying26 (by unfold maxLen; omega) (key3 hk) (val := .bool b) (d := .held _) (ps := []) rfl
  exact ⟨w', h1, ⟨n + 1, _, h2, by omega, hB.put (o.tidy law3) k b⟩, h3⟩

theorem MB.look {w : World} {m N : Nat} {f : Int → Option Bool} (h : MB w m N f) {z : Int} (hz : (Lit.int .i64 z).wf = true) : (Instr.lookup 26 (.map (some m)) (.int .i64 z) false).run Tryd.prog w = .ok (.bool (on f z)) w := by
  obtain ⟨n, D, o, _, hB⟩ := h
  exact look3 o hB hz w rfl

theorem MB.fmt {w : World} {m N : Nat} {f : Int → Option Bool} (h : MB w m N f) (hN : N ≤ 131072) (htab : Lib.TabIs Tryd.prog w "internal/strconv.uint64pow10" .u64 Lib.pow10Tab) : Calls Tryd.prog 7 #[.map (some m)] w fun e w' => Fmtd f e ∧ Lat w w' := by
  obtain ⟨n, D, o, hn, hB⟩ := h
  exact fmt_any m n D f w o hB (by have := o.size_le; omega) htab

/-- Block m is the map[string]int of the numbers seen by their numerals. -/
def MT (w : World) (m N : Nat) (seen : List Int) : Prop :=
  ∃ n D, w.ownsMap Tryd.prog 9 RV m n D ∧ n ≤ N ∧ (∀ t : Bs, Maps.has D (.string t) = decide (t ∈ seen.map Lib.itoa)) ∧ ∀ j ∈ seen, ∀ z, D.atKey (.string (Lib.itoa j)) z = .held (.int .i64 j)

theorem MT.of_block {w w' : World} {m N : Nat} {seen : List Int} (h : MT w m N seen) (e : w'.heap[m]? = w.heap[m]?) : MT w' m N seen := by
  obtain ⟨n, D, o, hn, hB⟩ := h
  exact ⟨n, D, ownsMap_of_block o e, hn, hB⟩
theorem MT.lt {w : World} {m N : Nat} {seen : List Int} (h : MT w m N seen) : m < w.heap.size := by
  obtain ⟨n, D, o, _⟩ := h
  exact o.lt
theorem MT.later {w w' : World} {m N : Nat} {seen : List Int} (h : MT w m N seen) (k : Lat w w') : MT w' m N seen := h.of_block (k.block h.lt)
theorem MT.made (w : World) : MT (w.alloc (.map #[] 0)) w.heap.size 0 [] := ⟨0, _, World.ownsMap_made w Tryd.prog 9 RV, Nat.le_refl _, fun s => by simp [Maps.has], fun j h => by cases h⟩

theorem key9 (s : ByteArray) (hs : s.size ≤ maxLen) : keyOf Tryd.prog 9 (.string s) = some (.string (bs s)) := WideMaps.keyOf_string_mk Tryd.underlying9 hs

theorem numeral_size {z : Int} (hz : (Lit.int .i64 z).wf = true) : (mk (Lib.itoa z)).size ≤ 21 := by
  have hb := bounds_i64 hz
  rw [mk_size]
  exact Lib.itoa_length_le z hb.1 hb.2

theorem MT.put {w : World} {m N : Nat} {seen : List Int} (h : MT w m N seen) (hN : N ≤ 1048576) {j : Int} (hj : (Lit.int .i64 j).wf = true) (hnew : j ∉ seen) :
    ∃ w', (Instr.mapUpdate 28 (.map (some m)) (.string (mk (Lib.itoa j))) (.int .i64 j)).run Tryd.prog w = .ok () w' ∧ MT w' m (N + 1) (seen ++ [j]) ∧ w.grownBy w' (some m) := by
  obtain ⟨n, D, o, hn, h2, h3⟩ := h
  have hsz := numeral_size hj
  obtain ⟨w', r1, r2, r3⟩ := o.update law9 Tryd.underlying28 (by unfold maxLen; omega) (key9 (mk (Lib.itoa j)) (by unfold maxLen; omega)) (val := .int .i64 j) (d := .held _) (ps := []) rfl
  rw [bs_mk] at r2
  have ht := o.tidy law9
  have hk : WideAt.IsKeyLit (.string (Lib.itoa j)) := trivial
  refine ⟨w', r1, ⟨n + 1, _, r2, by omega, fun t => ?_, fun i hi z => ?_⟩, r3⟩
  · by_cases e : t = Lib.itoa j
    · subst e
      rw [has_put_same ht.isMap hk, eq_comm, decide_eq_true_iff]
      simp
    · rw [has_put_other (by simpa using e), h2]
      simp [e]
  · by_cases e : i = j
    · subst e
      exact atKey_put_same ht.isMap hk _ z
    · have e' : Lib.itoa i ≠ Lib.itoa j := fun h => e (itoa_inj h)
      rw [atKey_put_other (by simpa using e')]
      refine h3 i ?_ z
      rcases List.mem_append.1 hi with h | h
      · exact h
      · exact absurd (by simpa using h) e

theorem MT.look_in {w : World} {m N : Nat} {seen : List Int} (h : MT w m N seen) {j : Int} (hj : (Lit.int .i64 j).wf = true) (hin : j ∈ seen) (s : ByteArray) (hs : bs s = Lib.itoa j) : (Instr.lookup 28 (.map (some m)) (.string s) true).run Tryd.prog w = .ok (.tuple #[.int .i64 j, .bool true]) w := by
  obtain ⟨n, D, o, hn, h2, h3⟩ := h
  have hsz := numeral_size hj
  have es : s = mk (Lib.itoa j) := by rw [← hs, mk_bs]
  subst es
  obtain ⟨u, ps, hrun, hu⟩ := o.look_ok law9 Tryd.underlying28 (zero3 w) (zd := .held (.int .i64 0)) (zp := []) rfl (key9 (mk (Lib.itoa j)) (by unfold maxLen; omega))
  have hv := RV_inv hu
  rw [bs_mk] at hv hrun
  rw [h3 j hin] at hv
  cases hv
  rw [hrun, h2, decide_eq_true (List.mem_map_of_mem hin)]

theorem MT.look_out {w : World} {m N : Nat} {seen : List Int} (h : MT w m N seen) {j : Int} (hj : (Lit.int .i64 j).wf = true) (hin : j ∉ seen) : (Instr.lookup 28 (.map (some m)) (.string (mk (Lib.itoa j))) true).run Tryd.prog w = .ok (.tuple #[.int .i64 0, .bool false]) w := by
  obtain ⟨n, D, o, hn, h2, h3⟩ := h
  have hsz := numeral_size hj
  have hno : Maps.has D (.string (Lib.itoa j)) = false := by
    rw [h2]
    refine decide_eq_false fun hm => ?_
    obtain ⟨i, hi, e⟩ := List.mem_map.1 hm
    exact hin (itoa_inj e ▸ hi)
  obtain ⟨u, ps, hrun, hu⟩ := o.look_ok law9 Tryd.underlying28 (zero3 w) (zd := .held (.int .i64 0)) (zp := []) rfl (key9 (mk (Lib.itoa j)) (by unfold maxLen; omega))
  have hv := RV_inv hu
  rw [bs_mk] at hv hrun
  rw [atKey_of_not_has hno] at hv
  cases hv
  rw [hrun, hno]
end Go.Proofs.Qxb6630339aDoor
