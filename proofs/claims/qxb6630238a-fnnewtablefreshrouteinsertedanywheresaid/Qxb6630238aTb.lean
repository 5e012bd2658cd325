/- The table of seat b6630238a: how it lies, what a look into it gives. -/
import Derived.Test.Qxb6630238aWkF
namespace Go.Proofs.Qxb6630238a
open Go.RowKit Pl Go.Maps

/-- An element of a map, read as itself. -/
def RV (v : Value) : Option (DataW Value × List MemPlace) := some (.held v, [])

theorem law9 : Keyed Try.prog 9 := string_keyed Try.underlying9
theorem zero45 (w : World) : (zeroValue 45).run Try.prog w = .ok (.agg zc) w := by kernel_rfl
theorem zero4 (w : World) : (zeroValue 4).run Try.prog w = .ok (.bool false) w := by kernel_rfl

/-- D is the map of the routes rs by their prefixes. -/
def IsMapR (w : World) (D : DataW Value) (rs : List Rt) : Prop :=
  Maps.size D = nd (keys rs) ∧ (∀ s : Bs, Maps.has D (.string s) = decide (s ∈ keys rs)) ∧ ∀ s r, getL rs s = some r → ∃ v, (∀ z, D.atKey (.string s) z = .held v) ∧ RtV (fun _ => True) w v r

theorem isMapR_empty (w : World) : IsMapR w (.map []) [] := ⟨rfl, fun s => by simp [keys, Maps.has], fun s r h => by cases h⟩

theorem IsMapR.put {w : World} {D : DataW Value} {rs : List Rt} (h : IsMapR w D rs) (ht : Tidy D) {v : Value} {r : Rt} (hv : RtV (fun _ => True) w v r) : IsMapR w (D.put (.string r.key) (.held v)) (rs ++ [r]) := by
  obtain ⟨h1, h2, h3⟩ := h
  have hk : WideAt.IsKeyLit (.string r.key) := trivial
  refine ⟨?_, fun s => ?_, fun s x hx => ?_⟩
  · rw [size_put ht, h2, keys_append, h1]
    have : keys [r] = [r.key] := rfl
    rw [this, nd_snoc]
    by_cases hm : r.key ∈ keys rs <;> simp [hm]
  · by_cases e : s = r.key
    · subst e
      rw [has_put_same ht.isMap hk, eq_comm, decide_eq_true_iff, keys_append]
      exact List.mem_append_right _ (by simp [keys])
    · rw [has_put_other (by simpa using e), h2, keys_append]
      simp [keys, e]
  · rw [getL_snoc] at hx
    by_cases e : r.key = s
    · rw [if_pos e] at hx
      obtain rfl := Option.some.inj hx
      subst e
      exact ⟨v, fun z => atKey_put_same ht.isMap hk _ z, hv⟩
    · rw [if_neg e] at hx
      obtain ⟨u, hu, hr⟩ := h3 s x hx
      exact ⟨u, fun z => by rw [atKey_put_other (by simpa using fun h => e h.symm)]; exact hu z, hr⟩

theorem IsMapR.later {w w' : World} {D : DataW Value} {rs : List Rt} (h : IsMapR w D rs) (k : Lat w w') : IsMapR w' D rs :=
  ⟨h.1, h.2.1, fun s r hr => by obtain ⟨v, hv, hr⟩ := h.2.2 s r hr; exact ⟨v, hv, hr.later k⟩⟩

/-- D is the set of the numbers ns. -/
def IsMapN (D : DataW Value) (ns : List ByteArray) : Prop :=
  Maps.size D = nd (ns.map bs) ∧ (∀ s : Bs, Maps.has D (.string s) = decide (s ∈ ns.map bs)) ∧ ∀ s : Bs, s ∈ ns.map bs → ∀ z, D.atKey (.string s) z = .held (.bool true)

theorem isMapN_empty : IsMapN (.map []) [] := ⟨rfl, fun s => by simp [Maps.has], fun s h => by cases h⟩

theorem IsMapN.put {D : DataW Value} {ns : List ByteArray} (h : IsMapN D ns) (ht : Tidy D) (x : ByteArray) : IsMapN (D.put (.string (bs x)) (.held (.bool true))) (ns ++ [x]) := by
  obtain ⟨h1, h2, h3⟩ := h
  have hk : WideAt.IsKeyLit (.string (bs x)) := trivial
  have hm : (ns ++ [x]).map bs = ns.map bs ++ [bs x] := by simp
  refine ⟨?_, fun s => ?_, fun s hs z => ?_⟩
  · rw [size_put ht, h2, hm, h1, nd_snoc]
    by_cases hm : bs x ∈ ns.map bs
    · rw [if_pos hm, decide_eq_true hm]; rfl
    · rw [if_neg hm, decide_eq_false hm]; rfl
  · rw [hm]
    by_cases e : s = bs x
    · subst e
      rw [has_put_same ht.isMap hk, eq_comm, decide_eq_true_iff]
      exact List.mem_append_right _ (by simp)
    · rw [has_put_other (by simpa using e), h2]
      simp [e]
  · by_cases e : s = bs x
    · subst e
      exact atKey_put_same ht.isMap hk _ z
    · rw [atKey_put_other (by simpa using e)]
      rw [hm, List.mem_append] at hs
      rcases hs with hs | hs
      · exact h3 s hs z
      · exact absurd (by simpa using hs) e

theorem ownsMap_of_block {w w' : World} {P : Program} {k : TypeId} {H : Type} {R : Value → Option (DataW H × List MemPlace)} {b n : Nat} {D : DataW H} (h : w.ownsMap P k R b n D) (e : w'.heap[b]? = w.heap[b]?) : w'.ownsMap P k R b n D := by
  obtain ⟨es, clock, hb, r⟩ := h
  exact ⟨es, clock, e.trans hb, r⟩

/-- The table of the routes rs and the numbers ns. -/
def TabAt (w : World) (t : Value) (rs : List Rt) (ns : List ByteArray) : Prop :=
  ∃ T m1 m2 n1 n2 D1 D2, t = .pointer (some ⟨T, 0, none⟩) ∧ w.cell? ⟨T, 0, none⟩ = some (.map (some m1)) ∧ w.cell? ⟨T, 1, none⟩ = some (.int .i64 (lg rs)) ∧ w.cell? ⟨T, 2, none⟩ = some (.map (some m2)) ∧
    w.ownsMap Try.prog 9 RV m1 n1 D1 ∧ IsMapR w D1 rs ∧ w.ownsMap Try.prog 9 RV m2 n2 D2 ∧ IsMapN D2 ns

theorem TabAt.later {w w' : World} {t : Value} {rs : List Rt} {ns : List ByteArray} (h : TabAt w t rs ns) (k : Lat w w') : TabAt w' t rs ns := by
  obtain ⟨T, m1, m2, n1, n2, D1, D2, ht, c0, c1, c2, o1, i1, o2, i2⟩ := h
  exact ⟨T, m1, m2, n1, n2, D1, D2, ht, k.cell c0, k.cell c1, k.cell c2, ownsMap_of_block o1 (k.block o1.lt), i1.later k, ownsMap_of_block o2 (k.block o2.lt), i2⟩

theorem key_of (s : ByteArray) (hs : s.size ≤ maxLen) : keyOf Try.prog 9 (.string s) = some (.string (bs s)) := by
  rw [bs_data]; exact WideMaps.keyOf_string_mk Try.underlying9 hs

set_option maxHeartbeats 400000 in
theorem longest_any (t : Value) (rs : List Rt) (ns : List ByteArray) (w : World) (h : TabAt w t rs ns) :
    Calls Try.prog 16 #[t] w fun e w' => e = .returned (.int .i64 (lg rs)) ∧ w' = w := by
  obtain ⟨T, m1, m2, n1, n2, D1, D2, rfl, c0, c1, c2, o1, i1, o2, i2⟩ := h
  clear o1 i1 o2 i2 c0 c2
  go_enter Try.func16, Try.ntmps16
  go_wp2_with fail
  go_ret
  exact ⟨rfl, rfl⟩

set_option maxHeartbeats 400000 in
theorem routeCount_any (t : Value) (rs : List Rt) (ns : List ByteArray) (w : World) (h : TabAt w t rs ns) :
    Calls Try.prog 19 #[t] w fun e w' => e = .returned (.int .i64 (nd (keys rs))) ∧ w' = w := by
  obtain ⟨T, m1, m2, n1, n2, D1, D2, rfl, c0, c1, c2, o1, i1, o2, i2⟩ := h
  have hl := o1.len Try.underlying58 3
  rw [i1.1] at hl
  clear o1 i1 o2 i2 c1 c2
  go_enter Try.func19, Try.ntmps19
  go_wp2_with fail
  go_ret
  exact ⟨rfl, rfl⟩

set_option maxHeartbeats 400000 in
theorem blackCount_any (t : Value) (rs : List Rt) (ns : List ByteArray) (w : World) (h : TabAt w t rs ns) :
    Calls Try.prog 23 #[t] w fun e w' => e = .returned (.int .i64 (nd (ns.map bs))) ∧ w' = w := by
  obtain ⟨T, m1, m2, n1, n2, D1, D2, rfl, c0, c1, c2, o1, i1, o2, i2⟩ := h
  have hl := o2.len Try.underlying59 3
  rw [i2.1] at hl
  clear o1 i1 o2 i2 c1 c0
  generalize nd (ns.map bs) = N at *
  go_enter Try.func23, Try.ntmps23
  go_wp2_with fail
  go_ret
  exact ⟨rfl, rfl⟩

theorem RV_inv {v : Value} {d : DataW Value} {ps : List MemPlace} (h : RV v = some (d, ps)) : d = .held v := by
  unfold RV at h; simp at h; exact h.1.symm

theorem look_in {w : World} {m n : Nat} {D : DataW Value} (o : w.ownsMap Try.prog 9 RV m n D) {s : ByteArray} (hs : s.size ≤ maxLen) {t e : TypeId} (ht : Try.prog.underlying t = some (.map 9 e)) {z : Value} (hz : ∀ w, (zeroValue e).run Try.prog w = .ok z w) {v : Value} (hv : ∀ z, D.atKey (.string (bs s)) z = .held v) (W : World) (hW : Lat w W) :
    (Instr.lookup t (.map (some m)) (.string s) true).run Try.prog W = .ok (.tuple #[v, .bool true]) W := by
  have oW := ownsMap_of_block o (hW.block o.lt)
  obtain ⟨u, ps, hrun, hu⟩ := oW.look_ok law9 ht (hz W) (zd := .held z) (zp := []) rfl (key_of s hs)
  have := RV_inv hu
  rw [hv] at this
  cases this
  rw [hrun, has_true_of_atKey hv]

theorem look_out {w : World} {m n : Nat} {D : DataW Value} (o : w.ownsMap Try.prog 9 RV m n D) {s : ByteArray} (hs : s.size ≤ maxLen) {t e : TypeId} (ht : Try.prog.underlying t = some (.map 9 e)) {z : Value} (hz : ∀ w, (zeroValue e).run Try.prog w = .ok z w) (hv : Maps.has D (.string (bs s)) = false) (W : World) (hW : Lat w W) :
    (Instr.lookup t (.map (some m)) (.string s) true).run Try.prog W = .ok (.tuple #[z, .bool false]) W := by
  have oW := ownsMap_of_block o (hW.block o.lt)
  obtain ⟨u, ps, hrun, hu⟩ := oW.look_ok law9 ht (hz W) (zd := .held z) (zp := []) rfl (key_of s hs)
  have := RV_inv hu
  rw [atKey_of_not_has hv] at this
  cases this
  rw [hrun, hv]

set_option maxHeartbeats 1000000 in
theorem route_in (t : Value) (rs : List Rt) (ns : List ByteArray) (s : ByteArray) (r : Rt) (w : World) (h : TabAt w t rs ns) (hs : s.size ≤ maxLen) (hr : getL rs (bs s) = some r) :
    Calls Try.prog 20 #[t, .string s] w fun e w' => ∃ v, e = .returned (.tuple #[v, .bool true]) ∧ RtV (fun _ => True) w' v r ∧ Lat w w' := by
  obtain ⟨T, m1, m2, n1, n2, D1, D2, rfl, c0, c1, c2, o1, i1, o2, i2⟩ := h
  obtain ⟨v, hv, hrv⟩ := i1.2.2 (bs s) r hr
  have hlk := fun W hW => look_in o1 hs Try.underlying58 zero45 hv W hW
  obtain ⟨a, len, cap, rfl, hi⟩ := hrv
  have HI : Hid (IntsAt (fun _ => True) w a len r.cls) := hi
  have l1 := hlk _ ((Lat.refl w).alloc (.cells zc 45))
  unfold zc at l1
  have hT : T < w.heap.size := World.block_lt_of_cell? _ _ c0
  clear o1 i1 o2 i2 c1 c2 hv hi hr hlk
  go_enter Try.func20, Try.ntmps20
  go_wp2_with fail
  refine bodyPost_ret (v := .tuple #[.agg #[.string r.pre, .string r.kind, .string r.dst, .int .i64 r.mn, .int .i64 r.mx, .int .i64 r.st, .string r.prep, .slice a len cap], .bool true]) (by simp [results, Try.results20, go_sem]) rfl ⟨_, rfl, ⟨a, len, cap, rfl, HI.out.later (((Lat.refl w).alloc _).alloc _)⟩, ((Lat.refl w).alloc _).alloc _⟩

set_option maxHeartbeats 1000000 in
theorem route_out (t : Value) (rs : List Rt) (ns : List ByteArray) (s : ByteArray) (w : World) (h : TabAt w t rs ns) (hs : s.size ≤ maxLen) (hr : bs s ∉ keys rs) :
    Calls Try.prog 20 #[t, .string s] w fun e w' => e = .returned (.tuple #[.agg zc, .bool false]) ∧ Lat w w' := by
  obtain ⟨T, m1, m2, n1, n2, D1, D2, rfl, c0, c1, c2, o1, i1, o2, i2⟩ := h
  have hlk := fun W hW => look_out o1 hs Try.underlying58 zero45 (by rw [i1.2.1]; exact decide_eq_false hr) W hW
  have l1 := hlk _ ((Lat.refl w).alloc (.cells zc 45))
  unfold zc at l1 ⊢
  have hT : T < w.heap.size := World.block_lt_of_cell? _ _ c0
  clear o1 i1 o2 i2 c1 c2 hr hlk
  go_enter Try.func20, Try.ntmps20
  go_wp2_with fail
  refine bodyPost_ret (v := .tuple #[.agg #[.string ⟨#[]⟩, .string ⟨#[]⟩, .string ⟨#[]⟩, .int .i64 0, .int .i64 0, .int .i64 0, .string ⟨#[]⟩, .slice none 0 0], .bool false]) (by simp [results, Try.results20, go_sem]) rfl ⟨rfl, ((Lat.refl w).alloc _).alloc _⟩

set_option maxHeartbeats 1000000 in
theorem black_in (t : Value) (rs : List Rt) (ns : List ByteArray) (s : ByteArray) (w : World) (h : TabAt w t rs ns) (hs : s.size ≤ maxLen) (hr : bs s ∈ ns.map bs) :
    Calls Try.prog 24 #[t, .string s] w fun e w' => e = .returned (.tuple #[.bool true, .bool true]) ∧ w' = w := by
  obtain ⟨T, m1, m2, n1, n2, D1, D2, rfl, c0, c1, c2, o1, i1, o2, i2⟩ := h
  have l1 := look_in o2 hs Try.underlying59 zero4 (i2.2.2 (bs s) hr) w (Lat.refl w)
  clear o1 i1 o2 i2 c1 c0 hr
  go_enter Try.func24, Try.ntmps24
  go_wp2_with fail
  go_ret2
  exact ⟨rfl, rfl⟩

set_option maxHeartbeats 1000000 in
theorem black_out (t : Value) (rs : List Rt) (ns : List ByteArray) (s : ByteArray) (w : World) (h : TabAt w t rs ns) (hs : s.size ≤ maxLen) (hr : bs s ∉ ns.map bs) :
    Calls Try.prog 24 #[t, .string s] w fun e w' => e = .returned (.tuple #[.bool false, .bool false]) ∧ w' = w := by
  obtain ⟨T, m1, m2, n1, n2, D1, D2, rfl, c0, c1, c2, o1, i1, o2, i2⟩ := h
  have l1 := look_out o2 hs Try.underlying59 zero4 (by rw [i2.2.1]; exact decide_eq_false hr) w (Lat.refl w)
  clear o1 i1 o2 i2 c1 c0 hr
  go_enter Try.func24, Try.ntmps24
  go_wp2_with fail
  go_ret2
  exact ⟨rfl, rfl⟩
end Go.Proofs.Qxb6630238a
