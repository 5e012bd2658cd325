/- Aids for the walk of FnNewTableFreshRouteInsertedAnywhere. -/
import Derived.Test.Qxb6630238aJn
namespace Go.Proofs.Qxb6630238a
open Go.RowKit Pl

/-- Routes that lie in blocks from base on. -/
def NewRs (base : Nat) (w : World) (a : Option Addr) (rs : List Rt) : Prop :=
  ∀ i r, rs[i]? = some r → ∃ b off, base ≤ b ∧ a = some ⟨b, off, none⟩ ∧ RtC (fun b => base ≤ b) w b (off + i * 8) r

theorem NewRs.rs {base : Nat} {w : World} {a : Option Addr} {rs : List Rt} (h : NewRs base w a rs) : RsAt (fun _ => True) w a rs := fun i r hr => by
  obtain ⟨b, off, _, e, hc⟩ := h i r hr
  exact ⟨b, off, e, hc.mono (fun _ _ => trivial)⟩

theorem NewRs.later {base : Nat} {w w' : World} {a : Option Addr} {rs : List Rt} (h : NewRs base w a rs) (k : Lat w w') : NewRs base w' a rs := fun i r hr => by
  obtain ⟨b, off, hb, e, hc⟩ := h i r hr
  exact ⟨b, off, hb, e, hc.later k⟩

theorem RtC.setCell {S : Nat → Prop} {w : World} {b o : Nat} {r : Rt} (h : RtC S w b o r) {p : Addr} (hp : ¬ S p.block) (hb : b ≠ p.block) (v : Value) : RtC S (w.setCell p v) b o r := by
  obtain ⟨a, len, cap, h0, h1, h2, h3, h4, h5, h6, h7, hi⟩ := h
  have k : ∀ o' u, w.cell? ⟨b, o', none⟩ = some u → (w.setCell p v).cell? ⟨b, o', none⟩ = some u := fun o' u hu => by
    rw [World.cell?_setCell_other _ _ _ _ (by intro e; subst e; exact hb rfl)]
    exact hu
  exact ⟨a, len, cap, k _ _ h0, k _ _ h1, k _ _ h2, k _ _ h3, k _ _ h4, k _ _ h5, k _ _ h6, k _ _ h7, hi.setCell hp v⟩

theorem NewRs.setCell {base : Nat} {w : World} {a : Option Addr} {rs : List Rt} (h : NewRs base w a rs) {p : Addr} (hp : p.block < base) (v : Value) : NewRs base (w.setCell p v) a rs := fun i r hr => by
  obtain ⟨b, off, hb, e, hc⟩ := h i r hr
  exact ⟨b, off, hb, e, hc.setCell (by omega) (by omega) v⟩

/-- A route of the block N stored. -/
theorem NewRs.store8 {base : Nat} {w : World} {a : Option Addr} {rs : List Rt} (h : NewRs base w a rs) {b : Nat} (hb : b < base) (o0 o1 o2 o3 o4 o5 o6 o7 : Nat) (v0 v1 v2 v3 v4 v5 v6 v7 : Value) :
    NewRs base ((((((((w.setCell ⟨b, o0, none⟩ v0).setCell ⟨b, o1, none⟩ v1).setCell ⟨b, o2, none⟩ v2).setCell ⟨b, o3, none⟩ v3).setCell ⟨b, o4, none⟩ v4).setCell ⟨b, o5, none⟩ v5).setCell ⟨b, o6, none⟩ v6).setCell ⟨b, o7, none⟩ v7) a rs :=
  (((((((h.setCell hb _).setCell hb _).setCell hb _).setCell hb _).setCell hb _).setCell hb _).setCell hb _).setCell hb _

theorem IntsAt.store8 {base : Nat} {w : World} {a : Option Addr} {len : Nat} {c : Option (List Int)} (h : IntsAt (fun b => base ≤ b) w a len c) {b : Nat} (hb : b < base) (o0 o1 o2 o3 o4 o5 o6 o7 : Nat) (v0 v1 v2 v3 v4 v5 v6 v7 : Value) :
    IntsAt (fun b => base ≤ b) ((((((((w.setCell ⟨b, o0, none⟩ v0).setCell ⟨b, o1, none⟩ v1).setCell ⟨b, o2, none⟩ v2).setCell ⟨b, o3, none⟩ v3).setCell ⟨b, o4, none⟩ v4).setCell ⟨b, o5, none⟩ v5).setCell ⟨b, o6, none⟩ v6).setCell ⟨b, o7, none⟩ v7) a len c := by
  have hb' : ¬ base ≤ b := by omega
  exact (((((((h.setCell hb' _).setCell hb' _).setCell hb' _).setCell hb' _).setCell hb' _).setCell hb' _).setCell hb' _).setCell hb' _

/-- The block's eight cells, after the store. -/
theorem b8_store {w : World} {b : Nat} {y : Rt} {ya : Option Addr} {yl yc : Nat} (h : B8 w b y ya yl yc) (x : Rt) (a : Option Addr) (l c : Nat) :
    B8 ((((((((w.setCell ⟨b, 0, none⟩ (.string x.pre)).setCell ⟨b, 1, none⟩ (.string x.kind)).setCell ⟨b, 2, none⟩ (.string x.dst)).setCell ⟨b, 3, none⟩ (.int .i64 x.mn)).setCell ⟨b, 4, none⟩ (.int .i64 x.mx)).setCell ⟨b, 5, none⟩ (.int .i64 x.st)).setCell ⟨b, 6, none⟩ (.string x.prep)).setCell ⟨b, 7, none⟩ (.slice a l c)) b x a l c := by
  obtain ⟨h0, h1, h2, h3, h4, h5, h6, h7⟩ := h
  refine ⟨?_, ?_, ?_, ?_, ?_, ?_, ?_, ?_⟩ <;> simp [go_sem, h0, h1, h2, h3, h4, h5, h6, h7]

theorem b8_alloc43 (W : World) (x : Rt) (a : Option Addr) (l c : Nat) : ∃ Wa, Wa = W.alloc (.cells #[.string x.pre, .string x.kind, .string x.dst, .int .i64 x.mn, .int .i64 x.mx, .int .i64 x.st, .string x.prep, .slice a l c] 43) ∧ Lat W Wa ∧ B8 Wa W.heap.size x a l c := by
  refine ⟨_, rfl, (Lat.refl W).alloc _, ?_, ?_, ?_, ?_, ?_, ?_, ?_, ?_⟩ <;> go_simp

set_option maxHeartbeats 1000000 in
theorem cloneRoutes_fresh {S : Nat → Prop} (a : Option Addr) (rs : List Rt) (cap : Nat) (w : World) (h : RsAt S w a rs) (hl : rs.length ≤ 65536) (hok : ∀ r ∈ rs, Ok r) :
    Calls Try.prog 8 #[.slice a rs.length cap] w fun e w' => ∃ a' cap', e = .returned (.slice a' rs.length cap') ∧ NewRs w.heap.size w' a' rs ∧ Lat w w' := by
  have q1 := fun (w : World) (a : Option Addr) (n c : Nat) => Lib.run_eql_slice_nil (P := Try.prog) w 22 43 a n c 0 0 Try.underlying22
  rcases a with _ | x
  · have hrs : rs = [] := by
      rcases rs with _ | ⟨r, rs⟩
      · rfl
      · obtain ⟨b, off, e, _⟩ := h 0 r rfl; cases e
    subst hrs
    go_enter Try.func8, Try.ntmps8
    go_wp2_with fail
    go_ret
    exact ⟨none, 0, rfl, fun i r hr => by simp at hr, Lat.refl w⟩
  · have hmk := fun w => make8 22 43 Try.underlying22 info43 rs.length hl w
    go_enter Try.func8, Try.ntmps8
    go_wp2_with fail
    go_loopw [4] (fun i wr => ∃ k : Nat, k ≤ rs.length ∧ i = .int .i64 k ∧ Row8 (fun b => w.heap.size < b) wr w.heap.size 43 rs.length (fun j => if j < k then rs[j]? else none) ∧ Lat w wr) (fun i _ => rs.length - (intOf i).toNat)
    case atStart => exact ⟨0, Nat.zero_le _, rfl, (row8_made _ 43 rs.length w).congr (fun j _ => by simp), (Lat.refl w).alloc _⟩
    case round =>
      obtain ⟨k, hk, rfl, he, hb⟩ := hrel
      clear hmk
      by_cases hlt : k < rs.length
      · obtain ⟨r, hr⟩ : ∃ r, rs[k]? = some r := ⟨_, List.getElem?_eq_getElem hlt⟩
        obtain ⟨b1, o1, ea, hc⟩ := h k r hr
        obtain rfl := Option.some.inj ea
        clear ea
        have hok' := hok r (List.mem_of_getElem? hr)
        obtain ⟨ai, li, ci, c0, c1, c2, c3, c4, c5, c6, c7, hi⟩ := hc.later hb
        have HC : Hid (∀ W, W = wr → Calls Try.prog 27 #[.agg #[.string r.pre, .string r.kind, .string r.dst, .int .i64 r.mn, .int .i64 r.mx, .int .i64 r.st, .string r.prep, .slice ai li ci]] W fun e w' => ∃ u, e = .returned u ∧ RtV (fun b => W.heap.size ≤ b) w' u r ∧ Lat W w') :=
          fun W hW => cloneRoute_any (S := S) _ r W (by subst hW; exact ⟨ai, li, ci, rfl, hi⟩) hok'
        clear h hok hc hok' hi
        go_wp2_with fail
        refine (HC.out _ rfl).mono ?_
        rintro e w1 ⟨u, rfl, ⟨a', l', cap', rfl, hi'⟩, hb1⟩
        have he1 := he.later hb1
        have hlt8 := he.lt
        obtain ⟨v0, v1, v2, v3, v4, v5, v6, v7, g0, g1, g2, g3, g4, g5, g6, g7, gf⟩ := he1.cells hlt
        have HS := he1.store hlt (by simp) (r := r) (cap := cap') (hi'.mono (fun b hb => by omega))
        have HB := (hb.trans hb1)
        have HRW : Hid (rs[k]? = some r) := hr
        clear he he1 hb hb1 hi' HC hr
        go_wp2_with fail
        go_roundw
        case rel => exact ⟨k + 1, by omega, by go_num, HS.congr (fun j _ => fill_step HRW.out j), HB.store8 (Nat.le_refl _) _ _ _ _ _ _ _ _ _ _ _ _ _ _ _ _⟩
        case measure => simp [intOf]; omega
      · go_wp2_with fail
        go_ret
        exact ⟨_, _, rfl, fun i r hr => ⟨w.heap.size, 0, Nat.le_refl _, rfl, by rw [Nat.zero_add]; exact (he.mono (fun b hb => Nat.le_of_lt hb)).rc ((List.getElem?_eq_some_iff.1 hr).1) (by rw [if_pos (by have := (List.getElem?_eq_some_iff.1 hr).1; omega)]; exact hr)⟩, hb⟩

set_option maxHeartbeats 1000000 in
theorem stringBytes_big (a : Option Addr) (ss : List ByteArray) (cap : Nat) (n : Int) (w : World) (h1 : 1048576 < n) :
    Calls Try.prog 7 #[.slice a ss.length cap, .int .i64 n] w fun e w' => e = .returned (.int .i64 n) ∧ w' = w := by
  have d1 : decide (n ≤ (1048576 : Int)) = false := decide_eq_false (by omega)
  go_enter Try.func7, Try.ntmps7
  go_wp2_with fail
  go_loop [1, 5] (fun s i => i = .int .i64 0 ∧ s = .int .i64 n) (fun _ _ => 0)
  case atStart => exact ⟨rfl, rfl⟩
  case round =>
    obtain ⟨rfl, rfl⟩ := hrel
    by_cases hlt : 0 < ss.length
    · have hd : decide ((0 : Int) < (ss.length : Int)) = true := decide_eq_true (by omega)
      go_wp2_with fail
      go_ret
      exact ⟨rfl, rfl⟩
    · have hd : decide ((0 : Int) < (ss.length : Int)) = false := decide_eq_false (by omega)
      go_wp2_with fail
      go_ret
      exact ⟨rfl, rfl⟩

/-! The plain law of the fresh route. -/
theorem not_keys_getL {rs : List Rt} {p : Bs} (h : p ∉ keys rs) : getL rs p = none := by
  have := getL_isSome p rs
  rw [decide_eq_false h] at this
  simpa using this

theorem keys_split (p : Nat) (l : List Rt) : keys l = keys (l.take p) ++ keys (l.drop p) := by
  rw [← keys_append, List.take_append_drop]

theorem ins_get_self {l : List Rt} {x : Rt} (p : Nat) (h : x.key ∉ keys l) : getL (ins p x l) x.key = some x := by
  unfold ins
  rw [getL_append]
  have hd : x.key ∉ keys (l.drop p) := fun hm => h (by rw [keys_split p l]; exact List.mem_append_right _ hm)
  simp only [getL, not_keys_getL hd]
  simp

theorem ins_get_other {l : List Rt} {x : Rt} (p : Nat) {k : Bs} (h : x.key ≠ k) : getL (ins p x l) k = getL l k := by
  have e : getL l k = getL (l.take p ++ l.drop p) k := by rw [List.take_append_drop]
  rw [e]
  unfold ins
  rw [getL_append, getL_append]
  simp only [getL]
  cases getL (l.drop p) k with
  | some y => rfl
  | none => simp [h]

theorem ins_nd {l : List Bs} {k : Bs} (p : Nat) : nd (ins p k l) = nd l + if k ∈ l then 0 else 1 := by
  unfold ins
  rw [nd_mid, List.take_append_drop]

theorem ins_map {α β : Type} (f : α → β) (p : Nat) (x : α) (l : List α) : (ins p x l).map f = ins p (f x) (l.map f) := by
  unfold ins; simp

theorem ins_lg {l : List Rt} {x : Rt} (p : Nat) : lg (ins p x l) = max (lg l) x.pre.size := by
  have e : lg l = lg (l.take p ++ l.drop p) := by rw [List.take_append_drop]
  rw [e]
  unfold ins
  rw [lg_append, lg_append, lg]
  omega

theorem ins_mem {α : Type} {l : List α} {x y : α} (p : Nat) : y ∈ ins p x l ↔ y = x ∨ y ∈ l := by
  have e : y ∈ l ↔ y ∈ l.take p ++ l.drop p := by rw [List.take_append_drop]
  rw [e]
  unfold ins
  simp only [List.mem_append, List.mem_cons]
  constructor
  · rintro (h | h | h)
    · exact .inr (.inl h)
    · exact .inl h
    · exact .inr (.inr h)
  · rintro (h | h | h)
    · exact .inr (.inl h)
    · exact .inl h
    · exact .inr (.inr h)
end Go.Proofs.Qxb6630238a
