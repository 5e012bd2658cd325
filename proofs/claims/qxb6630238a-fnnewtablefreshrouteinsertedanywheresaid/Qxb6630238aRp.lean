/- How the data of seat b6630238a lie in memory. -/
import Derived.Test.Qxb6630238aPl
import Derived.WalkKit
import Derived.WalkSpells
import Derived.WalkLawsBesides
import Derived.Deep.OwnRows
import Derived.Deep.QuietTactic
import Derived.BigQuiet
import Derived.Maps.Own
import Derived.Maps.OwnSet
namespace Go.Proofs.Qxb6630238a
open Go.RowKit Pl

/-- A later world: all that was there is as it was. -/
def Lat (w w' : World) : Prop := Below w.heap.size w w'

theorem Lat.refl (w : World) : Lat w w := Below.refl _ _
theorem Lat.trans {a b c : World} (h : Lat a b) (k : Lat b c) : Lat a c := Below.trans h (Below.mono k (Below.size h))
theorem Lat.alloc {a w : World} (h : Lat a w) (o : Obj) : Lat a (w.alloc o) := Below.alloc h (Below.size h) o
theorem Lat.drew {a w : World} (h : Lat a w) : Lat a w.drew := Below.drew h
theorem Lat.drewN {a w : World} (h : Lat a w) (n : Nat) : Lat a (w.drewN n) := below_drewN h n
theorem Lat.setCell {a w : World} (h : Lat a w) {p : Addr} (hp : a.heap.size ≤ p.block) (u : Value) : Lat a (w.setCell p u) := Below.setCell h hp u
theorem Lat.size {a w : World} (h : Lat a w) : a.heap.size ≤ w.heap.size := Below.size h
theorem Lat.cell {w w' : World} (h : Lat w w') {a : Addr} {v : Value} (hc : w.cell? a = some v) : w'.cell? a = some v := cell_later h hc
theorem Lat.block {w w' : World} (h : Lat w w') {k : Nat} (hk : k < w.heap.size) : w'.heap[k]? = w.heap[k]? := Below.block h k hk

/-- A slice of ints: nil, or the numbers zs, lying in blocks of S. -/
def IntsAt (S : Nat → Prop) (w : World) (a : Option Addr) (len : Nat) (c : Option (List Int)) : Prop :=
  match c with
  | none => a = none ∧ len = 0
  | some zs => a.isSome = true ∧ zs.length = len ∧ ∀ i, i < len → ∃ b off, S b ∧ a = some ⟨b, off, none⟩ ∧ w.cell? ⟨b, off + i, none⟩ = some (.int .i64 (zs.getD i 0))

theorem IntsAt.later {S : Nat → Prop} {w w' : World} {a : Option Addr} {len : Nat} {c : Option (List Int)} (h : IntsAt S w a len c) (k : Lat w w') : IntsAt S w' a len c := by
  cases c with
  | none => exact h
  | some zs =>
    obtain ⟨h1, h2, h3⟩ := h
    exact ⟨h1, h2, fun i hi => by obtain ⟨b, off, hB, e, hc⟩ := h3 i hi; exact ⟨b, off, hB, e, k.cell hc⟩⟩

theorem IntsAt.mono {S S' : Nat → Prop} {w : World} {a : Option Addr} {len : Nat} {c : Option (List Int)} (h : IntsAt S w a len c) (k : ∀ b, S b → S' b) : IntsAt S' w a len c := by
  cases c with
  | none => exact h
  | some zs =>
    obtain ⟨h1, h2, h3⟩ := h
    exact ⟨h1, h2, fun i hi => by obtain ⟨b, off, hB, e, hc⟩ := h3 i hi; exact ⟨b, off, k b hB, e, hc⟩⟩

/-- A store outside S does no harm. -/
theorem IntsAt.setCell {S : Nat → Prop} {w : World} {a : Option Addr} {len : Nat} {c : Option (List Int)} (h : IntsAt S w a len c) {p : Addr} (hp : ¬ S p.block) (v : Value) : IntsAt S (w.setCell p v) a len c := by
  cases c with
  | none => exact h
  | some zs =>
    obtain ⟨h1, h2, h3⟩ := h
    refine ⟨h1, h2, fun i hi => ?_⟩
    obtain ⟨b, off, hB, e, hc⟩ := h3 i hi
    refine ⟨b, off, hB, e, ?_⟩
    rw [World.cell?_setCell_other _ _ _ _ (by intro e; subst e; exact hp hB)]
    exact hc

/-- A route's value. -/
def RtV (S : Nat → Prop) (w : World) (v : Value) (r : Rt) : Prop :=
  ∃ a len cap, v = .agg #[.string r.pre, .string r.kind, .string r.dst, .int .i64 r.mn, .int .i64 r.mx, .int .i64 r.st, .string r.prep, .slice a len cap] ∧ IntsAt S w a len r.cls

theorem RtV.later {S : Nat → Prop} {w w' : World} {v : Value} {r : Rt} (h : RtV S w v r) (k : Lat w w') : RtV S w' v r := by
  obtain ⟨a, len, cap, e, hi⟩ := h
  exact ⟨a, len, cap, e, hi.later k⟩

theorem RtV.mono {S S' : Nat → Prop} {w : World} {v : Value} {r : Rt} (h : RtV S w v r) (k : ∀ b, S b → S' b) : RtV S' w v r := by
  obtain ⟨a, len, cap, e, hi⟩ := h
  exact ⟨a, len, cap, e, hi.mono k⟩

/-- A route's eight cells. -/
def RtC (S : Nat → Prop) (w : World) (b o : Nat) (r : Rt) : Prop :=
  ∃ a len cap, w.cell? ⟨b, o, none⟩ = some (.string r.pre) ∧ w.cell? ⟨b, o + 1, none⟩ = some (.string r.kind) ∧ w.cell? ⟨b, o + 2, none⟩ = some (.string r.dst) ∧ w.cell? ⟨b, o + 3, none⟩ = some (.int .i64 r.mn) ∧ w.cell? ⟨b, o + 4, none⟩ = some (.int .i64 r.mx) ∧ w.cell? ⟨b, o + 5, none⟩ = some (.int .i64 r.st) ∧ w.cell? ⟨b, o + 6, none⟩ = some (.string r.prep) ∧ w.cell? ⟨b, o + 7, none⟩ = some (.slice a len cap) ∧ IntsAt S w a len r.cls

theorem RtC.later {S : Nat → Prop} {w w' : World} {b o : Nat} {r : Rt} (h : RtC S w b o r) (k : Lat w w') : RtC S w' b o r := by
  obtain ⟨a, len, cap, h0, h1, h2, h3, h4, h5, h6, h7, hi⟩ := h
  exact ⟨a, len, cap, k.cell h0, k.cell h1, k.cell h2, k.cell h3, k.cell h4, k.cell h5, k.cell h6, k.cell h7, hi.later k⟩

theorem RtC.mono {S S' : Nat → Prop} {w : World} {b o : Nat} {r : Rt} (h : RtC S w b o r) (k : ∀ b, S b → S' b) : RtC S' w b o r := by
  obtain ⟨a, len, cap, h0, h1, h2, h3, h4, h5, h6, h7, hi⟩ := h
  exact ⟨a, len, cap, h0, h1, h2, h3, h4, h5, h6, h7, hi.mono k⟩

/-- A slice of routes. -/
def RsAt (S : Nat → Prop) (w : World) (a : Option Addr) (rs : List Rt) : Prop :=
  ∀ i r, rs[i]? = some r → ∃ b off, a = some ⟨b, off, none⟩ ∧ RtC S w b (off + i * 8) r

theorem RsAt.later {S : Nat → Prop} {w w' : World} {a : Option Addr} {rs : List Rt} (h : RsAt S w a rs) (k : Lat w w') : RsAt S w' a rs :=
  fun i r hr => by obtain ⟨b, off, e, hc⟩ := h i r hr; exact ⟨b, off, e, hc.later k⟩

theorem RsAt.mono {S S' : Nat → Prop} {w : World} {a : Option Addr} {rs : List Rt} (h : RsAt S w a rs) (k : ∀ b, S b → S' b) : RsAt S' w a rs :=
  fun i r hr => by obtain ⟨b, off, e, hc⟩ := h i r hr; exact ⟨b, off, e, hc.mono k⟩

/-- What lies in memory lies in blocks that are there. -/
theorem IntsAt.old {S : Nat → Prop} {w : World} {a : Option Addr} {len : Nat} {c : Option (List Int)} (h : IntsAt S w a len c) : IntsAt (fun b => b < w.heap.size) w a len c := by
  cases c with
  | none => exact h
  | some zs =>
    obtain ⟨h1, h2, h3⟩ := h
    exact ⟨h1, h2, fun i hi => by obtain ⟨b, off, hB, e, hc⟩ := h3 i hi; exact ⟨b, off, World.block_lt_of_cell? _ _ hc, e, hc⟩⟩

/-- Eight cells, as a function of the place, are a route. -/
def Elem (S : Nat → Prop) (w : World) (g : Nat → Value) (r : Rt) : Prop :=
  ∃ a len cap, g 0 = .string r.pre ∧ g 1 = .string r.kind ∧ g 2 = .string r.dst ∧ g 3 = .int .i64 r.mn ∧ g 4 = .int .i64 r.mx ∧ g 5 = .int .i64 r.st ∧ g 6 = .string r.prep ∧ g 7 = .slice a len cap ∧ IntsAt S w a len r.cls

/-- Block b is a row of n routes' cells; where L says so, the route is there. -/
def Row8 (S : Nat → Prop) (w : World) (b e n : Nat) (L : Nat → Option Rt) : Prop :=
  ∃ f, w.rowIs b e (n * 8) f ∧ ∀ j r, j < n → L j = some r → Elem S w (fun i => f (j * 8 + i)) r

theorem Row8.later {S : Nat → Prop} {w w' : World} {b e n : Nat} {L : Nat → Option Rt} (h : Row8 S w b e n L) (k : Lat w w') : Row8 S w' b e n L := by
  obtain ⟨f, hf, hE⟩ := h
  refine ⟨f, hf.of_block (k.block hf.lt), fun j r hj hr => ?_⟩
  obtain ⟨a, len, cap, h0, h1, h2, h3, h4, h5, h6, h7, hi⟩ := hE j r hj hr
  exact ⟨a, len, cap, h0, h1, h2, h3, h4, h5, h6, h7, hi.later k⟩

theorem Row8.congr {S : Nat → Prop} {w : World} {b e n : Nat} {L L' : Nat → Option Rt} (h : Row8 S w b e n L) (k : ∀ j, j < n → L' j = L j) : Row8 S w b e n L' := by
  obtain ⟨f, hf, hE⟩ := h
  exact ⟨f, hf, fun j r hj hr => hE j r hj (by rw [← k j hj]; exact hr)⟩

theorem Row8.rc {S : Nat → Prop} {w : World} {b e n : Nat} {L : Nat → Option Rt} (h : Row8 S w b e n L) {j : Nat} {r : Rt} (hj : j < n) (hr : L j = some r) : RtC S w b (j * 8) r := by
  obtain ⟨f, hf, hE⟩ := h
  obtain ⟨a, len, cap, h0, h1, h2, h3, h4, h5, h6, h7, hi⟩ := hE j r hj hr
  refine ⟨a, len, cap, ?_, ?_, ?_, ?_, ?_, ?_, ?_, ?_, hi⟩
  · rw [← h0]; exact hf.cell (i := j * 8) (by omega)
  · rw [← h1]; exact hf.cell (i := j * 8 + 1) (by omega)
  · rw [← h2]; exact hf.cell (i := j * 8 + 2) (by omega)
  · rw [← h3]; exact hf.cell (i := j * 8 + 3) (by omega)
  · rw [← h4]; exact hf.cell (i := j * 8 + 4) (by omega)
  · rw [← h5]; exact hf.cell (i := j * 8 + 5) (by omega)
  · rw [← h6]; exact hf.cell (i := j * 8 + 6) (by omega)
  · rw [← h7]; exact hf.cell (i := j * 8 + 7) (by omega)

/-- The row, filled, is a slice of routes. -/
theorem Row8.rs {S : Nat → Prop} {w : World} {b e n : Nat} {L : Nat → Option Rt} (h : Row8 S w b e n L) {rs : List Rt} (hn : rs.length = n) (hL : ∀ j r, rs[j]? = some r → L j = some r) : RsAt S w (some ⟨b, 0, none⟩) rs := by
  intro i r hr
  have hi : i < rs.length := (List.getElem?_eq_some_iff.1 hr).1
  refine ⟨b, 0, rfl, ?_⟩
  rw [Nat.zero_add]
  exact h.rc (by omega) (hL i r hr)

/-- A route stored into the row. -/
theorem Row8.store {S : Nat → Prop} {w : World} {b e n : Nat} {L : Nat → Option Rt} (h : Row8 S w b e n L) {k : Nat} (hk : k < n) (hS : ¬ S b) {r : Rt} {a : Option Addr} {len cap : Nat} (hi : IntsAt S w a len r.cls) :
    Row8 S ((((((((w.setCell ⟨b, k * 8, none⟩ (.string r.pre)).setCell ⟨b, k * 8 + 1, none⟩ (.string r.kind)).setCell ⟨b, k * 8 + 2, none⟩ (.string r.dst)).setCell ⟨b, k * 8 + 3, none⟩ (.int .i64 r.mn)).setCell ⟨b, k * 8 + 4, none⟩ (.int .i64 r.mx)).setCell ⟨b, k * 8 + 5, none⟩ (.int .i64 r.st)).setCell ⟨b, k * 8 + 6, none⟩ (.string r.prep)).setCell ⟨b, k * 8 + 7, none⟩ (.slice a len cap)) b e n (fun j => if j = k then some r else L j) := by
  obtain ⟨f, hf, hE⟩ := h
  have keep : ∀ {a' : Option Addr} {l' : Nat} {c' : Option (List Int)}, IntsAt S w a' l' c' → IntsAt S ((((((((w.setCell ⟨b, k * 8, none⟩ (.string r.pre)).setCell ⟨b, k * 8 + 1, none⟩ (.string r.kind)).setCell ⟨b, k * 8 + 2, none⟩ (.string r.dst)).setCell ⟨b, k * 8 + 3, none⟩ (.int .i64 r.mn)).setCell ⟨b, k * 8 + 4, none⟩ (.int .i64 r.mx)).setCell ⟨b, k * 8 + 5, none⟩ (.int .i64 r.st)).setCell ⟨b, k * 8 + 6, none⟩ (.string r.prep)).setCell ⟨b, k * 8 + 7, none⟩ (.slice a len cap)) a' l' c' :=
    fun h => (((((((h.setCell hS _).setCell hS _).setCell hS _).setCell hS _).setCell hS _).setCell hS _).setCell hS _).setCell hS _
  refine ⟨_, (((((((hf.set (k * 8) (.string r.pre)).set (k * 8 + 1) (.string r.kind)).set (k * 8 + 2) (.string r.dst)).set (k * 8 + 3) (.int .i64 r.mn)).set (k * 8 + 4) (.int .i64 r.mx)).set (k * 8 + 5) (.int .i64 r.st)).set (k * 8 + 6) (.string r.prep)).set (k * 8 + 7) (.slice a len cap), fun j r' hj hr => ?_⟩
  by_cases e : j = k
  · subst e
    dsimp only at hr
    rw [if_pos rfl] at hr
    obtain rfl := Option.some.inj hr
    exact ⟨a, len, cap, by simp, by simp, by simp, by simp, by simp, by simp, by simp, by simp, keep hi⟩
  · dsimp only at hr
    rw [if_neg e] at hr
    obtain ⟨a', len', cap', h0, h1, h2, h3, h4, h5, h6, h7, hi'⟩ := hE j r' hj hr
    refine ⟨a', len', cap', ?_, ?_, ?_, ?_, ?_, ?_, ?_, ?_, keep hi'⟩
    · rw [← h0]; dsimp only; rw [if_neg (by omega), if_neg (by omega), if_neg (by omega), if_neg (by omega), if_neg (by omega), if_neg (by omega), if_neg (by omega), if_neg (by omega)]
    · rw [← h1]; dsimp only; rw [if_neg (by omega), if_neg (by omega), if_neg (by omega), if_neg (by omega), if_neg (by omega), if_neg (by omega), if_neg (by omega), if_neg (by omega)]
    · rw [← h2]; dsimp only; rw [if_neg (by omega), if_neg (by omega), if_neg (by omega), if_neg (by omega), if_neg (by omega), if_neg (by omega), if_neg (by omega), if_neg (by omega)]
    · rw [← h3]; dsimp only; rw [if_neg (by omega), if_neg (by omega), if_neg (by omega), if_neg (by omega), if_neg (by omega), if_neg (by omega), if_neg (by omega), if_neg (by omega)]
    · rw [← h4]; dsimp only; rw [if_neg (by omega), if_neg (by omega), if_neg (by omega), if_neg (by omega), if_neg (by omega), if_neg (by omega), if_neg (by omega), if_neg (by omega)]
    · rw [← h5]; dsimp only; rw [if_neg (by omega), if_neg (by omega), if_neg (by omega), if_neg (by omega), if_neg (by omega), if_neg (by omega), if_neg (by omega), if_neg (by omega)]
    · rw [← h6]; dsimp only; rw [if_neg (by omega), if_neg (by omega), if_neg (by omega), if_neg (by omega), if_neg (by omega), if_neg (by omega), if_neg (by omega), if_neg (by omega)]
    · rw [← h7]; dsimp only; rw [if_neg (by omega), if_neg (by omega), if_neg (by omega), if_neg (by omega), if_neg (by omega), if_neg (by omega), if_neg (by omega), if_neg (by omega)]

/-- A slice of strings. -/
def SsAt (w : World) (a : Option Addr) (ss : List ByteArray) : Prop :=
  ∀ i s, ss[i]? = some s → ∃ b off, a = some ⟨b, off, none⟩ ∧ w.cell? ⟨b, off + i, none⟩ = some (.string s)

theorem SsAt.later {w w' : World} {a : Option Addr} {ss : List ByteArray} (h : SsAt w a ss) (k : Lat w w') : SsAt w' a ss :=
  fun i s hs => by obtain ⟨b, off, e, hc⟩ := h i s hs; exact ⟨b, off, e, k.cell hc⟩

end Go.Proofs.Qxb6630238a
