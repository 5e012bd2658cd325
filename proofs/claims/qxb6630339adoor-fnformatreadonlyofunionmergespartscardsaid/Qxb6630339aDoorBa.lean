/- How the data of seat b6630339aD lie in memory. -/
import Derived.Test.Qxb6630339aDoorKs
import Derived.Lib.SmallJoins
import Derived.Lib.AppendIntMem
import Derived.Laws.Strings
namespace Go.Proofs.Qxb6630339aDoor
open Go.RowKit Go.Maps

/-- A later world: all that was there is as it was. -/
def Lat (w w' : World) : Prop := Below w.heap.size w w'

theorem Lat.refl (w : World) : Lat w w := Below.refl _ _
theorem Lat.trans {a b c : World} (h : Lat a b) (k : Lat b c) : Lat a c := Below.trans h (Below.mono k (Below.size h))
theorem Lat.alloc {a w : World} (h : Lat a w) (o : Obj) : Lat a (w.alloc o) := Below.alloc h (Below.size h) o
theorem Lat.drew {a w : World} (h : Lat a w) : Lat a w.drew := Below.drew h
theorem Lat.drewN {a w : World} (h : Lat a w) (n : Nat) : Lat a (w.drewN n) := below_drewN h n
theorem Lat.setCell {a w : World} (h : Lat a w) {p : Addr} (hp : a.heap.size ≤ p.block) (u : Value) : Lat a (w.setCell p u) := Below.setCell h hp u
theorem Lat.size {a w : World} (h : Lat a w) : a.heap.size ≤ w.heap.size := Below.size h
theorem Lat.cell {w w' : World} (h : Lat w w') {a : Addr} {v : Value} (hc : w.cell? a = some v) : w'.cell? a = some v := cell_later h hc
theorem Lat.block {w w' : World} (h : Lat w w') {k : Nat} (hk : k < w.heap.size) : w'.heap[k]? = w.heap[k]? := Below.block h k hk
theorem Lat.grow {w : World} (k : Nat) (os : Array Obj) : Lat w (Go.Sort.grow (w.drewN k) os) := Go.Lib.below_grow _ w (Nat.le_refl _) k os
/-- A growth of a block of one's own. -/
theorem Lat.grown {a w w' : World} {row : Option Nat} (h : Lat a w) (hg : w.grownBy w' row) (hr : ∀ k, row = some k → a.heap.size ≤ k) : Lat a w' := Below.grown h hg h.size hr

abbrev Bs := List UInt8
def bs (s : ByteArray) : Bs := s.data.toList
theorem bs_inj {s t : ByteArray} (h : bs s = bs t) : s = t := by
  cases s; cases t
  simp only [ByteArray.mk.injEq]
  exact Array.toList_inj.1 h
def mk (l : Bs) : ByteArray := ⟨l.toArray⟩
theorem bs_mk (l : Bs) : bs (mk l) = l := by simp [bs, mk]
theorem mk_bs (s : ByteArray) : mk (bs s) = s := bs_inj (bs_mk _)
theorem bs_length (s : ByteArray) : (bs s).length = s.size := by
  show s.data.toList.length = s.data.size
  exact Array.length_toList
theorem mk_size (l : Bs) : (mk l).size = l.length := by
  show l.toArray.size = l.length
  simp

/-- A slice of ints. -/
def InAt (w : World) (a : Option Addr) (zs : List Int) : Prop :=
  ∀ i z, zs[i]? = some z → ∃ b off, a = some ⟨b, off, none⟩ ∧ w.cell? ⟨b, off + i, none⟩ = some (.int .i64 z)
theorem InAt.later {w w' : World} {a : Option Addr} {zs : List Int} (h : InAt w a zs) (k : Lat w w') : InAt w' a zs :=
  fun i s hs => by obtain ⟨b, off, e, hc⟩ := h i s hs; exact ⟨b, off, e, k.cell hc⟩
/-- A slice of bools. -/
def BoAt (w : World) (a : Option Addr) (zs : List Bool) : Prop :=
  ∀ i z, zs[i]? = some z → ∃ b off, a = some ⟨b, off, none⟩ ∧ w.cell? ⟨b, off + i, none⟩ = some (.bool z)
theorem BoAt.later {w w' : World} {a : Option Addr} {zs : List Bool} (h : BoAt w a zs) (k : Lat w w') : BoAt w' a zs :=
  fun i s hs => by obtain ⟨b, off, e, hc⟩ := h i s hs; exact ⟨b, off, e, k.cell hc⟩
/-- A slice of strings. -/
def SsAt (w : World) (a : Option Addr) (ss : List ByteArray) : Prop :=
  ∀ i s, ss[i]? = some s → ∃ b off, a = some ⟨b, off, none⟩ ∧ w.cell? ⟨b, off + i, none⟩ = some (.string s)
theorem SsAt.later {w w' : World} {a : Option Addr} {ss : List ByteArray} (h : SsAt w a ss) (k : Lat w w') : SsAt w' a ss :=
  fun i s hs => by obtain ⟨b, off, e, hc⟩ := h i s hs; exact ⟨b, off, e, k.cell hc⟩

/-- A row that is owned, as a slice that is read. -/
theorem own_form {w : World} {base : Nat} {e : TypeId} {v : Value} {n : Nat} {xs : List Value} (h : w.ownsRow base e 1 v n xs) :
    ∃ a cap, v = .slice a n cap ∧ n ≤ cap ∧ ∀ i u, xs[i]? = some u → ∃ b, base ≤ b ∧ b < w.heap.size ∧ a = some ⟨b, 0, none⟩ ∧ w.cell? ⟨b, 0 + i, none⟩ = some u := by
  have hc := fun g hg => World.ownsRow.cells h (g := g) hg
  have hl := World.ownsRow.lt h
  obtain ⟨hx, h | ⟨g, cap, cur, rfl, hb, hg, h1, h2, h3, h4⟩⟩ := h
  · obtain ⟨rfl, rfl⟩ := h
    refine ⟨none, 0, rfl, Nat.le_refl _, fun i u hu => ?_⟩
    have : xs = [] := by simpa using hx
    subst this
    simp at hu
  · refine ⟨_, cap, rfl, h1, fun i u hu => ⟨g, hb, (hl g rfl).2, rfl, ?_⟩⟩
    have := hc g rfl i u hu
    rw [Nat.zero_add]
    unfold Addr.add at this
    split at this
    · subst_vars; simpa using this
    · simpa using this

/-! ### Maps -/
/-- An element of a map, read as itself. -/
def RV (v : Value) : Option (DataW Value × List MemPlace) := some (.held v, [])
theorem RV_inv {v : Value} {d : DataW Value} {ps : List MemPlace} (h : RV v = some (d, ps)) : d = .held v := by
  unfold RV at h; simp at h; exact h.1.symm
theorem law3 : Keyed Tryd.prog 3 := int_keyed Tryd.underlying3
theorem law9 : Keyed Tryd.prog 9 := string_keyed Tryd.underlying9
theorem zero4 (w : World) : (zeroValue 4).run Tryd.prog w = .ok (.bool false) w := by kernel_rfl
theorem zero3 (w : World) : (zeroValue 3).run Tryd.prog w = .ok (.int .i64 0) w := by kernel_rfl

theorem ownsMap_of_block {w w' : World} {P : Program} {k : TypeId} {H : Type} {R : Value → Option (DataW H × List MemPlace)} {b n : Nat} {D : DataW H} (h : w.ownsMap P k R b n D) (e : w'.heap[b]? = w.heap[b]?) : w'.ownsMap P k R b n D := by
  obtain ⟨es, clock, hb, r⟩ := h
  exact ⟨es, clock, e.trans hb, r⟩

/-- D is the map that f says, of at most N keys. -/
def IsB (D : DataW Value) (f : Int → Option Bool) : Prop :=
  (∀ k, Maps.has D (.int .i64 k) = (f k).isSome) ∧ ∀ k b, f k = some b → ∀ z, D.atKey (.int .i64 k) z = .held (.bool b)

def upd (f : Int → Option Bool) (k : Int) (b : Bool) : Int → Option Bool := fun j => if j = k then some b else f j

theorem isB_empty : IsB (.map []) (fun _ => none) := ⟨fun s => by simp [Maps.has], fun s r h => by cases h⟩

theorem IsB.put {D : DataW Value} {f : Int → Option Bool} (h : IsB D f) (ht : Tidy D) (k : Int) (b : Bool) : IsB (D.put (.int .i64 k) (.held (.bool b))) (upd f k b) := by
  obtain ⟨h2, h3⟩ := h
  have hk : WideAt.IsKeyLit (.int .i64 k) := trivial
  refine ⟨fun s => ?_, fun s x hx z => ?_⟩
  · by_cases e : s = k
    · subst e
      rw [has_put_same ht.isMap hk]
      simp [upd]
    · rw [has_put_other (by simpa using e), h2]
      simp [upd, e]
  · by_cases e : s = k
    · subst e
      simp [upd] at hx
      subst hx
      exact atKey_put_same ht.isMap hk _ z
    · simp [upd, e] at hx
      rw [atKey_put_other (by simpa using e)]
      exact h3 s x hx z
end Go.Proofs.Qxb6630339aDoor
