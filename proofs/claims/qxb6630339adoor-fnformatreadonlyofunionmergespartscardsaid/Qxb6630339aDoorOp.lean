/- The arguments and the laid table opened. -/
import Derived.Test.Qxb6630339aDoorWa
import Derived.Lib.LaidTab
import Derived.LaidMore
import Derived.ChangeSlices
import Derived.DataReads
import Derived.WalkKit
import Derived.ProofKit
import Derived.OpenShut
import Derived.Stop.Joined
import Derived.KernelRfl
namespace Go.Proofs.Qxb6630339aDoor
open Go.ChangeShapes Go.WideShapes Go.ChangeAt Go.WideMaps Go.WideElems Go.RowKit

theorem list_of {α : Type} {P : Nat → α → Prop} : ∀ n, (∀ i, i < n → ∃ r, P i r) → ∃ l : List α, l.length = n ∧ ∀ i r, l[i]? = some r → P i r
  | 0, _ => ⟨[], rfl, fun i r h => by simp at h⟩
  | n + 1, h => by
    obtain ⟨l, hl, hP⟩ := list_of n (fun i hi => h i (by omega))
    obtain ⟨r, hr⟩ := h n (by omega)
    refine ⟨l ++ [r], by simp [hl], fun i x hx => ?_⟩
    by_cases hi : i < n
    · rw [List.getElem?_append_left (by omega)] at hx
      exact hP i x hx
    · rw [List.getElem?_append_right (by omega)] at hx
      have : i - l.length = 0 := by
        rcases Nat.eq_zero_or_pos (i - l.length) with h0 | h0
        · exact h0
        · rw [List.getElem?_eq_none (by simp; omega)] at hx; simp at hx
      rw [this] at hx
      simp at hx
      subst hx
      obtain rfl : i = n := by omega
      exact hr

theorem cells_get {w : World} {base : Nat} {a : Addr} {n : Nat} {cs : List Value} (h : w.cells? base a n = some cs) : ∀ i v, cs[i]? = some v → w.cell? (a.add i) = some v := by
  unfold World.cells? at h
  split at h
  · intro i v hv
    have hl : cs.length = n := by simpa using mapM_some_length h
    have hi : i < n := by rw [← hl]; exact (List.getElem?_eq_some_iff.1 hv).1
    have := mapM_some_get h i i (by simp [hi])
    rw [this, hv]
  · exact absurd h (by simp)

section
variable {H : Type} {enc : TypeId × Value → H} {w : World} {base : Nat} {spare : Nat → Bool} {held : Bool}

theorem open_is {fuel : Nat} {cs : List Value} {x : DataW H × List MemPlace} (h : DataW.trod enc Tryd.prog w base spare held fuel 22 cs = some x) :
    ∃ a cap, ∃ zs : List Int, cs = [.slice a zs.length cap] ∧ InAt w a zs ∧ (∀ z ∈ zs, (Lit.int .i64 z).wf = true) ∧ zs.length ≤ maxLen := by
  rcases open_ints Tryd.underlying22 Tryd.underlying3 (by kernel_rfl) h with ⟨hcs, _⟩ | ⟨a, l, c, zs, hcs, _, hl, hm, hz, _, hcell, hwz⟩
  · exact ⟨none, 0, [], hcs, fun i r hr => by simp at hr, fun z hz => absurd hz (by simp), by unfold maxLen; simp⟩
  · have hlz : l ≤ zs.length := by rw [hz]; split <;> omega
    refine ⟨some a, c, zs.take l, by rw [hcs]; simp [hlz], fun i s hi => ?_, fun z hz => hwz z (List.mem_of_mem_take hz), by simp; omega⟩
    have hi' : i < l := by
      have := (List.getElem?_eq_some_iff.1 hi).1
      simp at this; omega
    have h0 := hcell 0 (by omega)
    have hsp : a.spot = none := by simpa [Addr.add] using World.cell?_spot h0
    obtain ⟨b, o, sp⟩ := a
    simp only at hsp
    subst hsp
    refine ⟨b, o, rfl, ?_⟩
    have hc := hcell i (by omega)
    rw [addp] at hc
    rw [hc]
    rw [List.getElem?_take, if_pos hi'] at hi
    simp [List.getD, hi]

theorem open_bs {fuel : Nat} {cs : List Value} {x : DataW H × List MemPlace} (h : DataW.trod enc Tryd.prog w base spare held fuel 23 cs = some x) :
    ∃ a cap, ∃ zs : List Bool, cs = [.slice a zs.length cap] ∧ BoAt w a zs ∧ zs.length ≤ maxLen := by
  rcases Go.Deep.open_slice Tryd.underlying23 h with ⟨hcs, _⟩ | ⟨a, len, cap, m, n, D, Pl, hcs, _, hl, hm, hmm, _, hel⟩
  · exact ⟨none, 0, [], hcs, fun i r hr => by simp at hr, by unfold maxLen; simp⟩
  · have k4 : Tryd.prog.cellsOf 4 = 1 := by kernel_rfl
    have hlm : len ≤ m := by rw [hmm]; split <;> omega
    rw [k4] at hel
    have hone : ∀ i, i < len → ∃ r : Bool, ∃ b off, a = ⟨b, off, none⟩ ∧ w.cell? ⟨b, off + i, none⟩ = some (.bool r) := by
      intro i hi
      obtain ⟨cs', hc, ht⟩ := hel i (by omega)
      obtain ⟨r, rfl, _⟩ := DataW.trod_bool Tryd.underlying4 ht
      have g0 := cells_get hc 0 _ rfl
      have hs0 := World.cell?_spot g0
      obtain ⟨b, o, sp⟩ := a
      have hsp : sp = none := by
        obtain ⟨cs0, hc0, ht0⟩ := hel 0 (by omega)
        obtain ⟨r0, rfl, _⟩ := DataW.trod_bool Tryd.underlying4 ht0
        have := World.cell?_spot (cells_get hc0 0 _ rfl)
        simpa [Addr.add] using this
      subst hsp
      refine ⟨r, b, o, rfl, ?_⟩
      rw [addp, addp] at g0
      simpa using g0
    obtain ⟨rs, hrl, hrs⟩ := list_of len hone
    refine ⟨some a, cap, rs, by rw [hrl]; exact hcs, fun i r hr => ?_, by omega⟩
    obtain ⟨b, o, rfl, hc⟩ := hrs i r hr
    exact ⟨b, o, rfl, hc⟩
end

theorem own : ownKnob Tryd.prog.godebug = none := by kernel_rfl
theorem laidOut : laidOutB Tryd.prog = true := by kernel_rfl
theorem gPow : Tryd.prog.globalNamed "internal/strconv.uint64pow10" = some 0 := by kernel_rfl
theorem tPow : (Tryd.prog.globals[0]?).map (·.type) = some 86 := by kernel_rfl
theorem uPow : Tryd.prog.underlying 86 = some (.array 20 71) := Tryd.underlying86
theorem ePow : Tryd.prog.underlying 71 = some (.int .u64) := Tryd.underlying71
theorem datPow {H : Type} : (Rows.laid_internal_strconv_uint64pow10 : DataW H) = Lib.tabData .u64 Lib.pow10Tab := by
  unfold Rows.laid_internal_strconv_uint64pow10 Lib.tabData Lib.pow10Tab
  rfl

abbrev laid3 : List (String × DataW Unit) := [("math/bits.deBruijn32tab", Rows.laid_math_bits_deBruijn32tab), ("math/bits.deBruijn64tab", Rows.laid_math_bits_deBruijn64tab), ("internal/strconv.uint64pow10", Rows.laid_internal_strconv_uint64pow10)]

/-- What the rows' condition gives the walks. -/
theorem of_laid {W : World} (h : laidMetH Tryd.prog laid3 W) : Lib.TabIs Tryd.prog W "internal/strconv.uint64pow10" .u64 Lib.pow10Tab := by
  rw [MakeChecks.laidMetH_plain _ _ _ (by kernel_rfl)] at h
  obtain ⟨ps, ⟨g0, t0, cs0, f0, p0, q0, hg0, ht0, hv0, hd0, ⟨g1, t1, cs1, f1, p1, q1, hg1, ht1, hv1, hd1, ⟨g2, t2, cs2, f2, p2, q2, hg2, ht2, hv2, hd2, _, _⟩, _⟩, _⟩, _, _⟩ := h
  obtain rfl := Option.some.inj (gPow.symm.trans hg2)
  obtain rfl := Option.some.inj (tPow.symm.trans ht2)
  rw [datPow] at hd2
  unfold Lib.TabIs
  rw [hv2, ← Lib.cells_of_tab uPow ePow (by kernel_rfl) (by kernel_rfl) hd2]
end Go.Proofs.Qxb6630339aDoor
