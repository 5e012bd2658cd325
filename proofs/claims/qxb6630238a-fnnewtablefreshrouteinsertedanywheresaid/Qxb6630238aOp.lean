/- The arguments opened. -/
import Derived.Test.Qxb6630238aRp
import Derived.Lib.SmallJoins
import Derived.SliceStrings
import Derived.ChangeSlices
import Derived.DataReads
import Derived.WalkKit
import Derived.ProofKit
import Derived.OpenShut
import Derived.KernelRfl
namespace Go.Proofs.Qxb6630238a
open Go.ChangeShapes Go.WideShapes Go.ChangeAt Go.RowKit Pl

theorem list_of {α : Type} {P : Nat → α → Prop} : ∀ n, (∀ i, i < n → ∃ r, P i r) → ∃ l : List α, l.length = n ∧ ∀ i r, l[i]? = some r → P i r
  | 0, _ => ⟨[], rfl, fun i r h => by simp at h⟩
  | n + 1, h => by
    obtain ⟨l, hl, hP⟩ := list_of n (fun i hi => h i (by omega))
    obtain ⟨r, hr⟩ := h n (by omega)
    refine ⟨l ++ [r], by simp [hl], fun i x hx => ?_⟩
    by_cases hi : i < n
    · rw [List.getElem?_append_left (by omega)] at hx
      exact hP i x hx
    · rw [List.getElem?_append_right (by omega)] at hx
      have : i - l.length = 0 := by
        rcases Nat.eq_zero_or_pos (i - l.length) with h0 | h0
        · exact h0
        · rw [List.getElem?_eq_none (by simp; omega)] at hx; simp at hx
      rw [this] at hx
      simp at hx
      subst hx
      obtain rfl : i = n := by omega
      exact hr

theorem cells_get {w : World} {base : Nat} {a : Addr} {n : Nat} {cs : List Value} (h : w.cells? base a n = some cs) : ∀ i v, cs[i]? = some v → w.cell? (a.add i) = some v := by
  unfold World.cells? at h
  split at h
  · intro i v hv
    have hl : cs.length = n := by simpa using mapM_some_length h
    have hi : i < n := by rw [← hl]; exact (List.getElem?_eq_some_iff.1 hv).1
    have := mapM_some_get h i i (by simp [hi])
    rw [this, hv]
  · exact absurd h (by simp)

theorem add_plain (b o n : Nat) : (⟨b, o, none⟩ : Addr).add n = ⟨b, o + n, none⟩ := by
  unfold Addr.add
  split
  · subst_vars; rfl
  · rfl

section
variable {H : Type} {enc : TypeId × Value → H} {w : World} {base : Nat} {spare : Nat → Bool} {held : Bool}

theorem open_cls {fuel : Nat} {cs : List Value} {x : DataW H × List MemPlace} (h : DataW.trod enc Try.prog w base spare held fuel 41 cs = some x) :
    ∃ a len cap c, cs = [.slice a len cap] ∧ IntsAt (fun _ => True) w a len c := by
  rcases open_ints Try.underlying41 Try.underlying3 (by kernel_rfl) h with ⟨hcs, _⟩ | ⟨a, l, c, zs, hcs, _, hl, hm, hz, _, hcell, hwz⟩
  · exact ⟨none, 0, 0, none, hcs, rfl, rfl⟩
  · have hlz : l ≤ zs.length := by rw [hz]; split <;> omega
    refine ⟨some a, l, c, some (zs.take l), hcs, rfl, by simp [hlz], fun i hi => ?_⟩
    have h0 := hcell 0 (by omega)
    have hs : a.spot = none := by simpa [Addr.add] using World.cell?_spot h0
    obtain ⟨b, o, sp⟩ := a
    simp only at hs
    subst hs
    refine ⟨b, o, trivial, rfl, ?_⟩
    have hc := hcell i (by omega)
    rw [add_plain] at hc
    rw [hc]
    congr 2
    simp [List.getD, hi]

theorem list8 {α : Type} {l : List α} (h : l.length = 8) : ∃ a b c d e f g i, l = [a, b, c, d, e, f, g, i] := by
  match l, h with
  | [a, b, c, d, e, f, g, i], _ => exact ⟨a, b, c, d, e, f, g, i, rfl⟩

theorem open_rt {fuel : Nat} {cs : List Value} {x : DataW H × List MemPlace} (h : DataW.trod enc Try.prog w base spare held fuel 43 cs = some x) :
    ∃ (r : Rt) (a : Option Addr) (len cap : Nat), cs = [.string r.pre, .string r.kind, .string r.dst, .int .i64 r.mn, .int .i64 r.mx, .int .i64 r.st, .string r.prep, .slice a len cap] ∧ IntsAt (fun _ => True) w a len r.cls := by
  obtain ⟨xs, n, _, _, hl, hlen, hf⟩ := DataW.trod_struct Try.underlying43 h
  have k43 : Try.prog.cellsOf 43 = 8 := by kernel_rfl
  rw [k43] at hl
  obtain ⟨c0, c1, c2, c3, c4, c5, c6, c7, rfl⟩ := list8 hl
  obtain ⟨x0, x1, x2, x3, x4, x5, x6, x7, rfl⟩ := list8 hlen
  have f0 := hf 0 _ rfl
  have f1 := hf 1 _ rfl
  have f2 := hf 2 _ rfl
  have f3 := hf 3 _ rfl
  have f4 := hf 4 _ rfl
  have f5 := hf 5 _ rfl
  have f6 := hf 6 _ rfl
  have f7 := hf 7 _ rfl
  simp only [List.getElem?_cons_zero, List.getElem?_cons_succ] at f0 f1 f2 f3 f4 f5 f6 f7
  obtain ⟨s0, e0, _, _⟩ := DataW.trod_string Try.underlying9 f0
  obtain ⟨s1, e1, _, _⟩ := DataW.trod_string Try.underlying9 f1
  obtain ⟨s2, e2, _, _⟩ := DataW.trod_string Try.underlying9 f2
  obtain ⟨s3, e3, _, _⟩ := DataW.trod_int Try.underlying3 f3
  obtain ⟨s4, e4, _, _⟩ := DataW.trod_int Try.underlying3 f4
  obtain ⟨s5, e5, _, _⟩ := DataW.trod_int Try.underlying3 f5
  obtain ⟨s6, e6, _, _⟩ := DataW.trod_string Try.underlying9 f6
  obtain ⟨a, len, cap, c, e7, hi⟩ := open_cls f7
  cases e0; cases e1; cases e2; cases e3; cases e4; cases e5; cases e6; cases e7
  exact ⟨⟨s0, s1, s2, s3, s4, s5, s6, c⟩, a, len, cap, rfl, hi⟩

theorem open_rs {fuel : Nat} {cs : List Value} {x : DataW H × List MemPlace} (h : DataW.trod enc Try.prog w base spare held fuel 22 cs = some x) :
    ∃ a cap, ∃ rs : List Rt, cs = [.slice a rs.length cap] ∧ RsAt (fun _ => True) w a rs ∧ rs.length ≤ maxLen := by
  rcases Go.Deep.open_slice Try.underlying22 h with ⟨hcs, _⟩ | ⟨a, len, cap, m, n, D, Pl, hcs, _, hl, hm, hmm, _, hel⟩
  · exact ⟨none, 0, [], hcs, fun i r hr => by simp at hr, by unfold maxLen; simp⟩
  · have k43 : Try.prog.cellsOf 43 = 8 := by kernel_rfl
    have hlm : len ≤ m := by rw [hmm]; split <;> omega
    rw [k43] at hel
    have hone : ∀ i, i < len → ∃ r : Rt, a.spot = none ∧ RtC (fun _ => True) w a.block (a.off + i * 8) r := by
      intro i hi
      have hs : a.spot = none := by
        obtain ⟨cs0, hc0, ht0⟩ := hel 0 (by omega)
        obtain ⟨r, a', l', c', rfl, _⟩ := open_rt ht0
        have := cells_get hc0 0 _ rfl
        simpa [Addr.add] using World.cell?_spot this
      obtain ⟨cs', hc, ht⟩ := hel i (by omega)
      obtain ⟨r, a', l', c', rfl, hi'⟩ := open_rt ht
      obtain ⟨b, o, sp⟩ := a
      simp only at hs
      subst hs
      refine ⟨r, rfl, a', l', c', ?_⟩
      have g := cells_get hc
      rw [add_plain] at g
      have g0 := g 0 _ rfl
      have g1 := g 1 _ rfl
      have g2 := g 2 _ rfl
      have g3 := g 3 _ rfl
      have g4 := g 4 _ rfl
      have g5 := g 5 _ rfl
      have g6 := g 6 _ rfl
      have g7 := g 7 _ rfl
      rw [add_plain] at g0 g1 g2 g3 g4 g5 g6 g7
      exact ⟨g0, g1, g2, g3, g4, g5, g6, g7, hi'⟩
    obtain ⟨rs, hrl, hrs⟩ := list_of len hone
    refine ⟨some a, cap, rs, by rw [hrl]; exact hcs, fun i r hr => ?_, by omega⟩
    obtain ⟨hs, hc⟩ := hrs i r hr
    obtain ⟨b, o, sp⟩ := a
    simp only at hs
    subst hs
    exact ⟨b, o, rfl, hc⟩

theorem open_ss {fuel : Nat} {cs : List Value} {x : DataW H × List MemPlace} (h : DataW.trod enc Try.prog w base spare held fuel 23 cs = some x) :
    ∃ a cap, ∃ ss : List ByteArray, cs = [.slice a ss.length cap] ∧ SsAt w a ss ∧ ss.length ≤ maxLen := by
  rcases open_strings Try.underlying23 Try.underlying9 (by kernel_rfl) h with ⟨hcs, _⟩ | ⟨a, len, cap, ss, hcs, _, hl, hm, hs, _, hcell, _⟩
  · exact ⟨none, 0, [], hcs, fun i r hr => by simp at hr, by unfold maxLen; simp⟩
  · have hlz : len ≤ ss.length := by rw [hs]; split <;> omega
    refine ⟨some a, cap, ss.take len, by rw [hcs]; simp [hlz], fun i s hi => ?_, by simp; omega⟩
    have hi' : i < len := by
      have := (List.getElem?_eq_some_iff.1 hi).1
      simp at this; omega
    have h0 := hcell 0 (by omega)
    have hsp : a.spot = none := by simpa [Addr.add] using World.cell?_spot h0
    obtain ⟨b, o, sp⟩ := a
    simp only at hsp
    subst hsp
    refine ⟨b, o, rfl, ?_⟩
    have hc := hcell i (by omega)
    rw [add_plain] at hc
    rw [hc]
    rw [List.getElem?_take, if_pos hi'] at hi
    simp [List.getD, hi]
end
end Go.Proofs.Qxb6630238a
