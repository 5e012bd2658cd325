/- The struct argument opened, with its bounds. -/
import Derived.Test.Qxb6630238aOp
namespace Go.Proofs.Qxb6630238a
open Go.ChangeShapes Go.WideShapes Go.ChangeAt Go.RowKit Pl

section
variable {H : Type} {enc : TypeId × Value → H} {w : World} {base : Nat} {spare : Nat → Bool} {held : Bool}

theorem open_cls_bd {fuel : Nat} {cs : List Value} {x : DataW H × List MemPlace} (h : DataW.trod enc Try.prog w base spare held fuel 41 cs = some x) :
    ∃ a len cap c, cs = [.slice a len cap] ∧ IntsAt (fun _ => True) w a len c ∧ (∀ zs, c = some zs → zs.length ≤ maxLen) := by
  rcases open_ints Try.underlying41 Try.underlying3 (by kernel_rfl) h with ⟨hcs, _⟩ | ⟨a, l, c, zs, hcs, _, hl, hm, hz, _, hcell, hwz⟩
  · exact ⟨none, 0, 0, none, hcs, ⟨rfl, rfl⟩, fun zs h => by cases h⟩
  · have hlz : l ≤ zs.length := by rw [hz]; split <;> omega
    refine ⟨some a, l, c, some (zs.take l), hcs, ⟨rfl, by simp [hlz], fun i hi => ?_⟩, fun zs' h => by cases h; simp; omega⟩
    have h0 := hcell 0 (by omega)
    have hs : a.spot = none := by simpa [Addr.add] using World.cell?_spot h0
    obtain ⟨b, o, sp⟩ := a
    simp only at hs
    subst hs
    refine ⟨b, o, trivial, rfl, ?_⟩
    have hc := hcell i (by omega)
    rw [add_plain] at hc
    rw [hc]
    congr 2
    simp [List.getD, hi]

theorem open_rt_bd {fuel : Nat} {cs : List Value} {x : DataW H × List MemPlace} (h : DataW.trod enc Try.prog w base spare held fuel 43 cs = some x) :
    ∃ (r : Rt) (a : Option Addr) (len cap : Nat), cs = [.string r.pre, .string r.kind, .string r.dst, .int .i64 r.mn, .int .i64 r.mx, .int .i64 r.st, .string r.prep, .slice a len cap] ∧ IntsAt (fun _ => True) w a len r.cls ∧ r.pre.size ≤ maxLen ∧ r.kind.size ≤ maxLen ∧ r.dst.size ≤ maxLen ∧ r.prep.size ≤ maxLen ∧ (∀ zs, r.cls = some zs → zs.length ≤ maxLen) := by
  obtain ⟨xs, n, _, _, hl, hlen, hf⟩ := DataW.trod_struct Try.underlying43 h
  have k43 : Try.prog.cellsOf 43 = 8 := by kernel_rfl
  rw [k43] at hl
  obtain ⟨c0, c1, c2, c3, c4, c5, c6, c7, rfl⟩ := list8 hl
  obtain ⟨x0, x1, x2, x3, x4, x5, x6, x7, rfl⟩ := list8 hlen
  have f0 := hf 0 _ rfl
  have f1 := hf 1 _ rfl
  have f2 := hf 2 _ rfl
  have f3 := hf 3 _ rfl
  have f4 := hf 4 _ rfl
  have f5 := hf 5 _ rfl
  have f6 := hf 6 _ rfl
  have f7 := hf 7 _ rfl
  simp only [List.getElem?_cons_zero, List.getElem?_cons_succ] at f0 f1 f2 f3 f4 f5 f6 f7
  obtain ⟨s0, e0, _, b0⟩ := DataW.trod_string Try.underlying9 f0
  obtain ⟨s1, e1, _, b1⟩ := DataW.trod_string Try.underlying9 f1
  obtain ⟨s2, e2, _, b2⟩ := DataW.trod_string Try.underlying9 f2
  obtain ⟨s3, e3, _, _⟩ := DataW.trod_int Try.underlying3 f3
  obtain ⟨s4, e4, _, _⟩ := DataW.trod_int Try.underlying3 f4
  obtain ⟨s5, e5, _, _⟩ := DataW.trod_int Try.underlying3 f5
  obtain ⟨s6, e6, _, b6⟩ := DataW.trod_string Try.underlying9 f6
  obtain ⟨a, len, cap, c, e7, hi, b7⟩ := open_cls_bd f7
  cases e0; cases e1; cases e2; cases e3; cases e4; cases e5; cases e6; cases e7
  exact ⟨⟨s0, s1, s2, s3, s4, s5, s6, c⟩, a, len, cap, rfl, hi, b0, b1, b2, b6, b7⟩

end
end Go.Proofs.Qxb6630238a
