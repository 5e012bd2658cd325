/- The proof of 'Rows.FnNewTableJoinAgreesWithPartsSaid'. -/
import Derived.Test.Qxb6630238aJn
import Derived.Test.Qxb6630238aOp
import Derived.WalkKit
import Derived.ProofKit
import Derived.OpenShut
import Derived.ShutString
import Derived.ChangeOld
import Derived.Below
namespace Go.Proofs.Qxb6630238a.fnNewTableJoinAgreesWithParts
open Go.ChangeShapes Go.WideShapes Go.ChangeAt Go.RowKit Pl

theorem own : ownKnob Try.prog.godebug = none := by kernel_rfl
theorem laidOut : laidOutB Try.prog = true := by kernel_rfl

set_option maxRecDepth 100000 in
theorem lifted (os : Os) (started : os.Started) (H : Type) (enc : TypeId × Value → H) :
    ReturnsInHanded {} Try.checked os 3 .any (Rows.fnNewTableJoinAgreesWithPartsSpec.pre6 enc Try.prog Try.f3 Rows.fnNewTableJoinAgreesWithPartsRow.domain false) (Rows.fnNewTableJoinAgreesWithPartsSpec.post enc Try.prog Try.f3 false true false false) := by
  refine returnsInHanded_of_change (C := Try.checked) own started (by kernel_rfl) Try.func3
    (ChangeSpec.witness6 (enc := enc) (C := Try.checked) false ⟨#[], #[.slice none 0 0, .slice none 0 0, .slice none 0 0, .slice none 0 0], []⟩ 8 (by kernel_rfl) (by kernel_rfl) (by kernel_rfl) (by kernel_rfl)) ?_
  intro W base args ds gs before hval0 hW hcnd _
  have hval : ∀ (j : Nat) t v, Try.f3.params[j]? = some t → args[j]? = some v → Value.okWide Try.prog W .any base t v := hval0
  have hW' := hW
  obtain ⟨p, q, hA0, hV, rfl, hfz, hnd⟩ := hW
  have hA : DataW.TrodAll enc Try.prog W 0 (fun _ => true) true Try.f3.params.toList args.toList ds p := hA0
  rw [Try.params3] at hA hval
  obtain ⟨v0, vs0, d0, ds0, p0, q0, hargs, rfl, rfl, h0, r0⟩ := trodAll_cons hA
  obtain ⟨v1, vs1, d1, ds1, p1, q1, rfl, rfl, rfl, h1, r1⟩ := trodAll_cons r0
  obtain ⟨v2, vs2, d2, ds2, p2, q2, rfl, rfl, rfl, h2, r2⟩ := trodAll_cons r1
  obtain ⟨v3, vs3, d3, ds3, p3, q3, rfl, rfl, rfl, h3, r3⟩ := trodAll_cons r2
  obtain ⟨rfl, rfl, rfl⟩ := trodAll_nil r3
  obtain rfl : args = #[v0, v1, v2, v3] := by cases args; simp_all
  obtain ⟨rfl, rfl⟩ := trodVars_none hV
  obtain ⟨a0, len0, cap0, rfl⟩ := okWide_slice Try.underlying22 (hval 0 22 v0 rfl rfl)
  obtain ⟨a1, len1, cap1, rfl⟩ := okWide_slice Try.underlying22 (hval 1 22 v1 rfl rfl)
  obtain ⟨a2, len2, cap2, rfl⟩ := okWide_slice Try.underlying23 (hval 2 23 v2 rfl rfl)
  obtain ⟨a3, len3, cap3, rfl⟩ := okWide_slice Try.underlying23 (hval 3 23 v3 rfl rfl)
  have k0 := h0
  have k1 := h1
  have k2 := h2
  have k3 := h3
  have lt0 : ∀ x ∈ p0, x.block < W.heap.size := by obtain ⟨m, hm⟩ := k0; exact DataW.trod_lt m _ _ _ hm
  have lt1 : ∀ x ∈ p1, x.block < W.heap.size := by obtain ⟨m, hm⟩ := k1; exact DataW.trod_lt m _ _ _ hm
  have lt2 : ∀ x ∈ p2, x.block < W.heap.size := by obtain ⟨m, hm⟩ := k2; exact DataW.trod_lt m _ _ _ hm
  have lt3 : ∀ x ∈ p3, x.block < W.heap.size := by obtain ⟨m, hm⟩ := k3; exact DataW.trod_lt m _ _ _ hm
  obtain ⟨ra, rfl, wa, la⟩ : ∃ rs : List Rt, len0 = rs.length ∧ RsAt (fun _ => True) W a0 rs ∧ rs.length ≤ maxLen := by
    obtain ⟨fuel, hf⟩ := h0
    obtain ⟨a, cap, rs, hcs, hr, hl⟩ := open_rs hf
    simp [Value.cells] at hcs
    obtain ⟨rfl, rfl, rfl⟩ := hcs
    exact ⟨rs, rfl, hr, hl⟩
  obtain ⟨rb, rfl, wb, lb⟩ : ∃ rs : List Rt, len1 = rs.length ∧ RsAt (fun _ => True) W a1 rs ∧ rs.length ≤ maxLen := by
    obtain ⟨fuel, hf⟩ := h1
    obtain ⟨a, cap, rs, hcs, hr, hl⟩ := open_rs hf
    simp [Value.cells] at hcs
    obtain ⟨rfl, rfl, rfl⟩ := hcs
    exact ⟨rs, rfl, hr, hl⟩
  obtain ⟨xs, rfl, wx, lx⟩ : ∃ rs : List ByteArray, len2 = rs.length ∧ SsAt W a2 rs ∧ rs.length ≤ maxLen := by
    obtain ⟨fuel, hf⟩ := h2
    obtain ⟨a, cap, rs, hcs, hr, hl⟩ := open_ss hf
    simp [Value.cells] at hcs
    obtain ⟨rfl, rfl, rfl⟩ := hcs
    exact ⟨rs, rfl, hr, hl⟩
  obtain ⟨ys, rfl, wy, ly⟩ : ∃ rs : List ByteArray, len3 = rs.length ∧ SsAt W a3 rs ∧ rs.length ≤ maxLen := by
    obtain ⟨fuel, hf⟩ := h3
    obtain ⟨a, cap, rs, hcs, hr, hl⟩ := open_ss hf
    simp [Value.cells] at hcs
    obtain ⟨rfl, rfl, rfl⟩ := hcs
    exact ⟨rs, rfl, hr, hl⟩
  clear hA0 hval0
  unfold maxLen at la lb lx ly
  refine (join_walk a0 a1 a2 a3 ra rb xs ys cap0 cap1 cap2 cap3 W wa wb wx wy (by omega) (by omega) (by omega) (by omega)).mono fun e W' ⟨he, bel0⟩ => ?_
  have bel : Below W.heap.size W W' := bel0
  subst he
  exact ⟨_, rfl, _, _, _, [], _, [], hW', trodAll_mk1 (shut_bool Try.underlying4 _), (trodAll_cons_mk (Below.trod laidOut (by kernel_rfl) (of_decide_eq_true (by kernel_rfl)) k0 bel lt0) (trodAll_cons_mk (Below.trod laidOut (by kernel_rfl) (of_decide_eq_true (by kernel_rfl)) k1 bel lt1) (trodAll_cons_mk (Below.trod laidOut (by kernel_rfl) (of_decide_eq_true (by kernel_rfl)) k2 bel lt2) (trodAll_cons_mk (Below.trod laidOut (by kernel_rfl) (of_decide_eq_true (by kernel_rfl)) k3 bel lt3) trodAll_mk0)))), rfl, bel.frame _, fun h => by cases h⟩

theorem over : Rows.fnNewTableJoinAgreesWithPartsRow.holds Try.pinned (OpenSpec.ofChange Rows.fnNewTableJoinAgreesWithPartsSpec) :=
  OpenClaim.holds_of_wide 3 Try.f3 rfl rfl rfl rfl rfl rfl rfl ⟨rfl, rfl, rfl, rfl, rfl⟩ rfl rfl rfl rfl rfl (by kernel_rfl) Try.func3 (by kernel_rfl)
    (of_decide_eq_true (by kernel_rfl)) (by unfold Func.isWrapper; first | (rw [if_pos (by decide +kernel)]; kernel_rfl) | (rw [if_neg (by decide +kernel)]; exact ⟨rfl, rfl⟩))
    (fun os started H enc _ => lifted os started H enc)

/-- ████ THE STATEMENT ████ -/
theorem proved : Rows.FnNewTableJoinAgreesWithPartsSaid := over
end Go.Proofs.Qxb6630238a.fnNewTableJoinAgreesWithParts
