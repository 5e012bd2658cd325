/- slices.Sorted(maps.Keys(m)) at this dump. -/
import Derived.Test.Qxb6630339aDoorSh
import Derived.Test.Qxb6630339aDoorRows
import Derived.WalkKit
import Derived.WalkSpells
import Derived.WalkLawsBesides
import Derived.Deep.OwnRows
import Derived.Deep.QuietTactic
import Derived.BigQuiet
import Derived.Maps.Own
import Derived.Maps.OwnSet
namespace Go.Proofs.Qxb6630339aDoor
open Go.RowKit Go.Maps Go.Sort Go.Shelf

/-- slices.Sort's two contracts at this dump, at the fence that asks nothing. -/
theorem sortsA (m : Nat) : AnyZI.SortsIn Tryd.prog Tryd.sortedA_ren Fence.wide m :=
  ⟨fun blk off cap ss W hH hblk hsz => callsIn_wide.2 (AnyM.slices_Sort_int Tryd.sortA blk off cap ss W hH hblk hsz),
   fun p cap W => callsIn_wide.2 (AnyM.slices_Sort_int_none Tryd.sortA p cap W)⟩

theorem keys_any (mb : Option Nat) (W : World) : Calls Tryd.prog 14 #[.map mb] W fun e w' => e = .returned (.func (.func 20) #[] #[.pointer (some ⟨W.heap.size, 0, none⟩)]) ∧ w' = W.alloc (.cells #[.map mb] 26) :=
  (callsIn_wide (n := 5)).1 (AnyZI.keys_in Tryd.keysA Fence.wide 5 trivial rfl mb W)

set_option maxHeartbeats 1000000 in
theorem sorted_any {H : Type} (b nn : Nat) (D0 : DataW H) (R : Value → Option (DataW H × List MemPlace)) (w : World) (hown : w.ownsMap Tryd.prog 3 R b nn D0) (hmax : Maps.size D0 ≤ maxLen) (hbytes : Maps.size D0 * 8 ≤ 140737488355328) :
    Calls Tryd.prog 13 #[.func (.func 20) #[] #[.pointer (some ⟨w.heap.size, 0, none⟩)]] (w.alloc (.cells #[.map (some b)] 26)) fun e w' => ∃ (v : Value) (ss : List Int), e = .returned v ∧ ss.Perm (intKeys D0) ∧
      w'.ownsRow (w.alloc (.cells #[.map (some b)] 26)).heap.size 3 1 v ss.length ((ss.mergeSort (fun x y => decide (x ≤ y))).map encZ) ∧ (v = .slice none 0 0 ↔ ss = []) ∧ Below (w.alloc (.cells #[.map (some b)] 26)).heap.size (w.alloc (.cells #[.map (some b)] 26)) w' := by
  have hbl := hown.lt
  have hseq : SeqGives Fence.wide 2 Tryd.prog 20 #[.pointer (some ⟨w.heap.size, 0, none⟩)] encZ (fun ss => ss.Perm (intKeys D0)) (Maps.size D0) (w.alloc (.cells #[.map (some b)] 26)) :=
    AnyZI.keys_gives (ρ := Tryd.keysA_ren) { Tryd.keysA with } Fence.wide _ trivial rfl (by omega) w.heap.size b nn D0 _ (by simp) (by simp) (by
      obtain ⟨es, clock, hb, Ft, hs, hD⟩ := hown
      exact ⟨es, clock, (Below.heap_alloc _ _ b hbl).trans hb, Ft, hs, hD⟩)
  have cS := AnyZI.sorted_in Tryd.sortedA Fence.wide 5 trivial trivial trivial trivial rfl (by omega) (sortsA _) (enters_of Tryd.func19 (by kernel_rfl) rfl) 20 #[.pointer (some ⟨w.heap.size, 0, none⟩)] trivial (enters_of Tryd.func20 (by kernel_rfl) rfl) _ _ hmax hbytes _ hseq
  exact (callsIn_wide (n := 5)).1 cS
end Go.Proofs.Qxb6630339aDoor
