/- The walks of seat b6630377a: the leaves. -/
import Derived.Test.Qxb6630377aPl
import Derived.WalkKit
import Derived.WalkSpells
import Derived.WalkLawsBesides
import Derived.Deep.OwnRows
import Derived.Deep.QuietTactic
import Derived.BigQuiet
import Derived.Laws.CopyOwn
namespace Go.Proofs.Qxb6630377a
open Go.RowKit

set_option maxHeartbeats 400000 in
theorem bytesA_yes (a : Option Addr) (len cap : Nat) (p c : Int) (w : World) (h : len ≤ 1048576) : Calls Try.prog 5 #[.slice a len cap, .int .i64 p, .int .u8 c] w fun e w' => e = .returned (.bool true) ∧ w' = w := by
  go_enter Try.func5, Try.ntmps5
  go_wp2
  go_ret
  exact ⟨rfl, rfl⟩
set_option maxHeartbeats 400000 in
theorem bytesA_no (a : Option Addr) (len cap : Nat) (p c : Int) (w : World) (h : 1048576 < len) : Calls Try.prog 5 #[.slice a len cap, .int .i64 p, .int .u8 c] w fun e w' => e = .returned (.bool false) ∧ w' = w := by
  go_enter Try.func5, Try.ntmps5
  go_wp2
  go_ret
  exact ⟨rfl, rfl⟩
set_option maxHeartbeats 400000 in
theorem bytesB_yes (a : Option Addr) (len cap : Nat) (p : Int) (w : World) (h : len ≤ 1048576) : Calls Try.prog 8 #[.slice a len cap, .int .i64 p] w fun e w' => e = .returned (.bool true) ∧ w' = w := by
  go_enter Try.func8, Try.ntmps8
  go_wp2
  go_ret
  exact ⟨rfl, rfl⟩
set_option maxHeartbeats 400000 in
theorem bytesB_no (a : Option Addr) (len cap : Nat) (p : Int) (w : World) (h : 1048576 < len) : Calls Try.prog 8 #[.slice a len cap, .int .i64 p] w fun e w' => e = .returned (.bool false) ∧ w' = w := by
  go_enter Try.func8, Try.ntmps8
  go_wp2
  go_ret
  exact ⟨rfl, rfl⟩

theorem pw_le {k : Nat} (h : k ≤ 9) : 1 ≤ Pl.pw k ∧ Pl.pw k ≤ 1000000000 := by
  unfold Pl.pw
  rcases (show k = 0 ∨ k = 1 ∨ k = 2 ∨ k = 3 ∨ k = 4 ∨ k = 5 ∨ k = 6 ∨ k = 7 ∨ k = 8 ∨ k = 9 by omega) with rfl | rfl | rfl | rfl | rfl | rfl | rfl | rfl | rfl | rfl <;> decide
theorem pw_succ (k : Nat) : Pl.pw (k + 1) = Pl.pw k * 10 := by unfold Pl.pw; rw [Int.pow_succ]

set_option maxHeartbeats 400000 in
theorem pow_any (n : Nat) (w : World) (hn : n ≤ 9) : Calls Try.prog 7 #[.int .i64 n] w fun e w' => e = .returned (.int .i64 (Pl.pw n)) ∧ w' = w := by
  go_enter Try.func7, Try.ntmps7
  go_wp2
  go_loop [3, 4] (fun r i => ∃ k : Nat, k ≤ n ∧ i = .int .i64 k ∧ r = .int .i64 (Pl.pw k)) (fun _ i => n - (intOf i).toNat)
  case atStart => exact ⟨0, Nat.zero_le _, rfl, rfl⟩
  case round =>
    obtain ⟨k, hk, rfl, rfl⟩ := hrel
    have hb := pw_le (k := k) (by omega)
    by_cases hlt : k < n
    · have hs : Hid (Pl.pw (k + 1) = Pl.pw k * 10) := pw_succ k
      go_wp2
      go_round
      case rel => exact ⟨k + 1, by omega, by go_num, by rw [hs.out]⟩
      case measure => simp [intOf]; omega
    · obtain rfl : k = n := by omega
      go_wp2
      go_ret
      exact ⟨rfl, rfl⟩

set_option maxHeartbeats 400000 in
theorem nano_row (b off len cap : Nat) (z : Nat → Int) (w : World) (_hl : len ≤ 9223372036854775807) (hc : ∀ i, i < len → w.cell? ⟨b, off + i, none⟩ = some (.int .u8 (z i))) (hz : ∀ i, 0 ≤ z i ∧ z i ≤ 255) :
    Calls Try.prog 9 #[.slice (some ⟨b, off, none⟩) len cap] w fun e w' => e = .returned (.int .i64 (Pl.nv len z)) ∧ w' = w := by
  go_enter Try.func9, Try.ntmps9
  go_wp2
  go_loop [3, 5] (fun r i => ∃ k : Nat, k ≤ 9 ∧ i = .int .i64 k ∧ r = .int .i64 (Pl.hor len z k)) (fun _ i => 9 - (intOf i).toNat)
  case atStart => exact ⟨0, Nat.zero_le _, rfl, rfl⟩
  case round =>
    obtain ⟨k, hk, rfl, rfl⟩ := hrel
    have hb := Pl.hor_le len z (k := k) hk
    have HS : Hid (Pl.hor len z (k + 1) = Pl.hor len z k * 10 + Pl.dg len z k) := Pl.hor_succ len z k
    by_cases hlt : k < 9
    · by_cases hkl : k < len
      · have g := hc k hkl
        have hzk := hz k
        clear hc hz
        go_wp2
        go_round
        case rel =>
          refine ⟨k + 1, by omega, by go_num, ?_⟩
          rw [HS.out]
          unfold Pl.dg
          rw [if_pos hkl]
        case measure => simp [intOf]; omega
      · clear hc hz
        go_wp2
        go_round
        case rel =>
          refine ⟨k + 1, by omega, by go_num, ?_⟩
          rw [HS.out]
          unfold Pl.dg
          rw [if_neg hkl]
          go_num
        case measure => simp [intOf]; omega
    · obtain rfl : k = 9 := by omega
      go_wp2
      go_ret
      exact ⟨rfl, rfl⟩

set_option maxHeartbeats 400000 in
theorem nano_none (a : Option Addr) (cap : Nat) (z : Nat → Int) (w : World) :
    Calls Try.prog 9 #[.slice a 0 cap] w fun e w' => e = .returned (.int .i64 (Pl.nv 0 z)) ∧ w' = w := by
  go_enter Try.func9, Try.ntmps9
  go_wp2
  go_loop [3, 5] (fun r i => ∃ k : Nat, k ≤ 9 ∧ i = .int .i64 k ∧ r = .int .i64 (Pl.hor 0 z k)) (fun _ i => 9 - (intOf i).toNat)
  case atStart => exact ⟨0, Nat.zero_le _, rfl, rfl⟩
  case round =>
    obtain ⟨k, hk, rfl, rfl⟩ := hrel
    have hb := Pl.hor_le 0 z (k := k) hk
    have HS : Hid (Pl.hor 0 z (k + 1) = Pl.hor 0 z k * 10 + Pl.dg 0 z k) := Pl.hor_succ 0 z k
    by_cases hlt : k < 9
    · go_wp2
      go_round
      case rel =>
        refine ⟨k + 1, by omega, by go_num, ?_⟩
        rw [HS.out]
        unfold Pl.dg
        rw [if_neg (by omega)]
        go_num
      case measure => simp [intOf]; omega
    · obtain rfl : k = 9 := by omega
      go_wp2
      go_ret
      exact ⟨rfl, rfl⟩

/-- The text's value, whatever its length. -/
theorem nano_any (a : Option Addr) (len cap : Nat) (z : Nat → Int) (w : World) (hl : len ≤ 9223372036854775807) (hc : ∀ i, i < len → ∃ b off, a = some ⟨b, off, none⟩ ∧ w.cell? ⟨b, off + i, none⟩ = some (.int .u8 (z i))) (hz : ∀ i, 0 ≤ z i ∧ z i ≤ 255) :
    Calls Try.prog 9 #[.slice a len cap] w fun e w' => e = .returned (.int .i64 (Pl.nv len z)) ∧ w' = w := by
  rcases Nat.eq_zero_or_pos len with rfl | hpos
  · exact nano_none a cap z w
  · obtain ⟨b, off, rfl, _⟩ := hc 0 hpos
    refine nano_row b off len cap z w hl (fun i hi => ?_) hz
    obtain ⟨b', off', e, h⟩ := hc i hi
    simp only [Option.some.injEq, Addr.mk.injEq, and_true] at e
    obtain ⟨rfl, rfl⟩ := e
    exact h

set_option maxHeartbeats 400000 in
theorem zz_any (a : Option Addr) (len cap : Nat) (z : Nat → Int) (w : World) (hl : len ≤ 9223372036854775807) (hc : ∀ i, i < len → ∃ b off, a = some ⟨b, off, none⟩ ∧ w.cell? ⟨b, off + i, none⟩ = some (.int .u8 (z i))) (hz : ∀ i, 0 ≤ z i ∧ z i ≤ 255) :
    Calls Try.prog 6 #[.slice a len cap] w fun e w' => e = .returned (.int .i64 (Pl.nv len z)) ∧ w' = w := by
  have C : Hid (∀ w', w' = w → Calls Try.prog 9 #[.slice a len cap] w' fun e w' => e = .returned (.int .i64 (Pl.nv len z)) ∧ w' = w) := by
    intro w' h; subst h; exact nano_any a len cap z w' hl hc hz
  clear hc hz
  go_enter Try.func6, Try.ntmps6
  go_wp2_with fail
  refine (C.out _ rfl).mono ?_
  rintro e w' ⟨rfl, rfl⟩
  go_wp2_with fail
  go_ret
  exact ⟨rfl, rfl⟩
end Go.Proofs.Qxb6630377a
