/- Small callees. -/
import Derived.Test.Qxb6630339aDoorPn
namespace Go.Proofs.Qxb6630339aDoor
open Go.RowKit Go.Maps

def Bl (e : Ending) : Prop := ∃ r : Bool, e = .returned (.bool r)
theorem bl_mk (r : Bool) : Bl (.returned (.bool r)) := ⟨r, rfl⟩

set_option maxHeartbeats 1000000 in
theorem zz1_any (a b : Option Addr) (la lb ca cb : Nat) (k : Int) (w : World) (ha : la ≤ 9223372036854775807) (hb : lb ≤ 9223372036854775807) :
    Calls Tryd.prog 5 #[.slice a la ca, .slice b lb cb, .int .i64 k] w fun e w' => Bl e ∧ w' = w := by
  go_enter Tryd.func5, Tryd.ntmps5
  go_wp2_with fail
  all_goals (go_ret; exact ⟨bl_mk _, rfl⟩)

set_option maxHeartbeats 1000000 in
theorem zz2_any (a b c d : Option Addr) (la lb lc ld ca cb cc cd : Nat) (w : World) (ha : la ≤ 9223372036854775807) (hb : lb ≤ 9223372036854775807) (hc : lc ≤ 9223372036854775807) (hd : ld ≤ 9223372036854775807) :
    Calls Tryd.prog 11 #[.slice a la ca, .slice b lb cb, .slice c lc cc, .slice d ld cd] w fun e w' => Bl e ∧ w' = w := by
  go_enter Tryd.func11, Tryd.ntmps11
  go_wp2_with fail
  all_goals (go_ret; exact ⟨bl_mk _, rfl⟩)

theorem pc_any (a b : Option Addr) (la lb ca cb : Nat) (w : World) :
    Calls Tryd.prog 6 #[.slice a la ca, .slice b lb cb] w fun e w' => e = .returned (.int .i64 (min la lb : Nat)) ∧ w' = w := by
  by_cases h : lb < la
  · have e : min la lb = lb := by omega
    have d : decide ((lb : Int) < (la : Int)) = true := decide_eq_true (by omega)
    rw [e]
    go_enter Tryd.func6, Tryd.ntmps6
    go_wp2_with fail
    go_ret
    exact ⟨rfl, rfl⟩
  · have e : min la lb = la := by omega
    have d : decide ((lb : Int) < (la : Int)) = false := decide_eq_false (by omega)
    rw [e]
    go_enter Tryd.func6, Tryd.ntmps6
    go_wp2_with fail
    go_ret
    exact ⟨rfl, rfl⟩
end Go.Proofs.Qxb6630339aDoor
