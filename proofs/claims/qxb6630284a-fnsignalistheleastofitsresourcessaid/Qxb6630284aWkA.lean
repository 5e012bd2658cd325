/- The walks of seat b6630284a, first part: the leaves. -/
import Derived.Test.Qxb6630284aRows
import Derived.Test.Qxb6630284aFw
import Derived.WalkKit
import Derived.WalkSpells
import Derived.WalkLawsBesides
namespace Go.Proofs.Qxb6630284a
open Go.RowKit

/-- A batch as a value. -/
abbrev B (y0 y1 v0 v1 g u0 u1 : Nat) : Value := .agg #[.float .f64 y0, .float .f64 y1, .float .f64 v0, .float .f64 v1, .float .f64 g, .float .f64 u0, .float .f64 u1]

theorem run_store_float (P : Program) (w : World) (a : Addr) (m : Mode) (k : FloatKind) (b : Nat) : (store a (.float k b) m).run P w = stored P w a (.float k b) m := run_store P w a _ m rfl
attribute [local go_sem] run_store_float

/-- The bits of a NaN that the tape gives. -/
def nanOf (w : World) (x y : Nat) : Nat := Question.cut (.nanBits .f64 x y) (w.tape w.drawn (.nanBits .f64 x y))

theorem read_nanOf (w : World) (x y : Nat) : ∃ s f, Ieee.double.read (nanOf w x y) = .nan s f := by
  unfold nanOf
  generalize w.tape w.drawn (.nanBits .f64 x y) = t
  have e : Question.cut (.nanBits .f64 x y) t = (t % 2) * 2 ^ 63 + 0x7ff0000000000000 + 1 + (t / 2) % (2 ^ 52 - 1) := rfl
  rw [e]
  have h1 : t % 2 < 2 := Nat.mod_lt _ (by decide)
  have h2 : (t / 2) % (2 ^ 52 - 1) < 2 ^ 52 - 1 := Nat.mod_lt _ (by decide)
  generalize t % 2 = a at *
  generalize (t / 2) % (2 ^ 52 - 1) = b at *
  have hsw : Ieee.double.signWeight = 2 ^ 63 := rfl
  have hb : Ieee.double.binade = 2 ^ 52 := rfl
  have hi : Ieee.double.infRung = 2047 * 2 ^ 52 := rfl
  have h3 : (a * 2 ^ 63 + 0x7ff0000000000000 + 1 + b) % 2 ^ 63 = 0x7ff0000000000000 + 1 + b := by omega
  unfold Ieee.Format.read
  dsimp only
  rw [hsw, hb, hi, h3, if_neg (by omega), if_neg (by omega), if_neg (by omega)]
  exact ⟨_, _, rfl⟩

theorem order_nanOf (w : World) (x y z : Nat) : Ieee.double.order (nanOf w x y) z = none := by
  obtain ⟨s, f, e⟩ := read_nanOf w x y
  unfold Ieee.Format.order
  rw [e]; rfl

theorem div_nanOf (w : World) (x y z : Nat) : Ieee.double.div (nanOf w x y) z = none := by
  obtain ⟨s, f, e⟩ := read_nanOf w x y
  unfold Ieee.Format.div
  rw [e]; rfl

theorem run_sub_nan {P : Program} (w : World) (t : TypeId) (x y : Nat) (h : Ieee.double.sub x y = none) : (binOp .sub t (.float .f64 x) (.float .f64 y)).run P w = .ok (.float .f64 (nanOf w x y)) w.drew := by
  have h' : FloatKind.f64.format.sub x y = none := h
  simp [binOp, Op.floatArith, h', Question.forced, nanOf]

theorem run_quo_nan {P : Program} (w : World) (t : TypeId) (x y : Nat) (h : Ieee.double.div x y = none) : (binOp .quo t (.float .f64 x) (.float .f64 y)).run P w = .ok (.float .f64 (nanOf w x y)) w.drew := by
  have h' : FloatKind.f64.format.div x y = none := h
  simp [binOp, Op.floatArith, h', Question.forced, nanOf]

theorem run_sub_ok {P : Program} (w : World) (t : TypeId) (x y r : Nat) (h : Ieee.double.sub x y = some r) : (binOp .sub t (.float .f64 x) (.float .f64 y)).run P w = .ok (.float .f64 r) w := run_float_arith w .sub t .f64 x y r h
theorem run_quo_ok {P : Program} (w : World) (t : TypeId) (x y r : Nat) (h : Ieee.double.div x y = some r) : (binOp .quo t (.float .f64 x) (.float .f64 y)).run P w = .ok (.float .f64 r) w := run_float_arith w .quo t .f64 x y r h

theorem frombits (n : Int) (w : World) : (callFunc 13 #[.int .u64 n]).run Try.prog w = .ok (.value (.float .f64 n.toNat)) w := by
  rw [run_callFunc_extern (e := Extern.MathFloatBits.float64frombits) Try.func13 (by kernel_rfl) (by kernel_rfl) (by kernel_rfl) (by kernel_rfl)]
  rfl

set_option maxHeartbeats 400000 in
theorem inf_any (w : World) : Calls Try.prog 11 #[.int .i64 1] w fun e w' => e = .returned (.float .f64 9218868437227405312) ∧ w' = w := by
  have hf := frombits
  go_enter Try.func11, Try.ntmps11
  go_wp2
  go_ret
  exact ⟨rfl, rfl⟩

theorem add_max : floatBits .add .f64 9218868437227405311 9218868437227405311 = some 9218868437227405312 := by decide

set_option maxHeartbeats 400000 in
theorem infinity_any (w : World) : Calls Try.prog 9 #[] w fun e w' => e = .returned (.float .f64 9218868437227405312) ∧ w' = w := by
  have hf := fun w => run_float_arith (P := Try.prog) w .add 22 .f64 _ _ _ add_max
  go_enter Try.func9, Try.ntmps9
  go_wp2
  go_ret
  exact ⟨rfl, rfl⟩

set_option maxHeartbeats 400000 in
theorem batch_any (y0 y1 v0 v1 g u0 u1 : Nat) (w : World) : Calls Try.prog 5 #[.float .f64 y0, .float .f64 y1, .float .f64 v0, .float .f64 v1, .float .f64 g, .float .f64 u0, .float .f64 u1] w fun e w' => e = .returned (B y0 y1 v0 v1 g u0 u1) ∧ Below w.heap.size w w' := by
  go_enter Try.func5, Try.ntmps5
  go_wp2
  exact bodyPost_ret (v := B y0 y1 v0 v1 g u0 u1) (by simp [results, Try.results5, go_sem]) rfl ⟨rfl, ((Below.refl _ _).alloc (Nat.le_refl _) _).alloc (by simp) _⟩

/-- What a room's distance is, of a resource that is not full and that the workload reaches. -/
def IsRoom (y u d : Nat) : Prop := (d = Fl.room y u ∧ d ≤ Fl.INF) ∨ ((∀ x, Ieee.double.order d x = none) ∧ Fl.room y u = Fl.INF)


theorem isRoom_of_some {y u t : Nat} (hge : Fl.ge1 y = false) (hu : Fl.gt0 u = true) (hs : Ieee.double.sub Fl.ONE y = some t) {r : Nat} (hd : Ieee.double.div t u = some r) : IsRoom y u r := by
  have e : Fl.room y u = r := by unfold Fl.room; rw [if_pos hu, hs]; dsimp only; rw [hd]; rfl
  exact .inl ⟨e.symm, e ▸ Fl.room_le y u hge⟩
theorem isRoom_of_nan {y u : Nat} (w : World) (a b : Nat) (hu : Fl.gt0 u = true) (h : Ieee.double.sub Fl.ONE y = none ∨ ∃ t, Ieee.double.sub Fl.ONE y = some t ∧ Ieee.double.div t u = none) : IsRoom y u (nanOf w a b) := by
  refine .inr ⟨order_nanOf w a b, ?_⟩
  unfold Fl.room
  rw [if_pos hu]
  rcases h with h | ⟨t, h1, h2⟩
  · rw [h]
  · rw [h1]; dsimp only; rw [h2]; rfl


set_option maxHeartbeats 1000000 in
theorem room0_no (y0 y1 v0 v1 g u0 u1 : Nat) (w : World) (h : Fl.gt0 u0 = false) : Calls Try.prog 12 #[B y0 y1 v0 v1 g u0 u1, .int .i64 0] w fun e w' => e = .returned (.tuple #[.agg #[.float .f64 0, .int .i64 0], .bool false]) ∧ Below w.heap.size w w' := by
  have h' : (FloatKind.f64.format.order u0 0 == some .gt) = false := h
  go_enter Try.func12, Try.ntmps12
  go_wp2
  exact bodyPost_ret (v := .tuple #[.agg #[.float .f64 0, .int .i64 0], .bool false]) (by simp [results, Try.results12, go_sem]) rfl ⟨rfl, ((Below.refl _ _).alloc (Nat.le_refl _) _).alloc (by simp) _⟩

set_option maxHeartbeats 1000000 in
theorem room0_yes (y0 y1 v0 v1 g u0 u1 : Nat) (w : World) (hge : Fl.ge1 y0 = false) (h : Fl.gt0 u0 = true) : Calls Try.prog 12 #[B y0 y1 v0 v1 g u0 u1, .int .i64 0] w fun e w' => ∃ d, e = .returned (.tuple #[.agg #[.float .f64 d, .int .i64 0], .bool true]) ∧ IsRoom y0 u0 d ∧ Below w.heap.size w w' := by
  have h' : (FloatKind.f64.format.order u0 0 == some .gt) = true := h
  rcases hs : Ieee.double.sub Fl.ONE y0 with _ | t
  · have r1 := fun w => run_sub_nan (P := Try.prog) w 22 4607182418800017408 y0 hs
    have r2 := fun w w' => run_quo_nan (P := Try.prog) w 22 _ u0 (div_nanOf w' 4607182418800017408 y0 u0)
    have Hs : Hid (Ieee.double.sub Fl.ONE y0 = none) := hs
    clear hs hge
    go_enter Try.func12, Try.ntmps12
    go_wp2
    refine bodyPost_ret (v := .tuple #[.agg #[.float .f64 _, .int .i64 0], .bool true]) (by simp [results, Try.results12, go_sem]; rfl) rfl ⟨_, rfl, isRoom_of_nan _ _ _ h (.inl Hs.out), ?_⟩
    exact ((((Below.refl _ _).alloc (Nat.le_refl _) _).alloc (by simp) _).drew).drew
  · rcases hd : Ieee.double.div t u0 with _ | r
    · have r1 := fun w => run_sub_ok (P := Try.prog) w 22 4607182418800017408 y0 t hs
      have r2 := fun w => run_quo_nan (P := Try.prog) w 22 t u0 hd
      have Hs : Hid (Ieee.double.sub Fl.ONE y0 = some t) := hs
      have Hd : Hid (Ieee.double.div t u0 = none) := hd
      clear hs hge hd
      go_enter Try.func12, Try.ntmps12
      go_wp2
      refine bodyPost_ret (v := .tuple #[.agg #[.float .f64 _, .int .i64 0], .bool true]) (by simp [results, Try.results12, go_sem]; rfl) rfl ⟨_, rfl, isRoom_of_nan _ _ _ h (.inr ⟨t, Hs.out, Hd.out⟩), ?_⟩
      exact (((Below.refl _ _).alloc (Nat.le_refl _) _).alloc (by simp) _).drew
    · have r1 := fun w => run_sub_ok (P := Try.prog) w 22 4607182418800017408 y0 t hs
      have r2 := fun w => run_quo_ok (P := Try.prog) w 22 t u0 r hd
      have R := isRoom_of_some hge h hs hd
      clear hs hge hd
      go_enter Try.func12, Try.ntmps12
      go_wp2
      refine bodyPost_ret (v := .tuple #[.agg #[.float .f64 r, .int .i64 0], .bool true]) (by simp [results, Try.results12, go_sem]) rfl ⟨_, rfl, R, ?_⟩
      exact ((Below.refl _ _).alloc (Nat.le_refl _) _).alloc (by simp) _

set_option maxHeartbeats 1000000 in
theorem room1_no (y0 y1 v0 v1 g u0 u1 : Nat) (w : World) (h : Fl.gt0 u1 = false) : Calls Try.prog 12 #[B y0 y1 v0 v1 g u0 u1, .int .i64 1] w fun e w' => e = .returned (.tuple #[.agg #[.float .f64 0, .int .i64 0], .bool false]) ∧ Below w.heap.size w w' := by
  have h' : (FloatKind.f64.format.order u1 0 == some .gt) = false := h
  go_enter Try.func12, Try.ntmps12
  go_wp2
  exact bodyPost_ret (v := .tuple #[.agg #[.float .f64 0, .int .i64 0], .bool false]) (by simp [results, Try.results12, go_sem]) rfl ⟨rfl, ((Below.refl _ _).alloc (Nat.le_refl _) _).alloc (by simp) _⟩

set_option maxHeartbeats 1000000 in
theorem room1_yes (y0 y1 v0 v1 g u0 u1 : Nat) (w : World) (hge : Fl.ge1 y1 = false) (h : Fl.gt0 u1 = true) : Calls Try.prog 12 #[B y0 y1 v0 v1 g u0 u1, .int .i64 1] w fun e w' => ∃ d, e = .returned (.tuple #[.agg #[.float .f64 d, .int .i64 1], .bool true]) ∧ IsRoom y1 u1 d ∧ Below w.heap.size w w' := by
  have h' : (FloatKind.f64.format.order u1 0 == some .gt) = true := h
  rcases hs : Ieee.double.sub Fl.ONE y1 with _ | t
  · have r1 := fun w => run_sub_nan (P := Try.prog) w 22 4607182418800017408 y1 hs
    have r2 := fun w w' => run_quo_nan (P := Try.prog) w 22 _ u1 (div_nanOf w' 4607182418800017408 y1 u1)
    have Hs : Hid (Ieee.double.sub Fl.ONE y1 = none) := hs
    clear hs hge
    go_enter Try.func12, Try.ntmps12
    go_wp2
    refine bodyPost_ret (v := .tuple #[.agg #[.float .f64 _, .int .i64 1], .bool true]) (by simp [results, Try.results12, go_sem]; rfl) rfl ⟨_, rfl, isRoom_of_nan _ _ _ h (.inl Hs.out), ?_⟩
    exact ((((Below.refl _ _).alloc (Nat.le_refl _) _).alloc (by simp) _).drew).drew
  · rcases hd : Ieee.double.div t u1 with _ | r
    · have r1 := fun w => run_sub_ok (P := Try.prog) w 22 4607182418800017408 y1 t hs
      have r2 := fun w => run_quo_nan (P := Try.prog) w 22 t u1 hd
      have Hs : Hid (Ieee.double.sub Fl.ONE y1 = some t) := hs
      have Hd : Hid (Ieee.double.div t u1 = none) := hd
      clear hs hge hd
      go_enter Try.func12, Try.ntmps12
      go_wp2
      refine bodyPost_ret (v := .tuple #[.agg #[.float .f64 _, .int .i64 1], .bool true]) (by simp [results, Try.results12, go_sem]; rfl) rfl ⟨_, rfl, isRoom_of_nan _ _ _ h (.inr ⟨t, Hs.out, Hd.out⟩), ?_⟩
      exact (((Below.refl _ _).alloc (Nat.le_refl _) _).alloc (by simp) _).drew
    · have r1 := fun w => run_sub_ok (P := Try.prog) w 22 4607182418800017408 y1 t hs
      have r2 := fun w => run_quo_ok (P := Try.prog) w 22 t u1 r hd
      have R := isRoom_of_some hge h hs hd
      clear hs hge hd
      go_enter Try.func12, Try.ntmps12
      go_wp2
      refine bodyPost_ret (v := .tuple #[.agg #[.float .f64 r, .int .i64 1], .bool true]) (by simp [results, Try.results12, go_sem]) rfl ⟨_, rfl, R, ?_⟩
      exact ((Below.refl _ _).alloc (Nat.le_refl _) _).alloc (by simp) _

end Go.Proofs.Qxb6630284a
