/- The walks of seat b6630238a: sameRoute, sameCfg, cloneInts, cloneRoute. -/
import Derived.Test.Qxb6630238aWkB
namespace Go.Proofs.Qxb6630238a
open Go.RowKit Pl

theorem ints_len {S : Nat → Prop} {w : World} {a : Option Addr} {len : Nat} {r : Rt} (h : IntsAt S w a len r.cls) (hok : Ok r) : len ≤ 1048576 := by
  cases hc : r.cls with
  | none => rw [hc] at h; obtain ⟨_, rfl⟩ := h; omega
  | some zs => rw [hc] at h; obtain ⟨_, h2, _⟩ := h; rw [← h2]; exact hok.2 zs hc

theorem bcell {W w1 : World} (hb : Lat W w1) : (∀ b o, b < W.heap.size → w1.cell? ⟨b, o, none⟩ = W.cell? ⟨b, o, none⟩) ∧ (∀ b o, b < W.heap.size → w1.frozen? ⟨b, o, none⟩ = W.frozen? ⟨b, o, none⟩) :=
  ⟨fun b o h => Below.cell hb (p := ⟨b, o, none⟩) h, fun b o h => Below.frozen hb (p := ⟨b, o, none⟩) h⟩

set_option maxHeartbeats 1000000 in
theorem sameRoute_any {S S' : Nat → Prop} (v u : Value) (r : Rt) (w : World) (hv : RtV S w v r) (hu : RtV S' w u r) (hok : Ok r) :
    Calls Try.prog 30 #[v, u] w fun e w' => e = .returned (.bool true) ∧ Lat w w' := by
  obtain ⟨a, la, ca, rfl, ha⟩ := hv
  obtain ⟨b, lb, cb, rfl, hb⟩ := hu
  have hla := ints_len ha hok
  have HS : Hid (∀ W, Lat w W → Calls Try.prog 35 #[.slice a la ca, .slice b lb cb] W fun e w' => e = .returned (.bool true) ∧ ∃ n, w' = W.drewN n) :=
    fun W hW => sameInts_any a b la lb ca cb r.cls W (ha.later hW) (hb.later hW) hla
  clear ha hb
  go_enter Try.func30, Try.ntmps30
  go_wp2_with fail
  refine (HS.out _ (((Lat.refl w).alloc _).alloc _)).mono ?_
  rintro e w1 ⟨rfl, n, hw⟩
  go_wp2_with fail
  go_ret
  exact ⟨rfl, (((Lat.refl w).alloc _).alloc _).drewN n⟩

set_option maxHeartbeats 1000000 in
theorem sameCfg_any {S S' : Nat → Prop} (v u : Value) (r : Rt) (w : World) (hv : RtV S w v r) (hu : RtV S' w u r) (hok : Ok r) :
    Calls Try.prog 21 #[v, u] w fun e w' => e = .returned (.bool true) ∧ Lat w w' := by
  obtain ⟨a, la, ca, rfl, ha⟩ := hv
  obtain ⟨b, lb, cb, rfl, hb⟩ := hu
  have hla := ints_len ha hok
  have HS : Hid (∀ W, Lat w W → Calls Try.prog 35 #[.slice a la ca, .slice b lb cb] W fun e w' => e = .returned (.bool true) ∧ ∃ n, w' = W.drewN n) :=
    fun W hW => sameInts_any a b la lb ca cb r.cls W (ha.later hW) (hb.later hW) hla
  clear ha hb
  go_enter Try.func21, Try.ntmps21
  go_wp2_with fail
  refine (HS.out _ (((Lat.refl w).alloc _).alloc _)).mono ?_
  rintro e w1 ⟨rfl, n, hw⟩
  go_wp2_with fail
  go_ret
  exact ⟨rfl, (((Lat.refl w).alloc _).alloc _).drewN n⟩

theorem info3 : (Try.prog.info? 3).map (fun i => (i.zero, i.size, i.bytes)) = some (some (.int .i64 0), 1, 8) := by kernel_rfl

set_option maxHeartbeats 1000000 in
theorem cloneInts_any {S : Nat → Prop} (a : Option Addr) (len cap : Nat) (c : Option (List Int)) (w : World) (h : IntsAt S w a len c) (hl : len ≤ 1048576) :
    Calls Try.prog 31 #[.slice a len cap] w fun e w' => ∃ a' cap', e = .returned (.slice a' len cap') ∧ IntsAt (fun b => w.heap.size ≤ b) w' a' len c ∧ Lat w w' := by
  have q1 := fun (w : World) (a : Option Addr) (n c : Nat) => Lib.run_eql_slice_nil (P := Try.prog) w 41 3 a n c 0 0 Try.underlying41
  cases c with
  | none =>
    obtain ⟨rfl, rfl⟩ := h
    go_enter Try.func31, Try.ntmps31
    go_wp2_with fail
    go_ret
    exact ⟨none, 0, rfl, ⟨rfl, rfl⟩, Lat.refl w⟩
  | some zs =>
    obtain ⟨h1, h2, h3⟩ := h
    have a0 : a.isNone = false := by cases a <;> simp_all
    have hmk := run_make_row' (P := Try.prog) 41 3 (.int .i64 0) 8 Try.underlying41 info3 rfl .i64 .i64 len (by omega) (by omega)
    have H2 : Hid (zs.length = len) := h2
    clear h1 h2
    go_enter Try.func31, Try.ntmps31
    go_wp2_with fail
    go_loopw [4] (fun i wr => ∃ k : Nat, k ≤ len ∧ i = .int .i64 k ∧ wr.rowIs w.heap.size 3 len (fun j => .int .i64 (if j < k then zs.getD j 0 else 0)) ∧ Lat w wr) (fun i _ => len - (intOf i).toNat)
    case atStart =>
      refine ⟨0, Nat.zero_le _, rfl, ?_, (Lat.refl w).alloc _⟩
      exact (World.rowIs_made w (.int .i64 0) len 3).congr (fun i _ => by simp)
    case round =>
      obtain ⟨k, hk, rfl, he, hb⟩ := hrel
      clear hmk
      by_cases hlt : k < len
      · obtain ⟨b1, o1, _, rfl, g0⟩ := h3 k hlt
        have g1 := hb.cell g0
        have g2 := he.cell (i := k) hlt
        have g3 := he.frozen k
        clear g0 h3
        go_wp2_with fail
        go_roundw
        case rel =>
          refine ⟨k + 1, by omega, by go_num, (he.set k _).congr (fun j _ => ?_), hb.setCell (Nat.le_refl _) _⟩
          by_cases e : j = k
          · subst e; simp
          · rw [if_neg e]
            by_cases e2 : j < k
            · rw [if_pos e2, if_pos (by omega)]
            · rw [if_neg e2, if_neg (by omega)]
        case measure => simp [intOf]; omega
      · go_wp2_with fail
        go_ret
        refine ⟨_, _, rfl, ⟨rfl, H2.out, fun i hi => ⟨_, _, Nat.le_refl _, rfl, ?_⟩⟩, hb⟩
        rw [Nat.zero_add, he.cell hi, if_pos (by omega)]

set_option maxHeartbeats 1000000 in
theorem cloneRoute_any {S : Nat → Prop} (v : Value) (r : Rt) (w : World) (hv : RtV S w v r) (hok : Ok r) :
    Calls Try.prog 27 #[v] w fun e w' => ∃ u, e = .returned u ∧ RtV (fun b => w.heap.size ≤ b) w' u r ∧ Lat w w' := by
  obtain ⟨a, la, ca, rfl, ha⟩ := hv
  have hla := ints_len ha hok
  have HS : Hid (∀ W, Lat w W → Calls Try.prog 31 #[.slice a la ca] W fun e w' => ∃ a' cap', e = .returned (.slice a' la cap') ∧ IntsAt (fun b => W.heap.size ≤ b) w' a' la r.cls ∧ Lat W w') :=
    fun W hW => cloneInts_any a la ca r.cls W (ha.later hW) hla
  clear ha
  go_enter Try.func27, Try.ntmps27
  go_wp2_with fail
  refine (HS.out _ (((Lat.refl w).alloc _).alloc _)).mono ?_
  rintro e w1 ⟨a', cap', rfl, hi, hb⟩
  obtain ⟨hcx, hfx⟩ := bcell hb
  have hz : w.heap.size + 1 < w1.heap.size := by have := hb.size; simp at this; omega
  have c7 : w1.cell? ⟨w.heap.size, 7, none⟩ = some (.slice a la ca) := (hcx _ _ (by simp; omega)).trans (by go_simp)
  have HI : Hid (IntsAt (fun b => w.heap.size + 2 ≤ b) w1 a' la r.cls) := by
    refine IntsAt.mono hi ?_
    intro b hb; simp at hb; omega
  have HB : Hid (Lat w w1) := (((Lat.refl w).alloc _).alloc _).trans hb
  clear hi hb HS
  go_wp2_with fail
  refine bodyPost_ret (v := .agg #[.string r.pre, .string r.kind, .string r.dst, .int .i64 r.mn, .int .i64 r.mx, .int .i64 r.st, .string r.prep, .slice a' la cap']) (by simp [results, Try.results27, go_sem, hcx]) rfl ⟨_, rfl, ⟨a', la, cap', rfl, ?_⟩, ?_⟩
  · refine IntsAt.mono (S := fun b => w.heap.size + 2 ≤ b) ?_ (fun b hb => by omega)
    repeat (with_reducible refine IntsAt.setCell ?_ (by simp <;> omega) _)
    exact HI.out
  · repeat (with_reducible refine Lat.setCell ?_ (by simp <;> omega) _)
    exact HB.out
end Go.Proofs.Qxb6630238a
