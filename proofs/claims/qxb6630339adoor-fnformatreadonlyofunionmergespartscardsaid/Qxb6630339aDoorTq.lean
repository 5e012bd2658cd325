/- Small laws for the second walk. -/
import Derived.Test.Qxb6630339aDoorTl
namespace Go.Proofs.Qxb6630339aDoor
open Go.RowKit Go.Maps

theorem MB.more {w : World} {m N : Nat} {f : Int → Option Bool} (h : MB w m N f) : MB w m (N + 1) f := by
  obtain ⟨n, D, o, hn, r⟩ := h
  exact ⟨n, D, o, by omega, r⟩

theorem uni_mem {ks : List Int} {f g : Int → Option Bool} {q : Nat} {z : Int} {b : Bool} (h : uni ks f g q z = some b) : z ∈ ks.take q := by
  unfold uni at h
  split at h
  · assumption
  · cases h

theorem nodup_le : ∀ {l m : List Int}, l.Nodup → (∀ z ∈ l, z ∈ m) → l.length ≤ m.length
  | [], m, _, _ => Nat.zero_le _
  | x :: l, m, hn, hs => by
    obtain ⟨h1, h2⟩ := List.nodup_cons.1 hn
    have hx := hs x (by simp)
    have := nodup_le (l := l) (m := m.erase x) h2 (fun z hz => by
      have hne : z ≠ x := fun e => h1 (by rw [← e]; exact hz)
      exact (List.mem_erase_of_ne hne).2 (hs z (List.mem_cons_of_mem _ hz)))
    rw [List.length_erase_of_mem hx] at this
    have hp : 0 < m.length := List.length_pos_of_mem hx
    simp only [List.length_cons]
    omega

/-- The length of a text that FormatReadOnly hands back. -/
theorem text_size {T : List Int} {t : ByteArray} (h : bs t = Lib.join (T.map Lib.itoa) [44]) (hw : ∀ z ∈ T, (Lit.int .i64 z).wf = true) (hl : T.length ≤ 131072) : t.size ≤ 1099511627776 := by
  rw [← bs_length, h]
  have := join_len (T.map Lib.itoa) 21 (fun x hx => by
    obtain ⟨z, hz, rfl⟩ := List.mem_map.1 hx
    have hb := bounds_i64 (hw z hz)
    exact Lib.itoa_length_le z hb.1 hb.2)
  rw [List.length_map] at this
  omega

/-- The pieces of such a text. -/
theorem text_pieces {T : List Int} {t : ByteArray} (h : bs t = Lib.join (T.map Lib.itoa) [44]) : pcs (bs t) = T.map Lib.itoa := by
  rw [h]
  exact pcs_join _ (fun x hx => by obtain ⟨z, _, rfl⟩ := List.mem_map.1 hx; exact itoa_comma z) (fun x hx => by obtain ⟨z, _, rfl⟩ := List.mem_map.1 hx; exact itoa_ne z)

/-- A piece. -/
theorem piece_at {T : List Int} {pa : List ByteArray} (h : pa.map bs = T.map Lib.itoa) {i : Nat} {x : Int} (hx : T[i]? = some x) : ∃ s, pa[i]? = some s ∧ bs s = Lib.itoa x := by
  have h := congrArg (fun l => l[i]?) h
  simp only [List.getElem?_map, hx] at h
  obtain ⟨s, h1, h2⟩ := Option.map_eq_some_iff.1 h
  exact ⟨s, h1, h2⟩

/-- The joined text, by joinComma. -/
theorem join_back {base : Nat} {T : List Int} {t : ByteArray} (h : bs t = Lib.join (T.map Lib.itoa) [44]) (hw : ∀ z ∈ T, (Lit.int .i64 z).wf = true) (hl : T.length ≤ 262144) {W : World} {v : Value} (hown : W.ownsRow base 9 1 v T.length (T.map numeral)) :
    Calls Tryd.prog 10 #[v] W fun e w' => e = .returned (.string t) ∧ Lat W w' := by
  have hown' : W.ownsRow base 9 1 v (T.map fun z => mk (Lib.itoa z)).length ((T.map fun z => mk (Lib.itoa z)).map Value.string) := by
    rw [List.length_map, List.map_map]
    exact hown
  obtain ⟨a9, c9, rfl, hss⟩ := own_ss hown'
  have h1 := joinC_any a9 c9 (T.map fun z => mk (Lib.itoa z)) W hss (by rw [List.length_map]; omega) (fun s hs => by
    obtain ⟨y, hy, rfl⟩ := List.mem_map.1 hs
    have := numeral_size (hw y hy)
    omega)
  have e : mk (jn ((T.map fun z => mk (Lib.itoa z)).map bs)) = t := by
    apply bs_inj
    rw [bs_mk, h, List.map_map]
    have e : (bs ∘ fun z => mk (Lib.itoa z)) = Lib.itoa := by funext y; exact bs_mk _
    rw [e]
    rfl
  rw [e] at h1
  exact h1
end Go.Proofs.Qxb6630339aDoor
