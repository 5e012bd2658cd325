/- The plain mathematics of seat b6630238a: last indices, distinct keys, tables as functions of lists. -/
import Derived.Test.Qxb6630238aRows
import Derived.Laws.Strings
namespace Go.Proofs.Qxb6630238a.Pl

/-- A route, as data. -/
structure Rt where
  pre : ByteArray
  kind : ByteArray
  dst : ByteArray
  mn : Int
  mx : Int
  st : Int
  prep : ByteArray
  cls : Option (List Int)

/-- A string's bytes. -/
abbrev Bs := List UInt8
def bs (s : ByteArray) : Bs := s.toList

theorem bs_data (s : ByteArray) : bs s = s.data.toList := ByteArray.toList_eq s

theorem bs_inj {s t : ByteArray} (h : bs s = bs t) : s = t := by
  rw [bs_data, bs_data] at h
  cases s; cases t
  simp only [ByteArray.mk.injEq]
  exact Array.toList_inj.1 h

def Rt.key (r : Rt) : Bs := bs r.pre

def keys (rs : List Rt) : List Bs := rs.map Rt.key

theorem keys_length (rs : List Rt) : (keys rs).length = rs.length := by unfold keys; simp
theorem keys_get (rs : List Rt) (i : Nat) : (keys rs)[i]? = (rs[i]?).map Rt.key := by unfold keys; simp
theorem keys_append (a b : List Rt) : keys (a ++ b) = keys a ++ keys b := by unfold keys; simp

/-- The greatest index below n at which p stands, or -1. -/
def lastTo (ks : List Bs) (p : Bs) : Nat → Int
  | 0 => -1
  | n + 1 => if ks[n]? = some p then (n : Int) else lastTo ks p n

def lastK (ks : List Bs) (p : Bs) : Int := lastTo ks p ks.length

theorem lastTo_succ_hit {ks : List Bs} {p : Bs} {n : Nat} (h : ks[n]? = some p) : lastTo ks p (n + 1) = n := by
  unfold lastTo; rw [if_pos h]
theorem lastTo_succ_miss {ks : List Bs} {p : Bs} {n : Nat} (h : ks[n]? ≠ some p) : lastTo ks p (n + 1) = lastTo ks p n := by
  rw [lastTo, if_neg h]

theorem lastTo_bd (ks : List Bs) (p : Bs) : ∀ n, -1 ≤ lastTo ks p n ∧ lastTo ks p n < n
  | 0 => by unfold lastTo; omega
  | n + 1 => by
    have := lastTo_bd ks p n
    unfold lastTo
    split <;> omega

theorem lastK_bd (ks : List Bs) (p : Bs) : -1 ≤ lastK ks p ∧ lastK ks p < ks.length := lastTo_bd ks p _

theorem lastTo_get {ks : List Bs} {p : Bs} : ∀ {n : Nat} {i : Nat}, lastTo ks p n = i → ks[i]? = some p
  | 0, i, h => by unfold lastTo at h; omega
  | n + 1, i, h => by
    unfold lastTo at h
    split at h
    · rename_i hh
      have : n = i := by omega
      subst this; exact hh
    · exact lastTo_get h

theorem lastTo_later {ks : List Bs} {p : Bs} : ∀ {n : Nat} {i : Nat}, lastTo ks p n < (i : Int) → i < n → ks[i]? ≠ some p
  | 0, i, _, hi => by omega
  | n + 1, i, h, hi => by
    unfold lastTo at h
    split at h
    · omega
    · rename_i hh
      by_cases e : i = n
      · subst e; exact hh
      · exact lastTo_later h (by omega)

theorem lastK_mem {ks : List Bs} {p : Bs} : 0 ≤ lastK ks p ↔ p ∈ ks := by
  constructor
  · intro h
    obtain ⟨i, hi⟩ := Int.eq_ofNat_of_zero_le h
    exact List.mem_of_getElem? (lastTo_get hi)
  · intro h
    obtain ⟨i, hi, he⟩ := List.mem_iff_getElem.1 h
    rcases Int.lt_or_le (lastK ks p) 0 with hn | hn
    · exact absurd (by rw [List.getElem?_eq_getElem hi, he]) (lastTo_later (n := ks.length) (i := i) (by unfold lastK at hn; omega) hi)
    · exact hn

/-- What pins the last index. -/
theorem lastK_eq {ks : List Bs} {p : Bs} {i : Nat} (hi : ks[i]? = some p) (hl : ∀ j, i < j → ks[j]? ≠ some p) : lastK ks p = i := by
  have hil : i < ks.length := (List.getElem?_eq_some_iff.1 hi).1
  have hm : 0 ≤ lastK ks p := lastK_mem.2 (List.mem_of_getElem? hi)
  obtain ⟨k, hk⟩ := Int.eq_ofNat_of_zero_le hm
  have hg := lastTo_get (n := ks.length) (i := k) hk
  rcases Nat.lt_trichotomy k i with h | h | h
  · exact absurd hi (lastTo_later (n := ks.length) (by have : lastTo ks p ks.length = k := hk; omega) hil)
  · rw [hk, h]
  · exact absurd hg (hl k h)

theorem lastK_cons_mem {k p : Bs} {ks : List Bs} (h : p ∈ ks) : lastK (k :: ks) p = lastK ks p + 1 := by
  obtain ⟨i, hi⟩ := Int.eq_ofNat_of_zero_le (lastK_mem.2 h)
  rw [hi]
  have hg := lastTo_get (n := ks.length) (i := i) hi
  refine (lastK_eq (i := i + 1) (by simpa using hg) ?_).trans (by omega)
  intro j hj
  obtain ⟨j', rfl⟩ : ∃ j', j = j' + 1 := ⟨j - 1, by omega⟩
  rw [List.getElem?_cons_succ]
  by_cases hl : j' < ks.length
  · exact lastTo_later (n := ks.length) (by have : lastTo ks p ks.length = i := hi; omega) hl
  · rw [List.getElem?_eq_none (by omega)]; simp

theorem lastK_cons_self {k : Bs} {ks : List Bs} (h : k ∉ ks) : lastK (k :: ks) k = 0 := by
  refine lastK_eq (i := 0) rfl ?_
  intro j hj
  obtain ⟨j', rfl⟩ : ∃ j', j = j' + 1 := ⟨j - 1, by omega⟩
  rw [List.getElem?_cons_succ]
  intro e
  exact h (List.mem_of_getElem? e)

theorem lastK_append_right {a b : List Bs} {p : Bs} (h : p ∈ b) : lastK (a ++ b) p = a.length + lastK b p := by
  obtain ⟨i, hi⟩ := Int.eq_ofNat_of_zero_le (lastK_mem.2 h)
  rw [hi]
  have hg := lastTo_get (n := b.length) (i := i) hi
  refine (lastK_eq (i := a.length + i) (by rw [List.getElem?_append_right (by omega)]; simpa using hg) ?_).trans (by omega)
  intro j hj
  rw [List.getElem?_append_right (by omega)]
  by_cases hl : j - a.length < b.length
  · exact lastTo_later (n := b.length) (by have : lastTo b p b.length = i := hi; omega) hl
  · rw [List.getElem?_eq_none (by omega)]; simp

/-! ### Counting -/
def cnt (f : Nat → Bool) : Nat → Nat
  | 0 => 0
  | n + 1 => cnt f n + if f n then 1 else 0

theorem cnt_le (f : Nat → Bool) : ∀ n, cnt f n ≤ n
  | 0 => Nat.le_refl _
  | n + 1 => by have := cnt_le f n; unfold cnt; split <;> omega

theorem cnt_congr {f g : Nat → Bool} : ∀ {n : Nat}, (∀ i, i < n → f i = g i) → cnt f n = cnt g n
  | 0, _ => rfl
  | n + 1, h => by
    unfold cnt
    rw [cnt_congr (n := n) (fun i hi => h i (by omega)), h n (by omega)]

theorem cnt_shift (f : Nat → Bool) : ∀ n, cnt f (n + 1) = (if f 0 then 1 else 0) + cnt (fun i => f (i + 1)) n
  | 0 => by unfold cnt; simp [cnt]
  | n + 1 => by
    rw [cnt, cnt_shift f n]
    conv => rhs; rw [cnt]
    omega

/-- How many different keys there are. -/
def nd : List Bs → Nat
  | [] => 0
  | k :: ks => (if k ∈ ks then 0 else 1) + nd ks

/-- The same, as the program counts. -/
def isLast (ks : List Bs) (i : Nat) : Bool := decide (lastK ks (ks.getD i ([] : Bs)) = (i : Int))

theorem isLast_zero (k : Bs) (ks : List Bs) : isLast (k :: ks) 0 = decide (k ∉ ks) := by
  unfold isLast
  simp only [List.getD_cons_zero]
  by_cases h : k ∈ ks
  · have h1 := lastK_cons_mem (k := k) h
    have h2 := lastK_mem.2 h
    rw [decide_eq_false (by omega), decide_eq_false (by simpa using h)]
  · rw [lastK_cons_self h]; simp [h]

theorem isLast_succ (k : Bs) (ks : List Bs) (i : Nat) (h : i < ks.length) : isLast (k :: ks) (i + 1) = isLast ks i := by
  unfold isLast
  simp only [List.getD_cons_succ]
  have hm : ks.getD i ([] : Bs) ∈ ks := by
    rw [List.getD_eq_getElem?_getD, List.getElem?_eq_getElem h]; exact List.getElem_mem h
  rw [lastK_cons_mem hm]
  congr 1
  apply propext
  omega

theorem cnt_isLast : ∀ ks : List Bs, cnt (isLast ks) ks.length = nd ks
  | [] => rfl
  | k :: ks => by
    rw [List.length_cons, cnt_shift, isLast_zero]
    rw [cnt_congr (g := isLast ks) (fun i hi => isLast_succ k ks i hi), cnt_isLast ks, nd]
    by_cases h : k ∈ ks <;> simp [h]

theorem nd_le (ks : List Bs) : nd ks ≤ ks.length := by rw [← cnt_isLast]; exact cnt_le _ _

theorem nd_mid (k : Bs) (b : List Bs) : ∀ a : List Bs, nd (a ++ k :: b) = nd (a ++ b) + if k ∈ a ++ b then 0 else 1
  | [] => by simp only [List.nil_append, nd]; omega
  | x :: a => by
    have ih := nd_mid k b a
    simp only [List.cons_append, nd, ih]
    by_cases hxk : x = k
    · subst hxk
      by_cases h : x ∈ a ++ b
      · simp [h]
      · simp [h]; omega
    · have e1 : (x ∈ a ++ k :: b) ↔ (x ∈ a ++ b) := by simp [hxk]
      have e2 : (k ∈ x :: (a ++ b)) ↔ (k ∈ a ++ b) := by simp [Ne.symm hxk]
      simp only [e1, e2]
      omega

theorem nd_snoc (k : Bs) (a : List Bs) : nd (a ++ [k]) = nd a + if k ∈ a then 0 else 1 := by
  have := nd_mid k [] a
  simpa using this

/-- Keys of a that stand in b too, as the program counts. -/
def isCom (a b : List Bs) (i : Nat) : Bool := isLast a i && decide (0 ≤ lastK b (a.getD i ([] : Bs)))

theorem com_eq (b : List Bs) : ∀ a : List Bs, nd (a ++ b) + cnt (isCom a b) a.length = nd a + nd b
  | [] => by simp [nd, cnt]
  | k :: a => by
    have ih := com_eq b a
    rw [List.length_cons, cnt_shift]
    have e0 : isCom (k :: a) b 0 = (decide (k ∉ a) && decide (k ∈ b)) := by
      unfold isCom
      rw [isLast_zero]
      simp only [List.getD_cons_zero, lastK_mem]
    have es : cnt (fun i => isCom (k :: a) b (i + 1)) a.length = cnt (isCom a b) a.length := by
      refine cnt_congr fun i hi => ?_
      unfold isCom
      rw [isLast_succ k a i hi]
      simp only [List.getD_cons_succ]
    rw [e0, es]
    simp only [List.cons_append, nd, List.mem_append]
    by_cases h1 : k ∈ a <;> by_cases h2 : k ∈ b <;> simp [h1, h2] <;> omega

/-! ### The route at a key -/
/-- The last route of that prefix. -/
def getL : List Rt → Bs → Option Rt
  | [], _ => none
  | r :: rs, p => match getL rs p with
    | some x => some x
    | none => if r.key = p then some r else none

theorem getL_append (b : List Rt) (p : Bs) : ∀ a : List Rt, getL (a ++ b) p = match getL b p with | some x => some x | none => getL a p
  | [] => by simp only [List.nil_append, getL]; split <;> simp_all
  | r :: a => by
    simp only [List.cons_append, getL, getL_append b p a]
    cases getL b p <;> rfl

theorem getL_snoc (r : Rt) (p : Bs) (a : List Rt) : getL (a ++ [r]) p = if r.key = p then some r else getL a p := by
  rw [getL_append]
  simp only [getL]
  by_cases h : r.key = p <;> simp [h]

theorem getL_isSome (p : Bs) : ∀ rs : List Rt, (getL rs p).isSome = decide (p ∈ keys rs)
  | [] => by simp [getL, keys]
  | r :: rs => by
    have ih := getL_isSome p rs
    simp only [getL]
    cases h : getL rs p with
    | some x =>
      rw [h] at ih
      have : p ∈ keys rs := by simpa using ih.symm
      simp only [Option.isSome_some]
      rw [eq_comm, decide_eq_true_iff]
      unfold keys at this ⊢
      simp at this ⊢
      exact .inr this
    | none =>
      rw [h] at ih
      have hn : p ∉ keys rs := by simpa using ih.symm
      by_cases e : r.key = p
      · simp [e, keys]
      · rw [if_neg e]
        simp only [Option.isSome_none]
        rw [eq_comm, decide_eq_false_iff_not]
        unfold keys at hn ⊢
        simp at hn ⊢
        exact ⟨fun h => e h.symm, hn⟩

theorem getL_lastK {rs : List Rt} {p : Bs} {i : Nat} (h : lastK (keys rs) p = i) : ∃ r, rs[i]? = some r ∧ getL rs p = some r := by
  have hg : (keys rs)[i]? = some p := lastTo_get h
  have hl : ∀ j, i < j → (keys rs)[j]? ≠ some p := by
    intro j hj
    by_cases hlen : j < (keys rs).length
    · exact lastTo_later (n := (keys rs).length) (by have : lastTo (keys rs) p (keys rs).length = i := h; omega) hlen
    · rw [List.getElem?_eq_none (by omega)]; simp
  rw [keys_get] at hg
  obtain ⟨r, hr, hp⟩ := Option.map_eq_some_iff.1 hg
  refine ⟨r, hr, ?_⟩
  have hil : i < rs.length := (List.getElem?_eq_some_iff.1 hr).1
  have hsplit : rs = rs.take i ++ r :: rs.drop (i + 1) := by
    have := List.getElem?_eq_some_iff.1 hr
    obtain ⟨h1, h2⟩ := this
    rw [← h2]
    simp
  have hnone : getL (rs.drop (i + 1)) p = none := by
    have hs := getL_isSome p (rs.drop (i + 1))
    have hnot : p ∉ keys (rs.drop (i + 1)) := by
      intro hm
      obtain ⟨j, hj⟩ := List.mem_iff_getElem?.1 hm
      rw [keys_get, List.getElem?_drop, ← keys_get] at hj
      exact hl _ (by omega) hj
    rw [decide_eq_false hnot] at hs
    simpa using hs
  have e : getL rs p = getL (rs.take i ++ r :: rs.drop (i + 1)) p := by rw [← hsplit]
  rw [e, getL_append]
  have : getL (r :: rs.drop (i + 1)) p = some r := by
    simp only [getL, hnone]
    rw [if_pos hp]
  rw [this]

/-! ### The greatest length -/
def lg : List Rt → Nat
  | [] => 0
  | r :: rs => max r.pre.size (lg rs)

theorem lg_append (b : List Rt) : ∀ a : List Rt, lg (a ++ b) = max (lg a) (lg b)
  | [] => by simp [lg]
  | r :: a => by simp only [List.cons_append, lg, lg_append b a]; omega

theorem lg_ge : ∀ {rs : List Rt} {i : Nat} {r : Rt}, rs[i]? = some r → r.pre.size ≤ lg rs
  | [], i, r, h => by simp at h
  | x :: rs, 0, r, h => by simp at h; subst h; unfold lg; omega
  | x :: rs, i + 1, r, h => by
    have := lg_ge (rs := rs) (i := i) (by simpa using h)
    unfold lg; omega

theorem lg_hit : ∀ {rs : List Rt}, rs ≠ [] → ∃ (i : Nat) (r : Rt), rs[i]? = some r ∧ r.pre.size = lg rs
  | [], h => absurd rfl h
  | [x], _ => ⟨0, x, rfl, by simp [lg]⟩
  | x :: y :: rs, _ => by
    obtain ⟨i, r, h1, h2⟩ := lg_hit (rs := y :: rs) (by simp)
    by_cases h : lg (y :: rs) ≤ x.pre.size
    · exact ⟨0, x, rfl, by rw [lg]; omega⟩
    · exact ⟨i + 1, r, by simpa using h1, by rw [lg]; omega⟩

end Go.Proofs.Qxb6630238a.Pl
