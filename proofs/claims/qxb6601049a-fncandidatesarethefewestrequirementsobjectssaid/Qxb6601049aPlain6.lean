/-
  Plain laws for FnCandidatesAreTheFewestRequirementsObjects.
-/
import Derived.Test.Qxb6601049aTimes
namespace Go.Proofs.Qxb6601049a
set_option linter.unusedVariables false

/-- the least count of the non-negated ones among the first j -/
def Least (O : Objs) (R : List Rq) (j : Nat) (lv : Int) : Prop :=
  (lv = -1 ∧ ∀ i r, i < j → R[i]? = some r → r.neg = true) ∨
  ∃ i r, i < j ∧ R[i]? = some r ∧ r.neg = false ∧ lv = (meets O r : Nat) ∧ ∀ i' r', i' < j → R[i']? = some r' → r'.neg = false → meets O r ≤ meets O r'

theorem Least.start (O : Objs) (R : List Rq) : Least O R 0 (-1) := .inl ⟨rfl, fun i r h => absurd h (Nat.not_lt_zero _)⟩

theorem Least.bound {O : Objs} {R : List Rq} {j : Nat} {lv : Int} (h : Least O R j lv) : -1 ≤ lv ∧ lv ≤ O.length := by
  rcases h with ⟨h1, _⟩ | ⟨i, r, _, _, _, h1, _⟩
  · omega
  · have := meetsK_le O r O.length
    unfold meets at h1
    omega

theorem Least.take {O : Objs} {R : List Rq} {j : Nat} {lv : Int} (h : Least O R j lv) {r : Rq} (hr : R[j]? = some r) (hn : r.neg = false) (hlt : lv < 0 ∨ ((meets O r : Nat) : Int) < lv) : Least O R (j + 1) ((meets O r : Nat) : Int) := by
  refine .inr ⟨j, r, Nat.lt_succ_self _, hr, hn, rfl, fun i' r' hi hr' hn' => ?_⟩
  by_cases e : i' = j
  · subst e
    rw [hr] at hr'
    cases hr'
    exact Nat.le_refl _
  · rcases h with ⟨_, h2⟩ | ⟨i, r0, _, _, _, h4, h5⟩
    · have := h2 i' r' (by omega) hr'
      rw [this] at hn'
      cases hn'
    · have := h5 i' r' (by omega) hr' hn'
      omega

theorem Least.skip {O : Objs} {R : List Rq} {j : Nat} {lv : Int} (h : Least O R j lv) {r : Rq} (hr : R[j]? = some r) (hn : r.neg = true ∨ (¬ lv < 0 ∧ ¬ ((meets O r : Nat) : Int) < lv)) : Least O R (j + 1) lv := by
  rcases h with ⟨h1, h2⟩ | ⟨i, r0, h1, h2, h3, h4, h5⟩
  · refine .inl ⟨h1, fun i' r' hi hr' => ?_⟩
    by_cases e : i' = j
    · subst e
      rw [hr] at hr'
      cases hr'
      rcases hn with hn | hn
      · exact hn
      · omega
    · exact h2 i' r' (by omega) hr'
  · refine .inr ⟨i, r0, by omega, h2, h3, h4, fun i' r' hi hr' hn' => ?_⟩
    by_cases e : i' = j
    · subst e
      rw [hr] at hr'
      cases hr'
      rcases hn with hn | hn
      · rw [hn] at hn'; cases hn'
      · omega
    · exact h5 i' r' (by omega) hr' hn'

/-- the first non-negated one among the first j whose count is lv -/
def First (O : Objs) (R : List Rq) (lv : Int) (j : Nat) (bo : Option Nat) : Prop :=
  (bo = none ∧ ∀ i r, i < j → R[i]? = some r → r.neg = false → ((meets O r : Nat) : Int) ≠ lv) ∨
  ∃ i r, bo = some i ∧ i < j ∧ R[i]? = some r ∧ r.neg = false ∧ ((meets O r : Nat) : Int) = lv ∧ ∀ i' r', i' < i → R[i']? = some r' → r'.neg = false → ((meets O r' : Nat) : Int) ≠ lv

theorem First.start (O : Objs) (R : List Rq) (lv : Int) : First O R lv 0 none := .inl ⟨rfl, fun i r h => absurd h (Nat.not_lt_zero _)⟩

theorem First.hit {O : Objs} {R : List Rq} {lv : Int} {j : Nat} (h : First O R lv j none) {r : Rq} (hr : R[j]? = some r) (hn : r.neg = false) (he : ((meets O r : Nat) : Int) = lv) : First O R lv (j + 1) (some j) := by
  rcases h with ⟨_, h2⟩ | ⟨i, r0, h1, _⟩
  · exact .inr ⟨j, r, rfl, Nat.lt_succ_self _, hr, hn, he, h2⟩
  · cases h1

theorem First.miss {O : Objs} {R : List Rq} {lv : Int} {j : Nat} (h : First O R lv j none) {r : Rq} (hr : R[j]? = some r) (hn : r.neg = true ∨ ((meets O r : Nat) : Int) ≠ lv) : First O R lv (j + 1) none := by
  rcases h with ⟨_, h2⟩ | ⟨i, r0, h1, _⟩
  · refine .inl ⟨rfl, fun i r' hi hr' hn' => ?_⟩
    by_cases e : i = j
    · subst e
      rw [hr] at hr'
      cases hr'
      rcases hn with hn | hn
      · rw [hn] at hn'; cases hn'
      · exact hn
    · exact h2 i r' (by omega) hr' hn'
  · cases h1

theorem First.lt {O : Objs} {R : List Rq} {lv : Int} {j i : Nat} (h : First O R lv j (some i)) : i < j := by
  rcases h with ⟨h1, _⟩ | ⟨i', r, h1, h2, _⟩
  · cases h1
  · cases h1
    exact h2

theorem First.more {O : Objs} {R : List Rq} {lv : Int} {j n i : Nat} (h : First O R lv j (some i)) (hj : j ≤ n) : First O R lv n (some i) := by
  rcases h with ⟨h1, _⟩ | ⟨i', r, h1, h2, h3⟩
  · cases h1
  · exact .inr ⟨i', r, h1, by omega, h3⟩

/-- the law's least and the index's best: none -/
theorem best_none {O : Objs} {R : List Rq} {best : Option Nat} {few : Nat} {lv : Int} (hb : Best O R R.length best few) (hl : Least O R R.length lv) (h : ¬ (0 ≤ lv ∧ lv < O.length)) : best = none := by
  rcases hb with ⟨h1, _⟩ | ⟨j, r, h1, h2, h3, h4, h5, h6, h7, h8⟩
  · exact h1
  · rcases hl with ⟨_, l2⟩ | ⟨i, r0, l1, l2, l3, l4, l5⟩
    · have := l2 j r h2 h3
      rw [this] at h4
      cases h4
    · have := l5 j r h2 h3 h4
      omega

/-- .. and the first -/
theorem best_first {O : Objs} {R : List Rq} {best bo : Option Nat} {few : Nat} {lv : Int} (hb : Best O R R.length best few) (hl : Least O R R.length lv) (h : 0 ≤ lv ∧ lv < O.length) (hf : First O R lv R.length bo) : bo = best := by
  rcases hl with ⟨l1, _⟩ | ⟨i, r0, l1, l2, l3, l4, l5⟩
  · omega
  rcases hb with ⟨_, _, h3⟩ | ⟨j, r, h1, h2, h3, h4, h5, h6, h7, h8⟩
  · have := h3 i r0 l1 l2 l3
    omega
  · have e1 := h7 i r0 l1 l2 l3
    have e2 := l5 j r h2 h3 h4
    have e3 : ((meets O r : Nat) : Int) = lv := by omega
    rcases hf with ⟨_, f2⟩ | ⟨k, rk, f1, f2, f3, f4, f5, f6⟩
    · exact absurd e3 (f2 j r h2 h3 h4)
    · rw [f1, h1]
      congr 1
      rcases Nat.lt_trichotomy k j with hc | hc | hc
      · have := h8 k rk hc f3 f4
        omega
      · exact hc
      · exact absurd e3 (f6 j r hc h3 h4)

/-- the first occurrences among the first t -/
def dd (S : List ByteArray) : Nat → List ByteArray
  | 0 => []
  | t + 1 => match S[t]? with
    | some s => if inB (S.take t) s = true then dd S t else dd S t ++ [s]
    | none => dd S t

theorem dd_spec (S : List ByteArray) : ∀ t, (dd S t).Nodup ∧ ∀ v, v ∈ dd S t ↔ v ∈ S.take t
  | 0 => by simp [dd]
  | t + 1 => by
    obtain ⟨h1, h2⟩ := dd_spec S t
    rw [dd, List.take_add_one]
    cases e : S[t]? with
    | none => simpa using ⟨h1, h2⟩
    | some s =>
      simp only [Option.toList_some]
      by_cases hs : s ∈ S.take t
      · rw [if_pos ((inB_iff _ _).2 hs)]
        refine ⟨h1, fun v => ?_⟩
        rw [h2, List.mem_append]
        exact ⟨fun h => .inl h, fun h => h.elim id (fun h => by simp at h; subst h; exact hs)⟩
      · rw [if_neg (by rw [inB_false hs]; simp)]
        refine ⟨nodup_snoc h1 (fun h => hs ((h2 s).1 h)), fun v => ?_⟩
        rw [List.mem_append, List.mem_append, h2]

theorem dd_new {S : List ByteArray} {t : Nat} {s : ByteArray} (h : S[t]? = some s) (hs : s ∉ S.take t) : dd S (t + 1) = dd S t ++ [s] := by
  rw [dd, h]
  simp only
  rw [if_neg (by rw [inB_false hs]; simp)]
theorem dd_old {S : List ByteArray} {t : Nat} {s : ByteArray} (h : S[t]? = some s) (hs : s ∈ S.take t) : dd S (t + 1) = dd S t := by
  rw [dd, h]
  simp only
  rw [if_pos ((inB_iff _ _).2 hs)]

theorem FIdx.first {S : List ByteArray} {s : ByteArray} {r : Int} (h : FIdx S s r) {t : Nat} (ht : S[t]? = some s) : r = (t : Int) ↔ s ∉ S.take t := by
  have hm : s ∈ S.take t ↔ ∃ j, j < t ∧ S[j]? = some s := by
    rw [List.mem_iff_getElem?]
    constructor
    · rintro ⟨j, hj⟩
      rw [List.getElem?_take] at hj
      split at hj
      · exact ⟨j, by assumption, hj⟩
      · cases hj
    · rintro ⟨j, h1, h2⟩
      exact ⟨j, by rw [List.getElem?_take_of_lt h1]; exact h2⟩
  rw [hm]
  rcases h with ⟨h1, h2⟩ | ⟨j, h1, h2, h3⟩
  · exact absurd (List.mem_of_getElem? ht) h2
  · subst h1
    constructor
    · intro e
      have e' : j = t := by omega
      subst e'
      rintro ⟨i, hi, hs⟩
      exact h3 i hi hs
    · intro hne
      rcases Nat.lt_trichotomy j t with hc | hc | hc
      · exact absurd ⟨j, hc, h2⟩ hne
      · rw [hc]
      · exact absurd ht (h3 t hc)

theorem same_len {ds es : List ByteArray} (h1 : ds.Nodup) (h2 : es.Nodup) (h : ∀ v, v ∈ ds ↔ v ∈ es) : ds.length = es.length :=
  Nat.le_antisymm (nodup_len es h1 (fun v hv => (h v).1 hv)) (nodup_len ds h2 (fun v hv => (h v).2 hv))

theorem same_count {ds es : List ByteArray} (p : ByteArray → Bool) (h1 : ds.Nodup) (h2 : es.Nodup) (h : ∀ v, v ∈ ds ↔ v ∈ es) : (ds.filter p).length = (es.filter p).length :=
  same_len (List.Pairwise.filter _ h1) (List.Pairwise.filter _ h2) (fun v => by rw [List.mem_filter, List.mem_filter, h])

/-- some object carries the value -/
def neB (O : Objs) (key v : ByteArray) : Bool := decide (0 < (scan O key (some v) O.length).length)

/-- the values seen so far -/
def sn (O : Objs) (key : ByteArray) (ds : List ByteArray) (q : Nat) : List ByteArray := (ds.take q).filter (neB O key)

theorem sn_hit {O : Objs} {key : ByteArray} {ds : List ByteArray} {q : Nat} {u : ByteArray} (h : ds[q]? = some u) (hn : neB O key u = true) : sn O key ds (q + 1) = sn O key ds q ++ [u] := by
  unfold sn
  rw [List.take_add_one, h, List.filter_append]
  simp [hn]
theorem sn_miss {O : Objs} {key : ByteArray} {ds : List ByteArray} {q : Nat} {u : ByteArray} (h : ds[q]? = some u) (hn : neB O key u = false) : sn O key ds (q + 1) = sn O key ds q := by
  unfold sn
  rw [List.take_add_one, h, List.filter_append]
  simp [hn]
theorem sn_new {O : Objs} {key : ByteArray} {ds : List ByteArray} (hd : ds.Nodup) {q : Nat} {u : ByteArray} (h : ds[q]? = some u) : u ∉ sn O key ds q := by
  intro hm
  have hm' := (List.mem_filter.1 hm).1
  obtain ⟨j, hj⟩ := List.mem_iff_getElem?.1 hm'
  rw [List.getElem?_take] at hj
  split at hj
  · rename_i hlt
    have hq := (List.getElem?_eq_some_iff.1 h).1
    have := List.pairwise_iff_getElem.1 hd j q (by omega) hq hlt
    rw [(List.getElem?_eq_some_iff.1 hj).2, (List.getElem?_eq_some_iff.1 h).2] at this
    exact this rfl
  · cases hj
theorem sn_len (O : Objs) (key : ByteArray) (ds : List ByteArray) (q : Nat) : (sn O key ds q).length ≤ q := by
  unfold sn
  have := List.length_filter_le (neB O key) (ds.take q)
  rw [List.length_take] at this
  omega

/-- the first of a value's objects carries it -/
theorem scan_head {O : Objs} {key v : ByteArray} (h : 0 < (scan O key (some v) O.length).length) : (scan O key (some v) O.length).getD 0 0 < O.length ∧ llk (O.getD ((scan O key (some v) O.length).getD 0 0) []) key = some v := by
  have hm : (scan O key (some v) O.length).getD 0 0 ∈ scan O key (some v) O.length := by
    rw [List.getD_eq_getElem?_getD, List.getElem?_eq_getElem h]
    exact List.getElem_mem h
  rw [mem_scan, carT_some_iff] at hm
  exact ⟨hm.1, of_decide_eq_true hm.2⟩

end Go.Proofs.Qxb6601049a
