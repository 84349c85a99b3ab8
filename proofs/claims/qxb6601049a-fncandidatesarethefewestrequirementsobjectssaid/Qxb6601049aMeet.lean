/-
  Plain laws: how many objects meet a requirement; the best requirement; the candidates' lists.
-/
import Derived.Test.Qxb6601049aHelp4
namespace Go.Proofs.Qxb6601049a
set_option linter.unusedVariables false

abbrev Objs := List (List (ByteArray × ByteArray))

/-- how many of the first k objects meet r, negation aside -/
def carr (O : Objs) (r : Rq) (k : Nat) : Nat := (List.range k).countP fun i => posB (O.getD i []) r
/-- how many of the first k objects meet r -/
def meetsK (O : Objs) (r : Rq) (k : Nat) : Nat := (List.range k).countP fun i => meetB (O.getD i []) r
def meets (O : Objs) (r : Rq) : Nat := meetsK O r O.length

theorem carr_succ (O : Objs) (r : Rq) (k : Nat) : carr O r (k + 1) = carr O r k + (if posB (O.getD k []) r then 1 else 0) := by
  simp [carr, List.range_succ, List.countP_append, List.countP_cons]
theorem meetsK_succ (O : Objs) (r : Rq) (k : Nat) : meetsK O r (k + 1) = meetsK O r k + (if meetB (O.getD k []) r then 1 else 0) := by
  simp [meetsK, List.range_succ, List.countP_append, List.countP_cons]

theorem carr_le (O : Objs) (r : Rq) : ∀ k, carr O r k ≤ k
  | 0 => by simp [carr]
  | k + 1 => by
    have := carr_le O r k
    rw [carr_succ]
    split <;> omega
theorem meetsK_le (O : Objs) (r : Rq) : ∀ k, meetsK O r k ≤ k
  | 0 => by simp [meetsK]
  | k + 1 => by
    have := meetsK_le O r k
    rw [meetsK_succ]
    split <;> omega

theorem meets_pos {O : Objs} {r : Rq} (h : r.neg = false) : meets O r = carr O r O.length := by
  unfold meets meetsK carr
  congr 1
  funext i
  simp [meetB, h]

theorem meetsK_neg {O : Objs} {r : Rq} (h : r.neg = true) : ∀ k, meetsK O r k + carr O r k = k
  | 0 => by simp [meetsK, carr]
  | k + 1 => by
    have := meetsK_neg (O := O) h k
    have hm : meetB (O.getD k []) r = !posB (O.getD k []) r := by
      unfold meetB
      rw [h]
      cases posB (O.getD k []) r <;> rfl
    rw [meetsK_succ, carr_succ, hm]
    generalize posB (O.getD k []) r = b
    cases b
    · simp; omega
    · simp; omega
theorem meets_neg {O : Objs} {r : Rq} (h : r.neg = true) : meets O r = O.length - carr O r O.length := by
  have := meetsK_neg (O := O) h O.length
  unfold meets
  omega

theorem carT_none_iff (l : List (ByteArray × ByteArray)) (k : ByteArray) : carT l k none = (llk l k).isSome := by
  unfold carT
  cases llk l k <;> rfl
theorem carT_some_iff (l : List (ByteArray × ByteArray)) (k v : ByteArray) : carT l k (some v) = decide (llk l k = some v) := by
  unfold carT
  cases e : llk l k with
  | none => simp
  | some u => simp

theorem carr_any {O : Objs} {r : Rq} (h : r.any = true) : ∀ k, carr O r k = (scan O r.key none k).length
  | 0 => by simp [carr, scan]
  | k + 1 => by
    rw [carr_succ, carr_any h k, scan, carT_none_iff]
    unfold posB
    cases e : llk (O.getD k []) r.key with
    | none => simp
    | some v => simp [h]

/-- the lists' lengths, summed -/
def sumS (O : Objs) (key : ByteArray) (n : Nat) (ds : List ByteArray) : Nat := (ds.map fun v => (scan O key (some v) n).length).sum

theorem sumS_snoc (O : Objs) (key : ByteArray) (n : Nat) (ds : List ByteArray) (v : ByteArray) : sumS O key n (ds ++ [v]) = sumS O key n ds + (scan O key (some v) n).length := by
  simp [sumS]

theorem sumS_succ (O : Objs) (key : ByteArray) (k : Nat) : ∀ ds, sumS O key (k + 1) ds = sumS O key k ds + ds.countP fun v => decide (llk (O.getD k []) key = some v)
  | [] => by simp [sumS]
  | v :: ds => by
    have := sumS_succ O key k ds
    unfold sumS at this ⊢
    rw [List.map_cons, List.sum_cons, this, List.map_cons, List.sum_cons, List.countP_cons, scan, carT_some_iff]
    split <;> simp <;> omega

theorem countP_mem (u : ByteArray) : ∀ {ds : List ByteArray}, ds.Nodup → (ds.countP fun v => decide (some u = some v)) = if inB ds u = true then 1 else 0
  | [], _ => by simp [inB]
  | v :: ds, hd => by
    obtain ⟨h1, h2⟩ := List.nodup_cons.1 hd
    have ih := countP_mem u h2
    rw [List.countP_cons, ih]
    by_cases e : u = v
    · subst e
      rw [inB_false h1]
      simp [inB]
    · have e' : inB (v :: ds) u = inB ds u := by
        have : v ≠ u := fun hc => e hc.symm
        simp [inB, this]
      rw [e']
      simp [e]

theorem countP_one {l : List (ByteArray × ByteArray)} {key : ByteArray} {ds : List ByteArray} (hd : ds.Nodup) : (ds.countP fun v => decide (llk l key = some v)) = if (match llk l key with | some v => inB ds v | none => false) = true then 1 else 0 := by
  cases e : llk l key with
  | none => simp
  | some u => exact countP_mem u hd

theorem sumS_count (O : Objs) (key : ByteArray) {ds : List ByteArray} (hd : ds.Nodup) : ∀ k, sumS O key k ds = (List.range k).countP fun i => match llk (O.getD i []) key with | some v => inB ds v | none => false
  | 0 => by
    simp only [List.range_zero, List.countP_nil]
    unfold sumS
    induction ds with
    | nil => rfl
    | cons v ds ih => rw [List.map_cons, List.sum_cons, ih (List.nodup_cons.1 hd).2]; simp [scan]
  | k + 1 => by
    rw [sumS_succ, sumS_count O key hd k, List.range_succ, List.countP_append, countP_one hd]
    simp [List.countP_cons]

theorem sumS_le (O : Objs) (key : ByteArray) {ds : List ByteArray} (hd : ds.Nodup) (k : Nat) : sumS O key k ds ≤ k := by
  rw [sumS_count O key hd k]
  have := List.countP_le_length (p := fun i => match llk (O.getD i []) key with | some v => inB ds v | none => false) (l := List.range k)
  simpa using this

theorem carr_vals {O : Objs} {r : Rq} (h : r.any = false) {ds : List ByteArray} (hd : ds.Nodup) (hm : ∀ v, v ∈ ds ↔ v ∈ r.vals) (k : Nat) : carr O r k = sumS O r.key k ds := by
  rw [sumS_count O r.key hd k]
  unfold carr
  congr 1
  funext i
  unfold posB
  cases e : llk (O.getD i []) r.key with
  | none => rfl
  | some v =>
    simp only [h, Bool.false_or]
    by_cases hv : v ∈ r.vals
    · rw [(inB_iff _ _).2 hv, (inB_iff _ _).2 ((hm v).2 hv)]
    · rw [inB_false hv, inB_false (fun hc => hv ((hm v).1 hc))]

/-- the best requirement among the first k, and how many objects meet it -/
def Best (O : Objs) (R : List Rq) (k : Nat) (best : Option Nat) (few : Nat) : Prop :=
  (best = none ∧ few = O.length ∧ ∀ j r, j < k → R[j]? = some r → r.neg = false → O.length ≤ meets O r) ∨
  ∃ j r, best = some j ∧ j < k ∧ R[j]? = some r ∧ r.neg = false ∧ few = meets O r ∧ meets O r < O.length ∧
    (∀ j' r', j' < k → R[j']? = some r' → r'.neg = false → meets O r ≤ meets O r') ∧ ∀ j' r', j' < j → R[j']? = some r' → r'.neg = false → meets O r < meets O r'

theorem Best.start (O : Objs) (R : List Rq) : Best O R 0 none O.length := .inl ⟨rfl, rfl, fun j r h => absurd h (Nat.not_lt_zero _)⟩

theorem Best.le {O : Objs} {R : List Rq} {k : Nat} {best : Option Nat} {few : Nat} (h : Best O R k best few) : few ≤ O.length ∧ (∀ j, best = some j → j < k) ∧ ∀ j r, j < k → R[j]? = some r → r.neg = false → few ≤ meets O r := by
  rcases h with ⟨h1, h2, h3⟩ | ⟨j, r, h1, h2, h3, h4, h5, h6, h7, h8⟩
  · subst h2
    exact ⟨Nat.le_refl _, fun j hj => (by rw [h1] at hj; cases hj), h3⟩
  · subst h5
    exact ⟨Nat.le_of_lt h6, fun j' hj => (by rw [h1] at hj; cases hj; exact h2), h7⟩

/-- the next one is better -/
theorem Best.take {O : Objs} {R : List Rq} {k : Nat} {best : Option Nat} {few : Nat} (h : Best O R k best few) {r : Rq} (hr : R[k]? = some r) (hn : r.neg = false) (hlt : meets O r < few) : Best O R (k + 1) (some k) (meets O r) := by
  obtain ⟨h1, h2, h3⟩ := h.le
  refine .inr ⟨k, r, rfl, Nat.lt_succ_self _, hr, hn, rfl, by omega, fun j' r' hj hr' hn' => ?_, fun j' r' hj hr' hn' => by have := h3 j' r' hj hr' hn'; omega⟩
  by_cases e : j' = k
  · subst e
    rw [hr] at hr'
    cases hr'
    exact Nat.le_refl _
  · have := h3 j' r' (by omega) hr' hn'
    omega

/-- the next one is not -/
theorem Best.skip {O : Objs} {R : List Rq} {k : Nat} {best : Option Nat} {few : Nat} (h : Best O R k best few) {r : Rq} (hr : R[k]? = some r) (hn : r.neg = true ∨ few ≤ meets O r) : Best O R (k + 1) best few := by
  have key : ∀ r', R[k]? = some r' → r'.neg = false → few ≤ meets O r' := by
    intro r' hr' hn'
    rw [hr] at hr'
    cases hr'
    rcases hn with hn | hn
    · rw [hn] at hn'; cases hn'
    · exact hn
  rcases h with ⟨h1, h2, h3⟩ | ⟨j, r0, h1, h2, h3, h4, h5, h6, h7, h8⟩
  · refine .inl ⟨h1, h2, fun j' r' hj hr' hn' => ?_⟩
    by_cases e : j' = k
    · subst e
      have := key r' hr' hn'
      omega
    · exact h3 j' r' (by omega) hr' hn'
  · refine .inr ⟨j, r0, h1, by omega, h3, h4, h5, h6, fun j' r' hj hr' hn' => ?_, h8⟩
    by_cases e : j' = k
    · subst e
      have := key r' hr' hn'
      omega
    · exact h7 j' r' (by omega) hr' hn'

/-- what candidates answers -/
def CandR (O : Objs) (R : List Rq) (isNil : Prop) (Ls : List (List Nat)) : Prop :=
  (isNil ∧ Ls = [] ∧ ∃ (j : Nat) (r : Rq), R[j]? = some r ∧ meets O r = 0) ∨
  (¬ isNil ∧ (∀ (j : Nat) (r : Rq), R[j]? = some r → meets O r ≠ 0) ∧ ∃ best few, Best O R R.length best few ∧
    ((best = none ∧ Ls = [List.range O.length]) ∨
     ∃ j r, best = some j ∧ R[j]? = some r ∧ r.neg = false ∧ ((r.any = true ∧ Ls = [scan O r.key none O.length]) ∨
       (r.any = false ∧ ∃ ds : List ByteArray, ds.Nodup ∧ (∀ v, v ∈ ds ↔ v ∈ r.vals) ∧ Ls = ds.map fun v => scan O r.key (some v) O.length))))

theorem scan_sorted (O : Objs) (key : ByteArray) (x : Option ByteArray) : ∀ k, (scan O key x k).Pairwise (· < ·)
  | 0 => by simp [scan]
  | k + 1 => by
    have := scan_sorted O key x k
    rw [scan]
    split
    · rw [List.pairwise_append]
      refine ⟨this, by simp, fun a ha b hb => ?_⟩
      have := scan_lt k a ha
      simp at hb
      omega
    · exact this

theorem pw_mono {α : Type} {R S : α → α → Prop} (h : ∀ a b, R a b → S a b) : ∀ {l : List α}, l.Pairwise R → l.Pairwise S
  | [], _ => List.Pairwise.nil
  | a :: l, hp => List.pairwise_cons.2 ⟨fun b hb => h a b ((List.pairwise_cons.1 hp).1 b hb), pw_mono h (List.pairwise_cons.1 hp).2⟩

/-- every list is increasing within 0 .. n-1, no object stands twice, whoever meets all requirements stands there -/
theorem CandR.once {O : Objs} {R : List Rq} {isNil : Prop} {Ls : List (List Nat)} (h : CandR O R isNil Ls) :
    (∀ L ∈ Ls, L.Pairwise (· < ·) ∧ ∀ i ∈ L, i < O.length) ∧ Ls.flatten.Nodup ∧ ∀ i, i < O.length → (∀ (j : Nat) (r : Rq), R[j]? = some r → meetB (O.getD i []) r = true) → i ∈ Ls.flatten := by
  rcases h with ⟨_, rfl, j, r, hr, h0⟩ | ⟨_, _, best, few, hb, hl⟩
  · refine ⟨fun L hL => (by cases hL), by simp, fun i hi hm => ?_⟩
    have h1 := hm j r hr
    unfold meets meetsK at h0
    exact absurd h1 (List.countP_eq_zero.1 h0 i (List.mem_range.2 hi))
  · rcases hl with ⟨_, rfl⟩ | ⟨j, r, _, hr, hn, hl⟩
    · refine ⟨fun L hL => ?_, by simpa using List.nodup_range, fun i hi _ => by simpa using hi⟩
      simp at hL
      subst hL
      exact ⟨List.pairwise_lt_range, fun i hi => List.mem_range.1 hi⟩
    · have pos : ∀ i, i < O.length → (∀ (j : Nat) (r : Rq), R[j]? = some r → meetB (O.getD i []) r = true) → posB (O.getD i []) r = true := by
        intro i hi hm
        have := hm j r hr
        simpa [meetB, hn] using this
      rcases hl with ⟨ha, rfl⟩ | ⟨ha, ds, hd, hv, rfl⟩
      · refine ⟨fun L hL => ?_, ?_, fun i hi hm => ?_⟩
        · simp at hL
          subst hL
          exact ⟨scan_sorted O r.key none _, scan_lt _⟩
        · simp only [List.flatten_cons, List.flatten_nil, List.append_nil]
          exact pw_mono (fun a b h => Nat.ne_of_lt h) (scan_sorted O r.key none O.length)
        · have hp := pos i hi hm
          simp only [List.flatten_cons, List.flatten_nil, List.append_nil]
          rw [mem_scan]
          refine ⟨hi, ?_⟩
          rw [carT_none_iff]
          unfold posB at hp
          cases e : llk (O.getD i []) r.key with
          | none => rw [e] at hp; cases hp
          | some v => rfl
      · refine ⟨fun L hL => ?_, ?_, fun i hi hm => ?_⟩
        · obtain ⟨v, _, rfl⟩ := List.mem_map.1 hL
          exact ⟨scan_sorted O r.key _ _, scan_lt _⟩
        · unfold List.Nodup
          rw [List.pairwise_flatten]
          refine ⟨fun L hL => ?_, ?_⟩
          · obtain ⟨v, _, rfl⟩ := List.mem_map.1 hL
            exact pw_mono (fun a b h => Nat.ne_of_lt h) (scan_sorted O r.key _ O.length)
          · rw [List.pairwise_map]
            refine pw_mono (fun u v huv a ha b hb hab => ?_) hd
            subst hab
            rw [mem_scan, carT_some_iff] at ha hb
            have h1 := of_decide_eq_true ha.2
            have h2 := of_decide_eq_true hb.2
            rw [h1] at h2
            exact huv (by simpa using h2)
        · have hp := pos i hi hm
          unfold posB at hp
          cases e : llk (O.getD i []) r.key with
          | none => rw [e] at hp; cases hp
          | some v =>
            rw [e] at hp
            simp only [ha, Bool.false_or] at hp
            refine List.mem_flatten.2 ⟨_, List.mem_map.2 ⟨v, (hv v).2 ((inB_iff _ _).1 hp), rfl⟩, ?_⟩
            rw [mem_scan, carT_some_iff]
            exact ⟨hi, by rw [e]; simp⟩

end Go.Proofs.Qxb6601049a
