/-
  The index's memory: a family of owned rows (one a tag: a key and, it may be, a value) and the two maps (of maps) that lead to them.
-/
import Derived.Test.Qxb6601049aBuild
import Derived.Maps.AppendAt
namespace Go.Proofs.Qxb6601049a
open Go.ChangeShapes Go.WideShapes Go.ChangeAt Go.RowKit
set_option linter.unusedVariables false

def nilS : Value := .slice none 0 0
def ints (L : List Nat) : List Value := L.map (fun n => Value.int .i64 ((n : Nat) : Int))
theorem ints_snoc (L : List Nat) (i : Nat) : ints (L ++ [i]) = ints L ++ [.int .i64 (i : Int)] := by simp [ints]
theorem ints_len (L : List Nat) : (ints L).length = L.length := by simp [ints]

def updT {β : Type} (f : ByteArray → Option ByteArray → β) (s : ByteArray) (x : Option ByteArray) (y : β) : ByteArray → Option ByteArray → β := fun k u => if k = s ∧ u = x then y else f k u
theorem updT_same {β : Type} (f : ByteArray → Option ByteArray → β) (s : ByteArray) (x : Option ByteArray) (y : β) : updT f s x y s x = y := by simp [updT]
theorem updT_other {β : Type} (f : ByteArray → Option ByteArray → β) {s k : ByteArray} {x u : Option ByteArray} (y : β) (h : ¬ (k = s ∧ u = x)) : updT f s x y k u = f k u := by simp only [updT]; rw [if_neg h]

/-- a row for each tag, no two in one block -/
def Rows (B : Nat) (w : World) (lst : ByteArray → Option ByteArray → List Nat) (sl : ByteArray → Option ByteArray → Option Value) : Prop :=
  (∀ k x, w.ownsRow B 3 1 ((sl k x).getD nilS) (lst k x).length (ints (lst k x))) ∧
  (∀ k x k' x' g, ((sl k x).getD nilS).ownBlock = some g → ((sl k' x').getD nilS).ownBlock = some g → k = k' ∧ x = x')

theorem owns_cells {w : World} {base : Nat} {e : TypeId} {size : Nat} {v : Value} {n : Nat} {xs : List Value} (h : w.ownsRow base e size v n xs) {g : Nat} (hg : v.ownBlock = some g) : ∃ cs, w.heap[g]? = some (.cells cs e (0, 0)) := by
  rcases h.2 with ⟨rfl, _⟩ | ⟨g', cap, cur, rfl, hb, hh, _⟩
  · simp [Value.ownBlock] at hg
  · simp [Value.ownBlock] at hg
    subst hg
    exact ⟨cur, hh⟩

theorem kept_or {v : Value} {row : Option Nat} (h : ∀ g, v.ownBlock = some g → some g ≠ row) : v.ownBlock = none ∨ v.ownBlock ≠ row := by
  cases e : v.ownBlock with
  | none => exact .inl rfl
  | some g => exact .inr (h g e)

theorem Rows.kept {B : Nat} {w w' : World} {lst : ByteArray → Option ByteArray → List Nat} {sl : ByteArray → Option ByteArray → Option Value} {row : Option Nat} (h : Rows B w lst sl) (hg : w.grownBy w' row)
    (hr : ∀ k x g, ((sl k x).getD nilS).ownBlock = some g → some g ≠ row) : Rows B w' lst sl :=
  ⟨fun k x => (h.1 k x).kept hg (kept_or (hr k x)), h.2⟩

theorem Rows.congr {B : Nat} {w : World} {lst lst' : ByteArray → Option ByteArray → List Nat} {sl : ByteArray → Option ByteArray → Option Value} (h : Rows B w lst sl) (e : ∀ k x, lst k x = lst' k x) : Rows B w lst' sl := by
  have : lst = lst' := funext fun k => funext fun x => e k x
  rw [← this]; exact h

theorem Rows.step {B : Nat} {w w1 : World} {lst : ByteArray → Option ByteArray → List Nat} {sl : ByteArray → Option ByteArray → Option Value} (h : Rows B w lst sl) (s : ByteArray) (x : Option ByteArray) {i g0 : Nat} {v' : Value}
    (hown : w1.ownsRow B 3 1 v' ((lst s x).length + 1) (ints (lst s x) ++ [.int .i64 (i : Int)])) (hg : w.grownBy w1 ((sl s x).getD nilS).ownBlock) (hloc : v'.ownBlock = ((sl s x).getD nilS).ownBlock ∨ v'.ownBlock = some g0) (hg0 : w.heap.size ≤ g0) :
    Rows B w1 (updT lst s x (lst s x ++ [i])) (updT sl s x (some v')) := by
  have far : ∀ k u g, ((sl k u).getD nilS).ownBlock = some g → ¬ (k = s ∧ u = x) → v'.ownBlock ≠ some g := by
    intro k u g hk hne hv
    rcases hloc with e | e
    · rw [e] at hv
      exact hne (h.2 k u s x g hk hv)
    · rw [e] at hv
      cases hv
      have := ((h.1 k u).lt g0 hk).2
      omega
  refine ⟨fun k u => ?_, fun k u k' u' g hk hk' => ?_⟩
  · by_cases e : k = s ∧ u = x
    · obtain ⟨rfl, rfl⟩ := e
      rw [updT_same, updT_same, ints_snoc]
      simpa using hown
    · rw [updT_other _ _ e, updT_other _ _ e]
      refine (h.1 k u).kept hg (kept_or fun g hgk hc => ?_)
      exact e (h.2 k u s x g hgk hc.symm)
  · by_cases e : k = s ∧ u = x
    · by_cases e' : k' = s ∧ u' = x
      · exact ⟨e.1.trans e'.1.symm, e.2.trans e'.2.symm⟩
      · rw [updT_other _ _ e'] at hk'
        obtain ⟨rfl, rfl⟩ := e
        rw [updT_same] at hk
        exact absurd hk (far k' u' g hk' e')
    · rw [updT_other _ _ e] at hk
      by_cases e' : k' = s ∧ u' = x
      · obtain ⟨rfl, rfl⟩ := e'
        rw [updT_same] at hk'
        exact absurd hk' (far k u g hk e)
      · rw [updT_other _ _ e'] at hk'
        exact h.2 k u k' u' g hk hk'

/-- the maps that lead to the rows: 'byLabel' in block N, 'byKey' in block N + 1 -/
def IMaps (N base : Nat) (w : World) (sl : ByteArray → Option ByteArray → Option Value) (fL : ByteArray → Option Nat) : Prop :=
  MapFn w N (fun k => (fL k).map (fun b => .map (some b))) ∧ MapFn w (N + 1) (fun k => sl k none) ∧ (∀ k b, fL k = some b → base ≤ b ∧ MapFn w b (fun v => sl k (some v))) ∧
  (∀ k, fL k = none → ∀ v, sl k (some v) = none) ∧ (∀ k k' b, fL k = some b → fL k' = some b → k = k')

theorem IMaps.blocks {N base : Nat} {w w' : World} {sl : ByteArray → Option ByteArray → Option Value} {fL : ByteArray → Option Nat} (h : IMaps N base w sl fL) (hb : ∀ b f, MapFn w b f → (b = N ∨ b = N + 1 ∨ ∃ k, fL k = some b) → w'.heap[b]? = w.heap[b]?) : IMaps N base w' sl fL := by
  obtain ⟨h1, h2, h3, h4, h5⟩ := h
  exact ⟨h1.block (hb _ _ h1 (.inl rfl)), h2.block (hb _ _ h2 (.inr (.inl rfl))), fun k b hk => ⟨(h3 k b hk).1, (h3 k b hk).2.block (hb _ _ (h3 k b hk).2 (.inr (.inr ⟨k, hk⟩)))⟩, h4, h5⟩

theorem IMaps.kept {N base : Nat} {w w' : World} {sl : ByteArray → Option ByteArray → Option Value} {fL : ByteArray → Option Nat} {row : Option Nat} (h : IMaps N base w sl fL) (hg : w.grownBy w' row) (hr : ∀ g, row = some g → ∃ cs t z, w.heap[g]? = some (.cells cs t z)) : IMaps N base w' sl fL := by
  refine h.blocks fun b f hf _ => hg.block b hf.lt fun hc => ?_
  obtain ⟨cs, t, z, hh⟩ := hr b hc.symm
  exact hf.ne_cells hh rfl

theorem MapFn.ne_iter {w : World} {b r : Nat} {f : ByteArray → Option Value} {m : Option Nat} {s : Nat} {x : Array Nat} {c : Nat} (h : MapFn w b f) (hr : w.heap[r]? = some (.mapIter m s x c)) : b ≠ r := by
  obtain ⟨es, c, hb, _⟩ := h
  intro e
  rw [e, hr] at hb
  cases hb

theorem IMaps.newkey {N base : Nat} {w w' : World} {sl : ByteArray → Option ByteArray → Option Value} {fL : ByteArray → Option Nat} (h : IMaps N base w sl fL) {s : ByteArray} (hs : fL s = none) (hbase : N + 2 ≤ base) (hsz : base ≤ w.heap.size)
    (hm : MapFn w' N (upd (fun k => (fL k).map (fun b => .map (some b))) s (.map (some w.heap.size)))) (hon : Only N (w.alloc (.map #[] 0)) w') : IMaps N base w' sl (fun k => if k = s then some w.heap.size else fL k) := by
  obtain ⟨h1, h2, h3, h4, h5⟩ := h
  have old : ∀ b f, MapFn w b f → b ≠ N → MapFn w' b f := fun b f hf hne => (hf.below (Below.one w _) hf.lt).only hon hne
  refine ⟨hm.congr fun k => ?_, old _ _ h2 (by omega), fun k b hk => ?_, fun k hk => ?_, fun k k' b hk hk' => ?_⟩
  · by_cases e : k = s
    · subst e; rw [upd_same]; simp
    · rw [upd_other _ _ e]; simp [e]
  · by_cases e : k = s
    · subst e
      simp only [if_true, Option.some.injEq] at hk
      subst hk
      refine ⟨hsz, ?_⟩
      have := (MapFn.made w).only hon (by have := h1.lt; omega)
      exact this.congr fun v => (h4 k hs v).symm
    · simp only [if_neg e] at hk
      exact ⟨(h3 k b hk).1, old _ _ (h3 k b hk).2 (by have := (h3 k b hk).1; omega)⟩
  · by_cases e : k = s
    · subst e; simp at hk
    · simp only [if_neg e] at hk
      exact h4 k hk
  · have lt : ∀ k b, fL k = some b → b < w.heap.size := fun k b hk => (h3 k b hk).2.lt
    by_cases e : k = s
    · by_cases e' : k' = s
      · rw [e, e']
      · simp only [e, if_true, Option.some.injEq] at hk
        simp only [if_neg e'] at hk'
        have := lt k' b hk'
        omega
    · simp only [if_neg e] at hk
      by_cases e' : k' = s
      · simp only [e', if_true, Option.some.injEq] at hk'
        have := lt k b hk
        omega
      · simp only [if_neg e'] at hk'
        exact h5 k k' b hk hk'

theorem IMaps.setLabel {N base : Nat} {w w' : World} {sl : ByteArray → Option ByteArray → Option Value} {fL : ByteArray → Option Nat} (h : IMaps N base w sl fL) {s : ByteArray} {b : Nat} (hs : fL s = some b) (hbase : N + 2 ≤ base) (v : ByteArray) (y : Value)
    (hm : MapFn w' b (upd (fun u => sl s (some u)) v y)) (hon : Only b w w') : IMaps N base w' (updT sl s (some v) (some y)) fL := by
  obtain ⟨h1, h2, h3, h4, h5⟩ := h
  have hb := (h3 s b hs).1
  refine ⟨h1.only hon (by omega), (h2.only hon (by omega)).congr fun k => ?_, fun k b' hk => ?_, fun k hk u => ?_, h5⟩
  · rw [updT_other]; simp
  · by_cases e : k = s
    · subst e
      rw [hs] at hk
      cases hk
      refine ⟨hb, hm.congr fun u => ?_⟩
      by_cases e : u = v
      · subst e; rw [upd_same, updT_same]
      · rw [upd_other _ _ e, updT_other]; simp [e]
    · refine ⟨(h3 k b' hk).1, ((h3 k b' hk).2.only hon (fun hc => e (h5 k s b (hc ▸ hk) hs))).congr fun u => ?_⟩
      rw [updT_other]; simp [e]
  · have e : k ≠ s := fun hc => by rw [hc, hs] at hk; cases hk
    rw [updT_other _ _ (by simp [e])]
    exact h4 k hk u

theorem IMaps.setKey {N base : Nat} {w w' : World} {sl : ByteArray → Option ByteArray → Option Value} {fL : ByteArray → Option Nat} (h : IMaps N base w sl fL) {s : ByteArray} (hbase : N + 2 ≤ base) (y : Value)
    (hm : MapFn w' (N + 1) (upd (fun k => sl k none) s y)) (hon : Only (N + 1) w w') : IMaps N base w' (updT sl s none (some y)) fL := by
  obtain ⟨h1, h2, h3, h4, h5⟩ := h
  refine ⟨h1.only hon (by omega), hm.congr fun k => ?_, fun k b' hk => ⟨(h3 k b' hk).1, ((h3 k b' hk).2.only hon (by have := (h3 k b' hk).1; omega)).congr fun u => ?_⟩, fun k hk u => ?_, h5⟩
  · by_cases e : k = s
    · subst e; rw [upd_same, updT_same]
    · rw [upd_other _ _ e, updT_other]; simp [e]
  · rw [updT_other]; simp
  · rw [updT_other _ _ (by simp)]
    exact h4 k hk u

/-- the lists in the midst of object i's labels: those keys that are not left have been done -/
def MidL (O : List (List (ByteArray × ByteArray))) (l : List (ByteArray × ByteArray)) (i : Nat) (left : ByteArray → Prop) (lst : ByteArray → Option ByteArray → List Nat) : Prop :=
  ∀ k x, (carT l k x = true → ¬ left k → lst k x = scan O k x i ++ [i]) ∧ ((carT l k x = false ∨ left k) → lst k x = scan O k x i)

theorem carT_llk {l : List (ByteArray × ByteArray)} {k : ByteArray} {x : Option ByteArray} (h : carT l k x = true) : ∃ v, llk l k = some v ∧ (x = none ∨ x = some v) := by
  unfold carT at h
  cases e : llk l k with
  | none => rw [e] at h; cases h
  | some v =>
    rw [e] at h
    cases x with
    | none => exact ⟨v, rfl, .inl rfl⟩
    | some u =>
      simp only [decide_eq_true_eq] at h
      exact ⟨v, rfl, .inr (by rw [h])⟩

theorem MidL.start (O : List (List (ByteArray × ByteArray))) (l : List (ByteArray × ByteArray)) (i : Nat) : MidL O l i (fun s => lfn l s ≠ none) (fun k x => scan O k x i) := by
  refine fun k x => ⟨fun hc hn => ?_, fun _ => rfl⟩
  obtain ⟨v, hv, _⟩ := carT_llk hc
  exact absurd (by simp [lfn, hv]) hn

theorem MidL.fin {O : List (List (ByteArray × ByteArray))} {l : List (ByteArray × ByteArray)} {i : Nat} {left : ByteArray → Prop} {lst : ByteArray → Option ByteArray → List Nat} (h : MidL O l i left lst) (hl : O.getD i [] = l) (hn : ∀ s, ¬ left s) : ∀ k x, lst k x = scan O k x (i + 1) := by
  intro k x
  rw [scan, hl]
  cases hc : carT l k x with
  | true => rw [if_pos rfl]; exact (h k x).1 hc (hn k)
  | false => rw [if_neg (by simp)]; exact (h k x).2 (.inl hc)

theorem MidL.step {O : List (List (ByteArray × ByteArray))} {l : List (ByteArray × ByteArray)} {i : Nat} {left : ByteArray → Prop} {lst : ByteArray → Option ByteArray → List Nat} (h : MidL O l i left lst) {s v : ByteArray} (hs : left s) (hv : llk l s = some v) :
    MidL O l i (fun t => left t ∧ t ≠ s) (updT (updT lst s (some v) (lst s (some v) ++ [i])) s none (lst s none ++ [i])) := by
  intro k x
  by_cases e : k = s
  · subst e
    have c1 : carT l k (some v) = true := by rw [carT_val hv]; simp
    have c2 : carT l k none = true := carT_key hv
    by_cases ex : x = none
    · subst ex
      rw [updT_same]
      exact ⟨fun _ _ => by rw [(h k none).2 (.inr hs)], fun hc => by rcases hc with hc | hc; (rw [c2] at hc; cases hc); exact absurd rfl hc.2⟩
    · rw [updT_other _ _ (by simp [ex])]
      by_cases ev : x = some v
      · subst ev
        rw [updT_same]
        exact ⟨fun _ _ => by rw [(h k (some v)).2 (.inr hs)], fun hc => by rcases hc with hc | hc; (rw [c1] at hc; cases hc); exact absurd rfl hc.2⟩
      · rw [updT_other _ _ (by simp [ev])]
        refine ⟨fun hc _ => ?_, fun _ => (h k x).2 (.inr hs)⟩
        obtain ⟨u, hu, hx⟩ := carT_llk hc
        rw [hv] at hu
        cases hu
        rcases hx with hx | hx
        · exact absurd hx ex
        · exact absurd hx ev
  · rw [updT_other _ _ (by simp [e]), updT_other _ _ (by simp [e])]
    refine ⟨fun hc hn => (h k x).1 hc (fun hl => hn ⟨hl, e⟩), fun hc => (h k x).2 ?_⟩
    rcases hc with hc | hc
    · exact .inl hc
    · exact .inr hc.1

/-- the index in the making: N: the heap's size when newLabelIndex began -/
structure L1w (w : World) (X : Nat) (lab car : Value) (ia : Nat) (lst : ByteArray → Option ByteArray → List Nat) (sl : ByteArray → Option ByteArray → Option Value) (fL : ByteArray → Option Nat) (va : Value) (wr : World) : Prop where
  rows : Rows (X + 1) wr lst sl
  maps : IMaps w.heap.size (X + 1) wr sl fL
  all : wr.ownsRow (X + 1) 3 1 va ia (ints (List.range ia))
  apart : ∀ k x g, va.ownBlock = some g → ((sl k x).getD nilS).ownBlock ≠ some g
  str : wr.heap[X]? = some (.cells #[lab, .map (some (w.heap.size + 2)), .map (some (w.heap.size + 3)), va, car] 83 (0, 0))
  e2 : MapFn wr (w.heap.size + 2) (fun _ => none)
  e3 : MapFn wr (w.heap.size + 3) (fun _ => none)
  bel : Below w.heap.size w wr
  size : X + 1 ≤ wr.heap.size
  hX : w.heap.size + 4 ≤ X

section
variable {w wr w' w1 w2 : World} {lab car va : Value} {ia X : Nat} {lst : ByteArray → Option ByteArray → List Nat} {sl : ByteArray → Option ByteArray → Option Value} {fL : ByteArray → Option Nat}

/-- nothing that was there has turned -/
theorem L1w.kept (h : L1w w X lab car ia lst sl fL va wr) (hb : Below wr.heap.size wr w') : L1w w X lab car ia lst sl fL va w' := by
  have hg : wr.grownBy w' none := ⟨hb.os, hb.tape, hb.output, hb.size, fun i hi _ => hb.block i hi⟩
  exact ⟨h.rows.kept hg (fun _ _ _ _ => by simp), h.maps.kept hg (fun g hg => by cases hg), h.all.kept hg (kept_or fun _ _ => by simp), h.apart,
    (hb.block _ (by have := h.size; omega)).trans h.str, h.e2.below hb h.e2.lt, h.e3.below hb h.e3.lt, h.bel.trans (hb.mono h.bel.size), Nat.le_trans h.size hb.size, h.hX⟩

/-- an iterator has gone on -/
theorem L1w.iter (h : L1w w X lab car ia lst sl fL va wr) {r : Nat} (hon : Only r wr w') (hr : ∃ m s x c, wr.heap[r]? = some (.mapIter m s x c)) (hrN : X + 1 ≤ r) : L1w w X lab car ia lst sl fL va w' := by
  obtain ⟨m, s, x, c, hr⟩ := hr
  have hX0 := h.hX
  have rowne : ∀ {v : Value} {n : Nat} {xs : List Value}, wr.ownsRow (X + 1) 3 1 v n xs → ∀ g, v.ownBlock = some g → some g ≠ some r := by
    intro v n xs hv g hg hc
    obtain ⟨cs, hcs⟩ := owns_cells hv hg
    cases hc
    rw [hr] at hcs
    cases hcs
  refine ⟨h.rows.kept hon.grown (fun k x g hg => rowne (h.rows.1 k x) g hg), h.maps.blocks (fun b f hf _ => hon.block b (hf.ne_iter hr)), h.all.kept hon.grown (kept_or (rowne h.all)), h.apart,
    (hon.block _ (by omega)).trans h.str, h.e2.only hon (by omega), h.e3.only hon (by omega), h.bel.trans (hon.below (by omega)), by rw [hon.size]; exact h.size, h.hX⟩

/-- 'x.all = append(x.all, i)': the append, then the store -/
theorem L1w.alls (h : L1w w X lab car ia lst sl fL va wr) {blk : Obj} {v' : Value} (hown : w1.ownsRow (X + 1) 3 1 v' (ia + 1) (ints (List.range ia) ++ [.int .i64 (ia : Int)])) (hg : (wr.alloc blk).grownBy w1 va.ownBlock)
    (hloc : v'.ownBlock = va.ownBlock ∨ v'.ownBlock = some (wr.heap.size + 1)) : L1w w X lab car (ia + 1) lst sl fL v' (w1.setCell ⟨X, 3, none⟩ v') := by
  have ha := h.kept (Below.one wr blk)
  have hsz := ha.size
  have hX0 := h.hX
  have hrow : ∀ g, va.ownBlock = some g → ∃ cs t z, (wr.alloc blk).heap[g]? = some (.cells cs t z) := fun g hgv => by
    obtain ⟨cs, hcs⟩ := owns_cells ha.all hgv
    exact ⟨cs, _, _, hcs⟩
  have hge : ∀ g, va.ownBlock = some g → X + 1 ≤ g := fun g hgv => (ha.all.lt g hgv).1
  have hX : w1.heap[X]? = some (.cells #[lab, .map (some (w.heap.size + 2)), .map (some (w.heap.size + 3)), va, car] 83 (0, 0)) := by
    rw [hg.block _ (by omega) (fun hc => by have := hge _ hc.symm; omega)]
    exact ha.str
  have hg2 : w1.grownBy (w1.setCell ⟨X, 3, none⟩ v') (some (X)) := ⟨rfl, rfl, rfl, by simp [World.setCell], fun k _ hne => Below.heap_setCell _ _ _ _ (fun e => hne (by rw [e]))⟩
  have hm : ∀ b f, MapFn (wr.alloc blk) b f → MapFn (w1.setCell ⟨X, 3, none⟩ v') b f := by
    intro b f hf
    have h1 : MapFn w1 b f := hf.block (hg.block b hf.lt (fun hc => by obtain ⟨cs, t, z, hh⟩ := hrow b hc.symm; exact hf.ne_cells hh rfl))
    exact h1.block (Below.heap_setCell _ _ _ _ (h1.ne_cells hX))
  have rowk : ∀ {v : Value} {n : Nat} {xs : List Value}, (wr.alloc blk).ownsRow (X + 1) 3 1 v n xs → (∀ g, v.ownBlock = some g → some g ≠ va.ownBlock) → (w1.setCell ⟨X, 3, none⟩ v').ownsRow (X + 1) 3 1 v n xs := by
    intro v n xs hv hne
    have q1 := hv.kept hg (kept_or hne)
    exact ownsRow_setCell_below q1 (by simp) _
  refine ⟨⟨fun k x => rowk (ha.rows.1 k x) (fun g hgk hc => ha.apart k x g hc.symm hgk), ha.rows.2⟩, ?_, ?_, ?_, ?_, hm _ _ ha.e2, hm _ _ ha.e3, ?_, ?_, hX0⟩
  · obtain ⟨m1, m2, m3, m4, m5⟩ := ha.maps
    exact ⟨hm _ _ m1, hm _ _ m2, fun k b hk => ⟨(m3 k b hk).1, hm _ _ (m3 k b hk).2⟩, m4, m5⟩
  · have := ownsRow_setCell_below hown (a := ⟨X, 3, none⟩) (by simp) v'
    rw [List.range_succ, ints_snoc]
    exact this
  · intro k x g hgv hgk
    rcases hloc with e | e
    · rw [e] at hgv
      exact ha.apart k x g hgv hgk
    · rw [e] at hgv
      cases hgv
      have := ((ha.rows.1 k x).lt _ hgk).2
      simp at this
  · rw [blk_set hX]
    rfl
  · exact (ha.bel.grown hg (by omega) (fun k hk => by have := hge k hk; omega)).setCell (by simp only; omega) _
  · have := hg.size
    simp [World.setCell] at *
    omega

/-- 'byLabel[key] = make(..)' -/
theorem L1w.newkey (h : L1w w X lab car ia lst sl fL va wr) {s : ByteArray} (hs : fL s = none) (hm : MapFn w' w.heap.size (upd (fun k => (fL k).map (fun b => .map (some b))) s (.map (some wr.heap.size)))) (hon : Only w.heap.size (wr.alloc (.map #[] 0)) w') :
    L1w w X lab car ia lst sl (fun k => if k = s then some wr.heap.size else fL k) va w' := by
  have ha := h.kept (Below.one wr (.map #[] 0))
  have hX0 := h.hX
  have rowne : ∀ {v : Value} {n : Nat} {xs : List Value}, (wr.alloc (.map #[] 0)).ownsRow (X + 1) 3 1 v n xs → ∀ g, v.ownBlock = some g → some g ≠ some w.heap.size := by
    intro v n xs hv g hg hc
    cases hc
    have := (hv.lt _ hg).1
    omega
  refine ⟨ha.rows.kept hon.grown (fun k x g hg => rowne (ha.rows.1 k x) g hg), h.maps.newkey hs (by omega) h.size hm hon, ha.all.kept hon.grown (kept_or (rowne ha.all)), ha.apart,
    (hon.block _ (by omega)).trans ha.str, ha.e2.only hon (by omega), ha.e3.only hon (by omega), ha.bel.trans (hon.below (Nat.le_refl _)), by rw [hon.size]; exact ha.size, hX0⟩

/-- one tag's row has grown, its map has been told -/
theorem L1w.grow (h : L1w w X lab car ia lst sl fL va wr) {i : Nat} (s : ByteArray) (x : Option ByteArray) {blk : Obj} {v' : Value} {b : Nat} (hown : w1.ownsRow (X + 1) 3 1 v' ((lst s x).length + 1) (ints (lst s x) ++ [.int .i64 (i : Int)])) (hg : (wr.alloc blk).grownBy w1 ((sl s x).getD nilS).ownBlock)
    (hloc : v'.ownBlock = ((sl s x).getD nilS).ownBlock ∨ v'.ownBlock = some (wr.heap.size + 1)) (hon : Only b w1 w2) {f : ByteArray → Option Value} (hmb : MapFn w1 b f) (hb2 : b ≠ w.heap.size + 2) (hb3 : b ≠ w.heap.size + 3) (hbN : w.heap.size ≤ b)
    (hmaps : IMaps w.heap.size (X + 1) w1 sl fL → IMaps w.heap.size (X + 1) w2 (updT sl s x (some v')) fL) :
    L1w w X lab car ia (updT lst s x (lst s x ++ [i])) (updT sl s x (some v')) fL va w2 := by
  have ha := h.kept (Below.one wr blk)
  have hsz := ha.size
  have hX0 := h.hX
  have hge : ∀ g, ((sl s x).getD nilS).ownBlock = some g → X + 1 ≤ g := fun g hgv => ((ha.rows.1 s x).lt g hgv).1
  have hrow : ∀ g, ((sl s x).getD nilS).ownBlock = some g → ∃ cs t z, (wr.alloc blk).heap[g]? = some (.cells cs t z) := fun g hgv => by
    obtain ⟨cs, hcs⟩ := owns_cells (ha.rows.1 s x) hgv
    exact ⟨cs, _, _, hcs⟩
  have rowne : ∀ {v : Value} {n : Nat} {xs : List Value}, w1.ownsRow (X + 1) 3 1 v n xs → ∀ g, v.ownBlock = some g → some g ≠ some b := by
    intro v n xs hv g hg hc
    obtain ⟨cs, hcs⟩ := owns_cells hv hg
    cases hc
    exact hmb.ne_cells hcs rfl
  have hm : ∀ c f, MapFn (wr.alloc blk) c f → MapFn w1 c f := fun c f hf => hf.block (hg.block c hf.lt (fun hc => by obtain ⟨cs, t, z, hh⟩ := hrow c hc.symm; exact hf.ne_cells hh rfl))
  have r1 := ha.rows.step s x hown hg hloc (by simp)
  have hX : w1.heap[X]? = some (.cells #[lab, .map (some (w.heap.size + 2)), .map (some (w.heap.size + 3)), va, car] 83 (0, 0)) := by
    rw [hg.block _ (by omega) (fun hc => by have := hge _ hc.symm; omega)]
    exact ha.str
  have hall1 := ha.all.kept hg (kept_or fun g hgv hc => ha.apart s x g hgv hc.symm)
  refine ⟨r1.kept hon.grown (fun k u g hgk => rowne (r1.1 k u) g hgk), hmaps (ha.maps.kept hg hrow), hall1.kept hon.grown (kept_or (rowne hall1)), ?_, ?_, (hm _ _ ha.e2).only hon (Ne.symm hb2), (hm _ _ ha.e3).only hon (Ne.symm hb3), ?_, ?_, hX0⟩
  · intro k u g hgv hgk
    by_cases e : k = s ∧ u = x
    · obtain ⟨rfl, rfl⟩ := e
      rw [updT_same] at hgk
      rcases hloc with e | e
      · simp only [Option.getD_some] at hgk
        rw [e] at hgk
        exact ha.apart k u g hgv hgk
      · simp only [Option.getD_some] at hgk
        rw [e] at hgk
        cases hgk
        have := (ha.all.lt _ hgv).2
        simp at this
    · rw [updT_other _ _ e] at hgk
      exact ha.apart k u g hgv hgk
  · rw [hon.block _ (fun e => hmb.ne_cells hX e.symm)]
    exact hX
  · exact (ha.bel.grown hg (by omega) (fun k hk => by have := hge k hk; omega)).trans (hon.below hbN)
  · have := hg.size
    rw [hon.size]
    omega

end

end Go.Proofs.Qxb6601049a
