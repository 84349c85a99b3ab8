/-
  newLabelIndex's second half: the state in the making.
-/
import Derived.Test.Qxb6601049aIdx2
namespace Go.Proofs.Qxb6601049a
open Go.ChangeShapes Go.WideShapes Go.ChangeAt Go.RowKit
set_option linter.unusedVariables false

/-- every block of cells stays as it is -/
def CKept (w w' : World) : Prop := ∀ (g : Nat) (cs : Array Value) (t : TypeId) (z : Nat × Nat), w.heap[g]? = some (.cells cs t z) → w'.heap[g]? = some (.cells cs t z)

theorem CKept.refl (w : World) : CKept w w := fun _ _ _ _ h => h
theorem CKept.trans {w w' w'' : World} (h : CKept w w') (h' : CKept w' w'') : CKept w w'' := fun g cs t z e => h' g cs t z (h g cs t z e)
theorem CKept.below {w w' : World} (h : Below w.heap.size w w') : CKept w w' := fun g cs t z e => (h.block g (Array.getElem?_eq_some_iff.1 e).1).trans e
theorem CKept.only {w w' : World} {b : Nat} {f : ByteArray → Option Value} (h : Only b w w') (hb : MapFn w b f) : CKept w w' := fun g cs t z e => (h.block g (Ne.symm (hb.ne_cells e))).trans e
theorem CKept.iter {w w' : World} {r : Nat} (h : Only r w w') (hr : ∃ m s x c, w.heap[r]? = some (.mapIter m s x c)) : CKept w w' := fun g cs t z e => by
  obtain ⟨m, s, x, c, hr⟩ := hr
  refine (h.block g ?_).trans e
  rintro rfl
  rw [hr] at e
  cases e

theorem CKept.cell {w w' : World} (h : CKept w w') {p : Addr} {v : Value} (hc : w.cell? p = some v) : w'.cell? p = some v := by
  unfold World.cell? at hc ⊢
  cases e : w.heap[p.block]? with
  | none => rw [e] at hc; cases hc
  | some o =>
    cases o with
    | cells cs t z => rw [e] at hc; rw [h _ _ _ _ e]; exact hc
    | _ => rw [e] at hc; cases hc

theorem NRow.ck {k : IntKind} {w w' : World} {a : Option Addr} {l : List Nat} (h : NRow k w a l) (hb : CKept w w') : NRow k w' a l := by
  rcases h with h2 | ⟨b, off, rfl, hc⟩
  · exact .inl h2
  · exact .inr ⟨b, off, rfl, fun i hi => hb.cell (hc i hi)⟩

theorem PSet.ck {w w' : World} {a : Option Addr} {m : Nat} {l : List Nat} {n : Nat} (h : PSet w a m l n) (hb : CKept w w') : PSet w' a m l n := by
  rcases h with h | ⟨h1, h2, g, ws, h3, h4, h5, h6, h7⟩
  · exact .inl h
  · exact .inr ⟨h1, h2, g, ws, h3, h4, h5, h6.ck hb, h7⟩

theorem Posting.ck {w w' : World} {p : Option Value} {L : List Nat} {n : Nat} (h : Posting w p L n) (hb : CKept w w') : Posting w' p L n := by
  rcases h with h | ⟨h1, la, lc, a', m', h2, h3, h4⟩
  · exact .inl h
  · exact .inr ⟨h1, la, lc, a', m', h2, h3.ck hb, h4.ck hb⟩

theorem ints_get (L : List Nat) {i : Nat} (h : i < L.length) : (ints L)[i]? = some (.int .i64 ((L.getD i 0 : Nat) : Int)) := by
  simp [ints, List.getD_eq_getElem?_getD, List.getElem?_eq_getElem h]

theorem owns_nrow {w : World} {B : Nat} {v : Value} {L : List Nat} (h : w.ownsRow B 3 1 v L.length (ints L)) : ∃ a cap, v = .slice a L.length cap ∧ NRow .i64 w a L := by
  rcases h.2 with ⟨h1, h2⟩ | ⟨g, cap, cur, h1, h2, h3, h4, h5, h6, h7⟩
  · exact ⟨none, 0, by rw [h1, h2], .inl h2⟩
  · refine ⟨_, cap, h1, .inr ⟨g, 0, rfl, fun i hi => ?_⟩⟩
    rw [cell_of_row w g (0 + i) cur 3 (0, 0) h3]
    have e : (cur.toList.take (L.length * 1))[i]? = (ints L)[i]? := by rw [h7]
    rw [ints_get L hi, List.getElem?_take_of_lt (by omega)] at e
    simpa using e

/-- the state; w1: the world behind the first half -/
structure P2 (w w1 : World) (X : Nat) (O : List (List (ByteArray × ByteArray))) (sl : ByteArray → Option ByteArray → Option Value) (fL : ByteArray → Option Nat) (gL : ByteArray → Option Nat) (pv : ByteArray → Option ByteArray → Option Value) (done : ByteArray → Option ByteArray → Prop) (w' : World) : Prop where
  size : w1.heap.size ≤ w'.heap.size
  hX : w.heap.size + 4 ≤ X
  cells : CKept w1 w'
  bel : Below w.heap.size w w'
  maps : IMaps w.heap.size (X + 1) w' sl fL
  low : ∀ k b, fL k = some b → b < w1.heap.size
  eL : MapFn w' (w.heap.size + 2) (fun k => (gL k).map (fun b => .map (some b)))
  eK : MapFn w' (w.heap.size + 3) (fun k => pv k none)
  inn : ∀ k b, gL k = some b → w1.heap.size ≤ b ∧ MapFn w' b (fun v => pv k (some v))
  non : ∀ k, gL k = none → ∀ v, pv k (some v) = none
  inj : ∀ k k' b, gL k = some b → gL k' = some b → k = k'
  post : ∀ k x, done k x → Posting w' (pv k x) (scan O k x O.length) O.length
  hX1 : X + 1 ≤ w1.heap.size

section
variable {w w1 w' w'' : World} {X : Nat} {O : List (List (ByteArray × ByteArray))} {sl : ByteArray → Option ByteArray → Option Value} {fL gL : ByteArray → Option Nat} {pv : ByteArray → Option ByteArray → Option Value} {done : ByteArray → Option ByteArray → Prop}

theorem P2.start {lab car va : Value} {ia : Nat} (h : L1w w X lab car ia (fun k x => scan O k x O.length) sl fL va w1) (hC : Cons (fun k x => scan O k x O.length) sl fL) :
    P2 w w1 X O sl fL (fun _ => none) (fun _ _ => none) (fun k _ => fL k = none) w1 := by
  refine ⟨Nat.le_refl _, h.hX, CKept.refl _, h.bel, h.maps, fun k b hk => (h.maps.2.2.1 k b hk).2.lt, h.e2, h.e3, fun k b hk => (by cases hk), fun _ _ _ => rfl, fun _ _ _ hk => (by cases hk), fun k x hk => .inl ⟨?_, rfl⟩, h.size⟩
  cases x with
  | none => exact (hC.2 k).1 hk
  | some v => exact (hC.1 k (some v)).1 (h.maps.2.2.2.1 k hk v)

theorem P2.done' {d' : ByteArray → Option ByteArray → Prop} (h : P2 w w1 X O sl fL gL pv done w') (hd : ∀ k x, d' k x → Posting w' (pv k x) (scan O k x O.length) O.length) : P2 w w1 X O sl fL gL pv d' w' :=
  ⟨h.size, h.hX, h.cells, h.bel, h.maps, h.low, h.eL, h.eK, h.inn, h.non, h.inj, hd, h.hX1⟩

theorem P2.kept (h : P2 w w1 X O sl fL gL pv done w') (hb : Below w'.heap.size w' w'') : P2 w w1 X O sl fL gL pv done w'' :=
  ⟨Nat.le_trans h.size hb.size, h.hX, h.cells.trans (CKept.below hb), h.bel.trans (hb.mono h.bel.size), h.maps.blocks (fun b f hf _ => hb.block b hf.lt), h.low, h.eL.below hb h.eL.lt, h.eK.below hb h.eK.lt,
    fun k b hk => ⟨(h.inn k b hk).1, (h.inn k b hk).2.below hb (h.inn k b hk).2.lt⟩, h.non, h.inj, fun k x hk => (h.post k x hk).ck (CKept.below hb), h.hX1⟩

theorem P2.iter (h : P2 w w1 X O sl fL gL pv done w') {r : Nat} (hon : Only r w' w'') (hr : ∃ m s x c, w'.heap[r]? = some (.mapIter m s x c)) (hrN : w.heap.size ≤ r) : P2 w w1 X O sl fL gL pv done w'' := by
  have ck := CKept.iter hon hr
  obtain ⟨m, s, x, c, hr⟩ := hr
  exact ⟨by rw [hon.size]; exact h.size, h.hX, h.cells.trans ck, h.bel.trans (hon.below hrN), h.maps.blocks (fun b f hf _ => hon.block b (hf.ne_iter hr)), h.low, h.eL.only hon (h.eL.ne_iter hr), h.eK.only hon (h.eK.ne_iter hr),
    fun k b hk => ⟨(h.inn k b hk).1, (h.inn k b hk).2.only hon ((h.inn k b hk).2.ne_iter hr)⟩, h.non, h.inj, fun k x hk => (h.post k x hk).ck ck, h.hX1⟩

/-- 'x.byLabel[key] = make(..)' -/
theorem P2.make (h : P2 w w1 X O sl fL gL pv done w') {s : ByteArray} (hs : ∀ x, ¬ done s x) (hm : MapFn w'' (w.heap.size + 2) (upd (fun k => (gL k).map (fun b => .map (some b))) s (.map (some w'.heap.size)))) (hon : Only (w.heap.size + 2) (w'.alloc (.map #[] 0)) w'') :
    P2 w w1 X O sl fL (fun k => if k = s then some w'.heap.size else gL k) (fun k x => if k = s ∧ x ≠ none then none else pv k x) done w'' := by
  have ha := h.kept (Below.one w' (.map #[] 0))
  have hX := h.hX
  have hX1 := h.hX1
  have ck := CKept.only hon ha.eL
  have lt : ∀ k b, gL k = some b → b < w'.heap.size := fun k b hk => (h.inn k b hk).2.lt
  refine ⟨by rw [hon.size]; exact ha.size, hX, ha.cells.trans ck, ha.bel.trans (hon.below (by omega)), ha.maps.blocks (fun b f hf hb => hon.block b ?_), h.low, hm.congr fun k => ?_, (ha.eK.only hon (by omega)).congr (fun k => by simp), fun k b hk => ?_, fun k hk v => ?_, fun k k' b hk hk' => ?_, fun k x hk => ?_, hX1⟩
  · rcases hb with rfl | rfl | ⟨k, hk⟩
    · omega
    · omega
    · have := (h.maps.2.2.1 k b hk).1; omega
  · by_cases e : k = s
    · subst e; rw [upd_same]; simp
    · rw [upd_other _ _ e]; simp [e]
  · by_cases e : k = s
    · subst e
      simp only [if_true, Option.some.injEq] at hk
      subst hk
      refine ⟨h.size, ((MapFn.made w').only hon (by have := h.size; omega)).congr fun v => by simp⟩
    · simp only [if_neg e] at hk
      refine ⟨(h.inn k b hk).1, ((ha.inn k b hk).2.only hon (by have := (h.inn k b hk).1; omega)).congr fun v => by simp [e]⟩
  · by_cases e : k = s
    · subst e; simp at hk
    · simp only [if_neg e] at hk
      simp [e, h.non k hk v]
  · by_cases e : k = s
    · by_cases e' : k' = s
      · rw [e, e']
      · simp only [e, if_true, Option.some.injEq] at hk
        simp only [if_neg e'] at hk'
        have := lt k' b hk'
        omega
    · simp only [if_neg e] at hk
      by_cases e' : k' = s
      · simp only [e', if_true, Option.some.injEq] at hk'
        have := lt k b hk
        omega
      · simp only [if_neg e'] at hk'
        exact h.inj k k' b hk hk'
  · have e : k ≠ s := fun e => hs x (e ▸ hk)
    simp only [e, false_and, if_false]
    exact (ha.post k x hk).ck ck

/-- 'x.byLabel[key][value] = p' -/
theorem P2.setIn (h : P2 w w1 X O sl fL gL pv done w') {s : ByteArray} {b : Nat} (hs : gL s = some b) (v : ByteArray) {p : Value} (hm : MapFn w'' b (upd (fun u => pv s (some u)) v p)) (hon : Only b w' w'') (hp : Posting w' (some p) (scan O s (some v) O.length) O.length) :
    P2 w w1 X O sl fL gL (updT pv s (some v) (some p)) (fun k x => done k x ∨ (k = s ∧ x = some v)) w'' := by
  have hX := h.hX
  have hX1 := h.hX1
  obtain ⟨hb1, hbm⟩ := h.inn s b hs
  have ck := CKept.only hon hbm
  refine ⟨by rw [hon.size]; exact h.size, hX, h.cells.trans ck, h.bel.trans (hon.below (by omega)), h.maps.blocks (fun c f hf hc => hon.block c ?_), h.low, h.eL.only hon (by omega), (h.eK.only hon (by omega)).congr (fun k => by rw [updT_other]; simp), fun k c hk => ?_, fun k hk u => ?_, h.inj, fun k x hk => ?_, hX1⟩
  · rcases hc with rfl | rfl | ⟨k, hk⟩
    · omega
    · omega
    · have := h.low k c hk; omega
  · by_cases e : k = s
    · subst e
      rw [hs] at hk
      cases hk
      refine ⟨hb1, hm.congr fun u => ?_⟩
      by_cases e : u = v
      · subst e; rw [upd_same, updT_same]
      · rw [upd_other _ _ e, updT_other]; simp [e]
    · refine ⟨(h.inn k c hk).1, ((h.inn k c hk).2.only hon (fun hc => e (h.inj k s b (hc ▸ hk) hs))).congr fun u => ?_⟩
      rw [updT_other]; simp [e]
  · have e : k ≠ s := fun hc => by rw [hc, hs] at hk; cases hk
    rw [updT_other _ _ (by simp [e])]
    exact h.non k hk u
  · by_cases e : k = s ∧ x = some v
    · obtain ⟨rfl, rfl⟩ := e
      rw [updT_same]
      exact hp.ck ck
    · rw [updT_other _ _ e]
      exact (h.post k x (hk.resolve_right e)).ck ck

/-- 'x.byKey[key] = p' -/
theorem P2.setKey (h : P2 w w1 X O sl fL gL pv done w') {s : ByteArray} {p : Value} (hm : MapFn w'' (w.heap.size + 3) (upd (fun k => pv k none) s p)) (hon : Only (w.heap.size + 3) w' w'') (hp : Posting w' (some p) (scan O s none O.length) O.length) :
    P2 w w1 X O sl fL gL (updT pv s none (some p)) (fun k x => done k x ∨ (k = s ∧ x = none)) w'' := by
  have hX := h.hX
  have hX1 := h.hX1
  have ck := CKept.only hon h.eK
  refine ⟨by rw [hon.size]; exact h.size, hX, h.cells.trans ck, h.bel.trans (hon.below (by omega)), h.maps.blocks (fun c f hf hc => hon.block c ?_), h.low, h.eL.only hon (by omega), hm.congr (fun k => ?_), fun k c hk => ?_, fun k hk u => ?_, h.inj, fun k x hk => ?_, hX1⟩
  · rcases hc with rfl | rfl | ⟨k, hk⟩
    · omega
    · omega
    · have := (h.maps.2.2.1 k c hk).1; omega
  · by_cases e : k = s
    · subst e; rw [upd_same, updT_same]
    · rw [upd_other _ _ e, updT_other]; simp [e]
  · refine ⟨(h.inn k c hk).1, ((h.inn k c hk).2.only hon (by have := (h.inn k c hk).1; omega)).congr fun u => ?_⟩
    rw [updT_other]; simp
  · rw [updT_other _ _ (by simp)]
    exact h.non k hk u
  · by_cases e : k = s ∧ x = none
    · obtain ⟨rfl, rfl⟩ := e
      rw [updT_same]
      exact hp.ck ck
    · rw [updT_other _ _ e]
      exact (h.post k x (hk.resolve_right e)).ck ck

/-- the end -/
theorem P2.fin {lab car va : Value} (h1 : L1w w X lab car O.length (fun k x => scan O k x O.length) sl fL va w1) (h : P2 w w1 X O sl fL gL pv done w') (hd : ∀ k x, done k x) : IndexAt w' X O := by
  have hall : w1.ownsRow (X + 1) 3 1 va (List.range O.length).length (ints (List.range O.length)) := by rw [List.length_range]; exact h1.all
  obtain ⟨a, cap, hv, hr⟩ := owns_nrow hall
  rw [List.length_range] at hv
  subst hv
  exact ⟨lab, car, _, _, a, cap, gL, pv, h.cells _ _ _ _ h1.str, hr.ck h.cells, h.eL, fun k b hk => (h.inn k b hk).2, h.non, h.eK, fun k x => h.post k x (hd k x)⟩

/-- at the head of the outer loop -/
def Out (w w1 : World) (X : Nat) (O : List (List (ByteArray × ByteArray))) (sl : ByteArray → Option ByteArray → Option Value) (fL : ByteArray → Option Nat) (r : Nat) (wr : World) : Prop :=
  ∃ gL pv left cnt, IterAt wr r w.heap.size (fun k => (fL k).map (fun b => .map (some b))) left cnt ∧ P2 w w1 X O sl fL gL pv (fun k _ => ¬ left k) wr

/-- at the head of the inner loop, for key s -/
def Inn (w w1 : World) (X : Nat) (O : List (List (ByteArray × ByteArray))) (sl : ByteArray → Option ByteArray → Option Value) (fL : ByteArray → Option Nat) (r cnt : Nat) (left : ByteArray → Prop) (s : ByteArray) (r2 b : Nat) (wr : World) : Prop :=
  ∃ gL pv leftI cntI g, IterAt wr r w.heap.size (fun k => (fL k).map (fun b => .map (some b))) (fun t => left t ∧ t ≠ s) cnt ∧ IterAt wr r2 b (fun v => sl s (some v)) leftI cntI ∧ gL s = some g ∧
    P2 w w1 X O sl fL gL pv (fun k x => ¬ left k ∨ (k = s ∧ ∃ v, x = some v ∧ ¬ leftI v)) wr

/-- the rows, as the walk reads them -/
def RowsR (w1 : World) (O : List (List (ByteArray × ByteArray))) (sl : ByteArray → Option ByteArray → Option Value) : Prop :=
  ∀ k x y, sl k x = some y → ∃ g cap, y = .slice (some ⟨g, 0, none⟩) (scan O k x O.length).length cap ∧ NRow .i64 w1 (some ⟨g, 0, none⟩) (scan O k x O.length) ∧ scan O k x O.length ≠ []

theorem rowsR {lab car va : Value} {ia : Nat} (h : L1w w X lab car ia (fun k x => scan O k x O.length) sl fL va w1) (hC : Cons (fun k x => scan O k x O.length) sl fL) : RowsR w1 O sl := by
  intro k x y hy
  have hne : scan O k x O.length ≠ [] := fun hc => by rw [(hC.1 k x).2 hc] at hy; cases hy
  have hr := h.rows.1 k x
  rw [hy] at hr
  obtain ⟨g, cap, e⟩ := owns_shape hr (List.length_pos_iff.2 hne)
  obtain ⟨a, cap', e', hn⟩ := owns_nrow hr
  simp only [Option.getD_some] at e e'
  rw [e] at e'
  cases e'
  exact ⟨g, cap, e, hn, hne⟩

theorem len_map {P : Program} {t k e : TypeId} (ht : P.underlying t = some (.map k e)) {w : World} {b : Nat} {es : Array MapEntry} {cl : Nat} (hb : w.heap[b]? = some (.map es cl)) (ty : TypeId) : (Builtin.len_ #[t] ty #[.map (some b)]).run P w = .ok (.int .i64 es.size) w := by
  simp [Builtin.len_, run_underlying ht, MapKept.run_getObj_map hb, goInt, Result.andThen]

theorem zero81 (w : World) : (zeroValue 81).run Try.prog w = .ok (.map none) w := by kernel_rfl

end

end Go.Proofs.Qxb6601049a
