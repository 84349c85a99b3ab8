/-
  The law's own tables: the counts, the values seen.
-/
import Derived.Test.Qxb6601049aPlain6
namespace Go.Proofs.Qxb6601049a
open Go.ChangeShapes Go.WideShapes Go.ChangeAt Go.RowKit
set_option linter.unusedVariables false

/-- the counts of the first j requirements -/
def CntAt (wi : World) (G : Nat) (O : Objs) (R : List Rq) (j : Nat) (wr : World) : Prop :=
  (∃ Ts : List Nat, wr.ownsRow wi.heap.size 3 1 (.slice (some ⟨G, 0, none⟩) R.length R.length) R.length (ints Ts) ∧ ∀ i r, i < j → R[i]? = some r → Ts.getD i 0 = meets O r) ∧ Below wi.heap.size wi wr

theorem cnt_start {wi w9 : World} {O : Objs} {R : List Rq} (hown : w9.ownsRow wi.heap.size 3 1 (.slice (some ⟨wi.heap.size, 0, none⟩) R.length R.length) R.length (madeCells #[Value.int .i64 0] R.length).toList) (hg : wi.grownBy w9 none) : CntAt wi wi.heap.size O R 0 w9 := by
  refine ⟨⟨List.replicate R.length 0, ?_, fun i r hi => absurd hi (Nat.not_lt_zero _)⟩, (Below.refl _ _).grown hg (Nat.le_refl _) (fun k h => by cases h)⟩
  have e : ints (List.replicate R.length 0) = List.replicate R.length (Value.int .i64 0) := by simp [ints]
  rw [e]
  simpa [toList_madeCells_one] using hown

theorem CntAt.kept {wi wr w' : World} {G : Nat} {O : Objs} {R : List Rq} {j : Nat} (h : CntAt wi G O R j wr) (hb : Below wr.heap.size wr w') : CntAt wi G O R j w' := by
  obtain ⟨⟨Ts, h1, h2⟩, h3⟩ := h
  have hg : wr.grownBy w' none := ⟨hb.os, hb.tape, hb.output, hb.size, fun i hi _ => hb.block i hi⟩
  exact ⟨⟨Ts, h1.kept hg (kept_or fun _ _ => by simp), h2⟩, h3.trans (hb.mono h3.size)⟩

theorem CntAt.cells {wi wr : World} {G : Nat} {O : Objs} {R : List Rq} {j : Nat} (h : CntAt wi G O R j wr) {i : Nat} (hi : i < R.length) : ∃ u, wr.cell? ⟨G, i, none⟩ = some (.int .i64 ((u : Nat) : Int)) ∧ wr.frozen? ⟨G, i, none⟩ = false ∧ ∀ r, i < j → R[i]? = some r → u = meets O r := by
  obtain ⟨⟨Ts, h1, h2⟩, _⟩ := h
  have hl : Ts.length = R.length := by have := h1.1; rw [ints_len] at this; omega
  refine ⟨Ts.getD i 0, ?_, h1.frozenAt i, fun r hj hr => h2 i r hj hr⟩
  rw [h1.cellAt i (by omega), ints_get Ts (by omega)]

theorem CntAt.step {wi wr : World} {G : Nat} {O : Objs} {R : List Rq} {j : Nat} (h : CntAt wi G O R j wr) (hj : j < R.length) {r : Rq} (hr : R[j]? = some r) (hG : wi.heap.size ≤ G) : CntAt wi G O R (j + 1) (wr.setCell ⟨G, j, none⟩ (.int .i64 ((meets O r : Nat) : Int))) := by
  obtain ⟨⟨Ts, h1, h2⟩, h3⟩ := h
  have hl : Ts.length = R.length := by have := h1.1; rw [ints_len] at this; omega
  refine ⟨⟨Ts.set j (meets O r), ?_, fun i r' hi hr' => ?_⟩, h3.setCell hG _⟩
  · have := (h1.stored j (.int .i64 ((meets O r : Nat) : Int))).1
    rw [show ints (Ts.set j (meets O r)) = (ints Ts).set j (.int .i64 ((meets O r : Nat) : Int)) by simp [ints, List.map_set]]
    exact this
  · by_cases e : i = j
    · subst e
      rw [hr] at hr'
      cases hr'
      simp [List.getD_eq_getElem?_getD, hl, hj]
    · have := h2 i r' (by omega) hr'
      rw [List.getD_eq_getElem?_getD] at this ⊢
      rw [List.getElem?_set_ne (Ne.symm e), this]

/-- the values seen -/
def SeenAt (wi : World) (S : List ByteArray) (v : Value) (wr : World) : Prop :=
  ∃ g cap, v = .slice (some ⟨g, 0, none⟩) S.length cap ∧ wr.ownsRow wi.heap.size 9 1 v S.length (S.map Value.string) ∧ Below wi.heap.size wi wr

theorem SeenAt.row {wi wr : World} {S : List ByteArray} {g cap : Nat} (h : wr.ownsRow wi.heap.size 9 1 (.slice (some ⟨g, 0, none⟩) S.length cap) S.length (S.map Value.string)) : StrRow wr (some ⟨g, 0, none⟩) S := by
  refine ⟨fun h => (by cases h), .inr ⟨g, 0, rfl, fun j s hj => ?_⟩⟩
  have hjl := (List.getElem?_eq_some_iff.1 hj).1
  rw [Nat.zero_add, h.cellAt j (by omega), List.getElem?_map, hj]
  rfl

theorem SeenAt.snoc {wi wr w' : World} {S : List ByteArray} {g cap g' cap' : Nat} {s : ByteArray} {blk : Obj} (hb : Below wi.heap.size wi wr) (h : wr.ownsRow wi.heap.size 9 1 (.slice (some ⟨g, 0, none⟩) S.length cap) S.length (S.map Value.string))
    (h' : w'.ownsRow wi.heap.size 9 1 (.slice (some ⟨g', 0, none⟩) (S.length + 1) cap') (S.length + 1) (S.map Value.string ++ [.string s])) (hg : (wr.alloc blk).grownBy w' (some g)) : SeenAt wi (S ++ [s]) (.slice (some ⟨g', 0, none⟩) (S.length + 1) cap') w' := by
  have hsz := hb.size
  refine ⟨g', cap', by simp, by simpa using h', (hb.alloc hsz _).grown hg (by simp; omega) (fun k hk => ?_)⟩
  cases hk
  exact (h.lt g rfl).1

theorem str_oneCell (s : ByteArray) : ∀ u ∈ [Value.string s], u.oneCell' = true := by
  intro u hu
  simp at hu
  subst hu
  rfl

end Go.Proofs.Qxb6601049a
