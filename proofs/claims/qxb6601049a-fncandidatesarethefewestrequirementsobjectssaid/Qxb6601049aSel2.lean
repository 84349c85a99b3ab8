/-
  A selector in memory, whole; what a walk reads of an index.
-/
import Derived.Test.Qxb6601049aSel
import Derived.Test.Qxb6601049aMeet
namespace Go.Proofs.Qxb6601049a
open Go.ChangeShapes Go.WideShapes Go.ChangeAt Go.RowKit
set_option linter.unusedVariables false

def flatE (es : List (Rq × Option Nat)) : List Value := es.flatMap fun e => [.string e.1.key, .map e.2, .bool e.1.neg]

theorem flatE_snoc (es : List (Rq × Option Nat)) (r : Rq) (mo : Option Nat) : flatE (es ++ [(r, mo)]) = flatE es ++ [.string r.key, .map mo, .bool r.neg] := by simp [flatE]

theorem flatE_get : ∀ (es : List (Rq × Option Nat)) {j : Nat} {e : Rq × Option Nat}, es[j]? = some e → (flatE es)[j * 3]? = some (.string e.1.key) ∧ (flatE es)[j * 3 + 1]? = some (.map e.2) ∧ (flatE es)[j * 3 + 2]? = some (.bool e.1.neg)
  | x :: es, 0, e, h => by
    simp at h
    subst h
    exact ⟨by simp [flatE], by simp [flatE], by simp [flatE]⟩
  | x :: es, j + 1, e, h => by
    obtain ⟨h1, h2, h3⟩ := flatE_get es (j := j) (e := e) (by simpa using h)
    refine ⟨?_, ?_, ?_⟩
    · rw [← h1]; show (flatE (x :: es))[(j + 1) * 3]? = _; rw [show (j + 1) * 3 = j * 3 + 3 by omega]; rfl
    · rw [← h2]; show (flatE (x :: es))[(j + 1) * 3 + 1]? = _; rw [show (j + 1) * 3 + 1 = j * 3 + 1 + 3 by omega]; rfl
    · rw [← h3]; show (flatE (x :: es))[(j + 1) * 3 + 2]? = _; rw [show (j + 1) * 3 + 2 = j * 3 + 2 + 3 by omega]; rfl

/-- a selector -/
def SelAt (B : Nat) (w : World) (v : Value) (R : List Rq) : Prop :=
  ∃ es : List (Rq × Option Nat), es.map (·.1) = R ∧ (∀ e ∈ es, ValOk w e.2 e.1) ∧ w.ownsRow B 87 3 v R.length (flatE es)

theorem ValOk.below {w w' : World} {mo : Option Nat} {r : Rq} (h : ValOk w mo r) (hb : Below w.heap.size w w') : ValOk w' mo r := by
  rcases h with h | ⟨h1, m, h2, h3⟩
  · exact .inl h
  · exact .inr ⟨h1, m, h2, h3.below hb h3.lt⟩

theorem ValOk.grown {w w' : World} {mo : Option Nat} {r : Rq} (h : ValOk w mo r) {B : Nat} {e : TypeId} {size n : Nat} {v : Value} {xs : List Value} {blk : Obj} (hown : w.ownsRow B e size v n xs) (hg : (w.alloc blk).grownBy w' v.ownBlock) : ValOk w' mo r := by
  rcases h with h | ⟨h1, m, h2, h3⟩
  · exact .inl h
  · refine .inr ⟨h1, m, h2, ?_⟩
    have h4 := h3.below (Below.one w blk) h3.lt
    refine h4.block (hg.block m h4.lt fun hc => ?_)
    obtain ⟨cs, hcs⟩ := owns_cells (hown.alloc blk) hc.symm
    exact h4.ne_cells hcs rfl

theorem SelAt.start (B : Nat) (w : World) : SelAt B w (.slice none 0 0) [] := ⟨[], rfl, by simp, World.ownsRow_nil _ _ _ _⟩

theorem SelAt.below {B : Nat} {w w' : World} {v : Value} {R : List Rq} (h : SelAt B w v R) (hb : Below w.heap.size w w') : SelAt B w' v R := by
  obtain ⟨es, h1, h2, h3⟩ := h
  have hg : w.grownBy w' none := ⟨hb.os, hb.tape, hb.output, hb.size, fun i hi _ => hb.block i hi⟩
  exact ⟨es, h1, fun e he => (h2 e he).below hb, h3.kept hg (kept_or fun _ _ => by simp)⟩

theorem SelAt.snoc {B : Nat} {w w' : World} {v v' : Value} {R : List Rq} {es : List (Rq × Option Nat)} {r : Rq} {mo : Option Nat} {blk : Obj} (h1 : es.map (·.1) = R) (h2 : ∀ e ∈ es, ValOk w e.2 e.1) (h3 : w.ownsRow B 87 3 v R.length (flatE es)) (hr : ValOk w mo r)
    (hown : w'.ownsRow B 87 3 v' (R.length + 1) (flatE es ++ [.string r.key, .map mo, .bool r.neg])) (hg : (w.alloc blk).grownBy w' v.ownBlock) : SelAt B w' v' (R ++ [r]) := by
  refine ⟨es ++ [(r, mo)], by simp [h1], fun e he => ?_, by rw [flatE_snoc]; simpa using hown⟩
  rcases List.mem_append.1 he with he | he
  · exact (h2 e he).grown h3 hg
  · simp at he
    subst he
    exact hr.grown h3 hg

theorem SelAt.at {B : Nat} {w : World} {v : Value} {R : List Rq} (h : SelAt B w v R) {j : Nat} {r : Rq} (hj : R[j]? = some r) :
    ∃ g cap mo, v = .slice (some ⟨g, 0, none⟩) R.length cap ∧ ValOk w mo r ∧ w.cell? ⟨g, j * 3, none⟩ = some (.string r.key) ∧ w.cell? ⟨g, j * 3 + 1, none⟩ = some (.map mo) ∧ w.cell? ⟨g, j * 3 + 2, none⟩ = some (.bool r.neg) := by
  obtain ⟨es, h1, h2, h3⟩ := h
  have hlt : j < R.length := (List.getElem?_eq_some_iff.1 hj).1
  obtain ⟨g, cap, rfl⟩ := owns_shape h3 (by omega)
  have he : (es.map (·.1))[j]? = some r := by rw [h1]; exact hj
  rw [List.getElem?_map] at he
  obtain ⟨e, he1, he2⟩ := Option.map_eq_some_iff.1 he
  subst he2
  obtain ⟨f1, f2, f3⟩ := flatE_get es he1
  refine ⟨g, cap, e.2, rfl, h2 e (List.mem_of_getElem? he1), ?_, ?_, ?_⟩
  · rw [h3.cellAt _ (by omega), f1]
  · rw [h3.cellAt _ (by omega), f2]
  · rw [h3.cellAt _ (by omega), f3]

/-- what a walk reads of an index, in every later world -/
structure Look (w : World) (X : Nat) (O : Objs) (bL bK : Nat) (ia : Option Addr) (ica : Nat) (gL : ByteArray → Option Nat) (pa : ByteArray → Option ByteArray → Option Addr) (pc : ByteArray → Option ByteArray → Nat) (pz : ByteArray → Option ByteArray → Value) (W : World) : Prop where
  c1 : W.cell? ⟨X, 1, none⟩ = some (.map (some bL))
  c2 : W.cell? ⟨X, 2, none⟩ = some (.map (some bK))
  c3 : W.cell? ⟨X, 3, none⟩ = some (.slice ia O.length ica)
  all : NRow .i64 W ia (List.range O.length)
  l80 : ∀ k, (Instr.lookup 80 (.map (some bL)) (.string k) false).run Try.prog W = .ok (.map (gL k)) W
  l81 : ∀ k v, (Instr.lookup 81 (.map (gL k)) (.string v) false).run Try.prog W = .ok (.agg #[.slice (pa k (some v)) (scan O k (some v) O.length).length (pc k (some v)), pz k (some v)]) W
  lK : ∀ k, (Instr.lookup 81 (.map (some bK)) (.string k) false).run Try.prog W = .ok (.agg #[.slice (pa k none) (scan O k none O.length).length (pc k none), pz k none]) W
  rows : ∀ k x, NRow .i64 W (pa k x) (scan O k x O.length)

theorem IndexAt.look {w : World} {X : Nat} {O : Objs} (h : IndexAt w X O) : ∃ bL bK ia ica gL pa pc pz, ∀ W, Below w.heap.size w W → Look w X O bL bK ia ica gL pa pc pz W := by
  obtain ⟨lab, car, bL, bK, va, ca, gL, pv, h1, h2, h3, h4, h5, h6, h7⟩ := h
  have hex : ∀ k x, ∃ y : Option Addr × Nat × Value, (pv k x).getD (.agg #[.slice none 0 0, .slice none 0 0]) = .agg #[.slice y.1 (scan O k x O.length).length y.2.1, y.2.2] ∧ NRow .i64 w y.1 (scan O k x O.length) := by
    intro k x
    obtain ⟨la, lc, a', m', hv, hn, _⟩ := (h7 k x).val
    exact ⟨(la, lc, .slice a' m' m'), hv, hn⟩
  refine ⟨bL, bK, va, ca, gL, fun k x => (Classical.choose (hex k x)).1, fun k x => (Classical.choose (hex k x)).2.1, fun k x => (Classical.choose (hex k x)).2.2, fun W hb => ?_⟩
  have hX := (CKept.below hb) _ _ _ _ h1
  refine ⟨cell_blk hX 1 rfl, cell_blk hX 2 rfl, cell_blk hX 3 rfl, h2.below hb, fun k => ?_, fun k v => ?_, fun k => ?_, fun k x => (Classical.choose_spec (hex k x)).2.below hb⟩
  · rw [(h3.below hb h3.lt).lookup Try.underlying80 Try.underlying9 (zero81 W) k, map_getD]
  · rw [← (Classical.choose_spec (hex k (some v))).1]
    cases e : gL k with
    | none => rw [lookup_nil Try.underlying81 Try.underlying9 (zero75 W) v, h5 k e v]; rfl
    | some b => rw [((h4 k b e).below hb (h4 k b e).lt).lookup Try.underlying81 Try.underlying9 (zero75 W) v]
  · rw [← (Classical.choose_spec (hex k none)).1, (h6.below hb h6.lt).lookup Try.underlying81 Try.underlying9 (zero75 W) k]

/-- a slice of slices of numbers -/
def LRow (w : World) (a : Option Addr) (Ls : List (List Nat)) : Prop :=
  Ls = [] ∨ ∃ b off, a = some ⟨b, off, none⟩ ∧ ∀ q L, Ls[q]? = some L → ∃ ai ci, w.cell? ⟨b, off + q, none⟩ = some (.slice ai L.length ci) ∧ NRow .i64 w ai L

def candPost (O : Objs) (R : List Rq) (w : World) (e : Ending) (w' : World) : Prop :=
  ∃ a c Ls, e = .returned (.slice a Ls.length c) ∧ (a = none → Ls = []) ∧ LRow w' a Ls ∧ CandR O R (a = none) Ls ∧ Below w.heap.size w w'

end Go.Proofs.Qxb6601049a
