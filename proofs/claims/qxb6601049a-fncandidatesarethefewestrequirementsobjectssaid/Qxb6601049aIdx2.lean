import Derived.Test.Qxb6601049aIdx
import Derived.Deep.CutRange
import Derived.Test.Qxb6601049aHeld
import Derived.Deep.AppendLies
namespace Go.Proofs.Qxb6601049a
open Go.ChangeShapes Go.WideShapes Go.ChangeAt Go.RowKit
set_option linter.unusedVariables false

/-- a posting of the index, where one is there -/
def Posting (w : World) (p : Option Value) (L : List Nat) (n : Nat) : Prop :=
  (L = [] ∧ p = none) ∨ (L ≠ [] ∧ ∃ la lc a' m', p = some (.agg #[.slice la L.length lc, .slice a' m' m']) ∧ NRow .i64 w la L ∧ PSet w a' m' L n)

/-- the index -/
def IndexAt (w : World) (X : Nat) (O : List (List (ByteArray × ByteArray))) : Prop :=
  ∃ (lab car : Value) (bL bK : Nat) (va : Option Addr) (ca : Nat) (gL : ByteArray → Option Nat) (pv : ByteArray → Option ByteArray → Option Value),
    w.heap[X]? = some (.cells #[lab, .map (some bL), .map (some bK), .slice va O.length ca, car] 83 (0, 0)) ∧ NRow .i64 w va (List.range O.length) ∧
    MapFn w bL (fun k => (gL k).map (fun b => .map (some b))) ∧ (∀ k b, gL k = some b → MapFn w b (fun v => pv k (some v))) ∧ (∀ k, gL k = none → ∀ v, pv k (some v) = none) ∧ MapFn w bK (fun k => pv k none) ∧
    ∀ k x, Posting w (pv k x) (scan O k x O.length) O.length

def indexPost (O : List (List (ByteArray × ByteArray))) (w : World) (e : Ending) (w' : World) : Prop :=
  ∃ X, e = .returned (.pointer (some ⟨X, 0, none⟩)) ∧ IndexAt w' X O ∧ Below w.heap.size w w'

/-- an entry is there just if its list is not empty -/
def Cons (lst : ByteArray → Option ByteArray → List Nat) (sl : ByteArray → Option ByteArray → Option Value) (fL : ByteArray → Option Nat) : Prop :=
  (∀ k x, sl k x = none ↔ lst k x = []) ∧ ∀ k, fL k = none ↔ lst k none = []

/-- at the head of object i -/
def Head (w : World) (X : Nat) (lab : Value) (O : List (List (ByteArray × ByteArray))) (i : Nat) (wr : World) : Prop :=
  ∃ car sl fL va, L1w w X lab car i (fun k x => scan O k x i) sl fL va wr ∧ Cons (fun k x => scan O k x i) sl fL

/-- in the midst of object i's labels -/
def Midst (w : World) (X : Nat) (lab : Value) (O : List (List (ByteArray × ByteArray))) (l : List (ByteArray × ByteArray)) (i r m : Nat) (wr : World) : Prop :=
  ∃ car lst left cnt sl fL va, IterAt wr r m (lfn l) left cnt ∧ MidL O l i left lst ∧ L1w w X lab car (i + 1) lst sl fL va wr ∧ Cons lst sl fL

theorem head_start {w wb : World} {lab car : Value} {O : List (List (ByteArray × ByteArray))} (hb : Below ((((w.alloc (.map #[] 0)).alloc (.map #[] 0)).alloc (.map #[] 0)).alloc (.map #[] 0)).heap.size ((((w.alloc (.map #[] 0)).alloc (.map #[] 0)).alloc (.map #[] 0)).alloc (.map #[] 0)) wb) :
    Head w wb.heap.size lab O 0 (wb.alloc (.cells #[lab, .map (some (w.heap.size + 2)), .map (some (w.heap.size + 3)), .slice none 0 0, car] 83)) := by
  have hsz := hb.size
  simp at hsz
  have hmk : ∀ j, j < 4 → MapFn (wb.alloc (.cells #[lab, .map (some (w.heap.size + 2)), .map (some (w.heap.size + 3)), .slice none 0 0, car] 83)) (w.heap.size + j) (fun _ => none) := by
    intro j hj
    have h1 : MapFn wb (w.heap.size + j) (fun _ => none) := by
      refine ⟨#[], 0, ?_, esFn_empty⟩
      rw [hb.block _ (by simp; omega)]
      match j, hj with
      | 0, _ => rw [Below.heap_alloc _ _ _ (by simp <;> omega), Below.heap_alloc _ _ _ (by simp <;> omega), Below.heap_alloc _ _ _ (by simp <;> omega)]; exact heap_alloc_new w _
      | 1, _ => rw [Below.heap_alloc _ _ _ (by simp <;> omega), Below.heap_alloc _ _ _ (by simp <;> omega)]; have := heap_alloc_new (w.alloc (.map #[] 0)) (.map #[] 0); simpa using this
      | 2, _ => rw [Below.heap_alloc _ _ _ (by simp <;> omega)]; have := heap_alloc_new ((w.alloc (.map #[] 0)).alloc (.map #[] 0)) (.map #[] 0); simpa using this
      | 3, _ => have := heap_alloc_new (((w.alloc (.map #[] 0)).alloc (.map #[] 0)).alloc (.map #[] 0)) (.map #[] 0); simpa using this
    exact h1.below (Below.one wb _) h1.lt
  refine ⟨car, fun _ _ => none, fun _ => none, .slice none 0 0, ⟨⟨fun k x => World.ownsRow_nil _ _ _ _, fun k x k' x' g hg => by simp [nilS, Value.ownBlock] at hg⟩, ⟨hmk 0 (by omega), hmk 1 (by omega), fun k b hk => (by cases hk), fun _ _ _ => rfl, fun k k' b hk => (by cases hk)⟩,
    World.ownsRow_nil _ _ _ _, fun k x g hg => by simp [Value.ownBlock] at hg, heap_alloc_new wb _, hmk 2 (by omega), hmk 3 (by omega), ?_, by simp, by omega⟩, fun k x => by simp [scan], fun k => by simp [scan]⟩
  refine Below.alloc (?_ : Below w.heap.size w wb) (by omega) _
  exact (((((Below.refl _ _).alloc (Nat.le_refl _) _).alloc (by simp) _).alloc (by simp; omega) _).alloc (by simp; omega) _).trans (hb.mono (by simp; omega))

theorem owns_shape {w : World} {base : Nat} {e : TypeId} {size : Nat} {v : Value} {n : Nat} {xs : List Value} (h : w.ownsRow base e size v n xs) (hn : 0 < n) : ∃ g cap, v = .slice (some ⟨g, 0, none⟩) n cap := by
  rcases h.2 with ⟨_, h0⟩ | ⟨g, cap, cur, hv, _⟩
  · omega
  · exact ⟨g, cap, hv⟩

theorem zero92 (w : World) : (zeroValue 93).run Try.prog w = .ok (.map none) w := by kernel_rfl
theorem zero22 (w : World) : (zeroValue 22).run Try.prog w = .ok (.slice none 0 0) w := by kernel_rfl


theorem L1w.xcell {w wr w1 : World} {X ia : Nat} {lab car va : Value} {lst : ByteArray → Option ByteArray → List Nat} {sl : ByteArray → Option ByteArray → Option Value} {fL : ByteArray → Option Nat} (h : L1w w X lab car ia lst sl fL va wr) {blk : Obj} (hg : (wr.alloc blk).grownBy w1 va.ownBlock) :
    w1.cell? ⟨X, 3, none⟩ = some va ∧ w1.frozen? ⟨X, 3, none⟩ = false := by
  have ha := h.kept (Below.one wr blk)
  have hX : w1.heap[X]? = some (.cells #[lab, .map (some (w.heap.size + 2)), .map (some (w.heap.size + 3)), va, car] 83 (0, 0)) := by
    rw [hg.block _ (by have := ha.size; omega) (fun hc => by have := (ha.all.lt _ hc.symm).1; omega)]
    exact ha.str
  exact ⟨cell_blk hX 3 rfl, free_blk hX 3⟩

theorem midst_fin {w wr : World} {X i : Nat} {lab car va : Value} {O : List (List (ByteArray × ByteArray))} {l : List (ByteArray × ByteArray)} {left : ByteArray → Prop} {lst : ByteArray → Option ByteArray → List Nat} {sl : ByteArray → Option ByteArray → Option Value} {fL : ByteArray → Option Nat}
    (hmid : MidL O l i left lst) (hL : L1w w X lab car (i + 1) lst sl fL va wr) (hC : Cons lst sl fL) (hl : O[i]? = some l) (hn : ∀ s, ¬ left s) : Head w X lab O (i + 1) wr := by
  have e : lst = fun k x => scan O k x (i + 1) := funext fun k => funext fun x => hmid.fin (getD_of hl) hn k x
  subst e
  exact ⟨car, sl, fL, va, hL, hC⟩

theorem map_getD (o : Option Nat) : (o.map (fun b => Value.map (some b))).getD (.map none) = .map o := by cases o <;> rfl

/-- behind 'if byLabel[key] == nil { .. }' -/
def After (w : World) (X : Nat) (lab : Value) (ia : Nat) (lst : ByteArray → Option ByteArray → List Nat) (sl : ByteArray → Option ByteArray → Option Value) (fL : ByteArray → Option Nat) (car va : Value) (s : ByteArray) (r m cnt : Nat) (l : List (ByteArray × ByteArray)) (left : ByteArray → Prop) (wr : World) : Prop :=
  ∃ fL' b, L1w w X lab car ia lst sl fL' va wr ∧ fL' s = some b ∧ (∀ k, k ≠ s → fL' k = fL k) ∧ IterAt wr r m (lfn l) left cnt


theorem below_drew (w : World) : Below w.heap.size w w.drew := ⟨rfl, rfl, rfl, Nat.le_refl _, fun _ _ => rfl⟩

theorem MidL.len {O : List (List (ByteArray × ByteArray))} {l : List (ByteArray × ByteArray)} {i : Nat} {left : ByteArray → Prop} {lst : ByteArray → Option ByteArray → List Nat} (h : MidL O l i left lst) (k : ByteArray) (x : Option ByteArray) : (lst k x).length ≤ i + 1 := by
  have hs := scan_len O k x i
  by_cases hl : left k
  · rw [(h k x).2 (.inr hl)]; omega
  · cases hc : carT l k x with
    | true => rw [(h k x).1 hc hl]; simp; omega
    | false => rw [(h k x).2 (.inl hc)]; omega

theorem MidL.mono_nil {O : List (List (ByteArray × ByteArray))} {i : Nat} {left : ByteArray → Prop} {lst : ByteArray → Option ByteArray → List Nat} (h : MidL O [] i left lst) : MidL O [] i (fun _ => False) lst := by
  intro k x
  have hc : carT [] k x = false := by simp [carT, llk]
  exact ⟨fun h0 => (by rw [hc] at h0; cases h0), fun _ => (h k x).2 (.inl hc)⟩

theorem L1w.mapk {w wr w1 : World} {X ia : Nat} {lab car va : Value} {lst : ByteArray → Option ByteArray → List Nat} {sl : ByteArray → Option ByteArray → Option Value} {fL : ByteArray → Option Nat} (h : L1w w X lab car ia lst sl fL va wr) {blk : Obj} (s : ByteArray) (x : Option ByteArray) (hg : (wr.alloc blk).grownBy w1 ((sl s x).getD nilS).ownBlock) {c : Nat} {f : ByteArray → Option Value} (hf : MapFn wr c f) : MapFn w1 c f := by
  have hf' := hf.below (Below.one wr blk) hf.lt
  refine hf'.block (hg.block c hf'.lt (fun hc => ?_))
  obtain ⟨cs, hcs⟩ := owns_cells ((h.kept (Below.one wr blk)).rows.1 s x) hc.symm
  exact hf'.ne_cells hcs rfl

theorem L1w.iterk {w wr w1 : World} {X ia : Nat} {lab car va : Value} {lst : ByteArray → Option ByteArray → List Nat} {sl : ByteArray → Option ByteArray → Option Value} {fL : ByteArray → Option Nat} (h : L1w w X lab car ia lst sl fL va wr) {blk : Obj} (s : ByteArray) (x : Option ByteArray) (hg : (wr.alloc blk).grownBy w1 ((sl s x).getD nilS).ownBlock) {r m cnt : Nat} {f : ByteArray → Option Value} {left : ByteArray → Prop} (hf : IterAt wr r m f left cnt) : IterAt w1 r m f left cnt := by
  have hlt : r < wr.heap.size := by obtain ⟨_, _, _, _, h⟩ := hf.iter; exact (Array.getElem?_eq_some_iff.1 h).1
  have h1 : IterAt (wr.alloc blk) r m f left cnt := hf.blocks (Below.heap_alloc _ _ _ hf.map.lt) (Below.heap_alloc _ _ _ hlt)
  refine h1.blocks (hg.block m h1.map.lt (fun hc => ?_)) (hg.block r (by simp; omega) (fun hc => ?_))
  · obtain ⟨cs, hcs⟩ := owns_cells ((h.kept (Below.one wr blk)).rows.1 s x) hc.symm
    exact h1.map.ne_cells hcs rfl
  · obtain ⟨cs, hcs⟩ := owns_cells ((h.kept (Below.one wr blk)).rows.1 s x) hc.symm
    obtain ⟨_, _, _, _, h2⟩ := h1.iter
    rw [h2] at hcs
    cases hcs

theorem IterAt.only {w w' : World} {b r m cnt : Nat} {f g : ByteArray → Option Value} {left : ByteArray → Prop} (hf : IterAt w r m f left cnt) (hon : Only b w w') (hb : MapFn w b g) (hne : m ≠ b) : IterAt w' r m f left cnt := by
  obtain ⟨_, _, _, _, h2⟩ := hf.iter
  exact hf.blocks (hon.block _ hne) (hon.block _ (Ne.symm (hb.ne_iter h2)))

theorem cons_step {lst : ByteArray → Option ByteArray → List Nat} {sl : ByteArray → Option ByteArray → Option Value} {fL fL' : ByteArray → Option Nat} (h : Cons lst sl fL) {s v : ByteArray} {bb i : Nat} {y z : Value} (hb : fL' s = some bb) (ho : ∀ k, k ≠ s → fL' k = fL k) :
    Cons (updT (updT lst s (some v) (lst s (some v) ++ [i])) s none (lst s none ++ [i])) (updT (updT sl s (some v) (some y)) s none (some z)) fL' := by
  refine ⟨fun k x => ?_, fun k => ?_⟩
  · by_cases e : k = s ∧ x = none
    · obtain ⟨rfl, rfl⟩ := e
      rw [updT_same, updT_same]; simp
    · rw [updT_other _ _ e, updT_other _ _ e]
      by_cases e' : k = s ∧ x = some v
      · obtain ⟨rfl, rfl⟩ := e'
        rw [updT_same, updT_same]; simp
      · rw [updT_other _ _ e', updT_other _ _ e']
        exact h.1 k x
  · by_cases e : k = s
    · subst e
      rw [updT_same, hb]; simp
    · rw [updT_other _ _ (by simp [e]), updT_other _ _ (by simp [e]), ho k e]
      exact h.2 k

end Go.Proofs.Qxb6601049a
