/-
  Maps keyed by strings, told by their look-up function: 'MapFn w b f': block b is a map, at key s it holds f s. Elements are values of whatever kind.
-/
import Derived.Test.Qxb6601049aPmE
import Derived.Maps.RangeRun
import Derived.Maps.RangeWalk
import Derived.Maps.Own
import Derived.Maps.OwnOps
namespace Go.Proofs.Qxb6601049a
open Go.RowKit Go.MapKept
open Go.ChangeMaps (setBlock)
set_option linter.unusedVariables false

/-- a map's entries as a look-up function -/
def EsFn (es : Array MapEntry) (clock : Nat) (f : ByteArray → Option Value) : Prop :=
  Stamped es clock ∧ (∀ x ∈ es.toList, ∃ s, x.key = .string s) ∧ ∀ s v, f s = some v ↔ ∃ e ∈ es.toList, e.key = .string s ∧ e.val = v

def MapFn (w : World) (b : Nat) (f : ByteArray → Option Value) : Prop :=
  ∃ es clock, w.heap[b]? = some (.map es clock) ∧ EsFn es clock f

/-- only block b has turned -/
structure Only (b : Nat) (w w' : World) : Prop where
  os : w'.os = w.os
  tape : w'.tape = w.tape
  output : w'.output = w.output
  size : w'.heap.size = w.heap.size
  block : ∀ k, k ≠ b → w'.heap[k]? = w.heap[k]?

theorem Only.refl (b : Nat) (w : World) : Only b w w := ⟨rfl, rfl, rfl, rfl, fun _ _ => rfl⟩

theorem Only.of_set (w : World) (b : Nat) (o : Obj) : Only b w (setBlock w b o) := ⟨rfl, rfl, rfl, by simp [setBlock], fun k hk => by simp [setBlock, Ne.symm hk]⟩
theorem Only.drew {b : Nat} {w w' : World} (h : Only b w w') : Only b w w'.drew := ⟨h.os, h.tape, h.output, h.size, h.block⟩
theorem Only.from_drew {b : Nat} {w w' : World} (h : Only b w.drew w') : Only b w w' := ⟨h.os, h.tape, h.output, h.size, h.block⟩

theorem Only.below {b B : Nat} {w w' : World} (h : Only b w w') (hb : B ≤ b) : Below B w w' := ⟨h.os, h.tape, h.output, Nat.le_of_eq h.size.symm, fun k hk => h.block k (by omega)⟩

theorem Only.grown {b : Nat} {w w' : World} (h : Only b w w') : w.grownBy w' (some b) := ⟨h.os, h.tape, h.output, Nat.le_of_eq h.size.symm, fun k _ hne => h.block k (fun e => hne (by rw [e]))⟩

theorem MapFn.lt {w : World} {b : Nat} {f : ByteArray → Option Value} (h : MapFn w b f) : b < w.heap.size := by
  obtain ⟨es, c, hb, _⟩ := h
  exact (Array.getElem?_eq_some_iff.1 hb).1

theorem MapFn.block {w w' : World} {b : Nat} {f : ByteArray → Option Value} (h : MapFn w b f) (e : w'.heap[b]? = w.heap[b]?) : MapFn w' b f := by
  obtain ⟨es, c, hb, r⟩ := h
  exact ⟨es, c, e.trans hb, r⟩

theorem MapFn.below {w w' : World} {b B : Nat} {f : ByteArray → Option Value} (h : MapFn w b f) (hb : Below B w w') (hlt : b < B) : MapFn w' b f := h.block (hb.block b hlt)
theorem MapFn.only {w w' : World} {b r : Nat} {f : ByteArray → Option Value} (h : MapFn w b f) (ho : Only r w w') (hne : b ≠ r) : MapFn w' b f := h.block (ho.block b hne)
theorem MapFn.drew {w : World} {b : Nat} {f : ByteArray → Option Value} (h : MapFn w b f) : MapFn w.drew b f := h
theorem MapFn.congr {w : World} {b : Nat} {f g : ByteArray → Option Value} (h : MapFn w b f) (e : ∀ s, f s = g s) : MapFn w b g := by
  have : f = g := funext e
  rw [← this]; exact h

/-- a map and a row of cells lie apart -/
theorem MapFn.ne_cells {w : World} {b g : Nat} {f : ByteArray → Option Value} {cs : Array Value} {t : TypeId} {z : Nat × Nat} (h : MapFn w b f) (hg : w.heap[g]? = some (.cells cs t z)) : b ≠ g := by
  obtain ⟨es, c, hb, _⟩ := h
  intro e
  rw [e, hg] at hb
  cases hb

theorem esFn_empty : EsFn #[] 0 (fun _ => none) := ⟨stamped_empty 0, by simp, by simp⟩

theorem MapFn.made (w : World) : MapFn (w.alloc (.map #[] 0)) w.heap.size (fun _ => none) :=
  ⟨#[], 0, (heap_alloc w _).1, esFn_empty⟩

theorem nodup_inj {α β : Type} (g : α → β) : ∀ {l : List α}, (l.map g).Nodup → ∀ {x y : α}, x ∈ l → y ∈ l → g x = g y → x = y
  | [], _, _, _, hx, _, _ => by cases hx
  | a :: l, hn, x, y, hx, hy, e => by
    rw [List.map_cons, List.nodup_cons] at hn
    rcases List.mem_cons.1 hx with rfl | hx'
    · rcases List.mem_cons.1 hy with rfl | hy'
      · rfl
      · exact absurd (e ▸ List.mem_map.2 ⟨y, hy', rfl⟩ : g x ∈ l.map g) hn.1
    · rcases List.mem_cons.1 hy with rfl | hy'
      · exact absurd (e ▸ List.mem_map.2 ⟨x, hx', rfl⟩ : g y ∈ l.map g) hn.1
      · exact nodup_inj g hn.2 hx' hy' e

theorem nodup_idx {α β : Type} (g : α → β) : ∀ {l : List α}, (l.map g).Nodup → ∀ {i j : Nat} {x y : α}, l[i]? = some x → l[j]? = some y → g x = g y → i = j
  | [], _, _, _, _, _, hx, _, _ => by simp at hx
  | a :: l, hn, i, j, x, y, hx, hy, e => by
    rw [List.map_cons, List.nodup_cons] at hn
    match i, j with
    | 0, 0 => rfl
    | 0, j + 1 =>
      simp at hx hy
      subst hx
      exact absurd (e ▸ List.mem_map.2 ⟨y, List.mem_of_getElem? hy, rfl⟩ : g a ∈ l.map g) hn.1
    | i + 1, 0 =>
      simp at hx hy
      subst hy
      exact absurd (e ▸ List.mem_map.2 ⟨x, List.mem_of_getElem? hx, rfl⟩ : g a ∈ l.map g) hn.1
    | i + 1, j + 1 =>
      simp at hx hy
      rw [nodup_idx g hn.2 hx hy e]

theorem EsFn.unique {es : Array MapEntry} {clock : Nat} {f : ByteArray → Option Value} (h : EsFn es clock f) {x y : MapEntry} (hx : x ∈ es.toList) (hy : y ∈ es.toList) (hk : x.key = y.key) : x = y :=
  nodup_inj (·.key) h.1.2.2 hx hy hk

section
variable {P : Program} {mt kt et : TypeId}

theorem EsFn.isKey {es : Array MapEntry} {clock : Nat} {f : ByteArray → Option Value} (h : EsFn es clock f) : ∀ x ∈ es.toList, IsKey .string x.key := by
  intro x hx
  obtain ⟨s, hs⟩ := h.2.1 x hx
  rw [hs]; trivial

/-- 'm[s]' -/
theorem MapFn.lookup {w : World} {b : Nat} {f : ByteArray → Option Value} (h : MapFn w b f) (hm : P.underlying mt = some (.map kt et)) (hk : P.underlying kt = some .string) {z : Value} (hz : (zeroValue et).run P w = .ok z w) (s : ByteArray) :
    (Instr.lookup mt (.map (some b)) (.string s) false).run P w = .ok ((f s).getD z) w := by
  obtain ⟨es, clock, hb, hes⟩ := h
  have hks := hes.isKey
  have hkey : IsKey .string (.string s) := trivial
  rcases findNow_spec hkey es.toList 0 hks with ⟨h1, h2⟩ | ⟨j, e, h1, h2, h3⟩
  · have hf : f s = none := by
      cases e : f s with
      | none => rfl
      | some v =>
        obtain ⟨x, hx, hxk, _⟩ := (hes.2.2 s v).1 e
        exact absurd hxk (h2 x hx)
    simp [Instr.lookup, run_underlying hm, MapKept.run_getObj_map hb, run_checkKey hk hkey, run_findKey hk h1, hz, Result.andThen, hf]
  · have hf : f s = some e.val := (hes.2.2 s e.val).2 ⟨e, List.mem_of_getElem? h2, h3, rfl⟩
    simp [Instr.lookup, run_underlying hm, MapKept.run_getObj_map hb, run_checkKey hk hkey, run_findKey hk h1, Result.andThen, hf]

theorem lookup_nil {w : World} (hm : P.underlying mt = some (.map kt et)) (hk : P.underlying kt = some .string) {z : Value} (hz : (zeroValue et).run P w = .ok z w) (s : ByteArray) :
    (Instr.lookup mt (.map none) (.string s) false).run P w = .ok z w := by
  have hkey : IsKey .string (.string s) := trivial
  have h1 : Instr.findNow .string (.string s) [] 0 = some none := rfl
  simp [Instr.lookup, run_underlying hm, run_checkKey hk hkey, run_findKey hk h1, hz, Result.andThen]

def upd (f : ByteArray → Option Value) (s : ByteArray) (v : Value) : ByteArray → Option Value := fun t => if t = s then some v else f t

theorem upd_same (f : ByteArray → Option Value) (s : ByteArray) (v : Value) : upd f s v s = some v := by simp [upd]
theorem upd_other (f : ByteArray → Option Value) {s t : ByteArray} (v : Value) (h : t ≠ s) : upd f s v t = f t := by simp [upd, h]

/-- 'm[s] = v' -/
theorem MapFn.update {w : World} {b : Nat} {f : ByteArray → Option Value} (h : MapFn w b f) (hm : P.underlying mt = some (.map kt et)) (hk : P.underlying kt = some .string) (s : ByteArray) (v : Value) :
    ∃ w', (Instr.mapUpdate mt (.map (some b)) (.string s) v).run P w = .ok () w' ∧ MapFn w' b (upd f s v) ∧ Only b w w' := by
  obtain ⟨es, clock, hb, hes⟩ := h
  have hks := hes.isKey
  have hkey : IsKey .string (.string s) := trivial
  obtain ⟨hst, hstr, hfn⟩ := id hes
  rcases findNow_spec hkey es.toList 0 hks with ⟨h1, h2⟩ | ⟨j, e, h1, h2, h3⟩
  · refine ⟨setBlock w b (.map (es.push { key := .string s, val := v, born := clock }) (clock + 1)), ?_, ⟨_, _, (heap_set hb).1, stamped_push hst h2, ?_, ?_⟩, Only.of_set _ _ _⟩
    · simp [Instr.mapUpdate, run_underlying hm, MapKept.run_getObj_map hb, run_checkKey hk hkey, run_findKey hk h1, MapKept.run_setObj_map _ hb, Result.andThen, setBlock]
    · intro x hx
      simp only [Array.toList_push, List.mem_append, List.mem_singleton] at hx
      rcases hx with hx | rfl
      · exact hstr x hx
      · exact ⟨s, rfl⟩
    · intro t u
      by_cases ht : t = s
      · subst ht
        rw [upd_same]
        constructor
        · intro he
          cases he
          exact ⟨_, by simp; right; rfl, rfl, rfl⟩
        · rintro ⟨x, hx, hxk, hxv⟩
          simp only [Array.toList_push, List.mem_append, List.mem_singleton] at hx
          rcases hx with hx | rfl
          · exact absurd hxk (h2 x hx)
          · rw [← hxv]
      · rw [upd_other f v ht, hfn]
        constructor
        · rintro ⟨x, hx, r⟩
          exact ⟨x, by simp; left; exact Array.mem_toList_iff.1 hx, r⟩
        · rintro ⟨x, hx, hxk, hxv⟩
          simp only [Array.toList_push, List.mem_append, List.mem_singleton] at hx
          rcases hx with hx | rfl
          · exact ⟨x, hx, hxk, hxv⟩
          · cases hxk
            exact absurd rfl ht
  · have hj : es[j]? = some e := by simpa using h2
    have hkeyj : ∀ e', es[j]? = some e' → ({ e' with key := .string s, val := v } : MapEntry).key = e'.key := fun e' he' => by rw [hj] at he'; cases he'; exact h3.symm
    refine ⟨setBlock w b (.map (es.modify j fun e => { e with key := .string s, val := v }) clock), ?_, ⟨_, _, (heap_set hb).1, stamped_modify hst _ _ (fun _ _ => rfl) (fun e' _ he' => hkeyj e' he'), ?_, ?_⟩, Only.of_set _ _ _⟩
    · simp [Instr.mapUpdate, run_underlying hm, MapKept.run_getObj_map hb, run_checkKey hk hkey, run_findKey hk h1, hj, h3, run_keyThatStays hkey, MapKept.run_setObj_map _ hb, Result.andThen, setBlock]
    · intro x hx
      have : x.key ∈ (es.modify j fun e => { e with key := .string s, val := v }).toList.map (·.key) := List.mem_map.2 ⟨x, hx, rfl⟩
      rw [modify_keys j _ hkeyj] at this
      obtain ⟨y, hy, e'⟩ := List.mem_map.1 this
      rw [← e']; exact hstr y hy
    · have hmem : ∀ x, x ∈ (es.modify j fun e => { e with key := .string s, val := v }).toList ↔ (x = { e with key := .string s, val := v } ∨ (x ∈ es.toList ∧ x.key ≠ .string s)) := by
        intro x
        constructor
        · intro hx
          obtain ⟨i, hi⟩ := List.mem_iff_getElem?.1 hx
          rw [Array.getElem?_toList, Array.getElem?_modify] at hi
          by_cases hij : j = i
          · subst hij
            rw [if_pos rfl, hj] at hi
            simp at hi
            exact .inl hi.symm
          · rw [if_neg hij] at hi
            right
            have hx' : x ∈ es.toList := by
              rw [← Array.getElem?_toList] at hi
              exact List.mem_of_getElem? hi
            refine ⟨hx', fun hc => ?_⟩
            exact hij (nodup_idx MapEntry.key (l := es.toList) hst.2.2 (i := j) (j := i) (by simpa using hj) (by simpa using hi) (h3.trans hc.symm))
        · rintro (rfl | ⟨hx, hxk⟩)
          · apply List.mem_iff_getElem?.2
            refine ⟨j, ?_⟩
            rw [Array.getElem?_toList, Array.getElem?_modify, if_pos rfl, hj]
            rfl
          · obtain ⟨i, hi⟩ := List.mem_iff_getElem?.1 hx
            apply List.mem_iff_getElem?.2
            refine ⟨i, ?_⟩
            rw [Array.getElem?_toList] at hi
            have hij : j ≠ i := by
              intro hc
              subst hc
              rw [hj] at hi
              cases hi
              exact hxk h3
            rw [Array.getElem?_toList, Array.getElem?_modify, if_neg hij, hi]
      intro t u
      by_cases ht : t = s
      · subst ht
        rw [upd_same]
        constructor
        · intro he
          cases he
          exact ⟨_, (hmem _).2 (.inl rfl), rfl, rfl⟩
        · rintro ⟨x, hx, hxk, hxv⟩
          rcases (hmem x).1 hx with rfl | ⟨_, hn⟩
          · rw [← hxv]
          · exact absurd hxk hn
      · rw [upd_other f v ht, hfn]
        constructor
        · rintro ⟨x, hx, hxk, hxv⟩
          refine ⟨x, (hmem x).2 (.inr ⟨hx, fun hc => ?_⟩), hxk, hxv⟩
          rw [hxk] at hc
          cases hc
          exact ht rfl
        · rintro ⟨x, hx, hxk, hxv⟩
          rcases (hmem x).1 hx with rfl | ⟨hx', _⟩
          · cases hxk
            exact absurd rfl ht
          · exact ⟨x, hx', hxk, hxv⟩

/-- an iterator over a map that is not written while it is ranged over: 'left s': the entry at s is still to come -/
def IterAt (w : World) (r b : Nat) (f : ByteArray → Option Value) (left : ByteArray → Prop) (cnt : Nat) : Prop :=
  ∃ es clock seen c0, w.heap[b]? = some (.map es clock) ∧ EsFn es clock f ∧ w.heap[r]? = some (.mapIter (some b) clock seen c0) ∧ clock ≤ c0 ∧ cnt = (leftOf es seen).size ∧
    ∀ s, left s ↔ ∃ e ∈ es.toList, e.key = .string s ∧ seen.contains e.born = false

/-- how many are left, for a measure -/
def iterLeft (w : World) (r : Nat) : Nat :=
  match w.heap[r]? with
  | some (.mapIter (some b) _ seen _) => (match w.heap[b]? with | some (.map es _) => (leftOf es seen).size | _ => 0)
  | _ => 0

theorem IterAt.left_eq {w : World} {r b cnt : Nat} {f : ByteArray → Option Value} {left : ByteArray → Prop} (h : IterAt w r b f left cnt) : iterLeft w r = cnt := by
  obtain ⟨es, clock, seen, c0, hb, hes, hr, hc, hcnt, _⟩ := h
  simp [iterLeft, hr, hb, hcnt]

theorem IterAt.map {w : World} {r b cnt : Nat} {f : ByteArray → Option Value} {left : ByteArray → Prop} (h : IterAt w r b f left cnt) : MapFn w b f := by
  obtain ⟨es, clock, seen, c0, hb, hes, _⟩ := h
  exact ⟨es, clock, hb, hes⟩

theorem IterAt.blocks {w w' : World} {r b cnt : Nat} {f : ByteArray → Option Value} {left : ByteArray → Prop} (h : IterAt w r b f left cnt) (hb' : w'.heap[b]? = w.heap[b]?) (hr' : w'.heap[r]? = w.heap[r]?) : IterAt w' r b f left cnt := by
  obtain ⟨es, clock, seen, c0, hb, hes, hr, rest⟩ := h
  exact ⟨es, clock, seen, c0, hb'.trans hb, hes, hr'.trans hr, rest⟩

theorem IterAt.iter {w : World} {r b cnt : Nat} {f : ByteArray → Option Value} {left : ByteArray → Prop} (h : IterAt w r b f left cnt) : ∃ m s x c, w.heap[r]? = some (.mapIter m s x c) := by
  obtain ⟨es, clock, seen, c0, hb, hes, hr, rest⟩ := h
  exact ⟨_, _, _, _, hr⟩

/-- 'range m' -/
theorem MapFn.range {w : World} {b : Nat} {f : ByteArray → Option Value} (h : MapFn w b f) (hm : P.underlying mt = some (.map kt et)) :
    ∃ w' cnt, (Instr.range mt (.map (some b))).run P w = .ok (.pointer (some ⟨w.heap.size, 0, none⟩)) w' ∧ IterAt w' w.heap.size b f (fun s => f s ≠ none) cnt ∧ Below w.heap.size w w' ∧ w'.heap.size = w.heap.size + 1 := by
  obtain ⟨es, clock, hb, hes⟩ := h
  have hlt : b < w.heap.size := (Array.getElem?_eq_some_iff.1 hb).1
  refine ⟨w.alloc (.mapIter (some b) clock #[] clock), (leftOf es #[]).size, ?_, ⟨es, clock, #[], clock, ?_, hes, (heap_alloc w _).1, Nat.le_refl _, rfl, ?_⟩, (Below.refl _ _).alloc (Nat.le_refl _) _, by simp⟩
  · simp [Instr.range, run_underlying hm, MapKept.run_getObj_map hb, Result.andThen]
  · rw [(heap_alloc w _).2 b hlt]; exact hb
  · intro s
    constructor
    · intro hs
      cases e : f s with
      | none => exact absurd e hs
      | some v =>
        obtain ⟨x, hx, hxk, _⟩ := (hes.2.2 s v).1 e
        exact ⟨x, hx, hxk, by simp⟩
    · rintro ⟨x, hx, hxk, _⟩ hn
      have := (hes.2.2 s x.val).2 ⟨x, hx, hxk, rfl⟩
      rw [hn] at this
      cases this

/-- the step -/
theorem IterAt.next {w : World} {r b cnt : Nat} {f : ByteArray → Option Value} {left : ByteArray → Prop} (h : IterAt w r b f left cnt) (ty : TypeId) :
    (cnt = 0 ∧ (∀ s, ¬ left s) ∧ (Instr.next (.pointer (some ⟨r, 0, none⟩)) false ty).run P w = .ok (.tuple #[.bool false]) w) ∨
    ∃ s v w' cnt', left s ∧ f s = some v ∧ (Instr.next (.pointer (some ⟨r, 0, none⟩)) false ty).run P w = .ok (.tuple #[.bool true, .string s, v]) w' ∧ IterAt w' r b f (fun t => left t ∧ t ≠ s) cnt' ∧ cnt' < cnt ∧ Only r w w' ∧
      (Instr.entry (.pointer (some ⟨r, 0, none⟩))).run P w' = .ok (.tuple #[.string s, v]) w' := by
  obtain ⟨es, clock, seen, c0, hb, hes, hr, hcc, hcnt, hleft⟩ := h
  rcases run_next_at (P := P) w ty r b clock c0 seen es clock hr hb hes.1.1 hcc with ⟨h0, hrun⟩ | ⟨e, he, w1, hw1, hrun⟩
  · refine .inl ⟨by omega, fun s hs => ?_, hrun⟩
    obtain ⟨x, hx, _, hxs⟩ := (hleft s).1 hs
    have : x ∈ (leftOf es seen).toList := by simp [leftOf]; exact ⟨Array.mem_toList_iff.1 hx, by simpa using hxs⟩
    have hemp : (leftOf es seen) = #[] := Array.eq_empty_of_size_eq_zero h0
    rw [hemp] at this
    simp at this
  · obtain ⟨hem, hes0⟩ := mem_left he
    obtain ⟨s, hs⟩ := hes.2.1 e hem
    have hne : r ≠ b := by intro hc; rw [hc, hb] at hr; cases hr
    have hlt : r < w.heap.size := (Array.getElem?_eq_some_iff.1 hr).1
    have hheap : ∀ o, (setBlock w1 r o).heap = w.heap.setIfInBounds r o := by
      intro o; rcases hw1 with rfl | rfl <;> rfl
    have hr' : (setBlock w1 r (.mapIter (some b) clock (seen.push e.born) clock)).heap[r]? = some (.mapIter (some b) clock (seen.push e.born) clock) := by
      rw [hheap]; simp [hlt]
    have hb' : (setBlock w1 r (.mapIter (some b) clock (seen.push e.born) clock)).heap[b]? = some (.map es clock) := by
      rw [hheap]; simp [hne, hb]
    refine .inr ⟨s, e.val, _, (leftOf es (seen.push e.born)).size, (hleft s).2 ⟨e, hem, hs, hes0⟩, (hes.2.2 s e.val).2 ⟨e, hem, hs, rfl⟩, by rw [hrun, hs], ⟨es, clock, seen.push e.born, clock, hb', hes, hr', Nat.le_refl _, rfl, ?_⟩, by rw [hcnt]; exact left_shrinks es seen e he, ?_, ?_⟩
    · intro t
      show (left t ∧ t ≠ s) ↔ _
      rw [hleft]
      constructor
      · rintro ⟨⟨x, hx, hxk, hxs⟩, hts⟩
        refine ⟨x, hx, hxk, ?_⟩
        simp only [Array.contains_push, Bool.or_eq_false_iff]
        refine ⟨hxs, ?_⟩
        cases hbeq : (x.born == e.born) with
        | false => rfl
        | true =>
          exfalso
          have hxb : x.born = e.born := by simpa using hbeq
          have hxe : x = e := nodup_inj (·.born) hes.1.2.1 hx hem hxb
          rw [hxe, hs] at hxk
          cases hxk
          exact hts rfl
      · rintro ⟨x, hx, hxk, hxs⟩
        simp only [Array.contains_push, Bool.or_eq_false_iff] at hxs
        refine ⟨⟨x, hx, hxk, hxs.1⟩, fun hts => ?_⟩
        subst hts
        have := EsFn.unique hes hx hem (by rw [hxk, hs])
        subst this
        simp at hxs
    · rcases hw1 with rfl | rfl
      · exact Only.of_set _ _ _
      · exact (Only.of_set _ _ _).from_drew
    · have := run_entry_at (P := P) _ r b clock seen es clock e hr' hb' hem hes.1.2.1
      rw [hs] at this
      exact this

end

section
variable {P : Program} (w : World) {ops : Array Oper} {rest : List Oper} {o : Oper} {a : Act} {Q : Exit → Act → World → Prop}

/-- 'm[k] = v' at the operation -/
theorem wpList_mapUpdate_fn (hg : o.guard = none) (m x v : Operand) (t : TypeId) (hop : o.op = Op.mapUpdate t m x v) (k e : TypeId) (ht : P.underlying t = some (.map k e)) (hk : P.underlying k = some .string)
    (b : Nat) (f : ByteArray → Option Value) (s : ByteArray) (val : Value) (hm : a.eval m = .map (some b)) (hx : a.eval x = .string s) (hv : a.eval v = val) (hf : MapFn w b f)
    (hK : ∀ w', MapFn w' b (upd f s val) → Only b w w' → wpList P ops Q rest (a.put o.dst undef) w') :
    wpList P ops Q (o :: rest) a w := by
  refine wpList_plain hg fun K' hK' => ?_
  obtain ⟨w', hrun, r1, r2⟩ := hf.update ht hk s val
  unfold Oper.wp
  simp [execOp, hop, hm, hx, hv, hrun, Result.andThen]
  exact hK' _ _ (hK w' r1 r2)

/-- 'range m' at the operation -/
theorem wpList_range_fn (hg : o.guard = none) (m : Operand) (t : TypeId) (hop : o.op = Op.range t m) (k e : TypeId) (ht : P.underlying t = some (.map k e))
    (b : Nat) (f : ByteArray → Option Value) (hm : a.eval m = .map (some b)) (hf : MapFn w b f)
    (hK : ∀ w' cnt, IterAt w' w.heap.size b f (fun s => f s ≠ none) cnt → Below w.heap.size w w' → w'.heap.size = w.heap.size + 1 → wpList P ops Q rest (a.put o.dst (.pointer (some ⟨w.heap.size, 0, none⟩))) w') :
    wpList P ops Q (o :: rest) a w := by
  refine wpList_plain hg fun K' hK' => ?_
  obtain ⟨w', cnt, hrun, r1, r2, r3⟩ := hf.range (P := P) ht
  unfold Oper.wp
  simp [execOp, hop, hm, hrun, Result.andThen]
  exact hK' _ _ (hK w' cnt r1 r2 r3)

/-- the step at the operation; 'mk' tells the elements' shape -/
theorem wpList_next_fn {β : Type} (hg : o.guard = none) (it : Operand) (hop : o.op = Op.next it false) (r b cnt : Nat) (f : ByteArray → Option Value) (left : ByteArray → Prop) (mk : β → Value) (hmk : ∀ s v, f s = some v → ∃ c, v = mk c)
    (hit : a.eval it = .pointer (some ⟨r, 0, none⟩)) (h : IterAt w r b f left cnt)
    (hDone : (∀ s, ¬ left s) → wpList P ops Q rest (a.put o.dst (.tuple #[.bool false])) w)
    (hMore : ∀ (s : ByteArray) (c : β) (w' : World) (cnt' : Nat), left s → f s = some (mk c) → IterAt w' r b f (fun t => left t ∧ t ≠ s) cnt' → cnt' < cnt → Only r w w' →
      (Instr.entry (.pointer (some ⟨r, 0, none⟩))).run P w' = .ok (.tuple #[.string s, mk c]) w' → wpList P ops Q rest (a.put o.dst (.tuple #[.bool true, .string s, mk c])) w') :
    wpList P ops Q (o :: rest) a w := by
  refine wpList_plain hg fun K' hK' => ?_
  unfold Oper.wp
  rcases h.next (P := P) o.type with ⟨h0, hl, hrun⟩ | ⟨s, v, w', cnt', hls, hfs, hrun, hit', hlt, hon, hen⟩
  · simp [execOp, hop, hit, hrun, Result.andThen]
    exact hK' _ _ (hDone hl)
  · obtain ⟨c, rfl⟩ := hmk s v hfs
    simp [execOp, hop, hit, hrun, Result.andThen]
    exact hK' _ _ (hMore s c w' cnt' hls hfs hit' hlt hon hen)

end

end Go.Proofs.Qxb6601049a
