/-
  More on the law's own tables.
-/
import Derived.Test.Qxb6601049aCnt6
import Derived.Test.Qxb6601049aLaw7
namespace Go.Proofs.Qxb6601049a
open Go.ChangeShapes Go.WideShapes Go.ChangeAt Go.RowKit
set_option linter.unusedVariables false

theorem dd_len (S : List ByteArray) : ∀ t, (dd S t).length ≤ t
  | 0 => by simp [dd]
  | t + 1 => by
    have ih := dd_len S t
    rw [dd]
    split
    · split
      · omega
      · simp; omega
    · omega

theorem FIdx.exist (S : List ByteArray) (s : ByteArray) : ∃ r, FIdx S s r := by
  by_cases h : s ∈ S
  · obtain ⟨t, ht⟩ := List.mem_iff_getElem?.1 h
    have key : ∀ t : Nat, S[t]? = some s → ∃ t' : Nat, S[t']? = some s ∧ ∀ j, j < t' → S[j]? ≠ some s := by
      intro t
      induction t using Nat.strongRecOn with
      | ind t ih =>
        intro ht
        by_cases hx : ∃ j, j < t ∧ S[j]? = some s
        · obtain ⟨j, hj, hs⟩ := hx
          exact ih j hj hs
        · exact ⟨t, ht, fun j hj hs => hx ⟨j, hj, hs⟩⟩
    obtain ⟨t', h1, h2⟩ := key t ht
    exact ⟨t', .inr ⟨t', rfl, h1, h2⟩⟩
  · exact ⟨-1, .inl ⟨rfl, h⟩⟩

theorem FIdx.uniq {S : List ByteArray} {s : ByteArray} {r r' : Int} (h : FIdx S s r) (h' : FIdx S s r') : r = r' := by
  rcases h with ⟨h1, h2⟩ | ⟨t, h1, h2, h3⟩
  · rcases h' with ⟨k1, k2⟩ | ⟨t', k1, k2, k3⟩
    · omega
    · exact absurd (List.mem_of_getElem? k2) h2
  · rcases h' with ⟨k1, k2⟩ | ⟨t', k1, k2, k3⟩
    · exact absurd (List.mem_of_getElem? h2) k2
    · rcases Nat.lt_trichotomy t t' with hc | hc | hc
      · exact absurd h2 (k3 t hc)
      · omega
      · exact absurd k2 (h3 t' hc)

theorem FIdx.bound {S : List ByteArray} {s : ByteArray} {r : Int} (h : FIdx S s r) : -1 ≤ r ∧ r < (S.length : Int) := by
  rcases h with ⟨h1, h2⟩ | ⟨t, h1, h2, h3⟩
  · omega
  · have := (List.getElem?_eq_some_iff.1 h2).1
    omega

theorem firstIndexOf_at (a : Option Addr) (S : List ByteArray) (c : Nat) (s : ByteArray) (w : World) (r : Int) (hr : StrRow w a S) (hl : S.length ≤ 1048576) (hf : FIdx S s r) :
    Calls Try.prog 38 #[.slice a S.length c, .string s] w (samePost (.int .i64 r) w) := by
  refine (firstIndexOf_any a S c s w hr hl).mono ?_
  rintro e w' ⟨q, rfl, hq, rfl⟩
  exact ⟨by rw [hq.uniq hf], rfl⟩

theorem lookupLabel_at (a : Option Addr) (l : List (ByteArray × ByteArray)) (c : Nat) (key u : ByteArray) (w : World) (hr : LblRow w a l) (hl : l.length ≤ 1048576) (hu : llk l key = some u) :
    Calls Try.prog 40 #[.slice a l.length c, .string key] w (samePost (.tuple #[.string u, .bool true]) w) := by
  have := lookupLabel_any a l c key w hr hl
  rw [hu] at this
  exact this

theorem SeenAt.kept {wi wr w' : World} {S : List ByteArray} {v : Value} (h : SeenAt wi S v wr) (hb : Below wr.heap.size wr w') : SeenAt wi S v w' := by
  obtain ⟨g, cap, rfl, h1, h2⟩ := h
  have hg : wr.grownBy w' none := ⟨hb.os, hb.tape, hb.output, hb.size, fun i hi _ => hb.block i hi⟩
  exact ⟨g, cap, rfl, h1.kept hg (kept_or fun _ _ => by simp), h2.trans (hb.mono h2.size)⟩

theorem SeenAt.bel {wi wr : World} {S : List ByteArray} {v : Value} (h : SeenAt wi S v wr) : Below wi.heap.size wi wr := by
  obtain ⟨g, cap, rfl, h1, h2⟩ := h
  exact h2

theorem seen_start {wi w7 : World} {O : Objs} {key : ByteArray} {ds : List ByteArray} {n : Nat} (hown : w7.ownsRow wi.heap.size 9 1 (.slice (some ⟨wi.heap.size, 0, none⟩) 0 n) 0 []) (hg : wi.grownBy w7 none) : SeenAt wi (sn O key ds 0) (.slice (some ⟨wi.heap.size, 0, none⟩) 0 n) w7 := by
  have e : sn O key ds 0 = [] := by simp [sn]
  rw [e]
  exact ⟨_, _, rfl, hown, (Below.refl _ _).grown hg (Nat.le_refl _) (fun k h => by cases h)⟩

/-- the requirement chosen, copied into block Y -/
theorem one_new (w : World) (r : Rq) (va : Option Addr) (vc : Nat) : (w.alloc (.cells #[.string r.key, .slice va r.vals.length vc, .bool r.any, .bool r.neg] 62)).heap[w.heap.size]? = some (.cells #[.string r.key, .slice va r.vals.length vc, .bool r.any, .bool r.neg] 62 (0, 0)) := heap_alloc_new w _

/-- all values told apart -/
theorem dd_all {S ds : List ByteArray} (h1 : ds.Nodup) (h : ∀ v, v ∈ ds ↔ v ∈ S) (p : ByteArray → Bool) : (dd S S.length).length = ds.length ∧ ((dd S S.length).filter p).length = (ds.filter p).length := by
  obtain ⟨a, b⟩ := dd_spec S S.length
  rw [List.take_length] at b
  exact ⟨same_len a h1 (fun v => by rw [b, h]), same_count p a h1 (fun v => by rw [b, h])⟩

theorem dd_more {S : List ByteArray} {t : Nat} {s : ByteArray} (h : S[t]? = some s) (hs : s ∉ S.take t) (p : ByteArray → Bool) : (dd S (t + 1)).length = (dd S t).length + 1 ∧ ((dd S (t + 1)).filter p).length = ((dd S t).filter p).length + (if p s = true then 1 else 0) := by
  rw [dd_new h hs]
  refine ⟨by simp, ?_⟩
  rw [List.filter_append, List.length_append]
  cases hp : p s <;> simp [hp]

theorem sn_all (O : Objs) (key : ByteArray) (ds : List ByteArray) {q : Nat} (h : q = ds.length) : sn O key ds q = ds.filter (neB O key) := by
  subst h
  unfold sn
  rw [List.take_length]

end Go.Proofs.Qxb6601049a
