import Derived.Test.Qxb6601049aMap
namespace Go.Proofs.Qxb6601049a
open Go.ChangeShapes Go.WideShapes Go.ChangeAt Go.RowKit
set_option linter.unusedVariables false

theorem eqS_self (a : ByteArray) : (a.toList == a.toList) = true := by simp
theorem eqS_ne {a b : ByteArray} (h : a ≠ b) : (a.toList == b.toList) = false := by
  rw [← beq_toListBytes]
  cases e : (a == b) with
  | false => rfl
  | true => exact absurd ((MapKept.bytes_beq a b).1 e) h
theorem eqS (a b : ByteArray) : (a.toList == b.toList) = decide (a = b) := by
  by_cases h : a = b
  · subst h; simp
  · rw [eqS_ne h]; simp [h]

/-- a slice of labels -/
def LblRow (w : World) (a : Option Addr) (l : List (ByteArray × ByteArray)) : Prop :=
  (a = none → l = []) ∧ (l = [] ∨ ∃ b off, a = some ⟨b, off, none⟩ ∧ ∀ j kv, l[j]? = some kv → w.cell? ⟨b, off + j * 2, none⟩ = some (.string kv.1) ∧ w.cell? ⟨b, off + j * 2 + 1, none⟩ = some (.string kv.2))

theorem LblRow.below {w w' : World} {a : Option Addr} {l : List (ByteArray × ByteArray)} (h : LblRow w a l) (hb : Below w.heap.size w w') : LblRow w' a l := by
  refine ⟨h.1, ?_⟩
  rcases h.2 with h0 | ⟨b, off, ha, hc⟩
  · exact .inl h0
  · refine .inr ⟨b, off, ha, fun j kv hj => ?_⟩
    obtain ⟨c1, c2⟩ := hc j kv hj
    exact ⟨(hb.cell (p := ⟨b, off + j * 2, none⟩) (World.block_lt_of_cell? w _ c1)).trans c1, (hb.cell (p := ⟨b, off + j * 2 + 1, none⟩) (World.block_lt_of_cell? w _ c2)).trans c2⟩

theorem LblRow.at {w : World} {a : Option Addr} {l : List (ByteArray × ByteArray)} (h : LblRow w a l) {j : Nat} (hj : j < l.length) :
    ∃ b off kk vv, a = some ⟨b, off, none⟩ ∧ l[j]? = some (kk, vv) ∧ w.cell? ⟨b, off + j * 2, none⟩ = some (.string kk) ∧ w.cell? ⟨b, off + j * 2 + 1, none⟩ = some (.string vv) := by
  rcases h.2 with h0 | ⟨b, off, ha, hc⟩
  · subst h0; simp at hj
  · have e : l[j]? = some l[j] := List.getElem?_eq_getElem hj
    obtain ⟨c1, c2⟩ := hc j _ e
    exact ⟨b, off, l[j].1, l[j].2, ha, e, c1, c2⟩

/-- a slice of slices of labels -/
def ObjRow (w : World) (a : Option Addr) (O : List (List (ByteArray × ByteArray))) : Prop :=
  (a = none → O = []) ∧ (O = [] ∨ ∃ b off, a = some ⟨b, off, none⟩ ∧ ∀ i l, O[i]? = some l → ∃ ai ci, w.cell? ⟨b, off + i, none⟩ = some (.slice ai l.length ci) ∧ LblRow w ai l)

theorem ObjRow.below {w w' : World} {a : Option Addr} {O : List (List (ByteArray × ByteArray))} (h : ObjRow w a O) (hb : Below w.heap.size w w') : ObjRow w' a O := by
  refine ⟨h.1, ?_⟩
  rcases h.2 with h0 | ⟨b, off, ha, hc⟩
  · exact .inl h0
  · refine .inr ⟨b, off, ha, fun i l hi => ?_⟩
    obtain ⟨ai, ci, c1, c2⟩ := hc i l hi
    exact ⟨ai, ci, (hb.cell (p := ⟨b, off + i, none⟩) (World.block_lt_of_cell? w _ c1)).trans c1, c2.below hb⟩

theorem ObjRow.at {w : World} {a : Option Addr} {O : List (List (ByteArray × ByteArray))} (h : ObjRow w a O) {i : Nat} (hi : i < O.length) :
    ∃ b off l ai ci, a = some ⟨b, off, none⟩ ∧ O[i]? = some l ∧ w.cell? ⟨b, off + i, none⟩ = some (.slice ai l.length ci) ∧ LblRow w ai l := by
  rcases h.2 with h0 | ⟨b, off, ha, hc⟩
  · subst h0; simp at hi
  · have e : O[i]? = some O[i] := List.getElem?_eq_getElem hi
    obtain ⟨ai, ci, c1, c2⟩ := hc i _ e
    exact ⟨b, off, O[i], ai, ci, ha, e, c1, c2⟩

/-- a slice of strings -/
def StrRow (w : World) (a : Option Addr) (S : List ByteArray) : Prop :=
  (a = none → S = []) ∧ (S = [] ∨ ∃ b off, a = some ⟨b, off, none⟩ ∧ ∀ j s, S[j]? = some s → w.cell? ⟨b, off + j, none⟩ = some (.string s))

theorem StrRow.below {w w' : World} {a : Option Addr} {S : List ByteArray} (h : StrRow w a S) (hb : Below w.heap.size w w') : StrRow w' a S := by
  refine ⟨h.1, ?_⟩
  rcases h.2 with h0 | ⟨b, off, ha, hc⟩
  · exact .inl h0
  · refine .inr ⟨b, off, ha, fun j s hj => ?_⟩
    have c1 := hc j s hj
    exact (hb.cell (p := ⟨b, off + j, none⟩) (World.block_lt_of_cell? w _ c1)).trans c1

theorem StrRow.at {w : World} {a : Option Addr} {S : List ByteArray} (h : StrRow w a S) {j : Nat} (hj : j < S.length) :
    ∃ b off s, a = some ⟨b, off, none⟩ ∧ S[j]? = some s ∧ w.cell? ⟨b, off + j, none⟩ = some (.string s) := by
  rcases h.2 with h0 | ⟨b, off, ha, hc⟩
  · subst h0; simp at hj
  · have e : S[j]? = some S[j] := List.getElem?_eq_getElem hj
    exact ⟨b, off, S[j], ha, e, hc j _ e⟩

/-- the last label at a key -/
def llk (l : List (ByteArray × ByteArray)) (key : ByteArray) : Option ByteArray := l.foldl (fun acc kv => if kv.1 = key then some kv.2 else acc) none

theorem llk_take {l : List (ByteArray × ByteArray)} {k : Nat} {kk vv : ByteArray} (h : l[k]? = some (kk, vv)) (key : ByteArray) : llk (l.take (k + 1)) key = if kk = key then some vv else llk (l.take k) key := by
  rw [List.take_add_one, h]
  simp [llk]

/-- does the object carry the key (at the value x, where one is named)? -/
def carT (l : List (ByteArray × ByteArray)) (key : ByteArray) (x : Option ByteArray) : Bool :=
  match llk l key with
  | none => false
  | some v => match x with
    | none => true
    | some u => decide (v = u)

/-- the increasing list of the objects that carry the key -/
def scan (O : List (List (ByteArray × ByteArray))) (key : ByteArray) (x : Option ByteArray) : Nat → List Nat
  | 0 => []
  | i + 1 => if carT (O.getD i []) key x then scan O key x i ++ [i] else scan O key x i

theorem scan_lt {O : List (List (ByteArray × ByteArray))} {key : ByteArray} {x : Option ByteArray} : ∀ (i : Nat), ∀ j ∈ scan O key x i, j < i
  | 0, j, h => by simp [scan] at h
  | i + 1, j, h => by
    rw [scan] at h
    split at h
    · rcases List.mem_append.1 h with h | h
      · have := scan_lt i j h; omega
      · simp at h; omega
    · have := scan_lt i j h; omega

theorem mem_scan {O : List (List (ByteArray × ByteArray))} {key : ByteArray} {x : Option ByteArray} : ∀ (i j : Nat), j ∈ scan O key x i ↔ j < i ∧ carT (O.getD j []) key x = true
  | 0, j => by simp [scan]
  | i + 1, j => by
    rw [scan]
    split
    · rename_i hc
      rw [List.mem_append, mem_scan i j]
      simp
      constructor
      · rintro (⟨h1, h2⟩ | rfl)
        · exact ⟨by omega, h2⟩
        · exact ⟨by omega, by simpa using hc⟩
      · rintro ⟨h1, h2⟩
        by_cases e : j = i
        · exact .inr e
        · exact .inl ⟨by omega, h2⟩
    · rename_i hc
      rw [mem_scan i j]
      constructor
      · rintro ⟨h1, h2⟩; exact ⟨by omega, h2⟩
      · rintro ⟨h1, h2⟩
        refine ⟨?_, h2⟩
        by_cases e : j = i
        · subst e; exact absurd h2 hc
        · omega

theorem scan_prefix {O : List (List (ByteArray × ByteArray))} {key : ByteArray} {x : Option ByteArray} {i : Nat} : ∀ {n : Nat}, i ≤ n → ∃ r, scan O key x n = scan O key x i ++ r
  | 0, h => ⟨[], by have : i = 0 := by omega
                    subst this; simp⟩
  | n + 1, h => by
    by_cases e : i = n + 1
    · subst e; exact ⟨[], by simp⟩
    · obtain ⟨r, hr⟩ := scan_prefix (O := O) (key := key) (x := x) (i := i) (n := n) (by omega)
      rw [scan]
      split
      · exact ⟨r ++ [n], by rw [hr, List.append_assoc]⟩
      · exact ⟨r, hr⟩

theorem scan_len (O : List (List (ByteArray × ByteArray))) (key : ByteArray) (x : Option ByteArray) : ∀ i, (scan O key x i).length ≤ i
  | 0 => by simp [scan]
  | i + 1 => by
    rw [scan]
    have := scan_len O key x i
    split
    · simp; omega
    · omega

end Go.Proofs.Qxb6601049a
