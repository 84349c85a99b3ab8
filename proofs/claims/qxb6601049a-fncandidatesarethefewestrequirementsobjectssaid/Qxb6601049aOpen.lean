/-
  The arguments, opened: [][]Label (type 31), []Label (32), []Req (52).
-/
import Derived.Test.Qxb6601049aZz
import Derived.OpenShut
import Derived.Deep.SlicePairs
import Derived.Deep.Strs
namespace Go.Proofs.Qxb6601049a
open Go.ChangeShapes Go.WideShapes Go.ChangeAt Go.RowKit Go.Deep
set_option linter.unusedVariables false

section
variable {H : Type} {enc : TypeId × Value → H} {W : World} {spare : Nat → Bool} {held : Bool}

theorem slice_inj {a b : Option Addr} {l l' c c' : Nat} (h : [Value.slice a l c] = [.slice b l' c']) : a = b ∧ l = l' ∧ c = c' := by
  simpa using h

theorem open_lbls {fuel : Nat} {a : Option Addr} {len cap : Nat} {x : DataW H × List MemPlace} (h : DataW.trod enc Try.prog W 0 spare held fuel 32 [.slice a len cap] = some x) : ∃ l, l.length = len ∧ LblRow W a l ∧ len ≤ maxLen := by
  rcases open_slice_pairs (e := 45) Try.underlying32 Try.underlying45 (by kernel_rfl) rfl rfl (by kernel_rfl) (by kernel_rfl) h with ⟨hcs, _⟩ | ⟨ad, l, c, m, n, V0, V1, D0, D1, P0, P1, hcs, _, hl, hm, hmm, _, hx⟩
  · obtain ⟨rfl, rfl, rfl⟩ := slice_inj hcs
    exact ⟨[], rfl, ⟨fun _ => rfl, .inl rfl⟩, Nat.zero_le _⟩
  · obtain ⟨rfl, rfl, rfl⟩ := slice_inj hcs
    have hlm : len ≤ m := by rw [hmm]; split <;> omega
    have each : ∀ i, i < len → ∃ kv : ByteArray × ByteArray, W.cell? (ad.add (i * 2)) = some (.string kv.1) ∧ W.cell? (ad.add (i * 2 + 1)) = some (.string kv.2) := by
      intro i hi
      obtain ⟨h1, h2, h3, h4⟩ := hx i (by omega)
      obtain ⟨s, e1, _, _⟩ := DataW.trod_string Try.underlying9 h3
      obtain ⟨s', e2, _, _⟩ := DataW.trod_string Try.underlying9 h4
      refine ⟨(s, s'), ?_, ?_⟩
      · rw [h1]; simpa using e1
      · rw [h2]; simpa using e2
    obtain ⟨f, hf⟩ := choose_lt (α := ByteArray × ByteArray) each
    refine ⟨(List.range len).map f, by simp, ⟨fun h => (by cases h), ?_⟩, by omega⟩
    by_cases h0 : len = 0
    · subst h0; exact .inl rfl
    · obtain ⟨b, off, spot⟩ := ad
      have hspot : spot = none := by simpa [Addr.add] using World.cell?_spot (hf 0 (by omega)).1
      subst hspot
      refine .inr ⟨b, off, rfl, fun j kv hj => ?_⟩
      have hjl : j < len := by
        have := (List.getElem?_eq_some_iff.1 hj).1
        simpa using this
      have e : kv = f j := by simpa [hjl, eq_comm] using hj
      subst e
      have := hf j hjl
      rw [add_plain, add_plain] at this
      exact ⟨this.1, by rw [Nat.add_assoc]; exact this.2⟩

theorem open_objs {fuel : Nat} {a : Option Addr} {len cap : Nat} {x : DataW H × List MemPlace} (h : DataW.trod enc Try.prog W 0 spare held fuel 31 [.slice a len cap] = some x) : ∃ O, O.length = len ∧ ObjRow W a O ∧ LenO O := by
  rcases open_slice1 (e := 32) Try.underlying31 (by kernel_rfl) h with ⟨hcs, _⟩ | ⟨ad, l, c, m, n, V, D, Pl, hcs, _, hl, hm, hmm, _, hx⟩
  · obtain ⟨rfl, rfl, rfl⟩ := slice_inj hcs
    exact ⟨[], rfl, ⟨fun _ => rfl, .inl rfl⟩, Nat.zero_le _, fun i l h => by simp at h⟩
  · obtain ⟨rfl, rfl, rfl⟩ := slice_inj hcs
    have hlm : len ≤ m := by rw [hmm]; split <;> omega
    have each : ∀ i, i < len → ∃ l : List (ByteArray × ByteArray), ∃ ai ci, W.cell? (ad.add i) = some (.slice ai l.length ci) ∧ LblRow W ai l ∧ l.length ≤ maxLen := by
      intro i hi
      obtain ⟨h1, h2⟩ := hx i (by omega)
      rcases DataW.trod_slice (e := 45) Try.underlying32 h2 with ⟨h0, _⟩ | ⟨ad', len', cap', _, _, _, _, h0, _⟩
      · have h0' : V i = .slice none 0 0 := by simpa using h0
        exact ⟨[], none, 0, by rw [h1, h0']; rfl, ⟨fun _ => rfl, .inl rfl⟩, Nat.zero_le _⟩
      · have h0' : V i = .slice (some ad') len' cap' := by simpa using h0
        rw [h0'] at h1 h2
        obtain ⟨l, e, hr, hml⟩ := open_lbls h2
        subst e
        exact ⟨l, _, _, h1, hr, hml⟩
    obtain ⟨f, hf⟩ := choose_lt (α := List (ByteArray × ByteArray)) each
    have hget : ∀ j l, ((List.range len).map f)[j]? = some l → j < len ∧ l = f j := by
      intro j l hj
      have hjl : j < len := by
        have := (List.getElem?_eq_some_iff.1 hj).1
        simpa using this
      exact ⟨hjl, by simpa [hjl, eq_comm] using hj⟩
    refine ⟨(List.range len).map f, by simp, ⟨fun h => (by cases h), ?_⟩, by simp; omega, fun j l hj => ?_⟩
    · by_cases h0 : len = 0
      · subst h0; exact .inl rfl
      · obtain ⟨b, off, spot⟩ := ad
        have hspot : spot = none := by
          obtain ⟨_, _, hc, _⟩ := hf 0 (by omega)
          simpa [Addr.add] using World.cell?_spot hc
        subst hspot
        refine .inr ⟨b, off, rfl, fun j l hj => ?_⟩
        obtain ⟨hjl, rfl⟩ := hget j l hj
        obtain ⟨ai, ci, hc, hr, _⟩ := hf j hjl
        rw [add_plain] at hc
        exact ⟨ai, ci, hc, hr⟩
    · obtain ⟨hjl, rfl⟩ := hget j l hj
      obtain ⟨ai, ci, hc, hr, hml⟩ := hf j hjl
      exact hml

end
end Go.Proofs.Qxb6601049a
