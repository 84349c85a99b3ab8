/-
  The argument []Req (type 52), opened.
-/
import Derived.Test.Qxb6601049aOpen
namespace Go.Proofs.Qxb6601049a
open Go.ChangeShapes Go.WideShapes Go.ChangeAt Go.RowKit Go.Deep
set_option linter.unusedVariables false

section
variable {H : Type} {enc : TypeId × Value → H} {W : World} {spare : Nat → Bool} {held : Bool}

theorem choose_rq {n : Nat} {p : Nat → Rq → Prop} (h : ∀ i, i < n → ∃ x, p i x) : ∃ f : Nat → Rq, ∀ i, i < n → p i (f i) := by
  have h' : ∀ i, ∃ x, i < n → p i x := fun i => by
    by_cases hi : i < n
    · obtain ⟨x, hx⟩ := h i hi
      exact ⟨x, fun _ => hx⟩
    · exact ⟨⟨⟨#[]⟩, [], false, false⟩, fun hc => absurd hc hi⟩
  exact ⟨fun i => Classical.choose (h' i), fun i hi => Classical.choose_spec (h' i) hi⟩

theorem open_svals {fuel : Nat} {v : Value} {x : DataW H × List MemPlace} (h : DataW.trod enc Try.prog W 0 spare held fuel 60 [v] = some x) : ∃ (S : List ByteArray) (va : Option Addr) (vc : Nat), v = .slice va S.length vc ∧ StrRow W va S ∧ S.length ≤ maxLen := by
  rcases open_strs (e := 9) Try.underlying60 Try.underlying9 (by kernel_rfl) h with ⟨hcs, _⟩ | ⟨ad, len, cap, m, Sx, hcs, _, hl, hm, hmm, _, hx⟩
  · have hv : v = .slice none 0 0 := by simpa using hcs
    exact ⟨[], none, 0, hv, ⟨fun _ => rfl, .inl rfl⟩, Nat.zero_le _⟩
  · have hv : v = .slice (some ad) len cap := by simpa using hcs
    have hlm : len ≤ m := by rw [hmm]; split <;> omega
    refine ⟨(List.range len).map Sx, some ad, cap, by simpa using hv, ⟨fun h => (by cases h), ?_⟩, by simp; omega⟩
    by_cases h0 : len = 0
    · subst h0; exact .inl rfl
    · obtain ⟨b, off, spot⟩ := ad
      have hspot : spot = none := by simpa [Addr.add] using World.cell?_spot (hx 0 (by omega)).1
      subst hspot
      refine .inr ⟨b, off, rfl, fun j s hj => ?_⟩
      have hjl : j < len := by
        have := (List.getElem?_eq_some_iff.1 hj).1
        simpa using this
      have e : s = Sx j := by simpa [hjl, eq_comm] using hj
      subst e
      have := (hx j (by omega)).1
      rw [add_plain] at this
      exact this

theorem open_reqs {fuel : Nat} {a : Option Addr} {len cap : Nat} {x : DataW H × List MemPlace} (h : DataW.trod enc Try.prog W 0 spare held fuel 52 [.slice a len cap] = some x) : ∃ R, R.length = len ∧ ReqRow W a R ∧ LenR R := by
  rcases open_slice (e := 62) Try.underlying52 h with ⟨hcs, _⟩ | ⟨ad, l, c, m, n, D, Pl, hcs, _, hl, hm, hmm, _, hx⟩
  · obtain ⟨rfl, rfl, rfl⟩ := slice_inj hcs
    exact ⟨[], rfl, ⟨fun _ => rfl, .inl rfl⟩, Nat.zero_le _, fun i l h => by simp at h⟩
  · obtain ⟨rfl, rfl, rfl⟩ := slice_inj hcs
    have hlm : len ≤ m := by rw [hmm]; split <;> omega
    have hce : Try.prog.cellsOf 62 = 4 := by kernel_rfl
    rw [hce] at hx
    have each : ∀ i, i < len → ∃ r : Rq, W.cell? (ad.add (i * 4)) = some (.string r.key) ∧ (∃ va vc, W.cell? (ad.add (i * 4 + 1)) = some (.slice va r.vals.length vc) ∧ StrRow W va r.vals) ∧ W.cell? (ad.add (i * 4 + 2)) = some (.bool r.any) ∧ W.cell? (ad.add (i * 4 + 3)) = some (.bool r.neg) ∧ r.vals.length ≤ maxLen := by
      intro i hi
      obtain ⟨cs', h1, h2⟩ := hx i (by omega)
      obtain ⟨_, hlen, hcell⟩ := World.cells?_some h1
      obtain ⟨xs, k, hk, hxy, _, hxl, hf⟩ := DataW.trod_struct Try.underlying62 h2
      match xs, hxl, cs', hlen with
      | [y0, y1, y2, y3], _, [v0, v1, v2, v3], _ =>
        have g0 := hf 0 _ rfl
        have g1 := hf 1 _ rfl
        have g2 := hf 2 _ rfl
        have g3 := hf 3 _ rfl
        have e0 := hcell 0 (by omega)
        have e1 := hcell 1 (by omega)
        have e2 := hcell 2 (by omega)
        have e3 := hcell 3 (by omega)
        rw [add_add] at e0 e1 e2 e3
        have c9 : Try.prog.cellsOf 9 = 1 := by kernel_rfl
        have c60 : Try.prog.cellsOf 60 = 1 := by kernel_rfl
        have c4 : Try.prog.cellsOf 4 = 1 := by kernel_rfl
        simp [c9, c60, c4] at g0 g1 g2 g3
        obtain ⟨s, f0, _, _⟩ := DataW.trod_string Try.underlying9 g0
        obtain ⟨S, va, vc, f1, hS, hSl⟩ := open_svals g1
        obtain ⟨b2, f2, _⟩ := DataW.trod_bool Try.underlying4 g2
        obtain ⟨b3, f3, _⟩ := DataW.trod_bool Try.underlying4 g3
        have f0' : v0 = .string s := by simpa using f0
        have f2' : v2 = .bool b2 := by simpa using f2
        have f3' : v3 = .bool b3 := by simpa using f3
        subst f0' f1 f2' f3'
        exact ⟨⟨s, S, b2, b3⟩, by simpa using e0, ⟨va, vc, by simpa using e1, hS⟩, by simpa using e2, by simpa using e3, hSl⟩
    obtain ⟨f, hf⟩ := choose_rq each
    have hget : ∀ j r, ((List.range len).map f)[j]? = some r → j < len ∧ r = f j := by
      intro j r hj
      have hjl : j < len := by
        have := (List.getElem?_eq_some_iff.1 hj).1
        simpa using this
      exact ⟨hjl, by simpa [hjl, eq_comm] using hj⟩
    refine ⟨(List.range len).map f, by simp, ⟨fun h => (by cases h), ?_⟩, by simp; omega, fun j r hj => ?_⟩
    · by_cases h0 : len = 0
      · subst h0; exact .inl rfl
      · obtain ⟨b, off, spot⟩ := ad
        have hspot : spot = none := by simpa [Addr.add] using World.cell?_spot (hf 0 (by omega)).1
        subst hspot
        refine .inr ⟨b, off, rfl, fun j r hj => ?_⟩
        obtain ⟨hjl, rfl⟩ := hget j r hj
        obtain ⟨q0, ⟨va, vc, q1, q2⟩, q3, q4, _⟩ := hf j hjl
        rw [add_plain] at q0 q1 q3 q4
        exact ⟨q0, ⟨va, vc, by rw [Nat.add_assoc]; exact q1, q2⟩, by rw [Nat.add_assoc]; exact q3, by rw [Nat.add_assoc]; exact q4⟩
    · obtain ⟨hjl, rfl⟩ := hget j r hj
      exact (hf j hjl).2.2.2.2

end
end Go.Proofs.Qxb6601049a
