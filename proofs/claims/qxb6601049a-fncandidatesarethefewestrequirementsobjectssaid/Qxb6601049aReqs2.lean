import Derived.Test.Qxb6601049aReqs
import Derived.Deep.RegionHeld3
namespace Go.Proofs.Qxb6601049a
open Go.ChangeShapes Go.WideShapes Go.ChangeAt Go.RowKit
set_option linter.unusedVariables false

theorem StrRow.set_ne {w : World} {a : Option Addr} {S : List ByteArray} (h : StrRow w a S) {p : Addr} (hp : ∀ ad : Addr, a = some ad → p.block < ad.block) (u : Value) : StrRow (w.setCell p u) a S := by
  refine ⟨h.1, ?_⟩
  rcases h.2 with h0 | ⟨b, off, ha, hc⟩
  · exact .inl h0
  · refine .inr ⟨b, off, ha, fun j s hj => ?_⟩
    have hb := hp _ ha
    have hb' : b ≠ p.block := by simp only at hb; omega
    rw [cell_set_ne (by exact hb')]
    exact hc j s hj

/-- what cloneReqs has laid for one requirement -/
def RqAt (w : World) (base : Nat) (xs : List Value) (j : Nat) (r : Rq) : Prop :=
  xs[j * 4]? = some (.string r.key) ∧ (∃ va vc, xs[j * 4 + 1]? = some (.slice va r.vals.length vc) ∧ StrRow w va r.vals ∧ ∀ ad : Addr, va = some ad → base < ad.block) ∧ xs[j * 4 + 2]? = some (.bool r.any) ∧ xs[j * 4 + 3]? = some (.bool r.neg)

/-- the relation of cloneReqs' loop -/
def CrRel (w : World) (R : List Rq) (k : Nat) (wr : World) : Prop :=
  ∃ xs, wr.ownsRow w.heap.size 62 4 (.slice (some ⟨w.heap.size, 0, none⟩) R.length R.length) R.length xs ∧
    (∀ j r, j < k → R[j]? = some r → RqAt wr w.heap.size xs j r) ∧ Below w.heap.size w wr ∧ w.heap.size < wr.heap.size

/-- the four stores -/
def set4 (w : World) (g o : Nat) (a b c d : Value) : World := (((w.setCell ⟨g, o, none⟩ a).setCell ⟨g, o + 1, none⟩ b).setCell ⟨g, o + 2, none⟩ c).setCell ⟨g, o + 3, none⟩ d

theorem far4 {w : World} {g o B x : Nat} {a b c d v : Value} (h : B < g) (hv : w.cell? ⟨B, x, none⟩ = some v) :
    ((((w.setCell ⟨g, o, none⟩ a).setCell ⟨g, o + 1, none⟩ b).setCell ⟨g, o + 2, none⟩ c).setCell ⟨g, o + 3, none⟩ d).cell? ⟨B, x, none⟩ = some v := by
  have hne : B ≠ g := by omega
  rw [cell_set_ne (by exact hne), cell_set_ne (by exact hne), cell_set_ne (by exact hne), cell_set_ne (by exact hne)]
  exact hv

theorem CrRel.step {w wr w1 : World} {R : List Rq} {k : Nat} (h : CrRel w R k wr) (hk : k < R.length) {r : Rq} (hs : R[k]? = some r) {a' : Option Addr} {c' : Nat} (hb : Below wr.heap.size wr w1) (hl : StrRow w1 a' r.vals) (hf : ∀ ad : Addr, a' = some ad → wr.heap.size ≤ ad.block) :
    CrRel w R (k + 1) (set4 w1 w.heap.size (k * 4) (.string r.key) (.slice a' r.vals.length c') (.bool r.any) (.bool r.neg)) := by
  obtain ⟨xs, h1, h2, h3, h4⟩ := h
  have hg : wr.grownBy w1 none := ⟨hb.os, hb.tape, hb.output, hb.size, fun i hi _ => hb.block i hi⟩
  have h1' := h1.kept hg (by right; simp [Value.ownBlock])
  have q1 := (h1'.stored (k * 4) (.string r.key)).1
  have q2 := (q1.stored (k * 4 + 1) (.slice a' r.vals.length c')).1
  have q3 := (q2.stored (k * 4 + 2) (.bool r.any)).1
  have q4 := (q3.stored (k * 4 + 3) (.bool r.neg)).1
  have hlen : xs.length = R.length * 4 := h1.1
  refine ⟨_, q4, fun j t hj ht => ?_, ((((h3.trans (hb.mono h3.size)).setCell (Nat.le_refl _) _).setCell (Nat.le_refl _) _).setCell (Nat.le_refl _) _).setCell (Nat.le_refl _) _, by have := hb.size; simp [World.setCell, set4]; omega⟩
  have srow : ∀ {va : Option Addr} {S : List ByteArray}, StrRow w1 va S → (∀ ad : Addr, va = some ad → w.heap.size < ad.block) → StrRow (set4 w1 w.heap.size (k * 4) (.string r.key) (.slice a' r.vals.length c') (.bool r.any) (.bool r.neg)) va S := by
    intro va S h hp
    exact (((h.set_ne hp _).set_ne hp _).set_ne hp _).set_ne hp _
  unfold RqAt
  simp only [List.getElem?_set, List.length_set]
  by_cases e : k = j
  · subst e
    rw [hs] at ht
    cases ht
    have hf' : ∀ ad : Addr, a' = some ad → w.heap.size < ad.block := fun ad had => by have := hf ad had; omega
    refine ⟨?_, ⟨a', c', ?_, srow hl hf', hf'⟩, ?_, ?_⟩
    · rw [if_neg (by omega), if_neg (by omega), if_neg (by omega), if_pos rfl, if_pos (by omega)]
    · rw [if_neg (by omega), if_neg (by omega), if_pos rfl, if_pos (by omega)]
    · rw [if_neg (by omega), if_pos rfl, if_pos (by omega)]
    · rw [if_pos rfl, if_pos (by omega)]
  · obtain ⟨g0, ⟨va, vc, g1, g2, g3⟩, g4, g5⟩ := h2 j t (by omega) ht
    refine ⟨?_, ⟨va, vc, ?_, srow (g2.below hb) g3, g3⟩, ?_, ?_⟩
    · rw [if_neg (by omega), if_neg (by omega), if_neg (by omega), if_neg (by omega)]; exact g0
    · rw [if_neg (by omega), if_neg (by omega), if_neg (by omega), if_neg (by omega)]; exact g1
    · rw [if_neg (by omega), if_neg (by omega), if_neg (by omega), if_neg (by omega)]; exact g4
    · rw [if_neg (by omega), if_neg (by omega), if_neg (by omega), if_neg (by omega)]; exact g5

def cloneRPost (R : List Rq) (w : World) (e : Ending) (w' : World) : Prop :=
  ∃ a' c', e = .returned (.slice a' R.length c') ∧ ReqRow w' a' R ∧ Below w.heap.size w w'

theorem CrRel.fin {w wr : World} {R : List Rq} (h : CrRel w R R.length wr) : ReqRow wr (some ⟨w.heap.size, 0, none⟩) R ∧ Below w.heap.size w wr := by
  obtain ⟨xs, h1, h2, h3, h4⟩ := h
  refine ⟨⟨fun h => by (cases h), .inr ⟨_, _, rfl, fun j r hj => ?_⟩⟩, h3⟩
  have hl : j < R.length := (List.getElem?_eq_some_iff.1 hj).1
  obtain ⟨g0, ⟨va, vc, g1, g2, g3⟩, g4, g5⟩ := h2 j r hl hj
  simp only [Nat.zero_add]
  exact ⟨(h1.cellAt _ (by omega)).trans g0, ⟨va, vc, (h1.cellAt _ (by omega)).trans g1, g2⟩, (h1.cellAt _ (by omega)).trans g4, (h1.cellAt _ (by omega)).trans g5⟩

set_option maxRecDepth 8000 in
set_option maxHeartbeats 1600000 in
theorem cloneReqs_any (a : Option Addr) (R : List Rq) (c : Nat) (w : World) (hs : SmallR R) (hr : ReqRow w a R) :
    Calls Try.prog 32 #[.slice a R.length c] w (cloneRPost R w) := by
  obtain ⟨i0, hi, hz0, hz1, hz2⟩ := info_parts Try.info62
  have hne := fun w a n c => Lib.run_eql_slice_nil (P := Try.prog) w 52 62 a n c 0 0 Try.underlying52
  have hl := hs.1
  have HS := hide hs
  clear hs
  cases a with
  | none =>
    have h0 := hr.1 rfl
    subst h0
    go_enter Try.func32, Try.ntmps32
    go_wp2
    go_ret
    exact ⟨none, 0, rfl, hr, Below.refl _ _⟩
  | some ad =>
    have HR := hide hr
    clear hr
    go_enter Try.func32, Try.ntmps32
    go_wp2_with (first | (at_make; refine wpList_make_full _ rfl _ _ 52 rfl w.heap.size 62 i0 (.agg #[.string ⟨#[]⟩, .slice none 0 0, .bool false, .bool false]) 4 Try.underlying52 hi hz0 hz1 .i64 .i64 _ _ R.length rfl rfl rfl rfl ?_ ?_ ?_ ?_) | go_in)
    · rw [hz2]; omega
    · unfold maxLen; omega
    · exact Nat.le_refl _
    intro w1 hown hgrow
    have hlt1 := (hown.lt _ rfl).2
    have hst : CrRel w R 0 w1 := ⟨_, hown, fun j s hj => absurd hj (Nat.not_lt_zero _), (Below.refl _ _).grown hgrow (Nat.le_refl _) (fun k h => by cases h), hlt1⟩
    have HST := hide hst
    clear hown hgrow hst hi hz0 hz1 hz2 hlt1
    go_wp2
    go_loopw [4] (fun i wr => ∃ k : Nat, k ≤ R.length ∧ i = .int .i64 k ∧ CrRel w R k wr) (fun i _ => R.length - (intOf i).toNat)
    case atStart => exact ⟨0, Nat.zero_le _, rfl, HST.out⟩
    case round =>
      clear HST
      obtain ⟨k, hk, rfl, hrel⟩ := hrel
      by_cases hlt : k < R.length
      · obtain ⟨b, off, r, va, vc, had, hs, c0, c1, c2, c3, hst⟩ := HR.out.at hlt
        obtain rfl : ad = ⟨b, off, none⟩ := by simpa using had
        have hll := HS.out.2 k r hs
        have HN := hide (fun w1 a' c' hb hl hf => hrel.step (w1 := w1) (a' := a') (c' := c') hlt hs hb hl hf)
        have hbw : Below w.heap.size w wr := by obtain ⟨_, _, _, h, _⟩ := hrel; exact h
        obtain ⟨xs, h1, h2, h3, h4⟩ := hrel
        have hbl : b < w.heap.size := World.block_lt_of_cell? w _ c0
        have hbl2 : b < wr.heap.size := by omega
        have d0 : wr.cell? ⟨b, off + k * 4, none⟩ = some (.string r.key) := (h3.cell (p := ⟨b, off + k * 4, none⟩) hbl).trans c0
        have d1 : wr.cell? ⟨b, off + k * 4 + 1, none⟩ = some (.slice va r.vals.length vc) := (h3.cell (p := ⟨b, off + k * 4 + 1, none⟩) hbl).trans c1
        have d2 : wr.cell? ⟨b, off + k * 4 + 2, none⟩ = some (.bool r.any) := (h3.cell (p := ⟨b, off + k * 4 + 2, none⟩) hbl).trans c2
        have d3 : wr.cell? ⟨b, off + k * 4 + 3, none⟩ = some (.bool r.neg) := (h3.cell (p := ⟨b, off + k * 4 + 3, none⟩) hbl).trans c3
        have HC := hide (fun w' (hb : Below wr.heap.size wr w') => cloneStrings_any va r.vals vc w' hll ((hst.below hbw).below hb))
        obtain ⟨v0, _, hv0⟩ := owns_get h1 (k * 4) (by omega)
        obtain ⟨v1, _, hv1⟩ := owns_get h1 (k * 4 + 1) (by omega)
        obtain ⟨v2, _, hv2⟩ := owns_get h1 (k * 4 + 2) (by omega)
        obtain ⟨v3, _, hv3⟩ := owns_get h1 (k * 4 + 3) (by omega)
        have hf0 := h1.frozenAt (k * 4)
        have hf1 := h1.frozenAt (k * 4 + 1)
        have hf2 := h1.frozenAt (k * 4 + 2)
        have hf3 := h1.frozenAt (k * 4 + 3)
        have hlt' : (k : Int) < (R.length : Int) := by omega
        have hlt0 : (0 : Int) ≤ (k : Int) := by omega
        have HO : Hid (∀ w2 : World, Below wr.drew.heap.size wr.drew w2 → w2.cell? ⟨w.heap.size, k * 4, none⟩ = some v0 ∧ w2.cell? ⟨w.heap.size, k * 4 + 1, none⟩ = some v1 ∧ w2.cell? ⟨w.heap.size, k * 4 + 2, none⟩ = some v2 ∧ w2.cell? ⟨w.heap.size, k * 4 + 3, none⟩ = some v3 ∧
            w2.frozen? ⟨w.heap.size, k * 4, none⟩ = false ∧ w2.frozen? ⟨w.heap.size, k * 4 + 1, none⟩ = false ∧ w2.frozen? ⟨w.heap.size, k * 4 + 2, none⟩ = false ∧ w2.frozen? ⟨w.heap.size, k * 4 + 3, none⟩ = false) := by
          intro w2 hb
          exact ⟨(hb.cell (p := ⟨w.heap.size, k * 4, none⟩) h4).trans hv0, (hb.cell (p := ⟨w.heap.size, k * 4 + 1, none⟩) h4).trans hv1, (hb.cell (p := ⟨w.heap.size, k * 4 + 2, none⟩) h4).trans hv2, (hb.cell (p := ⟨w.heap.size, k * 4 + 3, none⟩) h4).trans hv3,
            (hb.frozen (p := ⟨w.heap.size, k * 4, none⟩) h4).trans hf0, (hb.frozen (p := ⟨w.heap.size, k * 4 + 1, none⟩) h4).trans hf1, (hb.frozen (p := ⟨w.heap.size, k * 4 + 2, none⟩) h4).trans hf2, (hb.frozen (p := ⟨w.heap.size, k * 4 + 3, none⟩) h4).trans hf3⟩
        clear hv0 hv1 hv2 hv3 hf0 hf1 hf2 hf3
        have hbne : w.heap.size ≠ b := by omega
        generalize r.key = key at d0 HN
        generalize r.any = any at d2 HN
        generalize r.neg = neg at d3 HN
        generalize r.vals = vals at d1 HN HC hll
        have HZ : Hid (∀ w2 : World, Below wr.drew.heap.size wr.drew w2 → w2.cell? ⟨b, off + k * 4, none⟩ = some (.string key) ∧ w2.cell? ⟨b, off + k * 4 + 1, none⟩ = some (.slice va vals.length vc) ∧ w2.cell? ⟨b, off + k * 4 + 2, none⟩ = some (.bool any) ∧ w2.cell? ⟨b, off + k * 4 + 3, none⟩ = some (.bool neg)) := by
          intro w2 hb
          exact ⟨(hb.cell (p := ⟨b, off + k * 4, none⟩) hbl2).trans d0, (hb.cell (p := ⟨b, off + k * 4 + 1, none⟩) hbl2).trans d1, (hb.cell (p := ⟨b, off + k * 4 + 2, none⟩) hbl2).trans d2, (hb.cell (p := ⟨b, off + k * 4 + 3, none⟩) hbl2).trans d3⟩
        clear h1 h2 h3 c0 c1 c2 c3 had hs hst hbw hll HR
        go_wp2_with fail
        go_region_held3 (fun w' => w'.cell? ⟨b, off + k * 4, none⟩ = some (.string key) ∧ w'.cell? ⟨b, off + k * 4 + 1, none⟩ = some (.slice va vals.length vc) ∧ w'.cell? ⟨b, off + k * 4 + 2, none⟩ = some (.bool any) ∧ w'.cell? ⟨b, off + k * 4 + 3, none⟩ = some (.bool neg))
          (go_keep)
          (first | (go_at_call 46; refine (HC.out _ ((Below.refl _ _).drew)).mono ?_; rintro e w2 ⟨a', c', rfl, hl2, hf2', hb2⟩; obtain ⟨x0, x1, x2, x3, y0, y1, y2, y3⟩ := HO.out w2 hb2; obtain ⟨z0, z1, z2, z3⟩ := HZ.out w2 hb2; have HB2 := hide hb2; have HL2 := hide hl2; have HF2 := hide hf2'; clear hb2 hl2 hf2'))
        go_wp2
        go_roundw
        case rel => exact ⟨k + 1, by omega, by go_num, HN.out w2 a' c' ((Below.refl _ _).drew.trans HB2.out) HL2.out HF2.out⟩
        case measure => simp [intOf]; omega
      · have hkl : k = R.length := by omega
        rw [hkl] at hrel
        have HF := hide hrel.fin
        clear hrel hkl
        go_wp2
        go_ret
        exact ⟨_, _, rfl, HF.out.1, HF.out.2⟩

end Go.Proofs.Qxb6601049a
