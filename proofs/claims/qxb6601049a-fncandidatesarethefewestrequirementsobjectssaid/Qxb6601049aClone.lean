import Derived.Test.Qxb6601049aHelp4
namespace Go.Proofs.Qxb6601049a
open Go.ChangeShapes Go.WideShapes Go.ChangeAt Go.RowKit
set_option linter.unusedVariables false

theorem Try.info45 : (Try.prog.info? 45).map (fun i => (i.zero, i.size, i.bytes)) = some (some (.agg #[.string ⟨#[]⟩, .string ⟨#[]⟩]), 2, 32) := by kernel_rfl
theorem Try.info9 : (Try.prog.info? 9).map (fun i => (i.zero, i.size, i.bytes)) = some (some (.string ⟨#[]⟩), 1, 16) := by kernel_rfl
theorem Try.info32 : (Try.prog.info? 32).map (fun i => (i.zero, i.size, i.bytes)) = some (some (.slice none 0 0), 1, 24) := by kernel_rfl
theorem Try.info62 : (Try.prog.info? 62).map (fun i => (i.zero, i.size, i.bytes)) = some (some (.agg #[.string ⟨#[]⟩, .slice none 0 0, .bool false, .bool false]), 4, 48) := by kernel_rfl

theorem owns_get {w : World} {base g : Nat} {e : TypeId} {size len cap : Nat} {xs : List Value} (h : w.ownsRow base e size (.slice (some ⟨g, 0, none⟩) len cap) len xs) (j : Nat) (hj : j < len * size) : ∃ v, xs[j]? = some v ∧ w.cell? ⟨g, j, none⟩ = some v := by
  have h1 := h.1
  have h2 : xs[j]? = some xs[j] := List.getElem?_eq_getElem (by omega)
  exact ⟨xs[j], h2, (h.cellAt j hj).trans h2⟩

/-- the relation of cloneStrings' loop -/
def CsRel (w : World) (S : List ByteArray) (k : Nat) (wr : World) : Prop :=
  ∃ xs, wr.ownsRow w.heap.size 9 1 (.slice (some ⟨w.heap.size, 0, none⟩) S.length S.length) S.length xs ∧ (∀ j s, j < k → S[j]? = some s → xs[j]? = some (.string s)) ∧ Below w.heap.size w wr

theorem CsRel.step {w wr : World} {S : List ByteArray} {k : Nat} (h : CsRel w S k wr) (hk : k < S.length) {s : ByteArray} (hs : S[k]? = some s) : CsRel w S (k + 1) (wr.setCell ⟨w.heap.size, k, none⟩ (.string s)) := by
  obtain ⟨xs, h1, h2, h3⟩ := h
  refine ⟨_, (h1.stored k (.string s)).1, fun j t hj ht => ?_, h3.setCell (Nat.le_refl _) _⟩
  have hlen : xs.length = S.length := by have := h1.1; omega
  rw [List.getElem?_set]
  by_cases e : k = j
  · subst e
    rw [hs] at ht
    cases ht
    simp; omega
  · rw [if_neg e]; exact h2 j t (by omega) ht

def cloneSPost (a : Option Addr) (S : List ByteArray) (w : World) (e : Ending) (w' : World) : Prop :=
  ∃ a' c', e = .returned (.slice a' S.length c') ∧ StrRow w' a' S ∧ (∀ ad : Addr, a' = some ad → w.heap.size ≤ ad.block) ∧ Below w.heap.size w w'

theorem CsRel.fin {w wr : World} {S : List ByteArray} (h : CsRel w S S.length wr) : StrRow wr (some ⟨w.heap.size, 0, none⟩) S ∧ Below w.heap.size w wr := by
  obtain ⟨xs, h1, h2, h3⟩ := h
  refine ⟨⟨fun h => by (cases h), .inr ⟨_, _, rfl, fun j s hj => ?_⟩⟩, h3⟩
  have hl : j < S.length := (List.getElem?_eq_some_iff.1 hj).1
  rw [Nat.zero_add, h1.cellAt j (by omega)]
  exact h2 j s hl hj

set_option maxHeartbeats 400000 in
theorem cloneStrings_any (a : Option Addr) (S : List ByteArray) (c : Nat) (w : World) (hl : S.length ≤ 1048576) (hr : StrRow w a S) :
    Calls Try.prog 46 #[.slice a S.length c] w (cloneSPost a S w) := by
  obtain ⟨i0, hi, hz0, hz1, hz2⟩ := info_parts Try.info9
  have hne := fun w a n c => Lib.run_eql_slice_nil (P := Try.prog) w 60 9 a n c 0 0 Try.underlying60
  cases a with
  | none =>
    have h0 := hr.1 rfl
    subst h0
    go_enter Try.func46, Try.ntmps46
    go_wp2
    go_ret
    exact ⟨none, 0, rfl, hr, fun _ h => by (cases h), Below.refl _ _⟩
  | some ad =>
    have HR := hide hr
    clear hr
    go_enter Try.func46, Try.ntmps46
    go_wp2_with (first | (at_make; refine wpList_make_full _ rfl _ _ 60 rfl w.heap.size 9 i0 (.string ⟨#[]⟩) 1 Try.underlying60 hi hz0 hz1 .i64 .i64 _ _ S.length rfl rfl rfl rfl ?_ ?_ ?_ ?_) | go_in)
    · rw [hz2]; omega
    · unfold maxLen; omega
    · exact Nat.le_refl _
    intro w1 hown hgrow
    have hst : CsRel w S 0 w1 := ⟨_, hown, fun j s hj => absurd hj (Nat.not_lt_zero _), (Below.refl _ _).grown hgrow (Nat.le_refl _) (fun k h => by cases h)⟩
    have HST := hide hst
    clear hown hgrow hst hi hz0 hz1 hz2
    go_wp2
    go_loopw [4] (fun i wr => ∃ k : Nat, k ≤ S.length ∧ i = .int .i64 k ∧ CsRel w S k wr) (fun i _ => S.length - (intOf i).toNat)
    case atStart => exact ⟨0, Nat.zero_le _, rfl, HST.out⟩
    case round =>
      clear HST
      obtain ⟨k, hk, rfl, hrel⟩ := hrel
      by_cases hlt : k < S.length
      · obtain ⟨b, off, s, had, hs, c1⟩ := HR.out.at hlt
        obtain rfl : ad = ⟨b, off, none⟩ := by simpa using had
        have HN := hide (hrel.step hlt hs)
        obtain ⟨xs, h1, h2, h3⟩ := hrel
        have hc : wr.cell? ⟨b, off + k, none⟩ = some (.string s) := (h3.cell (p := ⟨b, off + k, none⟩) (World.block_lt_of_cell? w _ c1)).trans c1
        obtain ⟨v0, _, hv0⟩ := owns_get h1 k (by omega)
        have hf := h1.frozenAt k
        clear h1 h2 h3 c1 had hs
        go_wp2
        go_roundw
        case rel => exact ⟨k + 1, by omega, by go_num, HN.out⟩
        case measure => simp [intOf]; omega
      · have hkl : k = S.length := by omega
        rw [hkl] at hrel
        have HF := hide hrel.fin
        clear hrel hkl
        go_wp2
        go_ret
        exact ⟨_, _, rfl, HF.out.1, fun ad h => by (cases h; exact Nat.le_refl _), HF.out.2⟩

/-- the relation of cloneLabelList's loop -/
def ClRel (w : World) (l : List (ByteArray × ByteArray)) (k : Nat) (wr : World) : Prop :=
  ∃ xs, wr.ownsRow w.heap.size 45 2 (.slice (some ⟨w.heap.size, 0, none⟩) l.length l.length) l.length xs ∧ (∀ j kv, j < k → l[j]? = some kv → xs[j * 2]? = some (.string kv.1) ∧ xs[j * 2 + 1]? = some (.string kv.2)) ∧ Below w.heap.size w wr

theorem ClRel.step {w wr : World} {l : List (ByteArray × ByteArray)} {k : Nat} (h : ClRel w l k wr) (hk : k < l.length) {kk vv : ByteArray} (hs : l[k]? = some (kk, vv)) :
    ClRel w l (k + 1) ((wr.setCell ⟨w.heap.size, k * 2, none⟩ (.string kk)).setCell ⟨w.heap.size, k * 2 + 1, none⟩ (.string vv)) := by
  obtain ⟨xs, h1, h2, h3⟩ := h
  refine ⟨_, ((h1.stored (k * 2) (.string kk)).1.stored (k * 2 + 1) (.string vv)).1, fun j t hj ht => ?_, (h3.setCell (Nat.le_refl _) _).setCell (Nat.le_refl _) _⟩
  have hlen : xs.length = l.length * 2 := h1.1
  by_cases e : k = j
  · subst e
    rw [hs] at ht
    cases ht
    simp only [List.getElem?_set, List.length_set]
    constructor
    · rw [if_neg (by omega), if_pos trivial, if_pos (by omega)]
    · rw [if_pos trivial, if_pos (by omega)]
  · simp only [List.getElem?_set, List.length_set]
    rw [if_neg (by omega), if_neg (by omega), if_neg (by omega), if_neg (by omega)]
    exact h2 j t (by omega) ht

def cloneLPost (l : List (ByteArray × ByteArray)) (w : World) (e : Ending) (w' : World) : Prop :=
  ∃ a' c', e = .returned (.slice a' l.length c') ∧ LblRow w' a' l ∧ (∀ ad : Addr, a' = some ad → w.heap.size ≤ ad.block) ∧ Below w.heap.size w w'

theorem ClRel.fin {w wr : World} {l : List (ByteArray × ByteArray)} (h : ClRel w l l.length wr) : LblRow wr (some ⟨w.heap.size, 0, none⟩) l ∧ Below w.heap.size w wr := by
  obtain ⟨xs, h1, h2, h3⟩ := h
  refine ⟨⟨fun h => by (cases h), .inr ⟨_, _, rfl, fun j s hj => ?_⟩⟩, h3⟩
  have hl : j < l.length := (List.getElem?_eq_some_iff.1 hj).1
  rw [Nat.zero_add, h1.cellAt (j * 2) (by omega), h1.cellAt (j * 2 + 1) (by omega)]
  exact h2 j s hl hj

set_option maxHeartbeats 400000 in
theorem cloneLabelList_any (a : Option Addr) (l : List (ByteArray × ByteArray)) (c : Nat) (w : World) (hl : l.length ≤ 1048576) (hr : LblRow w a l) :
    Calls Try.prog 20 #[.slice a l.length c] w (cloneLPost l w) := by
  obtain ⟨i0, hi, hz0, hz1, hz2⟩ := info_parts Try.info45
  have hne := fun w a n c => Lib.run_eql_slice_nil (P := Try.prog) w 32 45 a n c 0 0 Try.underlying32
  cases a with
  | none =>
    have h0 := hr.1 rfl
    subst h0
    go_enter Try.func20, Try.ntmps20
    go_wp2
    go_ret
    exact ⟨none, 0, rfl, hr, fun _ h => by (cases h), Below.refl _ _⟩
  | some ad =>
    have HR := hide hr
    clear hr
    go_enter Try.func20, Try.ntmps20
    go_wp2_with (first | (at_make; refine wpList_make_full _ rfl _ _ 32 rfl w.heap.size 45 i0 (.agg #[.string ⟨#[]⟩, .string ⟨#[]⟩]) 2 Try.underlying32 hi hz0 hz1 .i64 .i64 _ _ l.length rfl rfl rfl rfl ?_ ?_ ?_ ?_) | go_in)
    · rw [hz2]; omega
    · unfold maxLen; omega
    · exact Nat.le_refl _
    intro w1 hown hgrow
    have hst : ClRel w l 0 w1 := ⟨_, hown, fun j s hj => absurd hj (Nat.not_lt_zero _), (Below.refl _ _).grown hgrow (Nat.le_refl _) (fun k h => by cases h)⟩
    have HST := hide hst
    clear hown hgrow hst hi hz0 hz1 hz2
    go_wp2
    go_loopw [4] (fun i wr => ∃ k : Nat, k ≤ l.length ∧ i = .int .i64 k ∧ ClRel w l k wr) (fun i _ => l.length - (intOf i).toNat)
    case atStart => exact ⟨0, Nat.zero_le _, rfl, HST.out⟩
    case round =>
      clear HST
      obtain ⟨k, hk, rfl, hrel⟩ := hrel
      by_cases hlt : k < l.length
      · obtain ⟨b, off, kk, vv, had, hs, c1, c2⟩ := HR.out.at hlt
        obtain rfl : ad = ⟨b, off, none⟩ := by simpa using had
        have HN := hide (hrel.step hlt hs)
        obtain ⟨xs, h1, h2, h3⟩ := hrel
        have hc1 : wr.cell? ⟨b, off + k * 2, none⟩ = some (.string kk) := (h3.cell (p := ⟨b, off + k * 2, none⟩) (World.block_lt_of_cell? w _ c1)).trans c1
        have hc2 : wr.cell? ⟨b, off + k * 2 + 1, none⟩ = some (.string vv) := (h3.cell (p := ⟨b, off + k * 2 + 1, none⟩) (World.block_lt_of_cell? w _ c2)).trans c2
        obtain ⟨v0, _, hv0⟩ := owns_get h1 (k * 2) (by omega)
        obtain ⟨v1, _, hv1⟩ := owns_get h1 (k * 2 + 1) (by omega)
        have hf := h1.frozenAt (k * 2)
        have hf1 := h1.frozenAt (k * 2 + 1)
        clear h1 h2 h3 c1 c2 had hs
        go_wp2
        go_roundw
        case rel => exact ⟨k + 1, by omega, by go_num, HN.out⟩
        case measure => simp [intOf]; omega
      · have hkl : k = l.length := by omega
        rw [hkl] at hrel
        have HF := hide hrel.fin
        clear hrel hkl
        go_wp2
        go_ret
        exact ⟨_, _, rfl, HF.out.1, fun ad h => by (cases h; exact Nat.le_refl _), HF.out.2⟩

theorem cell_set_ne {w : World} {p q : Addr} {u : Value} (h : q.block ≠ p.block) : (w.setCell p u).cell? q = w.cell? q := World.cell?_of_block (Below.heap_setCell w p u q.block h)

theorem LblRow.set_ne {w : World} {a : Option Addr} {l : List (ByteArray × ByteArray)} (h : LblRow w a l) {p : Addr} (hp : ∀ ad : Addr, a = some ad → p.block < ad.block) (u : Value) : LblRow (w.setCell p u) a l := by
  refine ⟨h.1, ?_⟩
  rcases h.2 with h0 | ⟨b, off, ha, hc⟩
  · exact .inl h0
  · refine .inr ⟨b, off, ha, fun j kv hj => ?_⟩
    have hb := hp _ ha
    have hb' : b ≠ p.block := by simp only at hb; omega
    rw [cell_set_ne (by exact hb'), cell_set_ne (by exact hb')]
    exact hc j kv hj

/-- the relation of cloneLabels' loop -/
def CoRel (w : World) (O : List (List (ByteArray × ByteArray))) (k : Nat) (wr : World) : Prop :=
  ∃ xs, wr.ownsRow w.heap.size 32 1 (.slice (some ⟨w.heap.size, 0, none⟩) O.length O.length) O.length xs ∧
    (∀ j l, j < k → O[j]? = some l → ∃ ai ci, xs[j]? = some (.slice ai l.length ci) ∧ LblRow wr ai l ∧ ∀ ad : Addr, ai = some ad → w.heap.size < ad.block) ∧ Below w.heap.size w wr ∧ w.heap.size < wr.heap.size

theorem CoRel.step {w wr w1 : World} {O : List (List (ByteArray × ByteArray))} {k : Nat} (h : CoRel w O k wr) (hk : k < O.length) {l : List (ByteArray × ByteArray)} (hs : O[k]? = some l) {a' : Option Addr} {c' : Nat} (hb : Below wr.heap.size wr w1) (hl : LblRow w1 a' l) (hf : ∀ ad : Addr, a' = some ad → wr.heap.size ≤ ad.block) :
    CoRel w O (k + 1) (w1.setCell ⟨w.heap.size, k, none⟩ (.slice a' l.length c')) := by
  obtain ⟨xs, h1, h2, h3, h4⟩ := h
  have hg : wr.grownBy w1 none := ⟨hb.os, hb.tape, hb.output, hb.size, fun i hi _ => hb.block i hi⟩
  have h1' := h1.kept hg (by right; simp [Value.ownBlock])
  refine ⟨_, (h1'.stored k (.slice a' l.length c')).1, fun j t hj ht => ?_, (h3.trans (hb.mono h3.size)).setCell (Nat.le_refl _) _, by have := hb.size; simp [World.setCell]; omega⟩
  have hlen : xs.length = O.length := by have := h1.1; omega
  rw [List.getElem?_set]
  by_cases e : k = j
  · subst e
    rw [hs] at ht
    cases ht
    exact ⟨a', c', by simp; omega, hl.set_ne (fun ad had => by have := hf ad had; simp only; omega) _, fun ad had => by have := hf ad had; omega⟩
  · rw [if_neg e]
    obtain ⟨ai, ci, g1, g2, g3⟩ := h2 j t (by omega) ht
    exact ⟨ai, ci, g1, (g2.below hb).set_ne (fun ad had => g3 ad had) _, g3⟩

def cloneOPost (O : List (List (ByteArray × ByteArray))) (w : World) (e : Ending) (w' : World) : Prop :=
  ∃ a' c', e = .returned (.slice a' O.length c') ∧ ObjRow w' a' O ∧ Below w.heap.size w w'

theorem CoRel.fin {w wr : World} {O : List (List (ByteArray × ByteArray))} (h : CoRel w O O.length wr) : ObjRow wr (some ⟨w.heap.size, 0, none⟩) O ∧ Below w.heap.size w wr := by
  obtain ⟨xs, h1, h2, h3, h4⟩ := h
  refine ⟨⟨fun h => by (cases h), .inr ⟨_, _, rfl, fun j s hj => ?_⟩⟩, h3⟩
  have hl : j < O.length := (List.getElem?_eq_some_iff.1 hj).1
  obtain ⟨ai, ci, g1, g2, g3⟩ := h2 j s hl hj
  exact ⟨ai, ci, by rw [Nat.zero_add, h1.cellAt j (by omega)]; exact g1, g2⟩

set_option maxHeartbeats 400000 in
theorem cloneLabels_any (a : Option Addr) (O : List (List (ByteArray × ByteArray))) (c : Nat) (w : World) (hs : SmallO O) (hr : ObjRow w a O) :
    Calls Try.prog 19 #[.slice a O.length c] w (cloneOPost O w) := by
  obtain ⟨i0, hi, hz0, hz1, hz2⟩ := info_parts Try.info32
  have hne := fun w a n c => Lib.run_eql_slice_nil (P := Try.prog) w 31 32 a n c 0 0 Try.underlying31
  have hl := hs.1
  have HS := hide hs
  clear hs
  cases a with
  | none =>
    have h0 := hr.1 rfl
    subst h0
    go_enter Try.func19, Try.ntmps19
    go_wp2
    go_ret
    exact ⟨none, 0, rfl, hr, Below.refl _ _⟩
  | some ad =>
    have HR := hide hr
    clear hr
    go_enter Try.func19, Try.ntmps19
    go_wp2_with (first | (at_make; refine wpList_make_full _ rfl _ _ 31 rfl w.heap.size 32 i0 (.slice none 0 0) 1 Try.underlying31 hi hz0 hz1 .i64 .i64 _ _ O.length rfl rfl rfl rfl ?_ ?_ ?_ ?_) | go_in)
    · rw [hz2]; omega
    · unfold maxLen; omega
    · exact Nat.le_refl _
    intro w1 hown hgrow
    have hlt1 := (hown.lt _ rfl).2
    have hst : CoRel w O 0 w1 := ⟨_, hown, fun j s hj => absurd hj (Nat.not_lt_zero _), (Below.refl _ _).grown hgrow (Nat.le_refl _) (fun k h => by cases h), hlt1⟩
    have HST := hide hst
    clear hown hgrow hst hi hz0 hz1 hz2 hlt1
    go_wp2
    go_loopw [4] (fun i wr => ∃ k : Nat, k ≤ O.length ∧ i = .int .i64 k ∧ CoRel w O k wr) (fun i _ => O.length - (intOf i).toNat)
    case atStart => exact ⟨0, Nat.zero_le _, rfl, HST.out⟩
    case round =>
      clear HST
      obtain ⟨k, hk, rfl, hrel⟩ := hrel
      by_cases hlt : k < O.length
      · obtain ⟨b, off, l, ai, ci, had, hs, c1, hrow⟩ := HR.out.at hlt
        obtain rfl : ad = ⟨b, off, none⟩ := by simpa using had
        have hll := HS.out.2 k l hs
        have HN := hide (fun w1 a' c' hb hl hf => hrel.step (w1 := w1) (a' := a') (c' := c') hlt hs hb hl hf)
        have hbw : Below w.heap.size w wr := by obtain ⟨_, _, _, h, _⟩ := hrel; exact h
        have HC := hide (cloneLabelList_any ai l ci wr hll (hrow.below hbw))
        obtain ⟨xs, h1, h2, h3, h4⟩ := hrel
        have hc1 : wr.cell? ⟨b, off + k, none⟩ = some (.slice ai l.length ci) := (h3.cell (p := ⟨b, off + k, none⟩) (World.block_lt_of_cell? w _ c1)).trans c1
        obtain ⟨v0, _, hv0⟩ := owns_get h1 k (by omega)
        have hf := h1.frozenAt k
        clear h1 h2 h3 c1 had hs hrow hbw hll
        go_wp2_with fail
        refine HC.out.mono ?_
        rintro e w2 ⟨a', c', rfl, hl2, hf2, hb2⟩
        have hv2 : w2.cell? ⟨w.heap.size, k, none⟩ = some v0 := (hb2.cell (p := ⟨w.heap.size, k, none⟩) h4).trans hv0
        have hf2' : w2.frozen? ⟨w.heap.size, k, none⟩ = false := (hb2.frozen (p := ⟨w.heap.size, k, none⟩) h4).trans hf
        have HN2 := hide (HN.out w2 a' c' hb2 hl2 hf2)
        clear hl2 hf2 hb2 hv0 hf hc1
        go_wp2
        go_roundw
        case rel => exact ⟨k + 1, by omega, by go_num, HN2.out⟩
        case measure => simp [intOf]; omega
      · have hkl : k = O.length := by omega
        rw [hkl] at hrel
        have HF := hide hrel.fin
        clear hrel hkl
        go_wp2
        go_ret
        exact ⟨_, _, rfl, HF.out.1, HF.out.2⟩

end Go.Proofs.Qxb6601049a
