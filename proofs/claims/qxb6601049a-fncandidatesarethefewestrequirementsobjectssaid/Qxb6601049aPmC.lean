import Derived.Test.Qxb6601049aPmB
namespace Go.Proofs.Qxb6601049a
open Go.ChangeShapes Go.WideShapes Go.ChangeAt Go.RowKit
set_option linter.unusedVariables false

theorem Try.info3 : (Try.prog.info? 3).map (fun i => (i.zero, i.size, i.bytes)) = some (some (.int .i64 0), 1, 8) := by kernel_rfl
theorem Try.info72 : (Try.prog.info? 72).map (fun i => (i.zero, i.size, i.bytes)) = some (some (.int .u64 0), 1, 8) := by kernel_rfl

theorem RowAt.below {k : IntKind} {w w' : World} {a : Option Addr} {len : Nat} {zs : List Int} (h : RowAt k w a len zs) (hb : Below w.heap.size w w') : RowAt k w' a len zs := by
  obtain ⟨h1, h2⟩ := h
  refine ⟨h1, ?_⟩
  rcases h2 with h2 | ⟨b, off, rfl, hc⟩
  · exact .inl h2
  · refine .inr ⟨b, off, rfl, fun i hi => ?_⟩
    have := hc i hi
    rw [hb.cell (p := ⟨b, off + i, none⟩) (World.block_lt_of_cell? w _ this)]
    exact this

theorem RowAt.of_owns {k : IntKind} {w : World} {base g : Nat} {e : TypeId} {len cap : Nat} {zs : List Int} (h : w.ownsRow base e 1 (.slice (some ⟨g, 0, none⟩) len cap) len (zs.map (Value.int k))) : RowAt k w (some ⟨g, 0, none⟩) len zs := by
  have hl : zs.length = len := by have := h.1; simpa using this
  refine ⟨hl, .inr ⟨g, 0, rfl, fun i hi => ?_⟩⟩
  rw [Nat.zero_add, h.cellAt i (by omega)]
  simp [List.getElem?_map]
  rw [List.getElem?_eq_getElem (by omega)]
  simp

/-- the first k copied, the rest zero -/
theorem copied_set {k : IntKind} {zs : List Int} {len j : Nat} (hz : zs.length = len) (hj : j < len) :
    ((zs.take j).map (Value.int k) ++ List.replicate (len - j) (Value.int k 0)).set j (.int k (zs.getD j 0)) = (zs.take (j + 1)).map (Value.int k) ++ List.replicate (len - (j + 1)) (Value.int k 0) := by
  apply List.ext_getElem?
  intro i
  simp only [List.getElem?_set, List.getElem?_append, List.length_map, List.length_take, List.getElem?_map, List.getElem?_take, List.getElem?_replicate, List.length_append, List.length_replicate]
  by_cases h1 : j = i
  · subst h1
    have : j < zs.length := by omega
    simp [show min j zs.length = j by omega, show min (j+1) zs.length = j + 1 by omega, this]
    omega
  · by_cases h2 : i < j
    · simp [h1, show i < min j zs.length by omega, show i < min (j+1) zs.length by omega, h2, show i < j + 1 by omega]
    · simp [h1, show ¬ i < min j zs.length by omega, show ¬ i < min (j+1) zs.length by omega]
      by_cases h3 : i < len
      · rw [if_pos (by omega), if_pos (by omega)]
      · rw [if_neg (by omega), if_neg (by omega)]

theorem copied_at {k : IntKind} {zs : List Int} {len j : Nat} (hz : zs.length = len) (hj : j < len) :
    ((zs.take j).map (Value.int k) ++ List.replicate (len - j) (Value.int k 0))[j]? = some (.int k 0) := by
  have e : ((zs.take j).map (Value.int k)).length = j := by simp; omega
  rw [List.getElem?_append_right (by omega), e, Nat.sub_self, List.getElem?_replicate, if_pos (by omega)]

def clonePost (k : IntKind) (a : Option Addr) (len : Nat) (zs : List Int) (w : World) (e : Ending) (w' : World) : Prop :=
  ∃ a' cap', e = .returned (.slice a' len cap') ∧ RowAt k w' a' len zs ∧ (a' = none ↔ a = none) ∧ Below w.heap.size w w'


/-- the relation's step: one more is copied -/
theorem clone_step {kk : IntKind} {E : TypeId} {w wr : World} {g len k : Nat} {zs : List Int} {B : Nat} (hz : zs.length = len) (hlt : k < len) (hown : wr.ownsRow B E 1 (.slice (some ⟨g, 0, none⟩) len len) len ((zs.take k).map (Value.int kk) ++ List.replicate (len - k) (Value.int kk 0))) (hb : Below B w wr) (hg : B ≤ g) :
    (wr.setCell ⟨g, k, none⟩ (.int kk (zs.getD k 0))).ownsRow B E 1 (.slice (some ⟨g, 0, none⟩) len len) len ((zs.take (k+1)).map (Value.int kk) ++ List.replicate (len - (k+1)) (Value.int kk 0)) ∧ Below B w (wr.setCell ⟨g, k, none⟩ (.int kk (zs.getD k 0))) := by
  have h := hown.stored k (.int kk (zs.getD k 0))
  rw [copied_set hz hlt] at h
  exact ⟨h.1, hb.setCell hg _⟩

set_option maxHeartbeats 400000 in
theorem cloneInts_any (a : Option Addr) (len cap : Nat) (zs : List Int) (w : World) (hlen : len * 8 ≤ 1073741824) (hnil : a = none → len = 0) (hr : RowAt .i64 w a len zs) :
    Calls Try.prog 10 #[.slice a len cap] w (clonePost .i64 a len zs w) := by
  obtain ⟨i0, hi, hz0, hz1, hz2⟩ := info_parts Try.info3
  have hlen' : len ≤ maxLen := by unfold maxLen; omega
  obtain ⟨hz, hr⟩ := hr
  have hne := fun w a n c => Lib.run_eql_slice_nil (P := Try.prog) w 22 3 a n c 0 0 Try.underlying22
  cases a with
  | none =>
    have h0 := hnil rfl
    subst h0
    go_enter Try.func10, Try.ntmps10
    go_wp2
    go_ret
    exact ⟨none, 0, rfl, ⟨hz, .inl rfl⟩, by simp, Below.refl _ _⟩
  | some ad =>
    go_enter Try.func10, Try.ntmps10
    go_wp2_with (first | (at_make; refine wpList_make_full _ rfl _ _ 22 rfl w.heap.size 3 i0 (.int .i64 0) 1 Try.underlying22 hi hz0 hz1 .i64 .i64 _ _ len rfl rfl rfl rfl ?_ ?_ ?_ ?_) | go_in)
    · rw [hz2]; omega
    · exact hlen'
    · exact Nat.le_refl _
    intro w1 hown hgrow
    have hb1 : Below w.heap.size w w1 := (Below.refl _ _).grown hgrow (Nat.le_refl _) (fun k h => by cases h)
    replace hown : w1.ownsRow w.heap.size 3 1 (.slice (some ⟨w.heap.size, 0, none⟩) len len) len ((zs.take 0).map (Value.int .i64) ++ List.replicate (len - 0) (Value.int .i64 0)) := by simpa [Value.cells, toList_madeCells_one] using hown
    clear hgrow hi hz0 hz1 hz2 hnil
    go_wp2
    go_loopw [4] (fun i wr => ∃ k : Nat, k ≤ len ∧ i = .int .i64 k ∧ wr.ownsRow w.heap.size 3 1 (.slice (some ⟨w.heap.size, 0, none⟩) len len) len ((zs.take k).map (Value.int .i64) ++ List.replicate (len - k) (Value.int .i64 0)) ∧ Below w.heap.size w wr) (fun i _ => len - (intOf i).toNat)
    case atStart => exact ⟨0, Nat.zero_le _, rfl, hown, hb1⟩
    case round =>
      clear hown hb1
      obtain ⟨k, hk, rfl, hown, hb⟩ := hrel
      by_cases hlt : k < len
      · rcases hr with hr | ⟨b, off, had, hcell⟩
        · omega
        obtain rfl : ad = ⟨b, off, none⟩ := by simpa using had
        clear had
        have hc0 := hcell k hlt
        have hc : wr.cell? ⟨b, off + k, none⟩ = some (.int .i64 (zs.getD k 0)) := by
          rw [hb.cell (p := ⟨b, off + k, none⟩) (World.block_lt_of_cell? w _ hc0)]; exact hc0
        have hfz := hown.frozenAt k
        have hcc := hown.cellAt k (by omega)
        rw [copied_at hz hlt] at hcc
        have hstep := clone_step hz hlt hown hb (Nat.le_refl _)
        generalize zs.getD k 0 = x at hc hstep
        have HS := hide hstep
        clear hcell hc0 hown hb hstep hz
        go_wp2
        go_roundw
        case rel => exact ⟨k + 1, by omega, by go_num, HS.out.1, HS.out.2⟩
        case measure => simp [intOf]; omega
      · have hkl : k = len := by omega
        have hown' : wr.ownsRow w.heap.size 3 1 (.slice (some ⟨w.heap.size, 0, none⟩) len len) len (zs.map (Value.int .i64)) := by
          rw [hkl] at hown
          simpa [List.take_of_length_le (Nat.le_of_eq hz)] using hown
        have HO := hide hown'
        clear hown hkl hown'
        go_wp2
        go_ret
        exact ⟨_, _, rfl, RowAt.of_owns HO.out, by simp, hb⟩

set_option maxHeartbeats 400000 in
theorem cloneWords_any (a : Option Addr) (len cap : Nat) (zs : List Int) (w : World) (hlen : len * 8 ≤ 1073741824) (hnil : a = none → len = 0) (hr : RowAt .u64 w a len zs) :
    Calls Try.prog 11 #[.slice a len cap] w (clonePost .u64 a len zs w) := by
  obtain ⟨i0, hi, hz0, hz1, hz2⟩ := info_parts Try.info72
  have hlen' : len ≤ maxLen := by unfold maxLen; omega
  obtain ⟨hz, hr⟩ := hr
  have hne := fun w a n c => Lib.run_eql_slice_nil (P := Try.prog) w 23 72 a n c 0 0 Try.underlying23
  cases a with
  | none =>
    have h0 := hnil rfl
    subst h0
    go_enter Try.func11, Try.ntmps11
    go_wp2
    go_ret
    exact ⟨none, 0, rfl, ⟨hz, .inl rfl⟩, by simp, Below.refl _ _⟩
  | some ad =>
    go_enter Try.func11, Try.ntmps11
    go_wp2_with (first | (at_make; refine wpList_make_full _ rfl _ _ 23 rfl w.heap.size 72 i0 (.int .u64 0) 1 Try.underlying23 hi hz0 hz1 .i64 .i64 _ _ len rfl rfl rfl rfl ?_ ?_ ?_ ?_) | go_in)
    · rw [hz2]; omega
    · exact hlen'
    · exact Nat.le_refl _
    intro w1 hown hgrow
    have hb1 : Below w.heap.size w w1 := (Below.refl _ _).grown hgrow (Nat.le_refl _) (fun k h => by cases h)
    replace hown : w1.ownsRow w.heap.size 72 1 (.slice (some ⟨w.heap.size, 0, none⟩) len len) len ((zs.take 0).map (Value.int .u64) ++ List.replicate (len - 0) (Value.int .u64 0)) := by simpa [Value.cells, toList_madeCells_one] using hown
    clear hgrow hi hz0 hz1 hz2 hnil
    go_wp2
    go_loopw [4] (fun i wr => ∃ k : Nat, k ≤ len ∧ i = .int .i64 k ∧ wr.ownsRow w.heap.size 72 1 (.slice (some ⟨w.heap.size, 0, none⟩) len len) len ((zs.take k).map (Value.int .u64) ++ List.replicate (len - k) (Value.int .u64 0)) ∧ Below w.heap.size w wr) (fun i _ => len - (intOf i).toNat)
    case atStart => exact ⟨0, Nat.zero_le _, rfl, hown, hb1⟩
    case round =>
      clear hown hb1
      obtain ⟨k, hk, rfl, hown, hb⟩ := hrel
      by_cases hlt : k < len
      · rcases hr with hr | ⟨b, off, had, hcell⟩
        · omega
        obtain rfl : ad = ⟨b, off, none⟩ := by simpa using had
        clear had
        have hc0 := hcell k hlt
        have hc : wr.cell? ⟨b, off + k, none⟩ = some (.int .u64 (zs.getD k 0)) := by
          rw [hb.cell (p := ⟨b, off + k, none⟩) (World.block_lt_of_cell? w _ hc0)]; exact hc0
        have hfz := hown.frozenAt k
        have hcc := hown.cellAt k (by omega)
        rw [copied_at hz hlt] at hcc
        have hstep := clone_step hz hlt hown hb (Nat.le_refl _)
        generalize zs.getD k 0 = x at hc hstep
        have HS := hide hstep
        clear hcell hc0 hown hb hstep hz
        go_wp2
        go_roundw
        case rel => exact ⟨k + 1, by omega, by go_num, HS.out.1, HS.out.2⟩
        case measure => simp [intOf]; omega
      · have hkl : k = len := by omega
        have hown' : wr.ownsRow w.heap.size 72 1 (.slice (some ⟨w.heap.size, 0, none⟩) len len) len (zs.map (Value.int .u64)) := by
          rw [hkl] at hown
          simpa [List.take_of_length_le (Nat.le_of_eq hz)] using hown
        have HO := hide hown'
        clear hown hkl hown'
        go_wp2
        go_ret
        exact ⟨_, _, rfl, RowAt.of_owns HO.out, by simp, hb⟩

end Go.Proofs.Qxb6601049a
