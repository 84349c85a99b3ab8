import Derived.Test.Qxb6601049aReqs2
namespace Go.Proofs.Qxb6601049a
open Go.ChangeShapes Go.WideShapes Go.ChangeAt Go.RowKit
set_option linter.unusedVariables false

/-- an object's labels as a look-up function -/
def lfn (l : List (ByteArray × ByteArray)) : ByteArray → Option Value := fun k => (llk l k).map Value.string

/-- an element of the slice of maps -/
def MCell (w : World) (base U : Nat) (x : Option Value) (l : List (ByteArray × ByteArray)) : Prop :=
  (x = some (.map none) ∧ l = []) ∨ ∃ m, base < m ∧ m < U ∧ x = some (.map (some m)) ∧ MapFn w m (lfn l)

theorem MCell.mono {w : World} {base U U' : Nat} {x : Option Value} {l : List (ByteArray × ByteArray)} (h : MCell w base U x l) (hU : U ≤ U') : MCell w base U' x l := by
  rcases h with h | ⟨m, h1, h2, h3, h4⟩
  · exact .inl h
  · exact .inr ⟨m, h1, by omega, h3, h4⟩

theorem MCell.blocks {w w' : World} {base U : Nat} {x : Option Value} {l : List (ByteArray × ByteArray)} (h : MCell w base U x l) (hb : ∀ m, base < m → m < U → w'.heap[m]? = w.heap[m]?) : MCell w' base U x l := by
  rcases h with h | ⟨m, h1, h2, h3, h4⟩
  · exact .inl h
  · exact .inr ⟨m, h1, h2, h3, h4.block (hb m h1 h2)⟩

def BlRel (w : World) (O : List (List (ByteArray × ByteArray))) (k U : Nat) (wr : World) : Prop :=
  ∃ xs, wr.ownsRow w.heap.size 79 1 (.slice (some ⟨w.heap.size, 0, none⟩) O.length O.length) O.length xs ∧
    (∀ j, k ≤ j → j < O.length → xs[j]? = some (.map none)) ∧ (∀ (j : Nat) (l : List (ByteArray × ByteArray)), j < k → O[j]? = some l → MCell wr w.heap.size U xs[j]? l) ∧ Below w.heap.size w wr ∧ w.heap.size < U ∧ U ≤ wr.heap.size

theorem BlRel.keep {w wr w' : World} {O : List (List (ByteArray × ByteArray))} {k U U' : Nat} (h : BlRel w O k U wr) (hU : U ≤ U') (hU' : U' ≤ w'.heap.size) (hb : Below U wr w') : BlRel w O k U' w' := by
  obtain ⟨xs, h1, h2, h3, h4, h5, h6⟩ := h
  refine ⟨xs, ?_, h2, fun j l hj hl => ((h3 j l hj hl).blocks (fun m _ hm => hb.block m hm)).mono hU, h4.trans (hb.mono (by omega)), by omega, hU'⟩
  obtain ⟨q1, q2⟩ := h1
  refine ⟨q1, ?_⟩
  rcases q2 with q2 | ⟨g, cap, cur, hv, hg, hh, r⟩
  · exact .inl q2
  · refine .inr ⟨g, cap, cur, hv, hg, ?_, r⟩
    have hgw : g = w.heap.size := by
      simp only [Value.slice.injEq, Option.some.injEq, Addr.mk.injEq, and_true, true_and] at hv
      exact hv.1.symm
    rw [hb.block g (by omega)]
    exact hh

theorem BlRel.skip {w wr : World} {O : List (List (ByteArray × ByteArray))} {k U : Nat} (h : BlRel w O k U wr) (hk : k < O.length) {l : List (ByteArray × ByteArray)} (hl : O[k]? = some l) (h0 : l = []) : BlRel w O (k + 1) U wr := by
  obtain ⟨xs, h1, h2, h3, h4, h5, h6⟩ := h
  refine ⟨xs, h1, fun j hj hj' => h2 j (by omega) hj', fun j l' hj hl' => ?_, h4, h5, h6⟩
  by_cases e : j = k
  · subst e
    rw [hl] at hl'
    cases hl'
    exact .inl ⟨h2 j (Nat.le_refl _) hk, h0⟩
  · exact h3 j l' (by omega) hl'

theorem BlRel.store {w wr : World} {O : List (List (ByteArray × ByteArray))} {k M : Nat} (h : BlRel w O k M wr) (hk : k < O.length) {l : List (ByteArray × ByteArray)} (hl : O[k]? = some l) (hm : MapFn wr M (lfn l)) :
    BlRel w O (k + 1) (M + 1) (wr.setCell ⟨w.heap.size, k, none⟩ (.map (some M))) := by
  obtain ⟨xs, h1, h2, h3, h4, h5, h6⟩ := h
  have hlen : xs.length = O.length := by have := h1.1; omega
  have hset : ∀ m, w.heap.size < m → (wr.setCell ⟨w.heap.size, k, none⟩ (.map (some M))).heap[m]? = wr.heap[m]? := fun m hm => Below.heap_setCell _ _ _ _ (by simp only; omega)
  refine ⟨_, (h1.stored k (.map (some M))).1, fun j hj hj' => ?_, fun j l' hj hl' => ?_, h4.setCell (Nat.le_refl _) _, by omega, by have := hm.lt; simp [World.setCell]; omega⟩
  · rw [List.getElem?_set, if_neg (by omega)]
    exact h2 j (by omega) hj'
  · rw [List.getElem?_set]
    by_cases e : k = j
    · subst e
      rw [hl] at hl'
      cases hl'
      rw [if_pos rfl, if_pos (by omega)]
      exact .inr ⟨M, h5, by omega, rfl, hm.block (hset M h5)⟩
    · rw [if_neg e]
      exact ((h3 j l' (by omega) hl').blocks (fun m hm _ => hset m hm)).mono (by omega)

/-- the slice of the objects' label maps -/
def MapRow (w : World) (a : Option Addr) (O : List (List (ByteArray × ByteArray))) : Prop :=
  O = [] ∨ ∃ b off, a = some ⟨b, off, none⟩ ∧ ∀ (i : Nat) (l : List (ByteArray × ByteArray)), O[i]? = some l → (w.cell? ⟨b, off + i, none⟩ = some (.map none) ∧ l = []) ∨ ∃ m, w.cell? ⟨b, off + i, none⟩ = some (.map (some m)) ∧ MapFn w m (lfn l)

theorem MapRow.below {w w' : World} {a : Option Addr} {O : List (List (ByteArray × ByteArray))} (h : MapRow w a O) (hb : Below w.heap.size w w') : MapRow w' a O := by
  rcases h with h0 | ⟨b, off, ha, hc⟩
  · exact .inl h0
  · refine .inr ⟨b, off, ha, fun i l hi => ?_⟩
    rcases hc i l hi with ⟨c1, c2⟩ | ⟨m, c1, c2⟩
    · exact .inl ⟨(hb.cell (p := ⟨b, off + i, none⟩) (World.block_lt_of_cell? w _ c1)).trans c1, c2⟩
    · exact .inr ⟨m, (hb.cell (p := ⟨b, off + i, none⟩) (World.block_lt_of_cell? w _ c1)).trans c1, c2.below hb c2.lt⟩

def buildPost (O : List (List (ByteArray × ByteArray))) (w : World) (e : Ending) (w' : World) : Prop :=
  ∃ a' c', e = .returned (.slice a' O.length c') ∧ MapRow w' a' O ∧ Below w.heap.size w w'

theorem BlRel.fin {w wr : World} {O : List (List (ByteArray × ByteArray))} {U : Nat} (h : BlRel w O O.length U wr) : MapRow wr (some ⟨w.heap.size, 0, none⟩) O ∧ Below w.heap.size w wr := by
  obtain ⟨xs, h1, h2, h3, h4, h5, h6⟩ := h
  refine ⟨.inr ⟨_, _, rfl, fun j l hj => ?_⟩, h4⟩
  have hl : j < O.length := (List.getElem?_eq_some_iff.1 hj).1
  rw [Nat.zero_add, h1.cellAt j (by omega)]
  rcases h3 j l hl hj with g | ⟨m, _, _, g1, g2⟩
  · exact .inl g
  · exact .inr ⟨m, g1, g2⟩

theorem Try.info79 : (Try.prog.info? 79).map (fun i => (i.zero, i.size, i.bytes)) = some (some (.map none), 1, 8) := by kernel_rfl

theorem lfn_take {l : List (ByteArray × ByteArray)} {k : Nat} {kk vv : ByteArray} (h : l[k]? = some (kk, vv)) : ∀ s, upd (lfn (l.take k)) kk (.string vv) s = lfn (l.take (k + 1)) s := by
  intro s
  unfold lfn upd
  rw [llk_take h]
  by_cases e : s = kk
  · subst e; simp
  · rw [if_neg e, if_neg (Ne.symm e)]

theorem run_makeMap_hint {P : Program} {t k e : TypeId} (ht : P.underlying t = some (.map k e)) (kd : IntKind) (n : Int) (w : World) : (Instr.makeMap t (some (.int kd n))).run P w = .ok (.map (some w.heap.size)) (w.alloc (.map #[] 0)) := by
  simp [Instr.makeMap, run_underlying ht, asInt, asIntOf, Result.andThen]

set_option maxRecDepth 8000 in
set_option maxHeartbeats 1600000 in
theorem buildLabels_any (a : Option Addr) (O : List (List (ByteArray × ByteArray))) (c : Nat) (w : World) (hs : SmallO O) (hr : ObjRow w a O) :
    Calls Try.prog 22 #[.slice a O.length c] w (buildPost O w) := by
  obtain ⟨i0, hi, hz0, hz1, hz2⟩ := info_parts Try.info79
  have hne := fun w a n c => Lib.run_eql_slice_nil (P := Try.prog) w 31 32 a n c 0 0 Try.underlying31
  have hne2 := fun w a n c => Lib.run_eql_slice_nil (P := Try.prog) w 32 45 a n c 0 0 Try.underlying32
  have hmm := fun n w => run_makeMap_hint Try.underlying79 .i64 n w
  have hl := hs.1
  have HS := hide hs
  clear hs
  cases a with
  | none =>
    have h0 := hr.1 rfl
    subst h0
    go_enter Try.func22, Try.ntmps22
    go_wp2
    go_ret
    exact ⟨none, 0, rfl, .inl rfl, Below.refl _ _⟩
  | some ad =>
    have HR := hide hr
    clear hr
    go_enter Try.func22, Try.ntmps22
    go_wp2_with (first | (at_make; refine wpList_make_full _ rfl _ _ 41 rfl w.heap.size 79 i0 (.map none) 1 Try.underlying41 hi hz0 hz1 .i64 .i64 _ _ O.length rfl rfl rfl rfl ?_ ?_ ?_ ?_) | go_in)
    · rw [hz2]; omega
    · unfold maxLen; omega
    · exact Nat.le_refl _
    intro w1 hown hgrow
    have hlt1 := (hown.lt _ rfl).2
    have hst : BlRel w O 0 w1.heap.size w1 := ⟨_, hown, fun j _ hj => by (simp [toList_madeCells_one, List.getElem?_replicate]; exact hj), fun j s hj => absurd hj (Nat.not_lt_zero _), (Below.refl _ _).grown hgrow (Nat.le_refl _) (fun k h => by cases h), hlt1, Nat.le_refl _⟩
    have HST := hide hst
    clear hown hgrow hst hi hz0 hz1 hz2 hlt1
    go_wp2
    go_loopw [4, 5, 6] (fun i _ _ wr => ∃ k : Nat, k ≤ O.length ∧ i = .int .i64 k ∧ BlRel w O k wr.heap.size wr) (fun i _ _ _ => O.length - (intOf i).toNat)
    case atStart => exact ⟨0, Nat.zero_le _, rfl, HST.out⟩
    case round =>
      clear HST
      obtain ⟨k, hk, rfl, hrel⟩ := hrel
      by_cases hlt : k < O.length
      · obtain ⟨b, off, l, ai, ci, had, hs, c1, hrow⟩ := HR.out.at hlt
        obtain rfl : ad = ⟨b, off, none⟩ := by simpa using had
        have hll := HS.out.2 k l hs
        have hbw : Below w.heap.size w wr := by obtain ⟨_, _, _, _, h, _⟩ := hrel; exact h
        have hc1 : wr.cell? ⟨b, off + k, none⟩ = some (.slice ai l.length ci) := (hbw.cell (p := ⟨b, off + k, none⟩) (World.block_lt_of_cell? w _ c1)).trans c1
        have hlt' : (k : Int) < (O.length : Int) := by omega
        cases ai with
        | none =>
          have h0 := hrow.1 rfl
          have HN := hide (hrel.skip hlt hs h0)
          clear hrel c1 hrow hs hbw had
          go_wp2
          go_roundw
          case rel => exact ⟨k + 1, by omega, by go_num, HN.out⟩
          case measure => simp [intOf]; omega
        | some lad =>
          obtain ⟨wo, hwo⟩ : ∃ wo, wo = wr := ⟨_, rfl⟩
          subst hwo
          have hb1 : Below wo.heap.size wo (wo.alloc (.map #[] 0)) := Below.one _ _
          have HST : Hid (BlRel w O k wo.heap.size (wo.alloc (.map #[] 0)) ∧ MapFn (wo.alloc (.map #[] 0)) wo.heap.size (lfn (l.take 0))) := ⟨hrel.keep (Nat.le_refl _) (by simp) hb1, MapFn.made wo⟩
          have HSL := hide hs
          have HC1 := hide c1
          clear c1 had hb1 hrel hs
          go_wp2
          go_loopw [6] (fun j wr2 => ∃ q : Nat, q ≤ l.length ∧ j = .int .i64 q ∧ BlRel w O k wo.heap.size wr2 ∧ MapFn wr2 wo.heap.size (lfn (l.take q))) (fun j _ => l.length - (intOf j).toNat)
          case atStart => exact ⟨0, Nat.zero_le _, rfl, HST.out⟩
          case round =>
            clear HST hc1 hbw
            obtain ⟨q, hq, rfl, hrel, hm⟩ := hrel
            have hbw : Below w.heap.size w wr := by obtain ⟨_, _, _, _, h, _⟩ := hrel; exact h
            have hwm : w.heap.size < wo.heap.size := by obtain ⟨_, _, _, _, _, h, _⟩ := hrel; exact h
            have hbl : b < w.heap.size := World.block_lt_of_cell? w _ HC1.out
            have hc1 : wr.cell? ⟨b, off + k, none⟩ = some (.slice (some lad) l.length ci) := (hbw.cell (p := ⟨b, off + k, none⟩) hbl).trans HC1.out
            by_cases hqlt : q < l.length
            · obtain ⟨lb, lo, kk, vv, hlad, hkv, c2, c3⟩ := hrow.at hqlt
              obtain rfl : lad = ⟨lb, lo, none⟩ := by simpa using hlad
              have hlbl : lb < w.heap.size := World.block_lt_of_cell? w _ c2
              have d2 : wr.cell? ⟨lb, lo + q * 2, none⟩ = some (.string kk) := (hbw.cell (p := ⟨lb, lo + q * 2, none⟩) hlbl).trans c2
              have d3 : wr.cell? ⟨lb, lo + q * 2 + 1, none⟩ = some (.string vv) := (hbw.cell (p := ⟨lb, lo + q * 2 + 1, none⟩) hlbl).trans c3
              obtain ⟨w3, hrun, hfn, hon⟩ := MapFn.update (P := Try.prog) hm.drew Try.underlying79 Try.underlying9 kk (.string vv)
              have honb : ∀ B x, B < w.heap.size → w3.cell? ⟨B, x, none⟩ = wr.cell? ⟨B, x, none⟩ := fun B x hB => World.cell?_of_block (hon.block B (by omega))
              have z1 := (honb b (off + k) hbl).trans hc1
              have z2 := (honb lb (lo + q * 2) hlbl).trans d2
              have z3 := (honb lb (lo + q * 2 + 1) hlbl).trans d3
              have HN : Hid (BlRel w O k wo.heap.size w3 ∧ MapFn w3 wo.heap.size (lfn (l.take (q + 1)))) :=
                ⟨hrel.keep (Nat.le_refl _) (by have := hfn.lt; omega) ((Below.refl _ _).drew.trans (hon.below (Nat.le_refl _))), hfn.congr (lfn_take hkv)⟩
              have hq' : (q : Int) < (l.length : Int) := by omega
              have hq0 : (0 : Int) ≤ (q : Int) := by omega
              have hk0 : (0 : Int) ≤ (k : Int) := by omega
              clear hrel hm hbw hfn hon honb hkv hlad c2 c3 hrow HR HC1 HSL
              go_wp2
              go_region_held3 (fun w' => w'.cell? ⟨b, off + k, none⟩ = some (.slice (some ⟨lb, lo, none⟩) l.length ci) ∧ w'.cell? ⟨lb, lo + q * 2, none⟩ = some (.string kk) ∧ w'.cell? ⟨lb, lo + q * 2 + 1, none⟩ = some (.string vv))
                (go_keep) (fail)
              go_wp2
              go_roundw
              case rel => exact ⟨q + 1, by omega, by go_num, HN.out⟩
              case measure => simp [intOf]; omega
            · have hql : l.take q = l := List.take_of_length_le (by omega)
              rw [hql] at hm
              have HN := hide (hrel.store hlt HSL.out hm)
              have hlt1 := hm.lt
              have HN2 := hide (HN.out.keep (U' := (wr.setCell ⟨w.heap.size, k, none⟩ (.map (some wo.heap.size))).heap.size) (by simp [World.setCell]; omega) (Nat.le_refl _) (Below.refl _ _))
              obtain ⟨xs, h1, h2, h3, h4, h5, h6⟩ := hrel
              obtain ⟨v0, _, hv0⟩ := owns_get h1 k (by omega)
              have hf0 := h1.frozenAt k
              clear h1 h2 h3 h4 hm hrow hql hbw HR
              go_wp2
              go_roundw
              case rel => exact ⟨k + 1, by omega, by go_num, HN2.out⟩
              case measure => simp [intOf]; omega
      · have hkl : k = O.length := by omega
        rw [hkl] at hrel
        have HF := hide hrel.fin
        clear hrel hkl
        go_wp2
        go_ret
        exact ⟨_, _, rfl, HF.out.1, HF.out.2⟩

end Go.Proofs.Qxb6601049a
