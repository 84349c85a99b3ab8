/-
  FnNewLabelIndexPostingsAreTheScan, from rows of labels in memory.
-/
import Derived.Test.Qxb6601049aZix
namespace Go.Proofs.Qxb6601049a
open Go.ChangeShapes Go.WideShapes Go.ChangeAt Go.RowKit
set_option linter.unusedVariables false

theorem below_drewN (w : World) (m : Nat) : Below w.heap.size w (w.drewN m) := ⟨rfl, rfl, rfl, Nat.le_refl _, fun _ _ => rfl⟩

def flat (ps : List (ByteArray × ByteArray)) : List Value := ps.flatMap fun kv => [.string kv.1, .string kv.2]

/-- the queries gathered so far: from world wi on -/
def Qs (wi : World) (n : Nat) (v : Value) (wr : World) : Prop :=
  ∃ (ps : List (ByteArray × ByteArray)) (g cap : Nat), v = .slice (some ⟨g, 0, none⟩) ps.length cap ∧ ps.length ≤ n ∧ wr.ownsRow wi.heap.size 45 2 v ps.length (flat ps) ∧ Below wi.heap.size wi wr

theorem flat_snoc (ps : List (ByteArray × ByteArray)) (k v : ByteArray) : flat (ps ++ [(k, v)]) = flat ps ++ [.string k, .string v] := by simp [flat]

theorem flat_get : ∀ (ps : List (ByteArray × ByteArray)) {q : Nat}, q < ps.length → ∃ k v, (flat ps)[q * 2]? = some (.string k) ∧ (flat ps)[q * 2 + 1]? = some (.string v)
  | kv :: ps, 0, _ => ⟨kv.1, kv.2, by simp [flat], by simp [flat]⟩
  | kv :: ps, q + 1, h => by
    obtain ⟨k, v, h1, h2⟩ := flat_get ps (q := q) (by simpa using h)
    refine ⟨k, v, ?_, ?_⟩
    · rw [← h1]; show (flat (kv :: ps))[(q + 1) * 2]? = _; rw [show (q + 1) * 2 = q * 2 + 2 by omega]; rfl
    · rw [← h2]; show (flat (kv :: ps))[(q + 1) * 2 + 1]? = _; rw [show (q + 1) * 2 + 1 = q * 2 + 1 + 2 by omega]; rfl

theorem cell_two_new (w : World) (x y : Value) (t : TypeId) : ∀ j u, [x, y][j]? = some u → (w.alloc (.cells #[x, y] t)).cell? ((⟨w.heap.size, 0, none⟩ : Addr).add j) = some u := by
  intro j u hj
  match j, hj with
  | 0, hj =>
    simp at hj
    subst hj
    simp [Addr.add]
  | 1, hj =>
    simp at hj
    subst hj
    simp [Addr.add]

theorem strs_oneCell (k v : ByteArray) : ∀ u ∈ [Value.string k, Value.string v], u.oneCell' = true := by
  intro u hu
  simp at hu
  rcases hu with rfl | rfl <;> rfl

/-- how many queries there may be -/
def qb (k t : Nat) : Nat := k * 1048576 + t
theorem qb_le {k t x : Nat} (h : x ≤ qb k t) (hk : k ≤ 4096) (ht : t ≤ 1048576) : x ≤ 8589934592 := by unfold qb at h; omega
theorem qb_t {k t x : Nat} (h : x ≤ qb k t) : x + 1 ≤ qb k (t + 1) := by unfold qb at *; omega
theorem qb_aux (M k t x : Nat) (h : x ≤ k * M + t) (ht : t ≤ M) : x ≤ (k + 1) * M + 0 := by
  rw [Nat.add_mul]
  omega
theorem qb_k {k t x : Nat} (h : x ≤ qb k t) (ht : t ≤ 1048576) : x ≤ qb (k + 1) 0 := qb_aux 1048576 k t x h ht

/-- one query more -/
theorem Qs.snoc {wi wr w' : World} {g g' cap cap' n : Nat} {ps : List (ByteArray × ByteArray)} {k v : ByteArray} {blk : Obj} (hn : ps.length + 1 ≤ n) (ho : wr.ownsRow wi.heap.size 45 2 (.slice (some ⟨g, 0, none⟩) ps.length cap) ps.length (flat ps)) (hb : Below wi.heap.size wi wr)
    (ho' : w'.ownsRow wi.heap.size 45 2 (.slice (some ⟨g', 0, none⟩) (ps.length + 1) cap') (ps.length + 1) (flat ps ++ [.string k, .string v])) (hg : (wr.alloc blk).grownBy w' (some g)) : Qs wi n (.slice (some ⟨g', 0, none⟩) (ps.length + 1) cap') w' := by
  have hsz := hb.size
  refine ⟨ps ++ [(k, v)], g', cap', by simp, by simpa using hn, by rw [flat_snoc]; simpa using ho', (hb.alloc hsz _).grown hg (by simp; omega) (fun k hk => ?_)⟩
  cases hk
  exact (ho.lt g rfl).1

set_option maxRecDepth 10000 in
set_option maxHeartbeats 4000000 in
theorem law5_in (a : Option Addr) (O : List (List (ByteArray × ByteArray))) (c : Nat) (pa : Option Addr) (Pr : List (ByteArray × ByteArray)) (pc : Nat) (w : World) (hr : ObjRow w a O) (hp : LblRow w pa Pr) (hl : LenO O) (hpl : Pr.length ≤ maxLen) :
    Calls Try.prog 5 #[.slice a O.length c, .slice pa Pr.length pc] w (boolPost true w) := by
  obtain ⟨i0, hi, hz0, hz1, hz2⟩ := info_parts Try.info45
  have hl1 := hl.1
  have HR := hide hr
  have HP := hide hp
  have HLO := hide hl
  have HPL := hide hpl
  unfold maxLen at hl1 hpl
  clear hr hp hl
  go_enter Try.func5, Try.ntmps5
  go_wp2_with fail
  refine (zzBytes16_any a O c pa Pr pc w HR.out HP.out HLO.out HPL.out).mono ?_
  rintro e w1 ⟨⟨bb, rfl⟩, e1⟩
  subst e1
  cases bb with
  | false =>
    go_wp2
    go_ret
    exact ⟨rfl, Below.refl _ _⟩
  | true =>
    by_cases q1 : O.length ≤ 4096 ∧ Pr.length ≤ 4096
    · obtain ⟨q1, q2⟩ := q1
      have q1' : ¬ ((4096 : Int) < (O.length : Int)) := by omega
      have q2' : ¬ ((4096 : Int) < (Pr.length : Int)) := by omega
      go_wp2_with fail
      refine (labelsWeight_any a O c w1 HR.out HLO.out.1 HLO.out.2).mono ?_
      rintro e w2 ⟨lb, lc, rfl, hb1, hb2, hb3, m, rfl⟩
      have HB1 := hide hb1
      clear hb1
      go_wp2_with fail
      refine (labelListWeight_any pa Pr pc (w1.drewN m) HP.out HPL.out).mono ?_
      rintro e w2 ⟨pb, rfl, hp1, hp2, hp3, m2, rfl⟩
      have HP1 := hide hp1
      clear hp1
      have hwr : IntKind.i64.wrap (lb + pb) = lb + pb := by rw [IntKind.wrap_i64]; omega
      by_cases q3 : lb ≤ 1048576 ∧ pb ≤ 1048576 ∧ lb + pb ≤ 1048576 ∧ lc ≤ 4096
      · obtain ⟨r1, r2, r3, r4⟩ := q3
        have r1' : ¬ ((1048576 : Int) < lb) := by omega
        have r2' : ¬ ((1048576 : Int) < pb) := by omega
        have r3' : ¬ ((1048576 : Int) < lb + pb) := by omega
        have r4' : ¬ ((4096 : Int) < lc) := by omega
        obtain ⟨hso, hlc⟩ := HB1.out r1
        have HSO := hide hso
        have hpl2 := HP1.out r2
        generalize tot O O.length = tt at hlc
        subst hlc
        clear hso HB1 HP1
        go_wp2_with fail
        refine (cloneLabels_any a O c (w1.drewN (m + m2)) HSO.out HR.out).mono ?_
        rintro e w2 ⟨a', c', rfl, hr2, hbe2⟩
        have HR2 := hide hr2
        have HBE2 : Hid (Below w1.heap.size w1 w2) := ((below_drewN w1 (m + m2)).trans hbe2)
        have HPR2 := hide (HP.out.below HBE2.out)
        clear hr2 hbe2 hwr
        go_wp2_with fail
        refine (cloneLabelList_any pa Pr pc w2 hpl2 HPR2.out).mono ?_
        rintro e w3 ⟨pa', pc', rfl, hp3', _, hbe3⟩
        have HP3 := hide hp3'
        have HR3 := hide (HR2.out.below hbe3)
        have HBE3 := hide (HBE2.out.trans (hbe3.mono HBE2.out.size))
        clear hp3' hbe3 HR2 HBE2 HPR2
        go_wp2_with fail
        refine (buildLabels_any a' O c' w3 HSO.out HR3.out).mono ?_
        rintro e w4 ⟨ma, mc, rfl, hm4, hbe4⟩
        have HM4 := hide hm4
        have HP4 := hide (HP3.out.below hbe4)
        have HR4 := hide (HR3.out.below hbe4)
        have HBE4 := hide (HBE3.out.trans (hbe4.mono HBE3.out.size))
        clear hm4 hbe4 HP3 HR3 HBE3
        go_wp2_with fail
        refine (zzNewLabelIndex_any ma O mc w4 HSO.out HM4.out).mono ?_
        rintro e w5 ⟨X, rfl, hix, hbe5⟩
        have HI := hide hix
        have HP5 := hide (HP4.out.below hbe5)
        have HR5 := hide (HR4.out.below hbe5)
        have HBE5 := hide (HBE4.out.trans (hbe5.mono HBE4.out.size))
        clear hix hbe5 HM4 HP4 HR4 HBE4
        go_wp2_with fail
        refine (zzIndexAll_any X O w5 HI.out).mono ?_
        rintro e w6 ⟨la, lc2, he6, hall, e6⟩
        rw [List.length_range] at he6
        subst he6 e6
        have HALL := hide hall
        have hw6 := HBE5.out.size
        clear hall
        go_wp2_with fail
        go_loopw [11] (fun i wr => ∃ k : Nat, k ≤ O.length ∧ i = .int .i64 k ∧ wr = w6) (fun i _ => O.length - (intOf i).toNat)
        case atStart => exact ⟨0, Nat.zero_le _, rfl, rfl⟩
        case round =>
          obtain ⟨k, hk, rfl, rfl⟩ := hrel
          by_cases hlt : k < O.length
          · have hlt' : (k : Int) < (O.length : Int) := by omega
            rcases HALL.out with h0 | ⟨b, off, rfl, hcell⟩
            · rw [List.length_range] at h0; omega
            have hc := hcell k (by simpa using hlt)
            have e : (List.range O.length).getD k 0 = k := by simp [List.getD_eq_getElem?_getD, hlt]
            rw [e] at hc
            clear hcell e
            go_wp2
            go_roundw
            case rel => exact ⟨k + 1, by omega, by go_num, by first | trivial | rfl⟩
            case measure => simp [intOf]; omega
          · have hge : ¬ ((k : Int) < (O.length : Int)) := by omega
            have htt : IntKind.i64.wrap ((tt : Int) + (Pr.length : Int)) = ((tt + Pr.length : Nat) : Int) := by rw [IntKind.wrap_i64]; omega
            clear HALL
            go_wp2_with (at_make; refine wpList_make_own _ rfl _ _ 32 rfl wr.heap.size 45 i0 (.agg #[.string ⟨#[]⟩, .string ⟨#[]⟩]) 2 Try.underlying32 hi hz0 hz1 .i64 .i64 _ (tt + Pr.length) rfl rfl (by first | rfl | omega) (by rw [hz2]; omega) (by unfold maxLen; omega) (Nat.le_refl _) ?_)
            intro w7 hown7 hgrow7
            obtain ⟨wo, hwo⟩ : ∃ wo, wo = wr := ⟨_, rfl⟩
            subst hwo
            have HQ : Hid (Qs wo (qb 0 0) (.slice (some ⟨wo.heap.size, 0, none⟩) 0 (tt + Pr.length)) w7) := ⟨[], _, _, rfl, by simp, hown7, (Below.refl _ _).grown hgrow7 (Nat.le_refl _) (fun k h => by cases h)⟩
            clear hown7 hgrow7 htt
            go_wp2_with fail
            go_loopw [13, 12] (fun i v wr => ∃ k : Nat, k ≤ O.length ∧ i = .int .i64 k ∧ Qs wo (qb k 0) v wr) (fun i _ _ => O.length - (intOf i).toNat)
            case atStart => exact ⟨0, Nat.zero_le _, rfl, HQ.out⟩
            case round =>
              clear HQ
              obtain ⟨k, hk, rfl, hq⟩ := hrel
              obtain ⟨ps, g, cap, rfl, hps, hown, hbe⟩ := hq
              by_cases hlt : k < O.length
              · have hlt' : (k : Int) < (O.length : Int) := by omega
                obtain ⟨b, off, l, ai, ci, rfl, hO, hc, hlb⟩ := HR5.out.at hlt
                have HLB := hide hlb
                have hll := HSO.out.2 k l hO
                have HCC := hide hc
                have HQ : Hid (Qs wo (qb k 0) (.slice (some ⟨g, 0, none⟩) ps.length cap) wr) := ⟨ps, g, cap, rfl, hps, hown, hbe⟩
                clear hown hbe hlb hc hO
                go_wp2_with fail
                go_loopw [14, 12] (fun j v wr => ∃ t : Nat, t ≤ l.length ∧ j = .int .i64 t ∧ Qs wo (qb k t) v wr) (fun j _ _ => l.length - (intOf j).toNat)
                case atStart => exact ⟨0, Nat.zero_le _, rfl, HQ.out⟩
                case round =>
                  clear HQ hps
                  obtain ⟨t, ht, rfl, hq⟩ := hrel
                  obtain ⟨ps, g, cap, rfl, hps, hown, hbe⟩ := hq
                  have hc : wr.cell? ⟨b, off + k, none⟩ = some (.slice ai l.length ci) := (hbe.cell (p := ⟨b, off + k, none⟩) (World.block_lt_of_cell? wo _ HCC.out)).trans HCC.out
                  by_cases htl : t < l.length
                  · have htl' : (t : Int) < (l.length : Int) := by omega
                    obtain ⟨b2, off2, kk, vv, rfl, hlk, d1, d2⟩ := HLB.out.at htl
                    have hd1 : wr.cell? ⟨b2, off2 + t * 2, none⟩ = some (.string kk) := (hbe.cell (p := ⟨b2, off2 + t * 2, none⟩) (World.block_lt_of_cell? wo _ d1)).trans d1
                    have hd2 : wr.cell? ⟨b2, off2 + t * 2 + 1, none⟩ = some (.string vv) := (hbe.cell (p := ⟨b2, off2 + t * 2 + 1, none⟩) (World.block_lt_of_cell? wo _ d2)).trans d2
                    have HOWN := hide hown
                    have HBE := hide hbe
                    have hsz := hbe.size
                    have hq63 := qb_le hps (by omega) (by omega)
                    clear hown hbe d1 d2 hlk
                    go_wp2_with (at_builtin; refine wpList_append_lies _ rfl (.tmp 101) (.tmp 109) 32 rfl wo.heap.size 45 i0 (.agg #[.string ⟨#[]⟩, .string ⟨#[]⟩]) 2 32 Try.underlying32 hi hz0 hz1 hz2 rfl (by decide) _ _ _ rfl (HOWN.out.alloc _) ⟨wr.heap.size, 0, none⟩ 1 1 [.string kk, .string vv] rfl rfl (cell_two_new _ _ _ _) (strs_oneCell _ _) (by omega) (by unfold maxLen; omega) (by omega) (by simp; omega) (wr.heap.size + 1) (by simp) ?_)
                    intro g2 cap2 w8 hown8 hgrow8 _ _
                    have HQ8 := hide (Qs.snoc (n := qb k (t + 1)) (qb_t hps) HOWN.out HBE.out hown8 hgrow8)
                    clear hown8 hgrow8 HOWN HBE
                    go_wp2
                    go_roundw
                    case rel => exact ⟨t + 1, by omega, by go_num, HQ8.out⟩
                    case measure => simp [intOf]; omega
                  · have hge : ¬ ((t : Int) < (l.length : Int)) := by omega
                    have HQ8 : Hid (Qs wo (qb (k + 1) 0) (.slice (some ⟨g, 0, none⟩) ps.length cap) wr) := ⟨ps, g, cap, rfl, qb_k hps (by omega), hown, hbe⟩
                    clear hown hbe
                    go_wp2
                    go_roundw
                    case rel => exact ⟨k + 1, by omega, by go_num, HQ8.out⟩
                    case measure => simp [intOf]; omega
              · have hge : ¬ ((k : Int) < (O.length : Int)) := by omega
                have hkO : k = O.length := by omega
                have HQ : Hid (Qs wo (qb O.length 0) (.slice (some ⟨g, 0, none⟩) ps.length cap) wr) := ⟨ps, g, cap, rfl, hkO ▸ hps, hown, hbe⟩
                clear hown hbe hps hkO
                go_wp2_with fail
                go_loopw [15, 12] (fun j v wr => ∃ t : Nat, t ≤ Pr.length ∧ j = .int .i64 t ∧ Qs wo (qb O.length t) v wr) (fun j _ _ => Pr.length - (intOf j).toNat)
                case atStart => exact ⟨0, Nat.zero_le _, rfl, HQ.out⟩
                case round =>
                  clear HQ
                  obtain ⟨t, ht, rfl, hq⟩ := hrel
                  obtain ⟨ps, g, cap, rfl, hps, hown, hbe⟩ := hq
                  by_cases htl : t < Pr.length
                  · have htl' : (t : Int) < (Pr.length : Int) := by omega
                    obtain ⟨b2, off2, kk, vv, rfl, hlk, d1, d2⟩ := HP5.out.at htl
                    have hd1 : wr.cell? ⟨b2, off2 + t * 2, none⟩ = some (.string kk) := (hbe.cell (p := ⟨b2, off2 + t * 2, none⟩) (World.block_lt_of_cell? wo _ d1)).trans d1
                    have hd2 : wr.cell? ⟨b2, off2 + t * 2 + 1, none⟩ = some (.string vv) := (hbe.cell (p := ⟨b2, off2 + t * 2 + 1, none⟩) (World.block_lt_of_cell? wo _ d2)).trans d2
                    have HOWN := hide hown
                    have HBE := hide hbe
                    have hsz := hbe.size
                    have hq63 := qb_le hps q1 (by omega)
                    clear hown hbe d1 d2 hlk
                    go_wp2_with (at_builtin; refine wpList_append_lies _ rfl (.tmp 117) (.tmp 122) 32 rfl wo.heap.size 45 i0 (.agg #[.string ⟨#[]⟩, .string ⟨#[]⟩]) 2 32 Try.underlying32 hi hz0 hz1 hz2 rfl (by decide) _ _ _ rfl (HOWN.out.alloc _) ⟨wr.heap.size, 0, none⟩ 1 1 [.string kk, .string vv] rfl rfl (cell_two_new _ _ _ _) (strs_oneCell _ _) (by omega) (by unfold maxLen; omega) (by omega) (by simp; omega) (wr.heap.size + 1) (by simp) ?_)
                    intro g2 cap2 w8 hown8 hgrow8 _ _
                    have HQ8 := hide (Qs.snoc (n := qb O.length (t + 1)) (qb_t hps) HOWN.out HBE.out hown8 hgrow8)
                    clear hown8 hgrow8 HOWN HBE
                    go_wp2
                    go_roundw
                    case rel => exact ⟨t + 1, by omega, by go_num, HQ8.out⟩
                    case measure => simp [intOf]; omega
                  · have hge : ¬ ((t : Int) < (Pr.length : Int)) := by omega
                    have hq63 := qb_le hps q1 (by omega)
                    have HOWN := hide hown
                    have HIX := hide (HI.out.below hbe)
                    have HRX := hide (HR5.out.below hbe)
                    have HBX := hide (HBE5.out.trans (hbe.mono HBE5.out.size))
                    clear hown hbe hps HP5 HR5 HI HBE5
                    obtain ⟨wq, hwq⟩ : ∃ wq, wq = wr := ⟨_, rfl⟩
                    subst hwq
                    go_wp2_with fail
                    go_loopw [16] (fun j wr => ∃ q : Nat, q ≤ ps.length ∧ j = .int .i64 q ∧ wr = wq) (fun j _ => ps.length - (intOf j).toNat)
                    case atStart => exact ⟨0, Nat.zero_le _, rfl, rfl⟩
                    case round =>
                      obtain ⟨q, hq, rfl, rfl⟩ := hrel
                      by_cases hqt : q < ps.length
                      · have hqt' : (q : Int) < (ps.length : Int) := by omega
                        obtain ⟨kk, vv, f1, f2⟩ := flat_get ps hqt
                        have hd1 : wr.cell? ⟨g, q * 2, none⟩ = some (.string kk) := by rw [HOWN.out.cellAt (q * 2) (by omega)]; exact f1
                        have hd2 : wr.cell? ⟨g, q * 2 + 1, none⟩ = some (.string vv) := by rw [HOWN.out.cellAt (q * 2 + 1) (by omega)]; exact f2
                        clear f1 f2
                        go_wp2_with fail
                        refine (zzByLabelList_any X O kk vv wr HIX.out).mono ?_
                        rintro e w9 ⟨la3, lc3, rfl, hn3, e9⟩
                        subst e9
                        have HN3 := hide hn3
                        clear hn3
                        go_wp2_with fail
                        refine (listIsScan_any a' O c' kk vv true (some vv) (by simp) la3 lc3 (scan O kk (some vv) O.length) w9 HRX.out HSO.out HN3.out rfl).mono ?_
                        rintro e w10 ⟨rfl, e10⟩
                        subst e10
                        go_wp2_with fail
                        refine (zzByLabelSet_any X O kk vv w10 HIX.out).mono ?_
                        rintro e w11 ⟨a4, m4, rfl, hs4, e11⟩
                        subst e11
                        have HS4 := hide hs4
                        clear hs4 HN3
                        go_wp2_with fail
                        refine (setIsScan_ok a' O c' kk vv true (some vv) (by simp) (scan O kk (some vv) O.length).length a4 m4 w11 HRX.out HSO.out rfl HS4.out).mono ?_
                        rintro e w12 ⟨rfl, e12⟩
                        subst e12
                        clear HS4
                        go_wp2_with fail
                        refine (zzByKeyList_any X O kk w12 HIX.out).mono ?_
                        rintro e w9 ⟨la5, lc5, rfl, hn5, e9⟩
                        subst e9
                        have HN5 := hide hn5
                        clear hn5
                        go_wp2_with fail
                        refine (listIsScan_any a' O c' kk ⟨#[]⟩ false none (by simp) la5 lc5 (scan O kk none O.length) w9 HRX.out HSO.out HN5.out rfl).mono ?_
                        rintro e w10 ⟨rfl, e10⟩
                        subst e10
                        go_wp2_with fail
                        refine (zzByKeySet_any X O kk w10 HIX.out).mono ?_
                        rintro e w11 ⟨a6, m6, rfl, hs6, e11⟩
                        subst e11
                        have HS6 := hide hs6
                        clear hs6 HN5
                        go_wp2_with fail
                        refine (setIsScan_ok a' O c' kk ⟨#[]⟩ false none (by simp) (scan O kk none O.length).length a6 m6 w11 HRX.out HSO.out rfl HS6.out).mono ?_
                        rintro e w12 ⟨rfl, e12⟩
                        subst e12
                        clear HS6
                        go_wp2
                        go_roundw
                        case rel => exact ⟨q + 1, by omega, by go_num, by first | trivial | rfl⟩
                        case measure => simp [intOf]; omega
                      · have hge : ¬ ((q : Int) < (ps.length : Int)) := by omega
                        go_wp2
                        go_ret
                        exact ⟨rfl, HBX.out⟩
      · have hor : (1048576 : Int) < lb ∨ ((1048576 : Int) < pb ∧ ¬ (1048576 : Int) < lb) ∨ (((1048576 : Int) < lb + pb ∧ ¬ (1048576 : Int) < lb) ∧ ¬ (1048576 : Int) < pb) ∨ ((((4096 : Int) < lc ∧ ¬ (1048576 : Int) < lb) ∧ ¬ (1048576 : Int) < pb) ∧ ¬ (1048576 : Int) < lb + pb) := by omega
        clear HB1 HP1 q3
        rcases hor with h1 | ⟨h1, h2⟩ | ⟨⟨h1, h2⟩, h3⟩ | ⟨⟨⟨h1, h2⟩, h3⟩, h4⟩
        all_goals
          go_wp2
          go_ret
          exact ⟨rfl, below_drewN w1 (m + m2)⟩
    · have hor : (4096 : Int) < (O.length : Int) ∨ ((4096 : Int) < (Pr.length : Int) ∧ ¬ (4096 : Int) < (O.length : Int)) := by omega
      rcases hor with h1 | ⟨h1, h2⟩
      all_goals
        go_wp2
        go_ret
        exact ⟨rfl, Below.refl _ _⟩

end Go.Proofs.Qxb6601049a
