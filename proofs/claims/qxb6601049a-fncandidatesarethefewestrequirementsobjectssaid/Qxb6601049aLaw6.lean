/-
  FnCandidatesAreTheFewestRequirementsObjects, from rows in memory.
-/
import Derived.Test.Qxb6601049aCnt6b
import Derived.Test.Qxb6601049aLaw7
namespace Go.Proofs.Qxb6601049a
open Go.ChangeShapes Go.WideShapes Go.ChangeAt Go.RowKit
set_option linter.unusedVariables false

set_option maxRecDepth 10000 in
set_option maxHeartbeats 8000000 in
theorem law6_in (a : Option Addr) (O : Objs) (c : Nat) (ra : Option Addr) (R : List Rq) (rc : Nat) (w : World) (hr : ObjRow w a O) (hq : ReqRow w ra R) (hl : LenO O) (hlr : LenR R) :
    Calls Try.prog 6 #[.slice a O.length c, .slice ra R.length rc] w (boolPost true w) := by
  obtain ⟨i0, hi, hz0, hz1, hz2⟩ := info_parts Try.info3
  have hl1 := hl.1
  have hlr1 := hlr.1
  have HR := hide hr
  have HQ := hide hq
  have HLO := hide hl
  have HLR := hide hlr
  unfold maxLen at hl1 hlr1
  clear hr hq hl hlr
  go_enter Try.func6, Try.ntmps6
  go_wp2_with fail
  refine (zzBytes30_any a O c ra R rc w HR.out HQ.out HLO.out HLR.out).mono ?_
  rintro e w1 ⟨⟨bb, rfl⟩, e1⟩
  subst e1
  cases bb with
  | false =>
    go_wp2
    go_ret
    exact ⟨rfl, Below.refl _ _⟩
  | true =>
    by_cases q1 : O.length ≤ 4096 ∧ R.length ≤ 4096
    · obtain ⟨q1, q2⟩ := q1
      have q1' : ¬ ((4096 : Int) < (O.length : Int)) := by omega
      have q2' : ¬ ((4096 : Int) < (R.length : Int)) := by omega
      go_wp2_with fail
      refine (labelsWeight_any a O c w1 HR.out HLO.out.1 HLO.out.2).mono ?_
      rintro e w2 ⟨lb, lc, rfl, hb1, hb2, hb3, m, rfl⟩
      have HB1 := hide hb1
      clear hb1
      go_wp2_with fail
      refine (reqsWeight_any ra R rc (w1.drewN m) (HQ.out.below (below_drewN' w1 m)) HLR.out).mono ?_
      rintro e w2 ⟨pb, pcc, rfl, hp1, hp2, hp3, m2, rfl⟩
      have HP1 := hide hp1
      clear hp1
      have hwr : IntKind.i64.wrap (lb + pb) = lb + pb := by rw [IntKind.wrap_i64]; omega
      by_cases q3 : lb ≤ 1048576 ∧ pb ≤ 1048576 ∧ lb + pb ≤ 1048576
      · obtain ⟨r1, r2, r3⟩ := q3
        have r1' : ¬ ((1048576 : Int) < lb) := by omega
        have r2' : ¬ ((1048576 : Int) < pb) := by omega
        have r3' : ¬ ((1048576 : Int) < lb + pb) := by omega
        by_cases q4 : lc ≤ 4096 ∧ pcc ≤ 4096
        · obtain ⟨r4, r5⟩ := q4
          have r4' : ¬ ((4096 : Int) < lc) := by omega
          have r5' : ¬ ((4096 : Int) < pcc) := by omega
          obtain ⟨hso, hlc⟩ := HB1.out r1
          have HSO := hide hso
          have HSR := hide (HP1.out r2)
          clear hso hlc HB1 HP1
          go_wp2_with fail
          refine (cloneLabels_any a O c (w1.drewN (m + m2)) HSO.out HR.out).mono ?_
          rintro e w2 ⟨a', c', rfl, hr2, hbe2⟩
          have HR2 := hide hr2
          have HBE2 : Hid (Below w1.heap.size w1 w2) := ((below_drewN' w1 (m + m2)).trans hbe2)
          have HPR2 := hide (HQ.out.below HBE2.out)
          clear hr2 hbe2 hwr
          go_wp2_with fail
          refine (cloneReqs_any ra R rc w2 HSR.out HPR2.out).mono ?_
          rintro e w3 ⟨ra', rc', rfl, hq3, hbe3⟩
          have HQ3 := hide hq3
          have HR3 := hide (HR2.out.below hbe3)
          have HBE3 := hide (HBE2.out.trans (hbe3.mono HBE2.out.size))
          clear hq3 hbe3 HR2 HBE2 HPR2
          go_wp2_with fail
          refine (buildLabels_any a' O c' w3 HSO.out HR3.out).mono ?_
          rintro e w4 ⟨ma, mc, rfl, hm4, hbe4⟩
          have HM4 := hide hm4
          have HQ4 := hide (HQ3.out.below hbe4)
          have HR4 := hide (HR3.out.below hbe4)
          have HBE4 := hide (HBE3.out.trans (hbe4.mono HBE3.out.size))
          clear hm4 hbe4 HQ3 HR3 HBE3
          go_wp2_with fail
          refine (zzNewLabelIndex_any ma O mc w4 HSO.out HM4.out).mono ?_
          rintro e w5 ⟨X, rfl, hix, hbe5⟩
          have HI := hide hix
          have HQ5 := hide (HQ4.out.below hbe5)
          have HR5 := hide (HR4.out.below hbe5)
          have HBE5 := hide (HBE4.out.trans (hbe5.mono HBE4.out.size))
          clear hix hbe5 HM4 HQ4 HR4 HBE4
          go_wp2_with fail
          refine (zzNoSelector_any w5).mono ?_
          rintro e wo ⟨rfl, eo⟩
          subst eo
          have HK : Hid (SelK wo R 0 (.slice none 0 0) wo) := ⟨SelAt.start _ _, Below.refl _ _⟩
          go_wp2_with fail
          go_loopw [11, 10] (fun i v wr => ∃ k : Nat, k ≤ R.length ∧ i = .int .i64 k ∧ SelK wo R k v wr) (fun i _ _ => R.length - (intOf i).toNat)
          case atStart => exact ⟨0, Nat.zero_le _, rfl, HK.out⟩
          case round =>
            clear HK
            obtain ⟨k, hk, rfl, hsk⟩ := hrel
            have HSK := hide hsk
            clear hsk
            by_cases hlt : k < R.length
            · have hlt' : (k : Int) < (R.length : Int) := by omega
              obtain ⟨b, off, r, va, vc, rfl, hrk, c0, c1, c2, c3, hst⟩ := HQ5.out.at hlt
              have HRK := hide hrk
              have HSTR := hide hst
              have hvl := HSR.out.2 k r hrk
              have HF : Hid (∀ W, Below wo.heap.size wo W → W.cell? ⟨b, off + k * 4, none⟩ = some (.string r.key) ∧ W.cell? ⟨b, off + k * 4 + 1, none⟩ = some (.slice va r.vals.length vc) ∧ W.cell? ⟨b, off + k * 4 + 2, none⟩ = some (.bool r.any) ∧ W.cell? ⟨b, off + k * 4 + 3, none⟩ = some (.bool r.neg)) := fun W h =>
                ⟨(h.cell (p := ⟨b, off + k * 4, none⟩) (World.block_lt_of_cell? wo _ c0)).trans c0, (h.cell (p := ⟨b, off + k * 4 + 1, none⟩) (World.block_lt_of_cell? wo _ c1)).trans c1, (h.cell (p := ⟨b, off + k * 4 + 2, none⟩) (World.block_lt_of_cell? wo _ c2)).trans c2, (h.cell (p := ⟨b, off + k * 4 + 3, none⟩) (World.block_lt_of_cell? wo _ c3)).trans c3⟩
              have HBD : Hid (Below wo.heap.size wo wr.drew) := HSK.out.2.trans ⟨rfl, rfl, rfl, Nat.le_refl _, fun _ _ => rfl⟩
              have HS0 := hide (HF.out wr.drew HBD.out)
              clear hrk c0 c1 c2 c3 hst
              go_upto_region 18 with fail
              refine startU (S := fun W => W.cell? ⟨b, off + k * 4, none⟩ = some (.string r.key) ∧ W.cell? ⟨b, off + k * 4 + 1, none⟩ = some (.slice va r.vals.length vc) ∧ W.cell? ⟨b, off + k * 4 + 2, none⟩ = some (.bool r.any) ∧ W.cell? ⟨b, off + k * 4 + 3, none⟩ = some (.bool r.neg)) 18 rfl (by kernel_rfl) ?_
              refine takeU 0 87 (v := ?_) rfl rfl (by kernel_rfl) (by kernel_rfl) (by kernel_rfl) (by kernel_rfl) (fun _ _ _ h => h) (by rfl) HS0.out ?_ ?_
              rotate_left
              · intro w' hSw
                obtain ⟨h1, h2, h3, h4⟩ := hSw
                go_simp
                try (with_reducible rfl)
              simp only [List.setIfInBounds_toArray, List.set_cons_zero, List.set_cons_succ]
              refine takeU 1 88 (v := ?_) rfl rfl (by kernel_rfl) (by kernel_rfl) (by kernel_rfl) (by kernel_rfl) (fun _ _ _ h => h) (by rfl) HS0.out ?_ ?_
              rotate_left
              · intro w' hSw
                obtain ⟨h1, h2, h3, h4⟩ := hSw
                go_simp
                try (with_reducible rfl)
              simp only [List.setIfInBounds_toArray, List.set_cons_zero, List.set_cons_succ]
              refine takeU 2 89 (v := ?_) rfl rfl (by kernel_rfl) (by kernel_rfl) (by kernel_rfl) (by kernel_rfl) (fun _ _ _ h => h) (by rfl) HS0.out ?_ ?_
              rotate_left
              · intro w' hSw
                obtain ⟨h1, h2, h3, h4⟩ := hSw
                go_simp
                try (with_reducible rfl)
              simp only [List.setIfInBounds_toArray, List.set_cons_zero, List.set_cons_succ]
              refine takeU 3 90 (v := ?_) rfl rfl (by kernel_rfl) (by kernel_rfl) (by kernel_rfl) (by kernel_rfl) (fun _ _ _ h => h) (by rfl) HS0.out ?_ ?_
              rotate_left
              · intro w' hSw
                obtain ⟨h1, h2, h3, h4⟩ := hSw
                go_simp
                try (with_reducible rfl)
              simp only [List.setIfInBounds_toArray, List.set_cons_zero, List.set_cons_succ]
              refine takeU 4 91 (v := ?_) rfl rfl (by kernel_rfl) (by kernel_rfl) (by kernel_rfl) (by kernel_rfl) (fun _ _ _ h => h) (by rfl) HS0.out ?_ ?_
              rotate_left
              · intro w' hSw
                obtain ⟨h1, h2, h3, h4⟩ := hSw
                go_simp
                try (with_reducible rfl)
              simp only [List.setIfInBounds_toArray, List.set_cons_zero, List.set_cons_succ]
              refine takeU 5 92 (v := ?_) rfl rfl (by kernel_rfl) (by kernel_rfl) (by kernel_rfl) (by kernel_rfl) (fun _ _ _ h => h) (by rfl) HS0.out ?_ ?_
              rotate_left
              · intro w' hSw
                obtain ⟨h1, h2, h3, h4⟩ := hSw
                go_simp
                try (with_reducible rfl)
              simp only [List.setIfInBounds_toArray, List.set_cons_zero, List.set_cons_succ]
              refine takeU 6 93 (v := ?_) rfl rfl (by kernel_rfl) (by kernel_rfl) (by kernel_rfl) (by kernel_rfl) (fun _ _ _ h => h) (by rfl) HS0.out ?_ ?_
              rotate_left
              · intro w' hSw
                obtain ⟨h1, h2, h3, h4⟩ := hSw
                go_simp
                try (with_reducible rfl)
              simp only [List.setIfInBounds_toArray, List.set_cons_zero, List.set_cons_succ]
              refine takeU 7 94 (v := ?_) rfl rfl (by kernel_rfl) (by kernel_rfl) (by kernel_rfl) (by kernel_rfl) (fun _ _ _ h => h) (by rfl) HS0.out ?_ ?_
              rotate_left
              · intro w' hSw
                obtain ⟨h1, h2, h3, h4⟩ := hSw
                go_simp
                try (with_reducible rfl)
              simp only [List.setIfInBounds_toArray, List.set_cons_zero, List.set_cons_succ]
              refine takeU 8 95 (v := ?_) rfl rfl (by kernel_rfl) (by kernel_rfl) (by kernel_rfl) (by kernel_rfl) (fun _ _ _ h => h) (by rfl) HS0.out ?_ ?_
              rotate_left
              · intro w' hSw
                obtain ⟨h1, h2, h3, h4⟩ := hSw
                go_simp
                try (with_reducible rfl)
              simp only [List.setIfInBounds_toArray, List.set_cons_zero, List.set_cons_succ]
              refine takeU 9 96 (v := ?_) rfl rfl (by kernel_rfl) (by kernel_rfl) (by kernel_rfl) (by kernel_rfl) (fun _ _ _ h => h) (by rfl) HS0.out ?_ ?_
              rotate_left
              · intro w' hSw
                obtain ⟨h1, h2, h3, h4⟩ := hSw
                go_simp
                try (with_reducible rfl)
              simp only [List.setIfInBounds_toArray, List.set_cons_zero, List.set_cons_succ]
              refine takeU 11 98 (v := ?_) rfl rfl (by kernel_rfl) (by kernel_rfl) (by kernel_rfl) (by kernel_rfl) (fun _ _ _ h => h) (by rfl) HS0.out ?_ ?_
              rotate_left
              · intro w' hSw
                obtain ⟨h1, h2, h3, h4⟩ := hSw
                go_simp
                try (with_reducible rfl)
              simp only [List.setIfInBounds_toArray, List.set_cons_zero, List.set_cons_succ]
              refine takeU 12 99 (v := ?_) rfl rfl (by kernel_rfl) (by kernel_rfl) (by kernel_rfl) (by kernel_rfl) (fun _ _ _ h => h) (by rfl) HS0.out ?_ ?_
              rotate_left
              · intro w' hSw
                obtain ⟨h1, h2, h3, h4⟩ := hSw
                go_simp
                try (with_reducible rfl)
              simp only [List.setIfInBounds_toArray, List.set_cons_zero, List.set_cons_succ]
              refine takeU 13 100 (v := ?_) rfl rfl (by kernel_rfl) (by kernel_rfl) (by kernel_rfl) (by kernel_rfl) (fun _ _ _ h => h) (by rfl) HS0.out ?_ ?_
              rotate_left
              · intro w' hSw
                obtain ⟨h1, h2, h3, h4⟩ := hSw
                go_simp
                try (with_reducible rfl)
              simp only [List.setIfInBounds_toArray, List.set_cons_zero, List.set_cons_succ]
              refine takeU 14 101 (v := ?_) rfl rfl (by kernel_rfl) (by kernel_rfl) (by kernel_rfl) (by kernel_rfl) (fun _ _ _ h => h) (by rfl) HS0.out ?_ ?_
              rotate_left
              · intro w' hSw
                obtain ⟨h1, h2, h3, h4⟩ := hSw
                go_simp
                try (with_reducible rfl)
              simp only [List.setIfInBounds_toArray, List.set_cons_zero, List.set_cons_succ]
              refine takeU 15 102 (v := ?_) rfl rfl (by kernel_rfl) (by kernel_rfl) (by kernel_rfl) (by kernel_rfl) (fun _ _ _ h => h) (by rfl) HS0.out ?_ ?_
              rotate_left
              · intro w' hSw
                obtain ⟨h1, h2, h3, h4⟩ := hSw
                go_simp
                try (with_reducible rfl)
              simp only [List.setIfInBounds_toArray, List.set_cons_zero, List.set_cons_succ]
              refine oneU 10 rfl (by kernel_rfl) (by rfl) (fun K1 hK1 => ?_)
              go_simp
              refine (reqValues_any r va vc wr.drew (HSTR.out.below HBD.out) hvl).mono ?_
              rintro e w6 ⟨mo, rfl, hvo, hb6⟩
              have HB6 := hide (HBD.out.trans (hb6.mono HBD.out.size))
              refine hK1.out _ _ (fun _ => HF.out _ HB6.out) ?_
              clear hK1 K1
              obtain ⟨es, hes1, hes2, hes3⟩ := (HSK.out.1.below ((below_drew wr).trans hb6))
              refine oneU 16 rfl (by kernel_rfl) (by rfl) (fun K1 hK1 => ?_)
              go_simp
              refine (zzSelectorAppend_any wo.heap.size _ _ (flatE es) r.key mo r.neg w6 hes3 HB6.out.size (by simp; omega)).mono ?_
              rintro e w7 ⟨g7, cap7, blk7, rfl, hown7, hg7⟩
              have HSN := hide (SelK.step HSK.out.2 HRK.out ((below_drew wr).trans hb6) hes1 hes2 hes3 hvo hown7 hg7)
              refine hK1.out _ _ (fun _ => HF.out _ HSN.out.2) ?_
              clear hK1 K1
              refine lastU 17 rfl (by kernel_rfl) (by kernel_rfl) (by kernel_rfl) (by rfl) (fun K1 hK1 => ?_)
              go_simp
              refine hK1.out _ _ ?_
              clear hK1 K1 HS0 HF hown7 hg7 hes1 hes2 hes3 hvo hb6 HBD HB6 HSK HSTR
              go_wp2
              go_roundw
              case rel => exact ⟨k + 1, by omega, by go_num, by have := HSN.out; rwa [show (R.take k).length = k by rw [List.length_take]; omega] at this⟩
              case measure => simp [intOf]; omega
            · have hge : ¬ ((k : Int) < (R.length : Int)) := by omega
              have hkR : R.take k = R := List.take_of_length_le (by omega)
              obtain ⟨sa, sc, hshape⟩ := HSK.out.1.shape
              rw [hkR] at hshape
              subst hshape
              have HSEL : Hid (SelAt wo.heap.size wr (.slice sa R.length sc) R) := by have := HSK.out.1; rwa [hkR] at this
              have HBW := hide HSK.out.2
              clear HSK
              obtain ⟨wp, hwp⟩ : ∃ wp, wp = wr := ⟨_, rfl⟩
              subst hwp
              go_wp2_with fail
              refine (zzCandidates_any X O R wo.heap.size sa sc wp (HI.out.below HBW.out) HSEL.out HSO.out.1 HSR.out).mono ?_
              rintro e w8 ⟨ga, gc, Ls, rfl, hgn, hrows, hcand, hb8⟩
              have HGN := hide hgn
              have HROWS := hide hrows
              have HCAND := hide hcand
              have HB8 := hide (HBW.out.trans (hb8.mono HBW.out.size))
              have HR8 := hide (HR5.out.below HB8.out)
              have HQ8 := hide (HQ5.out.below HB8.out)
              have HBE8 := hide (HBE5.out.trans (HB8.out.mono HBE5.out.size))
              clear hgn hrows hcand hb8 HSEL HI HR5 HQ5 HBE5 hkR
              obtain ⟨hlsl, P4⟩ := HCAND.out.len HSR.out
              have HP4 := hide P4
              have hbase8 := HBE8.out.size
              have hnil := fun w a n c => Lib.run_eql_slice_nil (P := Try.prog) w 65 22 a n c 0 0 Try.underlying65
              clear P4
              go_wp2_with (at_make; refine wpList_make_full _ rfl _ _ 22 rfl w8.heap.size 3 i0 (.int .i64 0) 1 Try.underlying22 hi hz0 hz1 .i64 .i64 _ _ R.length rfl rfl rfl rfl (by rw [hz2]; omega) (by unfold maxLen; omega) (Nat.le_refl _) ?_)
              intro w9 hown9 hgrow9
              have HC0 : Hid (CntAt w8 w8.heap.size O R 0 w9) := cnt_start hown9 hgrow9
              clear hown9 hgrow9
              generalize hGe : w8.heap.size = G at HC0
              have hG : w8.heap.size ≤ G := by omega
              go_wp2_with fail
              go_loopw [15] (fun i wr => ∃ j : Nat, j ≤ R.length ∧ i = .int .i64 j ∧ Hid (∀ (x : Nat) (r : Rq), x < j → R[x]? = some r → meets O r ≠ 0) ∧ CntAt w8 G O R j wr) (fun i _ => R.length - (intOf i).toNat)
              case atStart => exact ⟨0, Nat.zero_le _, rfl, fun x r h => absurd h (Nat.not_lt_zero _), HC0.out⟩
              case round =>
                clear HC0
                obtain ⟨j, hj, rfl, hnz, hcnt⟩ := hrel
                have HNZ := hide hnz.out
                have HCN := hide hcnt
                clear hnz hcnt
                by_cases hjl : j < R.length
                · have hjl' : (j : Int) < (R.length : Int) := by omega
                  obtain ⟨rb, roff, r, va, vc, rfl, hRj, c0, c1, c2, c3, hstr⟩ := HQ8.out.at hjl
                  have HRJ := hide hRj
                  have HSTR := hide hstr
                  have hvl := HSR.out.2 j r hRj
                  have HF1 : Hid (∀ W, Below w8.heap.size w8 W → W.cell? ⟨rb, roff + j * 4, none⟩ = some (.string r.key) ∧ W.cell? ⟨rb, roff + j * 4 + 1, none⟩ = some (.slice va r.vals.length vc) ∧ W.cell? ⟨rb, roff + j * 4 + 2, none⟩ = some (.bool r.any) ∧ W.cell? ⟨rb, roff + j * 4 + 3, none⟩ = some (.bool r.neg)) := fun W h =>
                    ⟨(h.cell (p := ⟨rb, roff + j * 4, none⟩) (World.block_lt_of_cell? w8 _ c0)).trans c0, (h.cell (p := ⟨rb, roff + j * 4 + 1, none⟩) (World.block_lt_of_cell? w8 _ c1)).trans c1, (h.cell (p := ⟨rb, roff + j * 4 + 2, none⟩) (World.block_lt_of_cell? w8 _ c2)).trans c2, (h.cell (p := ⟨rb, roff + j * 4 + 3, none⟩) (World.block_lt_of_cell? w8 _ c3)).trans c3⟩
                  clear hRj c0 c1 c2 c3 hstr
                  go_wp2_with fail
                  go_loopw [17, 16] (fun i cv wr => ∃ k : Nat, k ≤ O.length ∧ i = .int .i64 k ∧ cv = .int .i64 ((meetsK O r k : Nat) : Int) ∧ CntAt w8 G O R j wr) (fun i _ _ => O.length - (intOf i).toNat)
                  case atStart => exact ⟨0, Nat.zero_le _, rfl, by simp [meetsK], HCN.out⟩
                  case round =>
                    clear HCN
                    obtain ⟨k2, hk2, rfl, rfl, hcn⟩ := hrel
                    have HCN := hide hcn
                    clear hcn
                    have hmk := meetsK_le O r k2
                    by_cases hkl : k2 < O.length
                    · have hkl' : (k2 : Int) < (O.length : Int) := by omega
                      obtain ⟨ob, ooff, l, ai, ci, rfl, hOk, hoc, hol⟩ := HR8.out.at hkl
                      have hll := HSO.out.2 k2 l hOk
                      have hms := meetsK_succ O r k2
                      rw [getD_of hOk] at hms
                      have HOL := hide hol
                      have HF : Hid (∀ W, Below w8.heap.size w8 W → W.cell? ⟨ob, ooff + k2, none⟩ = some (.slice ai l.length ci) ∧ W.cell? ⟨rb, roff + j * 4, none⟩ = some (.string r.key) ∧ W.cell? ⟨rb, roff + j * 4 + 1, none⟩ = some (.slice va r.vals.length vc) ∧ W.cell? ⟨rb, roff + j * 4 + 2, none⟩ = some (.bool r.any) ∧ W.cell? ⟨rb, roff + j * 4 + 3, none⟩ = some (.bool r.neg)) := fun W h =>
                        ⟨(h.cell (p := ⟨ob, ooff + k2, none⟩) (World.block_lt_of_cell? w8 _ hoc)).trans hoc, HF1.out W h⟩
                      have HBD : Hid (Below w8.heap.size w8 wr.drew) := HCN.out.2.trans ⟨rfl, rfl, rfl, Nat.le_refl _, fun _ _ => rfl⟩
                      have HS0 := hide (HF.out wr.drew HBD.out)
                      have HMS := hide hms
                      clear hOk hoc hol hms
                      generalize meetsK O r k2 = ck at hmk HMS
                      go_upto_region 29 with fail
                      refine startU (S := fun W => W.cell? ⟨ob, ooff + k2, none⟩ = some (.slice ai l.length ci) ∧ W.cell? ⟨rb, roff + j * 4, none⟩ = some (.string r.key) ∧ W.cell? ⟨rb, roff + j * 4 + 1, none⟩ = some (.slice va r.vals.length vc) ∧ W.cell? ⟨rb, roff + j * 4 + 2, none⟩ = some (.bool r.any) ∧ W.cell? ⟨rb, roff + j * 4 + 3, none⟩ = some (.bool r.neg)) 9 rfl (by kernel_rfl) ?_
                      refine takeU 0 123 (v := ?_) rfl rfl (by kernel_rfl) (by kernel_rfl) (by kernel_rfl) (by kernel_rfl) (fun _ _ _ h => h) (by rfl) HS0.out ?_ ?_
                      rotate_left
                      · intro w' hSw
                        obtain ⟨h1, h2, h3, h4, h5⟩ := hSw
                        go_simp
                        try (with_reducible rfl)
                      simp only [List.setIfInBounds_toArray, List.set_cons_zero, List.set_cons_succ]
                      refine takeU 1 124 (v := ?_) rfl rfl (by kernel_rfl) (by kernel_rfl) (by kernel_rfl) (by kernel_rfl) (fun _ _ _ h => h) (by rfl) HS0.out ?_ ?_
                      rotate_left
                      · intro w' hSw
                        obtain ⟨h1, h2, h3, h4, h5⟩ := hSw
                        go_simp
                        try (with_reducible rfl)
                      simp only [List.setIfInBounds_toArray, List.set_cons_zero, List.set_cons_succ]
                      refine takeU 2 125 (v := ?_) rfl rfl (by kernel_rfl) (by kernel_rfl) (by kernel_rfl) (by kernel_rfl) (fun _ _ _ h => h) (by rfl) HS0.out ?_ ?_
                      rotate_left
                      · intro w' hSw
                        obtain ⟨h1, h2, h3, h4, h5⟩ := hSw
                        go_simp
                        try (with_reducible rfl)
                      simp only [List.setIfInBounds_toArray, List.set_cons_zero, List.set_cons_succ]
                      refine takeU 3 126 (v := ?_) rfl rfl (by kernel_rfl) (by kernel_rfl) (by kernel_rfl) (by kernel_rfl) (fun _ _ _ h => h) (by rfl) HS0.out ?_ ?_
                      rotate_left
                      · intro w' hSw
                        obtain ⟨h1, h2, h3, h4, h5⟩ := hSw
                        go_simp
                        try (with_reducible rfl)
                      simp only [List.setIfInBounds_toArray, List.set_cons_zero, List.set_cons_succ]
                      refine takeU 4 127 (v := ?_) rfl rfl (by kernel_rfl) (by kernel_rfl) (by kernel_rfl) (by kernel_rfl) (fun _ _ _ h => h) (by rfl) HS0.out ?_ ?_
                      rotate_left
                      · intro w' hSw
                        obtain ⟨h1, h2, h3, h4, h5⟩ := hSw
                        go_simp
                        try (with_reducible rfl)
                      simp only [List.setIfInBounds_toArray, List.set_cons_zero, List.set_cons_succ]
                      refine takeU 5 128 (v := ?_) rfl rfl (by kernel_rfl) (by kernel_rfl) (by kernel_rfl) (by kernel_rfl) (fun _ _ _ h => h) (by rfl) HS0.out ?_ ?_
                      rotate_left
                      · intro w' hSw
                        obtain ⟨h1, h2, h3, h4, h5⟩ := hSw
                        go_simp
                        try (with_reducible rfl)
                      simp only [List.setIfInBounds_toArray, List.set_cons_zero, List.set_cons_succ]
                      refine takeU 6 129 (v := ?_) rfl rfl (by kernel_rfl) (by kernel_rfl) (by kernel_rfl) (by kernel_rfl) (fun _ _ _ h => h) (by rfl) HS0.out ?_ ?_
                      rotate_left
                      · intro w' hSw
                        obtain ⟨h1, h2, h3, h4, h5⟩ := hSw
                        go_simp
                        try (with_reducible rfl)
                      simp only [List.setIfInBounds_toArray, List.set_cons_zero, List.set_cons_succ]
                      refine takeU 7 130 (v := ?_) rfl rfl (by kernel_rfl) (by kernel_rfl) (by kernel_rfl) (by kernel_rfl) (fun _ _ _ h => h) (by rfl) HS0.out ?_ ?_
                      rotate_left
                      · intro w' hSw
                        obtain ⟨h1, h2, h3, h4, h5⟩ := hSw
                        go_simp
                        try (with_reducible rfl)
                      simp only [List.setIfInBounds_toArray, List.set_cons_zero, List.set_cons_succ]
                      refine lastU 8 rfl (by kernel_rfl) (by kernel_rfl) (by kernel_rfl) (by rfl) (fun K1 hK1 => ?_)
                      go_simp
                      refine (meetsReq_any ai l ci r va vc wr.drew (HOL.out.below HBD.out) hll (HSTR.out.below HBD.out) hvl).mono ?_
                      rintro e w11 ⟨rfl, hb11⟩
                      have HC11 := hide (HCN.out.kept ((below_drew wr).trans hb11))
                      refine hK1.out _ _ ?_
                      clear hK1 K1 HS0 HF hb11 HBD HCN
                      generalize meetB l r = mb at HMS
                      cases mb with
                      | true =>
                        go_wp2
                        go_roundw
                        case rel => exact ⟨k2 + 1, by omega, by go_num, by rw [HMS.out]; go_num, HC11.out⟩
                        case measure => simp [intOf]; omega
                      | false =>
                        go_wp2
                        go_roundw
                        case rel => exact ⟨k2 + 1, by omega, by go_num, by rw [HMS.out]; go_num, HC11.out⟩
                        case measure => simp [intOf]; omega
                    · have hgk : ¬ ((k2 : Int) < (O.length : Int)) := by omega
                      have hkn : k2 = O.length := by omega
                      have hme : meetsK O r k2 = meets O r := by rw [hkn]; rfl
                      rw [hme]
                      rw [hme] at hmk
                      have HFR := hide (HBE8.out.trans (HCN.out.2.mono HBE8.out.size))
                      obtain ⟨u0, hu1, hu2, _⟩ := HCN.out.cells hjl
                      by_cases hz : meets O r = 0
                      · have hga : ga = none := by
                          rcases HCAND.out with ⟨h, _⟩ | ⟨_, h, _⟩
                          · exact h
                          · exact absurd hz (h j r HRJ.out)
                        subst hga
                        have hz' : ((meets O r : Nat) : Int) = 0 := by omega
                        clear hkn hme hz
                        go_wp2
                        go_ret
                        exact ⟨rfl, HFR.out⟩
                      · have hz' : ¬ (((meets O r : Nat) : Int) = 0) := by omega
                        have HST := hide (HCN.out.step hjl HRJ.out hG)
                        have HNN : Hid (∀ (x : Nat) (r : Rq), x < j + 1 → R[x]? = some r → meets O r ≠ 0) := by
                          intro x r' hx hr'
                          by_cases e : x = j
                          · subst e
                            have := HRJ.out
                            rw [this] at hr'
                            cases hr'
                            exact hz
                          · exact HNZ.out x r' (by omega) hr'
                        generalize meets O r = mm at hz' HST hmk
                        clear hkn hme hz
                        go_wp2
                        go_roundw
                        case rel => exact ⟨j + 1, by omega, by go_num, HNN.out, HST.out⟩
                        case measure => simp [intOf]; omega
                · have hgj : ¬ ((j : Int) < (R.length : Int)) := by omega
                  have hjR : j = R.length := by omega
                  have HNZA : Hid (∀ (x : Nat) (r : Rq), R[x]? = some r → meets O r ≠ 0) := fun x r hr => HNZ.out x r (by have := (List.getElem?_eq_some_iff.1 hr).1; omega) hr
                  rcases HCAND.out with ⟨_, _, x, r, hr, h0⟩ | ⟨hgne, _, best, few, hbest, hcase⟩
                  · exact absurd h0 (HNZA.out x r hr)
                  have HBST := hide hbest
                  have HCASE := hide hcase
                  have HCT : Hid (CntAt w8 G O R R.length wr) := hjR ▸ HCN.out
                  have HRQ := hide (HR8.out.below HCT.out.2)
                  have HQQ := hide (HQ8.out.below HCT.out.2)
                  have HLS := hide (HROWS.out.below HCT.out.2)
                  have HBQ := hide (HBE8.out.trans (HCT.out.2.mono HBE8.out.size))
                  clear hbest hcase HNZ HCN HR8 HQ8 HROWS HBE8 HCAND hjR
                  obtain ⟨wq, hwq⟩ : ∃ wq, wq = wr := ⟨_, rfl⟩
                  subst hwq
                  go_wp2_with fail
                  go_loopw [19, 18] (fun i lv wr => ∃ (j : Nat) (l : Int), j ≤ R.length ∧ i = .int .i64 j ∧ lv = .int .i64 l ∧ Least O R j l ∧ wr = wq) (fun i _ _ => R.length - (intOf i).toNat)
                  case atStart => exact ⟨0, -1, Nat.zero_le _, rfl, rfl, Least.start O R, rfl⟩
                  case round =>
                    obtain ⟨j2, l, hj2, rfl, rfl, hle, rfl⟩ := hrel
                    have HLE := hide hle
                    have hbd := hle.bound
                    clear hle
                    by_cases hjl : j2 < R.length
                    · have hjl' : (j2 : Int) < (R.length : Int) := by omega
                      obtain ⟨rb, roff, r, va, vc, rfl, hRj, c0, c1, c2, c3, hstr⟩ := HQQ.out.at hjl
                      obtain ⟨u, hu1, hu2, hu3⟩ := HCT.out.cells hjl
                      have hu := hu3 r hjl hRj
                      subst hu
                      have HTK := hide (fun hn hlt => HLE.out.take hRj hn hlt)
                      have HSK := hide (fun hn => HLE.out.skip hRj hn)
                      clear hu2 hu3 c0 c1 c2 hstr hRj
                      generalize meets O r = mm at hu1 HTK HSK
                      cases hneg : r.neg with
                      | true =>
                        rw [hneg] at c3
                        have HN := hide (HSK.out (.inl hneg))
                        clear hneg
                        go_wp2
                        go_roundw
                        case rel => exact ⟨j2 + 1, l, by omega, by go_num, rfl, HN.out, by first | trivial | rfl⟩
                        case measure => simp [intOf]; omega
                      | false =>
                        rw [hneg] at c3
                        have HNG := hide hneg
                        clear hneg
                        by_cases hl0 : l < 0
                        · have HN := hide (HTK.out HNG.out (.inl hl0))
                          go_wp2
                          go_roundw
                          case rel => exact ⟨j2 + 1, _, by omega, by go_num, rfl, HN.out, by first | trivial | rfl⟩
                          case measure => simp [intOf]; omega
                        · by_cases hml : (mm : Int) < l
                          · have HN := hide (HTK.out HNG.out (.inr hml))
                            go_wp2
                            go_roundw
                            case rel => exact ⟨j2 + 1, _, by omega, by go_num, rfl, HN.out, by first | trivial | rfl⟩
                            case measure => simp [intOf]; omega
                          · have HN := hide (HSK.out (.inr ⟨hl0, hml⟩))
                            go_wp2
                            go_roundw
                            case rel => exact ⟨j2 + 1, l, by omega, by go_num, rfl, HN.out, by first | trivial | rfl⟩
                            case measure => simp [intOf]; omega
                    · have hgj2 : ¬ ((j2 : Int) < (R.length : Int)) := by omega
                      have HLF : Hid (Least O R R.length l) := by
                        have e : j2 = R.length := by omega
                        have := HLE.out
                        rwa [e] at this
                      clear HLE
                      obtain ⟨wz, hwz⟩ : ∃ wz, wz = wr := ⟨_, rfl⟩
                      subst hwz
                      go_upto_region 41 with fail
                      go_cut [176] from 170 to 175 (fun v wc => v = .bool (decide (0 ≤ l ∧ l < (O.length : Int))) ∧ wc = wz)
                      case first =>
                        by_cases h1 : 0 ≤ l
                        · by_cases h2 : l < (O.length : Int)
                          · go_wp2
                            go_meet
                            case rel => exact ⟨by simp [h1, h2], rfl⟩
                          · go_wp2
                            go_meet
                            case rel => exact ⟨by simp [h1, h2], rfl⟩
                        · go_wp2
                          go_meet
                          case rel => exact ⟨by rw [decide_eq_false (fun h => absurd h.1 (by omega))], rfl⟩
                      case rest =>
                        obtain ⟨rfl, rfl⟩ := hcut
                        go_upto_if 176 with fail
                        go_cut [20] from 176 to 201 (fun b wd => b = .int .i64 (bi best) ∧ wd = wc)
                        case first =>
                          by_cases hin : 0 ≤ l ∧ l < (O.length : Int)
                          · rw [decide_eq_true hin]
                            have HIN := hide hin
                            clear hin
                            obtain ⟨wz, hwz⟩ : ∃ wz, wz = wc := ⟨_, rfl⟩
                            subst hwz
                            go_wp2_with fail
                            go_loopw [21, 20] (fun i b wr => ∃ (j : Nat) (bo : Option Nat), j ≤ R.length ∧ i = .int .i64 j ∧ b = .int .i64 (bi bo) ∧ First O R l j bo ∧ wr = wz) (fun i _ _ => R.length - (intOf i).toNat)
                            case atStart => exact ⟨0, none, Nat.zero_le _, rfl, rfl, First.start O R l, rfl⟩
                            case round =>
                              obtain ⟨j3, bo, hj3, rfl, rfl, hfi, rfl⟩ := hrel
                              have HFI := hide hfi
                              clear hfi
                              cases bo with
                              | none =>
                                have hb1 : bi none < 0 := by simp [bi]
                                by_cases hjl : j3 < R.length
                                · have hjl' : (j3 : Int) < (R.length : Int) := by omega
                                  obtain ⟨rb, roff, r, va, vc, rfl, hRj, c0, c1, c2, c3, hstr⟩ := HQQ.out.at hjl
                                  obtain ⟨u, hu1, hu2, hu3⟩ := HCT.out.cells hjl
                                  have hu := hu3 r hjl hRj
                                  subst hu
                                  have HHT := hide (fun hn he => HFI.out.hit hRj hn he)
                                  have HMS := hide (fun hn => HFI.out.miss hRj hn)
                                  clear hu2 hu3 c0 c1 c2 hstr hRj
                                  generalize meets O r = mm at hu1 HHT HMS
                                  cases hneg : r.neg with
                                  | true =>
                                    rw [hneg] at c3
                                    have HN := hide (HMS.out (.inl hneg))
                                    clear hneg
                                    go_wp2
                                    go_roundw
                                    case rel => exact ⟨j3 + 1, none, by omega, by go_num, rfl, HN.out, by first | trivial | rfl⟩
                                    case measure => simp [intOf]; omega
                                  | false =>
                                    rw [hneg] at c3
                                    have HNG := hide hneg
                                    clear hneg
                                    by_cases hml : (mm : Int) = l
                                    · have HN := hide (HHT.out HNG.out hml)
                                      go_wp2
                                      go_roundw
                                      case rel => exact ⟨j3 + 1, some j3, by omega, by go_num, rfl, HN.out, by first | trivial | rfl⟩
                                      case measure => simp [intOf]; omega
                                    · have HN := hide (HMS.out (.inr hml))
                                      go_wp2
                                      go_roundw
                                      case rel => exact ⟨j3 + 1, none, by omega, by go_num, rfl, HN.out, by first | trivial | rfl⟩
                                      case measure => simp [intOf]; omega
                                · have hgj3 : ¬ ((j3 : Int) < (R.length : Int)) := by omega
                                  have hbe : none = best := best_first HBST.out HLF.out HIN.out (by have := HFI.out; rwa [show j3 = R.length by omega] at this)
                                  subst hbe
                                  go_wp2
                                  go_meet
                                  case rel => exact ⟨rfl, rfl⟩
                              | some i3 =>
                                have hbe : some i3 = best := best_first HBST.out HLF.out HIN.out (HFI.out.more hj3)
                                subst hbe
                                have hb1 : ¬ (bi (some i3) < 0) := by simp [bi]
                                by_cases hjl : j3 < R.length
                                · have hjl' : (j3 : Int) < (R.length : Int) := by omega
                                  go_wp2
                                  go_meet
                                  case rel => exact ⟨rfl, rfl⟩
                                · have hgj3 : ¬ ((j3 : Int) < (R.length : Int)) := by omega
                                  go_wp2
                                  go_meet
                                  case rel => exact ⟨rfl, rfl⟩
                          · rw [decide_eq_false hin]
                            have hbn := best_none HBST.out HLF.out hin
                            subst hbn
                            clear hin
                            go_wp2
                            go_meet
                            case rel => exact ⟨rfl, rfl⟩
                        case rest =>
                          obtain ⟨rfl, rfl⟩ := hcut
                          clear HCT HLF
                          obtain ⟨wz, hwz⟩ : ∃ wz, wz = wc := ⟨_, rfl⟩
                          subst hwz
                          have hso1 := HSO.out.1
                          cases best with
                          | none =>
                            have hLs : Ls = [List.range O.length] := by
                              rcases HCASE.out with ⟨_, h⟩ | ⟨j, r, h, _⟩
                              · exact h
                              · cases h
                            have hb1 : bi none < 0 := by simp [bi]
                            have hl1 : Ls.length = 1 := by rw [hLs]; rfl
                            obtain ⟨gb, goff, L, ai, ci, rfl, hL0, hcell, hnr⟩ := HLS.out.at (q := 0) (by omega)
                            have hL : L = List.range O.length := by
                              rw [hLs] at hL0
                              simpa using hL0.symm
                            have HL := hide hL
                            have hLl : L.length = O.length := by rw [hL]; simp
                            rw [hLl] at hcell
                            rw [Nat.add_zero] at hcell
                            have HNR := hide hnr
                            rw [hl1]
                            clear hL hL0 hLs hnr HCASE hl1 hLl
                            go_wp2_with fail
                            go_loopw [22] (fun i wr => ∃ k : Nat, k ≤ O.length ∧ i = .int .i64 k ∧ wr = wz) (fun i _ => O.length - (intOf i).toNat)
                            case atStart => exact ⟨0, Nat.zero_le _, rfl, rfl⟩
                            case round =>
                              obtain ⟨k6, hk6, rfl, rfl⟩ := hrel
                              by_cases hkl : k6 < O.length
                              · have hkl' : (k6 : Int) < (O.length : Int) := by omega
                                have hLl : L.length = O.length := by rw [HL.out]; simp
                                obtain ⟨lb2, off2, rfl, hcs⟩ := HNR.out.at (t := k6) (by omega)
                                have hce := hcs k6 (by omega)
                                have hge : L.getD k6 0 = k6 := by rw [HL.out]; simp [List.getD_eq_getElem?_getD, hkl]
                                rw [hge] at hce
                                clear hcs hge hLl
                                go_wp2
                                go_roundw
                                case rel => exact ⟨k6 + 1, by omega, by go_num, by first | trivial | rfl⟩
                                case measure => simp [intOf]; omega
                              · have hgk : ¬ ((k6 : Int) < (O.length : Int)) := by omega
                                clear hcell
                                go_wp2
                                go_ret
                                exact ⟨rfl, HBQ.out⟩
                          | some jb =>
                            obtain ⟨r, hRb, hneg, hcs⟩ : ∃ r, R[jb]? = some r ∧ r.neg = false ∧ ((r.any = true ∧ Ls = [scan O r.key none O.length]) ∨ (r.any = false ∧ ∃ ds : List ByteArray, ds.Nodup ∧ (∀ v, v ∈ ds ↔ v ∈ r.vals) ∧ Ls = ds.map fun v => scan O r.key (some v) O.length)) := by
                              rcases HCASE.out with ⟨h, _⟩ | ⟨j, r, h, h1, h2, h3⟩
                              · cases h
                              · cases h
                                exact ⟨r, h1, h2, h3⟩
                            have HCS := hide hcs
                            have hjl : jb < R.length := (List.getElem?_eq_some_iff.1 hRb).1
                            have hjl' : (jb : Int) < (R.length : Int) := by omega
                            obtain ⟨rb, roff, r', va, vc, rfl, hRj, c0, c1, c2, c3, hstr⟩ := HQQ.out.at hjl
                            obtain rfl : r' = r := by rw [hRj] at hRb; cases hRb; rfl
                            have hvl := HSR.out.2 jb r' hRj
                            have HSTR := hide hstr
                            have hbj : bi (some jb) = (jb : Int) := rfl
                            rw [hbj]
                            clear hcs hRb hRj hstr hbj HCASE HBST HQQ hneg
                            go_upto_region 57 with fail
                            have HY := hide (one_new wz r' va vc)
                            have HRV := hide (HRQ.out.below (Below.one wz (.cells #[.string r'.key, .slice va r'.vals.length vc, .bool r'.any, .bool r'.neg] 62)))
                            have HLV := hide (HLS.out.below (Below.one wz (.cells #[.string r'.key, .slice va r'.vals.length vc, .bool r'.any, .bool r'.neg] 62)))
                            have HSV := hide (HSTR.out.below (Below.one wz (.cells #[.string r'.key, .slice va r'.vals.length vc, .bool r'.any, .bool r'.neg] 62)))
                            have HBV := hide (HBQ.out.trans ((Below.one wz (.cells #[.string r'.key, .slice va r'.vals.length vc, .bool r'.any, .bool r'.neg] 62)).mono HBQ.out.size))
                            clear c0 c1 c2 c3 HRQ HLS HSTR HBQ
                            generalize wz.alloc (.cells #[.string r'.key, .slice va r'.vals.length vc, .bool r'.any, .bool r'.neg] 62) = wv at HY HRV HLV HSV HBV
                            generalize wz.heap.size = Y at HY
                            have y0 := cell_blk (v := .string r'.key) HY.out 0 rfl
                            have y1 := cell_blk (v := .slice va r'.vals.length vc) HY.out 1 rfl
                            have y2 := cell_blk (v := .bool r'.any) HY.out 2 rfl
                            clear HY
                            rcases HCS.out with ⟨hany, hLs⟩ | ⟨hany, ds, hnd, hmem, hLs⟩
                            · rw [hany] at y2
                              have hl1 : Ls.length = 1 := by rw [hLs]; rfl
                              obtain ⟨gb, goff, L, ai, ci, rfl, hL0, hcell, hnr⟩ := HLV.out.at (q := 0) (by omega)
                              have hL : L = scan O r'.key none O.length := by
                                rw [hLs] at hL0
                                simpa using hL0.symm
                              have hLl : L.length ≤ O.length := by rw [hL]; exact scan_len _ _ _ _
                              have HL := hide hL
                              rw [Nat.add_zero] at hcell
                              have HNR := hide hnr
                              rw [hl1]
                              clear hL hL0 hLs hnr hl1 y1 HCS hany HSV
                              have HRN := hide (fun n => HRV.out.below (below_drewN' wv n))
                              have HNN := hide (fun n => HNR.out.below (below_drewN' wv n))
                              go_upto_region 58 with fail
                              go_quiet (first | (go_at_call 25; refine Calls.quiet_of_same (listIsScan_any a' O c' r'.key ⟨#[]⟩ false none rfl ai ci L _ (HRN.out _) HSO.out (HNN.out _) HL.out)))
                              clear hcell y0 y2
                              go_wp2
                              go_ret
                              exact ⟨rfl, HBV.out.trans ((below_drewN' wv nq).mono HBV.out.size)⟩
                            · rw [hany] at y2
                              have HND := hide hnd
                              have HMEM := hide hmem
                              have HLSE := hide hLs
                              have HFV : Hid (∀ W, Below wv.heap.size wv W → W.cell? ⟨Y, 0, none⟩ = some (.string r'.key) ∧ W.cell? ⟨Y, 1, none⟩ = some (.slice va r'.vals.length vc)) := fun W h =>
                                ⟨(h.cell (p := ⟨Y, 0, none⟩) (World.block_lt_of_cell? wv _ y0)).trans y0, (h.cell (p := ⟨Y, 1, none⟩) (World.block_lt_of_cell? wv _ y1)).trans y1⟩
                              clear hnd hmem hLs hany HCS y0 y1
                              go_wp2_with fail
                              go_loopw [26, 24, 25] (fun i d e wr => ∃ t : Nat, t ≤ r'.vals.length ∧ i = .int .i64 t ∧ d = .int .i64 ((dd r'.vals t).length : Nat) ∧ e = .int .i64 (((dd r'.vals t).filter (neB O r'.key)).length : Nat) ∧ Below wv.heap.size wv wr) (fun i _ _ _ => r'.vals.length - (intOf i).toNat)
                              case atStart => exact ⟨0, Nat.zero_le _, rfl, rfl, rfl, Below.refl _ _⟩
                              case round =>
                                clear y2
                                obtain ⟨t, ht, rfl, rfl, rfl, hbt⟩ := hrel
                                have HBT := hide hbt
                                obtain ⟨y0, y1⟩ := HFV.out wr hbt
                                have hdl := dd_len r'.vals t
                                have hfl := List.length_filter_le (neB O r'.key) (dd r'.vals t)
                                by_cases htl : t < r'.vals.length
                                · have htl' : (t : Int) < (r'.vals.length : Int) := by omega
                                  obtain ⟨vb, voff, s, rfl, hs, hvc⟩ := HSV.out.at htl
                                  have hvw : wr.cell? ⟨vb, voff + t, none⟩ = some (.string s) := (hbt.cell (p := ⟨vb, voff + t, none⟩) (World.block_lt_of_cell? wv _ hvc)).trans hvc
                                  obtain ⟨qi, hqi⟩ := FIdx.exist r'.vals s
                                  have hqb := hqi.bound
                                  have HQI := hide hqi
                                  have HVC := hide (fun W (h : Below wv.heap.size wv W) => (h.cell (p := ⟨vb, voff + t, none⟩) (World.block_lt_of_cell? wv _ hvc)).trans hvc)
                                  have HFI := hide (hqi.first hs)
                                  have HDO := hide (fun h => dd_old hs h)
                                  have HDM := hide (fun h => dd_more hs h (neB O r'.key))
                                  have HSN := hide (fun n => HSV.out.below (hbt.trans ((below_drewN' wr n).mono hbt.size)))
                                  have HRN := hide (fun n => HRV.out.below (hbt.trans ((below_drewN' wr n).mono hbt.size)))
                                  have HBN := hide (fun n => hbt.trans ((below_drewN' wr n).mono hbt.size))
                                  clear hbt hvc hqi hs
                                  generalize hdle : (dd r'.vals t).length = dl at hdl hfl HDM
                                  generalize hfle : ((dd r'.vals t).filter (neB O r'.key)).length = fl at hfl HDM
                                  have HDLE := hide hdle
                                  have HFLE := hide hfle
                                  clear hdle hfle
                                  by_cases hin : s ∈ r'.vals.take t
                                  · have hqt : ¬ (qi = (t : Int)) := fun h => HFI.out.1 h hin
                                    have HOLD := hide (HDO.out hin)
                                    clear hin
                                    go_upto_region 64 with fail
                                    go_quiet (first | (go_at_call 38; refine Calls.quiet_of_same (firstIndexOf_at (some ⟨vb, voff, none⟩) r'.vals vc s _ qi (HSN.out _) hvl HQI.out)))
                                    clear hvw y0 y1
                                    go_wp2
                                    go_roundw
                                    case rel => exact ⟨t + 1, by omega, by go_num, by rw [HOLD.out, HDLE.out], by rw [HOLD.out, HFLE.out], HBN.out nq⟩
                                    case measure => simp [intOf]; omega
                                  · have hqt : qi = (t : Int) := HFI.out.2 hin
                                    obtain ⟨hd1, hd2⟩ := HDM.out hin
                                    have HD1 := hide hd1
                                    have HD2 := hide hd2
                                    subst hqt
                                    clear hin hd1 hd2
                                    go_upto_region 64 with fail
                                    go_quiet (first | (go_at_call 38; refine Calls.quiet_of_same (firstIndexOf_at (some ⟨vb, voff, none⟩) r'.vals vc s _ (t : Int) (HSN.out _) hvl HQI.out)))
                                    have HB2 := hide (HBN.out nq)
                                    clear hvw y0 y1 HSN HRN HBN
                                    generalize wr.drewN nq = wt at HB2
                                    obtain ⟨y0, y1⟩ := HFV.out wt HB2.out
                                    have hvw := HVC.out wt HB2.out
                                    have HCC := hide (fun n => countCarrying_any a' O c' r'.key s (wt.drewN n) (HRV.out.below (HB2.out.trans ((below_drewN' wt n).mono HB2.out.size))) HSO.out)
                                    have HBN := hide (fun n => HB2.out.trans ((below_drewN' wt n).mono HB2.out.size))
                                    have hlnb := scan_len O r'.key (some s) O.length
                                    have hnb : neB O r'.key s = decide (0 < (scan O r'.key (some s) O.length).length) := rfl
                                    generalize (scan O r'.key (some s) O.length).length = ln at HCC hlnb hnb
                                    by_cases hpos : 0 < ln
                                    · rw [decide_eq_true hpos] at hnb
                                      have HD3 : Hid (((dd r'.vals (t + 1)).filter (neB O r'.key)).length = fl + 1) := by
                                        show _ = _
                                        rw [HD2.out, hnb]
                                        rfl
                                      have hpos' : (0 : Int) < (ln : Int) := by omega
                                      clear hnb HD2
                                      go_upto_region 66 with fail
                                      go_quiet (first | (go_at_call 39; exact Calls.quiet_of_same (HCC.out _)))
                                      clear hvw y0 y1
                                      go_wp2
                                      go_roundw
                                      case rel => exact ⟨t + 1, by omega, by go_num, by rw [HD1.out]; go_num, by rw [HD3.out]; go_num, HBN.out nq⟩
                                      case measure => simp [intOf]; omega
                                    · rw [decide_eq_false hpos] at hnb
                                      have HD3 : Hid (((dd r'.vals (t + 1)).filter (neB O r'.key)).length = fl) := by
                                        show _ = _
                                        rw [HD2.out, hnb]
                                        rfl
                                      have hpos' : ¬ ((0 : Int) < (ln : Int)) := by omega
                                      clear hnb HD2
                                      go_upto_region 66 with fail
                                      go_quiet (first | (go_at_call 39; exact Calls.quiet_of_same (HCC.out _)))
                                      clear hvw y0 y1
                                      go_wp2
                                      go_roundw
                                      case rel => exact ⟨t + 1, by omega, by go_num, by rw [HD1.out]; go_num, by rw [HD3.out], HBN.out nq⟩
                                      case measure => simp [intOf]; omega
                                · have hgt : ¬ ((t : Int) < (r'.vals.length : Int)) := by omega
                                  have htn : t = r'.vals.length := by omega
                                  obtain ⟨hd1, hd2⟩ := dd_all HND.out HMEM.out (neB O r'.key)
                                  rw [← htn] at hd1 hd2
                                  have hdsl : Ls.length = ds.length := by rw [HLSE.out, List.length_map]
                                  rw [← hdsl] at hd1
                                  rw [hd1, hd2]
                                  have hfl2 := List.length_filter_le (neB O r'.key) ds
                                  have HRW := hide (HRV.out.below hbt)
                                  have HLW := hide (HLV.out.below hbt)
                                  have HSW := hide (HSV.out.below hbt)
                                  have HBW := hide (HBV.out.trans (hbt.mono HBV.out.size))
                                  have HFW : Hid (∀ W, Below wr.heap.size wr W → W.cell? ⟨Y, 0, none⟩ = some (.string r'.key) ∧ W.cell? ⟨Y, 1, none⟩ = some (.slice va r'.vals.length vc)) := fun W h => HFV.out W (HBT.out.trans (h.mono HBT.out.size))
                                  clear hbt HBT HRV HLV HSV HBV HFV hdl hfl hd1 hd2 htn
                                  have HDSL := hide hdsl
                                  rw [← hdsl] at hfl2
                                  clear hdsl
                                  generalize hfe : (ds.filter (neB O r'.key)).length = fe at hfl2
                                  have HFE := hide hfe
                                  clear hfe
                                  obtain ⟨wi, hwi⟩ : ∃ wi, wi = wr := ⟨_, rfl⟩
                                  subst hwi
                                  obtain ⟨i9, h9i, h90, h91, h92⟩ := info_parts Try.info9
                                  go_wp2_with (at_make; refine wpList_make_own _ rfl _ _ 60 rfl wi.heap.size 9 i9 (.string ⟨#[]⟩) 1 Try.underlying60 h9i h90 h91 .i64 .i64 _ Ls.length rfl rfl (by first | rfl | omega) (by rw [h92]; omega) (by unfold maxLen; omega) (Nat.le_refl _) ?_)
                                  intro w12 hown12 hgrow12
                                  have HSN : Hid (SeenAt wi (sn O r'.key ds 0) (.slice (some ⟨wi.heap.size, 0, none⟩) 0 Ls.length) w12) := seen_start hown12 hgrow12
                                  clear hown12 hgrow12 y0 y1
                                  go_wp2_with fail
                                  go_loopw [29, 27, 28] (fun i v c wr => ∃ q : Nat, q ≤ Ls.length ∧ i = .int .i64 q ∧ c = .int .i64 ((sn O r'.key ds q).length : Nat) ∧ SeenAt wi (sn O r'.key ds q) v wr) (fun i _ _ _ => Ls.length - (intOf i).toNat)
                                  case atStart => exact ⟨0, Nat.zero_le _, rfl, by simp [sn], HSN.out⟩
                                  case round =>
                                    clear HSN
                                    obtain ⟨q, hq, rfl, rfl, hseen⟩ := hrel
                                    have HSE := hide hseen
                                    have hsl := sn_len O r'.key ds q
                                    obtain ⟨g, cap, rfl, hown, hbe⟩ := hseen
                                    have HOWN := hide hown
                                    have HBE := hide hbe
                                    clear hown
                                    by_cases hql : q < Ls.length
                                    · have hql' : (q : Int) < (Ls.length : Int) := by omega
                                      obtain ⟨gb, goff, L, ai, ci, rfl, hLq, hcell, hnr⟩ := HLW.out.at hql
                                      obtain ⟨u, hu, hLu⟩ : ∃ u, ds[q]? = some u ∧ L = scan O r'.key (some u) O.length := by
                                        rw [HLSE.out, List.getElem?_map] at hLq
                                        obtain ⟨u, hu, h⟩ := Option.map_eq_some_iff.1 hLq
                                        exact ⟨u, hu, h.symm⟩
                                      have hLl : L.length ≤ O.length := by rw [hLu]; exact scan_len _ _ _ _
                                      have hcw : wr.cell? ⟨gb, goff + q, none⟩ = some (.slice ai L.length ci) := (hbe.cell (p := ⟨gb, goff + q, none⟩) (World.block_lt_of_cell? wi _ hcell)).trans hcell
                                      have HLU := hide hLu
                                      have HNR := hide hnr
                                      have HU := hide hu
                                      clear hLq hcell hnr hLu hu hbe
                                      by_cases hL0 : L.length = 0
                                      · have hL0' : (L.length : Int) = 0 := by omega
                                        have HSM : Hid (sn O r'.key ds (q + 1) = sn O r'.key ds q) := sn_miss HU.out (by unfold neB; rw [← HLU.out]; simp [hL0])
                                        clear hL0
                                        go_wp2
                                        go_roundw
                                        case rel => exact ⟨q + 1, by omega, by go_num, by rw [HSM.out], by rw [HSM.out]; exact HSE.out⟩
                                        case measure => simp [intOf]; omega
                                      · have hL0' : ¬ ((L.length : Int) = 0) := by omega
                                        have hpos : 0 < L.length := by omega
                                        have HSH : Hid (sn O r'.key ds (q + 1) = sn O r'.key ds q ++ [u]) := sn_hit HU.out (by unfold neB; rw [← HLU.out]; simp [hpos])
                                        have HSL : Hid ((sn O r'.key ds (q + 1)).length = (sn O r'.key ds q).length + 1) := by
                                          show _ = _
                                          rw [HSH.out]
                                          simp
                                        obtain ⟨he1, he2⟩ := scan_head (O := O) (key := r'.key) (v := u) (by rw [← HLU.out]; exact hpos)
                                        rw [← HLU.out] at he1 he2
                                        obtain ⟨lb2, off2, rfl, hcs⟩ := HNR.out.at hpos
                                        have hce0 := hcs 0 hpos
                                        rw [Nat.add_zero] at hce0
                                        generalize L.getD 0 0 = e at he1 he2 hce0
                                        have hce : wr.cell? ⟨lb2, off2, none⟩ = some (.int .i64 (e : Int)) := (HBE.out.cell (p := ⟨lb2, off2, none⟩) (World.block_lt_of_cell? wi _ hce0)).trans hce0
                                        obtain ⟨ob, ooff, l, oa, oc, rfl, hOe, hoc, hol⟩ := HRW.out.at he1
                                        rw [getD_of hOe] at he2
                                        have hll := HSO.out.2 e l hOe
                                        have how : wr.cell? ⟨ob, ooff + e, none⟩ = some (.slice oa l.length oc) := (HBE.out.cell (p := ⟨ob, ooff + e, none⟩) (World.block_lt_of_cell? wi _ hoc)).trans hoc
                                        have hen : ¬ ((e : Int) < 0) := by omega
                                        have hen2 : ¬ ((O.length : Int) ≤ (e : Int)) := by omega
                                        have hen3 : (e : Int) < (O.length : Int) := by omega
                                        have hpos' : (0 : Int) < (L.length : Int) := by omega
                                        have HLB := hide (fun n => hol.below (HBE.out.trans ((below_drewN' wr n).mono HBE.out.size)))
                                        have HLK := hide he2
                                        obtain ⟨y0, y1⟩ := HFW.out wr HBE.out
                                        clear he2 hcs hce0 hOe hoc hol hL0
                                        go_upto_region 80 with fail
                                        go_quiet (first | (go_at_call 40; exact Calls.quiet_of_same (lookupLabel_at oa l oc r'.key u _ (HLB.out _) hll HLK.out)))
                                        have HSE2 := hide (HSE.out.kept (below_drewN' wr nq))
                                        have HOW2 : Hid ((wr.drewN nq).ownsRow wi.heap.size 9 1 (.slice (some ⟨g, 0, none⟩) (sn O r'.key ds q).length cap) (sn O r'.key ds q).length ((sn O r'.key ds q).map Value.string)) := by
                                          obtain ⟨g', cap', hv, h1, h2⟩ := HSE2.out
                                          cases hv
                                          exact h1
                                        have HBE2 := hide (HBE.out.trans ((below_drewN' wr nq).mono HBE.out.size))
                                        clear hcw hce how y0 y1 HOWN HBE HSE HLB HLK HSE2
                                        generalize wr.drewN nq = wt at HOW2 HBE2
                                        obtain ⟨y0, y1⟩ := HFW.out wt HBE2.out
                                        obtain ⟨qv, hqv⟩ := FIdx.exist r'.vals u
                                        have hqv0 : ¬ (qv < 0) := fun h => (hqv.neg.1 h) ((HMEM.out u).1 (List.mem_of_getElem? HU.out))
                                        have hqvb := hqv.bound
                                        have HQV := hide hqv
                                        have HNE : Hid (FIdx (sn O r'.key ds q) u (-1)) := .inl ⟨rfl, sn_new HND.out HU.out⟩
                                        clear hqv
                                        go_wp2_with fail
                                        refine (firstIndexOf_at va r'.vals vc u wt qv (HSW.out.below HBE2.out) hvl HQV.out).mono ?_
                                        rintro e5 w13 ⟨rfl, e13⟩
                                        subst e13
                                        go_wp2_with fail
                                        refine (firstIndexOf_at (some ⟨g, 0, none⟩) (sn O r'.key ds q) cap u _ (-1) (SeenAt.row HOW2.out) (by omega) HNE.out).mono ?_
                                        rintro e5 w14 ⟨rfl, e14⟩
                                        subst e14
                                        have hbs := HBE2.out.size
                                        go_wp2_with (at_builtin; refine wpList_append_lies _ rfl (.tmp 337) (.tmp 339) 60 rfl wi.heap.size 9 i9 (.string ⟨#[]⟩) 1 16 Try.underlying60 h9i h90 h91 h92 rfl (by decide) _ _ _ rfl (HOW2.out.alloc _) ⟨w14.heap.size, 0, none⟩ 1 1 [.string u] rfl rfl (cell_one_new _ _ _) (str_oneCell _) (by omega) (by unfold maxLen; omega) (by omega) (by simp; omega) (w14.heap.size + 1) (by simp) ?_)
                                        intro g5 cap5 w15 hown5 hgrow5 _ _
                                        have HS5 := hide (SeenAt.snoc HBE2.out HOW2.out hown5 hgrow5)
                                        rw [← HSH.out] at HS5
                                        have HB5 := hide HS5.out.bel
                                        clear hown5 hgrow5 HOW2 HBE2 y0 y1
                                        obtain ⟨y0, y1⟩ := HFW.out w15 HB5.out
                                        go_wp2_with fail
                                        refine (listIsScan_any (some ⟨ob, ooff, none⟩) O c' r'.key u true (some u) rfl (some ⟨lb2, off2, none⟩) ci L w15 (HRW.out.below HB5.out) HSO.out (HNR.out.below HB5.out) HLU.out).mono ?_
                                        rintro e5 w16 ⟨rfl, e16⟩
                                        subst e16
                                        go_wp2
                                        go_roundw
                                        case rel => exact ⟨q + 1, by omega, by go_num, by rw [HSL.out]; go_num, HS5.out⟩
                                        case measure => simp [intOf]; omega
                                    · have hgq : ¬ ((q : Int) < (Ls.length : Int)) := by omega
                                      have hfin : (sn O r'.key ds q).length = fe := by rw [sn_all O r'.key ds (by have := HDSL.out; omega), HFE.out]
                                      have HBF := hide (HBW.out.trans (hbe.mono HBW.out.size))
                                      rw [hfin]
                                      clear hfin hbe HSE HOWN HBE hsl
                                      go_wp2
                                      go_ret
                                      exact ⟨ret_bool (by simp), HBF.out⟩
        · have hor : (4096 : Int) < lc ∨ ((4096 : Int) < pcc ∧ ¬ (4096 : Int) < lc) := by omega
          clear HB1 HP1 q4
          rcases hor with h1 | ⟨h1, h2⟩
          all_goals
            go_wp2
            go_ret
            exact ⟨rfl, below_drewN' w1 (m + m2)⟩
      · have hor : (1048576 : Int) < lb ∨ ((1048576 : Int) < pb ∧ ¬ (1048576 : Int) < lb) ∨ (((1048576 : Int) < lb + pb ∧ ¬ (1048576 : Int) < lb) ∧ ¬ (1048576 : Int) < pb) := by omega
        clear HB1 HP1 q3
        rcases hor with h1 | ⟨h1, h2⟩ | ⟨⟨h1, h2⟩, h3⟩
        all_goals
          go_wp2
          go_ret
          exact ⟨rfl, below_drewN' w1 (m + m2)⟩
    · have hor : (4096 : Int) < (O.length : Int) ∨ ((4096 : Int) < (R.length : Int) ∧ ¬ (4096 : Int) < (O.length : Int)) := by omega
      rcases hor with h1 | ⟨h1, h2⟩
      all_goals
        go_wp2
        go_ret
        exact ⟨rfl, Below.refl _ _⟩

end Go.Proofs.Qxb6601049a
