/-
  FnCandidatesHoldEverySelectedObjectOnce, from rows in memory.
-/
import Derived.Test.Qxb6601049aTimes
namespace Go.Proofs.Qxb6601049a
open Go.ChangeShapes Go.WideShapes Go.ChangeAt Go.RowKit
set_option linter.unusedVariables false

theorem below_drewN' (w : World) (m : Nat) : Below w.heap.size w (w.drewN m) := ⟨rfl, rfl, rfl, Nat.le_refl _, fun _ _ => rfl⟩

theorem take_snoc {α : Type} {R : List α} {k : Nat} {r : α} (h : R[k]? = some r) : R.take k ++ [r] = R.take (k + 1) := by
  rw [List.take_add_one, h]
  rfl

/-- the selector so far -/
def SelK (wo : World) (R : List Rq) (k : Nat) (v : Value) (wr : World) : Prop := SelAt wo.heap.size wr v (R.take k) ∧ Below wo.heap.size wo wr

/-- one requirement more -/
theorem SelK.step {wo wr w1 w2 : World} {R : List Rq} {k : Nat} {v v' : Value} {r : Rq} {mo : Option Nat} {blk : Obj} {es : List (Rq × Option Nat)} (hb : Below wo.heap.size wo wr) (hr : R[k]? = some r) (hb1 : Below wr.heap.size wr w1) (h1 : es.map (·.1) = R.take k) (h2 : ∀ e ∈ es, ValOk w1 e.2 e.1) (h3 : w1.ownsRow wo.heap.size 87 3 v (R.take k).length (flatE es))
    (hv : ValOk w1 mo r) (hown : w2.ownsRow wo.heap.size 87 3 v' ((R.take k).length + 1) (flatE es ++ [.string r.key, .map mo, .bool r.neg])) (hg : (w1.alloc blk).grownBy w2 v.ownBlock) : SelK wo R (k + 1) v' w2 := by
  refine ⟨?_, ?_⟩
  · rw [← take_snoc hr]
    exact SelAt.snoc h1 h2 h3 hv hown hg
  · have hsz := hb.size
    have hsz1 := hb1.size
    exact ((hb.trans (hb1.mono hsz)).alloc (by omega) _).grown hg (by simp; omega) (fun k hk => (h3.lt k hk).1)

set_option maxRecDepth 10000 in
set_option maxHeartbeats 8000000 in
theorem law7_in (a : Option Addr) (O : Objs) (c : Nat) (ra : Option Addr) (R : List Rq) (rc : Nat) (w : World) (hr : ObjRow w a O) (hq : ReqRow w ra R) (hl : LenO O) (hlr : LenR R) :
    Calls Try.prog 7 #[.slice a O.length c, .slice ra R.length rc] w (boolPost true w) := by
  obtain ⟨i0, hi, hz0, hz1, hz2⟩ := info_parts Try.info3
  have hl1 := hl.1
  have hlr1 := hlr.1
  have HR := hide hr
  have HQ := hide hq
  have HLO := hide hl
  have HLR := hide hlr
  unfold maxLen at hl1 hlr1
  clear hr hq hl hlr
  go_enter Try.func7, Try.ntmps7
  go_wp2_with fail
  refine (zzBytes41_any a O c ra R rc w HR.out HQ.out HLO.out HLR.out).mono ?_
  rintro e w1 ⟨⟨bb, rfl⟩, e1⟩
  subst e1
  cases bb with
  | false =>
    go_wp2
    go_ret
    exact ⟨rfl, Below.refl _ _⟩
  | true =>
    by_cases q1 : O.length ≤ 4096 ∧ R.length ≤ 4096
    · obtain ⟨q1, q2⟩ := q1
      have q1' : ¬ ((4096 : Int) < (O.length : Int)) := by omega
      have q2' : ¬ ((4096 : Int) < (R.length : Int)) := by omega
      go_wp2_with fail
      refine (labelsWeight_any a O c w1 HR.out HLO.out.1 HLO.out.2).mono ?_
      rintro e w2 ⟨lb, lc, rfl, hb1, hb2, hb3, m, rfl⟩
      have HB1 := hide hb1
      clear hb1
      go_wp2_with fail
      refine (reqsWeight_any ra R rc (w1.drewN m) (HQ.out.below (below_drewN' w1 m)) HLR.out).mono ?_
      rintro e w2 ⟨pb, pcc, rfl, hp1, hp2, hp3, m2, rfl⟩
      have HP1 := hide hp1
      clear hp1
      have hwr : IntKind.i64.wrap (lb + pb) = lb + pb := by rw [IntKind.wrap_i64]; omega
      by_cases q3 : lb ≤ 1048576 ∧ pb ≤ 1048576 ∧ lb + pb ≤ 1048576
      · obtain ⟨r1, r2, r3⟩ := q3
        have r1' : ¬ ((1048576 : Int) < lb) := by omega
        have r2' : ¬ ((1048576 : Int) < pb) := by omega
        have r3' : ¬ ((1048576 : Int) < lb + pb) := by omega
        by_cases q4 : lc ≤ 4096 ∧ pcc ≤ 4096
        · obtain ⟨r4, r5⟩ := q4
          have r4' : ¬ ((4096 : Int) < lc) := by omega
          have r5' : ¬ ((4096 : Int) < pcc) := by omega
          obtain ⟨hso, hlc⟩ := HB1.out r1
          have HSO := hide hso
          have HSR := hide (HP1.out r2)
          clear hso hlc HB1 HP1
          go_wp2_with fail
          refine (cloneLabels_any a O c (w1.drewN (m + m2)) HSO.out HR.out).mono ?_
          rintro e w2 ⟨a', c', rfl, hr2, hbe2⟩
          have HR2 := hide hr2
          have HBE2 : Hid (Below w1.heap.size w1 w2) := ((below_drewN' w1 (m + m2)).trans hbe2)
          have HPR2 := hide (HQ.out.below HBE2.out)
          clear hr2 hbe2 hwr
          go_wp2_with fail
          refine (cloneReqs_any ra R rc w2 HSR.out HPR2.out).mono ?_
          rintro e w3 ⟨ra', rc', rfl, hq3, hbe3⟩
          have HQ3 := hide hq3
          have HR3 := hide (HR2.out.below hbe3)
          have HBE3 := hide (HBE2.out.trans (hbe3.mono HBE2.out.size))
          clear hq3 hbe3 HR2 HBE2 HPR2
          go_wp2_with fail
          refine (buildLabels_any a' O c' w3 HSO.out HR3.out).mono ?_
          rintro e w4 ⟨ma, mc, rfl, hm4, hbe4⟩
          have HM4 := hide hm4
          have HQ4 := hide (HQ3.out.below hbe4)
          have HR4 := hide (HR3.out.below hbe4)
          have HBE4 := hide (HBE3.out.trans (hbe4.mono HBE3.out.size))
          clear hm4 hbe4 HQ3 HR3 HBE3
          go_wp2_with fail
          refine (zzNewLabelIndex_any ma O mc w4 HSO.out HM4.out).mono ?_
          rintro e w5 ⟨X, rfl, hix, hbe5⟩
          have HI := hide hix
          have HQ5 := hide (HQ4.out.below hbe5)
          have HR5 := hide (HR4.out.below hbe5)
          have HBE5 := hide (HBE4.out.trans (hbe5.mono HBE4.out.size))
          clear hix hbe5 HM4 HQ4 HR4 HBE4
          go_wp2_with fail
          refine (zzNoSelector_any w5).mono ?_
          rintro e wo ⟨rfl, eo⟩
          subst eo
          have HK : Hid (SelK wo R 0 (.slice none 0 0) wo) := ⟨SelAt.start _ _, Below.refl _ _⟩
          go_wp2_with fail
          go_loopw [11, 10] (fun i v wr => ∃ k : Nat, k ≤ R.length ∧ i = .int .i64 k ∧ SelK wo R k v wr) (fun i _ _ => R.length - (intOf i).toNat)
          case atStart => exact ⟨0, Nat.zero_le _, rfl, HK.out⟩
          case round =>
            clear HK
            obtain ⟨k, hk, rfl, hsk⟩ := hrel
            have HSK := hide hsk
            clear hsk
            by_cases hlt : k < R.length
            · have hlt' : (k : Int) < (R.length : Int) := by omega
              obtain ⟨b, off, r, va, vc, rfl, hrk, c0, c1, c2, c3, hst⟩ := HQ5.out.at hlt
              have HRK := hide hrk
              have HSTR := hide hst
              have hvl := HSR.out.2 k r hrk
              have HF : Hid (∀ W, Below wo.heap.size wo W → W.cell? ⟨b, off + k * 4, none⟩ = some (.string r.key) ∧ W.cell? ⟨b, off + k * 4 + 1, none⟩ = some (.slice va r.vals.length vc) ∧ W.cell? ⟨b, off + k * 4 + 2, none⟩ = some (.bool r.any) ∧ W.cell? ⟨b, off + k * 4 + 3, none⟩ = some (.bool r.neg)) := fun W h =>
                ⟨(h.cell (p := ⟨b, off + k * 4, none⟩) (World.block_lt_of_cell? wo _ c0)).trans c0, (h.cell (p := ⟨b, off + k * 4 + 1, none⟩) (World.block_lt_of_cell? wo _ c1)).trans c1, (h.cell (p := ⟨b, off + k * 4 + 2, none⟩) (World.block_lt_of_cell? wo _ c2)).trans c2, (h.cell (p := ⟨b, off + k * 4 + 3, none⟩) (World.block_lt_of_cell? wo _ c3)).trans c3⟩
              have HBD : Hid (Below wo.heap.size wo wr.drew) := HSK.out.2.trans ⟨rfl, rfl, rfl, Nat.le_refl _, fun _ _ => rfl⟩
              have HS0 := hide (HF.out wr.drew HBD.out)
              clear hrk c0 c1 c2 c3 hst
              go_upto_region 18 with fail
              refine startU (S := fun W => W.cell? ⟨b, off + k * 4, none⟩ = some (.string r.key) ∧ W.cell? ⟨b, off + k * 4 + 1, none⟩ = some (.slice va r.vals.length vc) ∧ W.cell? ⟨b, off + k * 4 + 2, none⟩ = some (.bool r.any) ∧ W.cell? ⟨b, off + k * 4 + 3, none⟩ = some (.bool r.neg)) 18 rfl (by kernel_rfl) ?_
              refine takeU 0 75 (v := ?_) rfl rfl (by kernel_rfl) (by kernel_rfl) (by kernel_rfl) (by kernel_rfl) (fun _ _ _ h => h) (by rfl) HS0.out ?_ ?_
              rotate_left
              · intro w' hSw
                obtain ⟨h1, h2, h3, h4⟩ := hSw
                go_simp
                try (with_reducible rfl)
              simp only [List.setIfInBounds_toArray, List.set_cons_zero, List.set_cons_succ]
              refine takeU 1 76 (v := ?_) rfl rfl (by kernel_rfl) (by kernel_rfl) (by kernel_rfl) (by kernel_rfl) (fun _ _ _ h => h) (by rfl) HS0.out ?_ ?_
              rotate_left
              · intro w' hSw
                obtain ⟨h1, h2, h3, h4⟩ := hSw
                go_simp
                try (with_reducible rfl)
              simp only [List.setIfInBounds_toArray, List.set_cons_zero, List.set_cons_succ]
              refine takeU 2 77 (v := ?_) rfl rfl (by kernel_rfl) (by kernel_rfl) (by kernel_rfl) (by kernel_rfl) (fun _ _ _ h => h) (by rfl) HS0.out ?_ ?_
              rotate_left
              · intro w' hSw
                obtain ⟨h1, h2, h3, h4⟩ := hSw
                go_simp
                try (with_reducible rfl)
              simp only [List.setIfInBounds_toArray, List.set_cons_zero, List.set_cons_succ]
              refine takeU 3 78 (v := ?_) rfl rfl (by kernel_rfl) (by kernel_rfl) (by kernel_rfl) (by kernel_rfl) (fun _ _ _ h => h) (by rfl) HS0.out ?_ ?_
              rotate_left
              · intro w' hSw
                obtain ⟨h1, h2, h3, h4⟩ := hSw
                go_simp
                try (with_reducible rfl)
              simp only [List.setIfInBounds_toArray, List.set_cons_zero, List.set_cons_succ]
              refine takeU 4 79 (v := ?_) rfl rfl (by kernel_rfl) (by kernel_rfl) (by kernel_rfl) (by kernel_rfl) (fun _ _ _ h => h) (by rfl) HS0.out ?_ ?_
              rotate_left
              · intro w' hSw
                obtain ⟨h1, h2, h3, h4⟩ := hSw
                go_simp
                try (with_reducible rfl)
              simp only [List.setIfInBounds_toArray, List.set_cons_zero, List.set_cons_succ]
              refine takeU 5 80 (v := ?_) rfl rfl (by kernel_rfl) (by kernel_rfl) (by kernel_rfl) (by kernel_rfl) (fun _ _ _ h => h) (by rfl) HS0.out ?_ ?_
              rotate_left
              · intro w' hSw
                obtain ⟨h1, h2, h3, h4⟩ := hSw
                go_simp
                try (with_reducible rfl)
              simp only [List.setIfInBounds_toArray, List.set_cons_zero, List.set_cons_succ]
              refine takeU 6 81 (v := ?_) rfl rfl (by kernel_rfl) (by kernel_rfl) (by kernel_rfl) (by kernel_rfl) (fun _ _ _ h => h) (by rfl) HS0.out ?_ ?_
              rotate_left
              · intro w' hSw
                obtain ⟨h1, h2, h3, h4⟩ := hSw
                go_simp
                try (with_reducible rfl)
              simp only [List.setIfInBounds_toArray, List.set_cons_zero, List.set_cons_succ]
              refine takeU 7 82 (v := ?_) rfl rfl (by kernel_rfl) (by kernel_rfl) (by kernel_rfl) (by kernel_rfl) (fun _ _ _ h => h) (by rfl) HS0.out ?_ ?_
              rotate_left
              · intro w' hSw
                obtain ⟨h1, h2, h3, h4⟩ := hSw
                go_simp
                try (with_reducible rfl)
              simp only [List.setIfInBounds_toArray, List.set_cons_zero, List.set_cons_succ]
              refine takeU 8 83 (v := ?_) rfl rfl (by kernel_rfl) (by kernel_rfl) (by kernel_rfl) (by kernel_rfl) (fun _ _ _ h => h) (by rfl) HS0.out ?_ ?_
              rotate_left
              · intro w' hSw
                obtain ⟨h1, h2, h3, h4⟩ := hSw
                go_simp
                try (with_reducible rfl)
              simp only [List.setIfInBounds_toArray, List.set_cons_zero, List.set_cons_succ]
              refine takeU 9 84 (v := ?_) rfl rfl (by kernel_rfl) (by kernel_rfl) (by kernel_rfl) (by kernel_rfl) (fun _ _ _ h => h) (by rfl) HS0.out ?_ ?_
              rotate_left
              · intro w' hSw
                obtain ⟨h1, h2, h3, h4⟩ := hSw
                go_simp
                try (with_reducible rfl)
              simp only [List.setIfInBounds_toArray, List.set_cons_zero, List.set_cons_succ]
              refine takeU 11 86 (v := ?_) rfl rfl (by kernel_rfl) (by kernel_rfl) (by kernel_rfl) (by kernel_rfl) (fun _ _ _ h => h) (by rfl) HS0.out ?_ ?_
              rotate_left
              · intro w' hSw
                obtain ⟨h1, h2, h3, h4⟩ := hSw
                go_simp
                try (with_reducible rfl)
              simp only [List.setIfInBounds_toArray, List.set_cons_zero, List.set_cons_succ]
              refine takeU 12 87 (v := ?_) rfl rfl (by kernel_rfl) (by kernel_rfl) (by kernel_rfl) (by kernel_rfl) (fun _ _ _ h => h) (by rfl) HS0.out ?_ ?_
              rotate_left
              · intro w' hSw
                obtain ⟨h1, h2, h3, h4⟩ := hSw
                go_simp
                try (with_reducible rfl)
              simp only [List.setIfInBounds_toArray, List.set_cons_zero, List.set_cons_succ]
              refine takeU 13 88 (v := ?_) rfl rfl (by kernel_rfl) (by kernel_rfl) (by kernel_rfl) (by kernel_rfl) (fun _ _ _ h => h) (by rfl) HS0.out ?_ ?_
              rotate_left
              · intro w' hSw
                obtain ⟨h1, h2, h3, h4⟩ := hSw
                go_simp
                try (with_reducible rfl)
              simp only [List.setIfInBounds_toArray, List.set_cons_zero, List.set_cons_succ]
              refine takeU 14 89 (v := ?_) rfl rfl (by kernel_rfl) (by kernel_rfl) (by kernel_rfl) (by kernel_rfl) (fun _ _ _ h => h) (by rfl) HS0.out ?_ ?_
              rotate_left
              · intro w' hSw
                obtain ⟨h1, h2, h3, h4⟩ := hSw
                go_simp
                try (with_reducible rfl)
              simp only [List.setIfInBounds_toArray, List.set_cons_zero, List.set_cons_succ]
              refine takeU 15 90 (v := ?_) rfl rfl (by kernel_rfl) (by kernel_rfl) (by kernel_rfl) (by kernel_rfl) (fun _ _ _ h => h) (by rfl) HS0.out ?_ ?_
              rotate_left
              · intro w' hSw
                obtain ⟨h1, h2, h3, h4⟩ := hSw
                go_simp
                try (with_reducible rfl)
              simp only [List.setIfInBounds_toArray, List.set_cons_zero, List.set_cons_succ]
              refine oneU 10 rfl (by kernel_rfl) (by rfl) (fun K1 hK1 => ?_)
              go_simp
              refine (reqValues_any r va vc wr.drew (HSTR.out.below HBD.out) hvl).mono ?_
              rintro e w6 ⟨mo, rfl, hvo, hb6⟩
              have HB6 := hide (HBD.out.trans (hb6.mono HBD.out.size))
              refine hK1.out _ _ (fun _ => HF.out _ HB6.out) ?_
              clear hK1 K1
              obtain ⟨es, hes1, hes2, hes3⟩ := (HSK.out.1.below ((below_drew wr).trans hb6))
              refine oneU 16 rfl (by kernel_rfl) (by rfl) (fun K1 hK1 => ?_)
              go_simp
              refine (zzSelectorAppend_any wo.heap.size _ _ (flatE es) r.key mo r.neg w6 hes3 HB6.out.size (by simp; omega)).mono ?_
              rintro e w7 ⟨g7, cap7, blk7, rfl, hown7, hg7⟩
              have HSN := hide (SelK.step HSK.out.2 HRK.out ((below_drew wr).trans hb6) hes1 hes2 hes3 hvo hown7 hg7)
              refine hK1.out _ _ (fun _ => HF.out _ HSN.out.2) ?_
              clear hK1 K1
              refine lastU 17 rfl (by kernel_rfl) (by kernel_rfl) (by kernel_rfl) (by rfl) (fun K1 hK1 => ?_)
              go_simp
              refine hK1.out _ _ ?_
              clear hK1 K1 HS0 HF hown7 hg7 hes1 hes2 hes3 hvo hb6 HBD HB6 HSK HSTR
              go_wp2
              go_roundw
              case rel => exact ⟨k + 1, by omega, by go_num, by have := HSN.out; rwa [show (R.take k).length = k by rw [List.length_take]; omega] at this⟩
              case measure => simp [intOf]; omega
            · have hge : ¬ ((k : Int) < (R.length : Int)) := by omega
              have hkR : R.take k = R := List.take_of_length_le (by omega)
              obtain ⟨sa, sc, hshape⟩ := HSK.out.1.shape
              rw [hkR] at hshape
              subst hshape
              have HSEL : Hid (SelAt wo.heap.size wr (.slice sa R.length sc) R) := by have := HSK.out.1; rwa [hkR] at this
              have HBW := hide HSK.out.2
              clear HSK
              obtain ⟨wp, hwp⟩ : ∃ wp, wp = wr := ⟨_, rfl⟩
              subst hwp
              go_wp2_with fail
              refine (zzCandidates_any X O R wo.heap.size sa sc wp (HI.out.below HBW.out) HSEL.out HSO.out.1 HSR.out).mono ?_
              rintro e w8 ⟨ga, gc, Ls, rfl, hgn, hrows, hcand, hb8⟩
              have HGN := hide hgn
              have HROWS := hide hrows
              have HCAND := hide hcand
              have HB8 := hide (HBW.out.trans (hb8.mono HBW.out.size))
              have HR8 := hide (HR5.out.below HB8.out)
              have HQ8 := hide (HQ5.out.below HB8.out)
              have HBE8 := hide (HBE5.out.trans (HB8.out.mono HBE5.out.size))
              clear hgn hrows hcand hb8 HSEL HI HR5 HQ5 HBE5 hkR
              obtain ⟨P1, P2, P3⟩ := HCAND.out.once
              obtain ⟨hlsl, P4⟩ := HCAND.out.len HSR.out
              have HP4 := hide P4
              have HP1 := hide P1
              have HP2 := hide P2
              have HP3 := hide P3
              have hbase8 := HBE8.out.size
              clear P1 P2 P3 P4 HCAND
              go_wp2_with (at_make; refine wpList_make_full _ rfl _ _ 22 rfl w8.heap.size 3 i0 (.int .i64 0) 1 Try.underlying22 hi hz0 hz1 .i64 .i64 _ _ O.length rfl rfl rfl rfl (by rw [hz2]; omega) (by unfold maxLen; omega) (Nat.le_refl _) ?_)
              intro w9 hown9 hgrow9
              have HT : Hid (TimesAt w8 w8.heap.size O.length (Ls.take 0).flatten w9) := times_start hown9 hgrow9
              clear hown9 hgrow9
              generalize hGe : w8.heap.size = G at HT
              have hG : w8.heap.size ≤ G := by omega
              go_wp2_with fail
              go_loopw [15] (fun i wr => ∃ q : Nat, q ≤ Ls.length ∧ i = .int .i64 q ∧ TimesAt w8 G O.length (Ls.take q).flatten wr) (fun i _ => Ls.length - (intOf i).toNat)
              case atStart => exact ⟨0, Nat.zero_le _, rfl, HT.out⟩
              case round =>
                clear HT
                obtain ⟨q, hq, rfl, ht⟩ := hrel
                have HT := hide ht
                clear ht
                by_cases hqt : q < Ls.length
                · have hqt' : (q : Int) < (Ls.length : Int) := by omega
                  obtain ⟨gb, goff, L, ai, ci, rfl, hLq, hcell, hnr⟩ := HROWS.out.at hqt
                  have HLQ := hide hLq
                  have HCE := hide hcell
                  have HNR := hide hnr
                  have hLn := HP4.out L (List.mem_of_getElem? HLQ.out)
                  have HTI : Hid (TimesAt w8 G O.length ((Ls.take q).flatten ++ L.take 0) wr) := hide (by have := HT.out; simpa using this)
                  clear hLq hcell hnr HT
                  go_wp2_with fail
                  go_loopw [16] (fun i wr => ∃ t : Nat, t ≤ L.length ∧ i = .int .i64 t ∧ TimesAt w8 G O.length ((Ls.take q).flatten ++ L.take t) wr) (fun i _ => L.length - (intOf i).toNat)
                  case atStart => exact ⟨0, Nat.zero_le _, rfl, HTI.out⟩
                  case round =>
                    clear HTI
                    obtain ⟨t, ht, rfl, htm⟩ := hrel
                    have HTM := hide htm
                    have hgot : wr.cell? ⟨gb, goff + q, none⟩ = some (.slice ai L.length ci) := (htm.2.cell (p := ⟨gb, goff + q, none⟩) (World.block_lt_of_cell? w8 _ HCE.out)).trans HCE.out
                    by_cases htl : t < L.length
                    · have htl' : (t : Int) < (L.length : Int) := by omega
                      obtain ⟨lb2, off2, rfl, hcs⟩ := HNR.out.at htl
                      obtain ⟨hnv, hvis⟩ := vis_step HLQ.out htl HP2.out
                      obtain ⟨hsrt, hbnd⟩ := HP1.out L (List.mem_of_getElem? HLQ.out)
                      have he : L.getD t 0 < O.length := hbnd _ (by simp [List.getD_eq_getElem?_getD, htl])
                      have hce : wr.cell? ⟨lb2, off2 + t, none⟩ = some (.int .i64 ((L.getD t 0 : Nat) : Int)) := (htm.2.cell (p := ⟨lb2, off2 + t, none⟩) (World.block_lt_of_cell? w8 _ (hcs t htl))).trans (hcs t htl)
                      obtain ⟨htc, htf⟩ := htm.cell he
                      rw [if_neg hnv] at htc
                      have HNX := hide (htm.step he hG)
                      have HVIS := hide hvis
                      generalize hee : L.getD t 0 = e at he hce htc htf HNX HVIS hnv hvis
                      have HEE := hide hee
                      have he1 : ¬ ((e : Int) < 0) := by omega
                      have he2 : ¬ ((O.length : Int) ≤ (e : Int)) := by omega
                      have he3 : (e : Int) < (O.length : Int) := by omega
                      have HSRT := hide hsrt
                      have HCS := hide hcs
                      have HTB := hide htm.2
                      clear hsrt hbnd hcs hnv hvis htm HTM hee
                      by_cases ht0 : t = 0
                      · have hgt : ¬ ((0 : Int) < (t : Int)) := by omega
                        clear ht0
                        go_wp2
                        go_roundw
                        case rel => exact ⟨t + 1, by omega, by go_num, by have := HNX.out; rwa [HVIS.out] at this⟩
                        case measure => simp [intOf]; omega
                      · obtain ⟨s, hs⟩ : ∃ s, t = s + 1 := ⟨t - 1, by omega⟩
                        have hgt : (0 : Int) < (t : Int) := by omega
                        have hsub : IntKind.i64.wrap ((t : Int) - 1) = (s : Int) := by rw [IntKind.wrap_i64]; omega
                        have hsl : (s : Int) < (L.length : Int) := by omega
                        have hsc : wr.cell? ⟨lb2, off2 + s, none⟩ = some (.int .i64 ((L.getD s 0 : Nat) : Int)) := (HTB.out.cell (p := ⟨lb2, off2 + s, none⟩) (World.block_lt_of_cell? w8 _ (HCS.out s (by omega)))).trans (HCS.out s (by omega))
                        have hlt2 : L.getD s 0 < e := by
                          have := sorted_lt HSRT.out (t := s) (by omega)
                          rw [← hs, HEE.out] at this
                          exact this
                        generalize L.getD s 0 = ep at hsc hlt2
                        have hcmp : ¬ ((e : Int) ≤ (ep : Int)) := by omega
                        clear hs ht0
                        go_wp2
                        go_roundw
                        case rel => exact ⟨t + 1, by omega, by go_num, by have := HNX.out; rwa [HVIS.out] at this⟩
                        case measure => simp [intOf]; omega
                    · have hge2 : ¬ ((t : Int) < (L.length : Int)) := by omega
                      have HTN : Hid (TimesAt w8 G O.length (Ls.take (q + 1)).flatten wr) := hide (by
                        have e : t = L.length := by omega
                        rw [e, vis_next HLQ.out] at htm
                        exact htm)
                      clear htm HTM
                      go_wp2
                      go_roundw
                      case rel => exact ⟨q + 1, by omega, by go_num, HTN.out⟩
                      case measure => simp [intOf]; omega
                · have hge2 : ¬ ((q : Int) < (Ls.length : Int)) := by omega
                  have HTF : Hid (TimesAt w8 G O.length Ls.flatten wr) := hide (by
                    have := HT.out
                    rwa [List.take_of_length_le (by omega)] at this)
                  have HRW := hide (HR8.out.below HTF.out.2)
                  have HQW := hide (HQ8.out.below HTF.out.2)
                  have HBW2 := hide (HBE8.out.trans (HTF.out.2.mono HBE8.out.size))
                  clear HT HR8 HQ8 HBE8 HROWS HP1 HP2
                  obtain ⟨wq, hwq⟩ : ∃ wq, wq = wr := ⟨_, rfl⟩
                  subst hwq
                  go_wp2_with fail
                  go_loopw [18] (fun i wr => ∃ k : Nat, k ≤ O.length ∧ i = .int .i64 k ∧ Below wq.heap.size wq wr) (fun i _ => O.length - (intOf i).toNat)
                  case atStart => exact ⟨0, Nat.zero_le _, rfl, Below.refl _ _⟩
                  case round =>
                    obtain ⟨k2, hk2, rfl, hbk⟩ := hrel
                    have HBK := hide hbk
                    clear hbk
                    by_cases hlk : k2 < O.length
                    · have hlk' : (k2 : Int) < (O.length : Int) := by omega
                      obtain ⟨ob, ooff, l, ai, ci, rfl, hOk, hoc, hol⟩ := HRW.out.at hlk
                      have HOK := hide hOk
                      have HOC := hide hoc
                      have HOL := hide hol
                      have hll := HSO.out.2 k2 l hOk
                      clear hOk hoc hol
                      go_wp2_with fail
                      go_loopw [20, 19] (fun j sv wr => ∃ (t : Nat) (b : Bool), t ≤ R.length ∧ j = .int .i64 t ∧ sv = .bool b ∧ Hid (b = true → ∀ (x : Nat) (r : Rq), x < t → R[x]? = some r → meetB l r = true) ∧ Below wq.heap.size wq wr) (fun j _ _ => R.length - (intOf j).toNat)
                      case atStart => exact ⟨0, true, Nat.zero_le _, rfl, rfl, fun _ x r h => absurd h (Nat.not_lt_zero _), HBK.out⟩
                      case round =>
                        obtain ⟨t, b, ht, rfl, rfl, hall, hbt⟩ := hrel
                        have HBT := hide hbt
                        have HALL := hide hall
                        clear hbt hall
                        by_cases hgo : b = true ∧ t < R.length
                        · obtain ⟨hb, htr⟩ := hgo
                          subst hb
                          have htr' : (t : Int) < (R.length : Int) := by omega
                          obtain ⟨rb, roff, r, va, vc, rfl, hRt, c0, c1, c2, c3, hstr⟩ := HQW.out.at htr
                          have HRT := hide hRt
                          have HSTR := hide hstr
                          have hvl := HSR.out.2 t r hRt
                          have HF : Hid (∀ W, Below wq.heap.size wq W → W.cell? ⟨ob, ooff + k2, none⟩ = some (.slice ai l.length ci) ∧ W.cell? ⟨rb, roff + t * 4, none⟩ = some (.string r.key) ∧ W.cell? ⟨rb, roff + t * 4 + 1, none⟩ = some (.slice va r.vals.length vc) ∧ W.cell? ⟨rb, roff + t * 4 + 2, none⟩ = some (.bool r.any) ∧ W.cell? ⟨rb, roff + t * 4 + 3, none⟩ = some (.bool r.neg)) := fun W h =>
                            ⟨(h.cell (p := ⟨ob, ooff + k2, none⟩) (World.block_lt_of_cell? wq _ HOC.out)).trans HOC.out, (h.cell (p := ⟨rb, roff + t * 4, none⟩) (World.block_lt_of_cell? wq _ c0)).trans c0, (h.cell (p := ⟨rb, roff + t * 4 + 1, none⟩) (World.block_lt_of_cell? wq _ c1)).trans c1, (h.cell (p := ⟨rb, roff + t * 4 + 2, none⟩) (World.block_lt_of_cell? wq _ c2)).trans c2, (h.cell (p := ⟨rb, roff + t * 4 + 3, none⟩) (World.block_lt_of_cell? wq _ c3)).trans c3⟩
                          have HBD : Hid (Below wq.heap.size wq wr.drew) := HBT.out.trans ⟨rfl, rfl, rfl, Nat.le_refl _, fun _ _ => rfl⟩
                          have HS0 := hide (HF.out wr.drew HBD.out)
                          clear hRt c0 c1 c2 c3 hstr
                          go_upto_region 43 with fail
                          refine startU (S := fun W => W.cell? ⟨ob, ooff + k2, none⟩ = some (.slice ai l.length ci) ∧ W.cell? ⟨rb, roff + t * 4, none⟩ = some (.string r.key) ∧ W.cell? ⟨rb, roff + t * 4 + 1, none⟩ = some (.slice va r.vals.length vc) ∧ W.cell? ⟨rb, roff + t * 4 + 2, none⟩ = some (.bool r.any) ∧ W.cell? ⟨rb, roff + t * 4 + 3, none⟩ = some (.bool r.neg)) 10 rfl (by kernel_rfl) ?_
                          refine takeU 0 167 (v := ?_) rfl rfl (by kernel_rfl) (by kernel_rfl) (by kernel_rfl) (by kernel_rfl) (fun _ _ _ h => h) (by rfl) HS0.out ?_ ?_
                          rotate_left
                          · intro w' hSw
                            obtain ⟨h1, h2, h3, h4, h5⟩ := hSw
                            go_simp
                            try (with_reducible rfl)
                          simp only [List.setIfInBounds_toArray, List.set_cons_zero, List.set_cons_succ]
                          refine takeU 1 168 (v := ?_) rfl rfl (by kernel_rfl) (by kernel_rfl) (by kernel_rfl) (by kernel_rfl) (fun _ _ _ h => h) (by rfl) HS0.out ?_ ?_
                          rotate_left
                          · intro w' hSw
                            obtain ⟨h1, h2, h3, h4, h5⟩ := hSw
                            go_simp
                            try (with_reducible rfl)
                          simp only [List.setIfInBounds_toArray, List.set_cons_zero, List.set_cons_succ]
                          refine takeU 2 169 (v := ?_) rfl rfl (by kernel_rfl) (by kernel_rfl) (by kernel_rfl) (by kernel_rfl) (fun _ _ _ h => h) (by rfl) HS0.out ?_ ?_
                          rotate_left
                          · intro w' hSw
                            obtain ⟨h1, h2, h3, h4, h5⟩ := hSw
                            go_simp
                            try (with_reducible rfl)
                          simp only [List.setIfInBounds_toArray, List.set_cons_zero, List.set_cons_succ]
                          refine takeU 3 170 (v := ?_) rfl rfl (by kernel_rfl) (by kernel_rfl) (by kernel_rfl) (by kernel_rfl) (fun _ _ _ h => h) (by rfl) HS0.out ?_ ?_
                          rotate_left
                          · intro w' hSw
                            obtain ⟨h1, h2, h3, h4, h5⟩ := hSw
                            go_simp
                            try (with_reducible rfl)
                          simp only [List.setIfInBounds_toArray, List.set_cons_zero, List.set_cons_succ]
                          refine takeU 4 171 (v := ?_) rfl rfl (by kernel_rfl) (by kernel_rfl) (by kernel_rfl) (by kernel_rfl) (fun _ _ _ h => h) (by rfl) HS0.out ?_ ?_
                          rotate_left
                          · intro w' hSw
                            obtain ⟨h1, h2, h3, h4, h5⟩ := hSw
                            go_simp
                            try (with_reducible rfl)
                          simp only [List.setIfInBounds_toArray, List.set_cons_zero, List.set_cons_succ]
                          refine takeU 5 172 (v := ?_) rfl rfl (by kernel_rfl) (by kernel_rfl) (by kernel_rfl) (by kernel_rfl) (fun _ _ _ h => h) (by rfl) HS0.out ?_ ?_
                          rotate_left
                          · intro w' hSw
                            obtain ⟨h1, h2, h3, h4, h5⟩ := hSw
                            go_simp
                            try (with_reducible rfl)
                          simp only [List.setIfInBounds_toArray, List.set_cons_zero, List.set_cons_succ]
                          refine takeU 6 173 (v := ?_) rfl rfl (by kernel_rfl) (by kernel_rfl) (by kernel_rfl) (by kernel_rfl) (fun _ _ _ h => h) (by rfl) HS0.out ?_ ?_
                          rotate_left
                          · intro w' hSw
                            obtain ⟨h1, h2, h3, h4, h5⟩ := hSw
                            go_simp
                            try (with_reducible rfl)
                          simp only [List.setIfInBounds_toArray, List.set_cons_zero, List.set_cons_succ]
                          refine takeU 7 174 (v := ?_) rfl rfl (by kernel_rfl) (by kernel_rfl) (by kernel_rfl) (by kernel_rfl) (fun _ _ _ h => h) (by rfl) HS0.out ?_ ?_
                          rotate_left
                          · intro w' hSw
                            obtain ⟨h1, h2, h3, h4, h5⟩ := hSw
                            go_simp
                            try (with_reducible rfl)
                          simp only [List.setIfInBounds_toArray, List.set_cons_zero, List.set_cons_succ]
                          refine oneU 8 rfl (by kernel_rfl) (by rfl) (fun K1 hK1 => ?_)
                          go_simp
                          refine (meetsReq_any ai l ci r va vc wr.drew (HOL.out.below HBD.out) hll (HSTR.out.below HBD.out) hvl).mono ?_
                          rintro e w11 ⟨rfl, hb11⟩
                          have HB11 := hide (HBD.out.trans (hb11.mono HBD.out.size))
                          refine hK1.out _ _ (fun _ => HF.out _ HB11.out) ?_
                          clear hK1 K1
                          have HNA : Hid (meetB l r = true → ∀ (x : Nat) (r' : Rq), x < t + 1 → R[x]? = some r' → meetB l r' = true) := by
                            intro hm x r' hx hr'
                            by_cases e : x = t
                            · subst e
                              have := HRT.out
                              rw [this] at hr'
                              cases hr'
                              exact hm
                            · exact HALL.out rfl x r' (by omega) hr'
                          generalize meetB l r = mb at HNA
                          refine lastU 9 rfl (by kernel_rfl) (by kernel_rfl) (by kernel_rfl) (by rfl) (fun K1 hK1 => ?_)
                          go_simp
                          refine hK1.out _ _ ?_
                          clear hK1 K1 HS0 HF HSTR hb11 HBD HBT HALL HRT
                          cases mb with
                          | true =>
                            go_wp2
                            go_roundw
                            case rel => exact ⟨t + 1, true, by omega, by go_num, rfl, HNA.out, HB11.out⟩
                            case measure => simp [intOf]; omega
                          | false =>
                            go_wp2
                            go_roundw
                            case rel => exact ⟨t + 1, false, by omega, by go_num, rfl, fun h => (by cases h), HB11.out⟩
                            case measure => simp [intOf]; omega
                        · cases b with
                          | true =>
                            have htr' : ¬ ((t : Int) < (R.length : Int)) := by
                              have : ¬ t < R.length := fun h => hgo ⟨rfl, h⟩
                              omega
                            have htR : t = R.length := by omega
                            have hin : k2 ∈ Ls.flatten := HP3.out k2 hlk (fun x r hr => by rw [getD_of HOK.out]; exact HALL.out rfl x r (by have := (List.getElem?_eq_some_iff.1 hr).1; omega) hr)
                            have htc := (HTF.out.cell hlk).1
                            rw [if_pos hin] at htc
                            have htc2 : wr.cell? ⟨G, k2, none⟩ = some (.int .i64 1) := (HBT.out.cell (p := ⟨G, k2, none⟩) (World.block_lt_of_cell? wq _ htc)).trans htc
                            clear hgo htR hin htc
                            go_wp2
                            go_roundw
                            case rel => exact ⟨k2 + 1, by omega, by go_num, HBT.out⟩
                            case measure => simp [intOf]; omega
                          | false =>
                            clear hgo
                            by_cases htr : t < R.length
                            · have htr' : (t : Int) < (R.length : Int) := by omega
                              go_wp2
                              go_roundw
                              case rel => exact ⟨k2 + 1, by omega, by go_num, HBT.out⟩
                              case measure => simp [intOf]; omega
                            · have htr' : ¬ ((t : Int) < (R.length : Int)) := by omega
                              go_wp2
                              go_roundw
                              case rel => exact ⟨k2 + 1, by omega, by go_num, HBT.out⟩
                              case measure => simp [intOf]; omega
                    · have hgk : ¬ ((k2 : Int) < (O.length : Int)) := by omega
                      have HFIN := hide (HBW2.out.trans (HBK.out.mono HBW2.out.size))
                      go_wp2
                      go_ret
                      exact ⟨rfl, HFIN.out⟩
        · have hor : (4096 : Int) < lc ∨ ((4096 : Int) < pcc ∧ ¬ (4096 : Int) < lc) := by omega
          clear HB1 HP1 q4
          rcases hor with h1 | ⟨h1, h2⟩
          all_goals
            go_wp2
            go_ret
            exact ⟨rfl, below_drewN' w1 (m + m2)⟩
      · have hor : (1048576 : Int) < lb ∨ ((1048576 : Int) < pb ∧ ¬ (1048576 : Int) < lb) ∨ (((1048576 : Int) < lb + pb ∧ ¬ (1048576 : Int) < lb) ∧ ¬ (1048576 : Int) < pb) := by omega
        clear HB1 HP1 q3
        rcases hor with h1 | ⟨h1, h2⟩ | ⟨⟨h1, h2⟩, h3⟩
        all_goals
          go_wp2
          go_ret
          exact ⟨rfl, below_drewN' w1 (m + m2)⟩
    · have hor : (4096 : Int) < (O.length : Int) ∨ ((4096 : Int) < (R.length : Int) ∧ ¬ (4096 : Int) < (O.length : Int)) := by omega
      rcases hor with h1 | ⟨h1, h2⟩
      all_goals
        go_wp2
        go_ret
        exact ⟨rfl, Below.refl _ _⟩

end Go.Proofs.Qxb6601049a
