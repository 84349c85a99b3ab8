import Derived.Test.Qxb6601049aPh2
namespace Go.Proofs.Qxb6601049a
open Go.ChangeShapes Go.WideShapes Go.ChangeAt Go.RowKit
set_option linter.unusedVariables false

set_option maxRecDepth 10000 in
set_option maxHeartbeats 4000000 in
theorem newLabelIndex_any (a : Option Addr) (O : List (List (ByteArray × ByteArray))) (c : Nat) (w : World) (hs : SmallO O) (hr : MapRow w a O) :
    Calls Try.prog 44 #[.slice a O.length c] w (indexPost O w) := by
  obtain ⟨i0, hi, hz0, hz1, hz2⟩ := info_parts Try.info3
  have hmm := @run_makeMap Try.prog
  have hl := hs.1
  have HR := hide hr
  clear hs hr
  go_enter Try.func44, Try.ntmps44
  go_wp2_with fail
  refine (newBitset_any O.length _ hl).mono ?_
  rintro e wb ⟨rfl, _, hb⟩
  have hst := fun car => head_start (lab := .slice a O.length c) (car := car) (O := O) hb
  have hbw : Below w.heap.size w wb := (((((Below.refl _ _).alloc (Nat.le_refl _) _).alloc (by simp) _).alloc (by simp; omega) _).alloc (by simp; omega) _).trans (hb.mono (by simp; omega))
  have HST := hide hst
  clear hb hst
  go_wp2
  generalize wb.heap.size = X at HST
  go_loopw [26] (fun i wr => ∃ k : Nat, k ≤ O.length ∧ i = .int .i64 k ∧ Head w X (.slice a O.length c) O k wr) (fun i _ => O.length - (intOf i).toNat)
  case atStart => exact ⟨0, Nat.zero_le _, rfl, HST.out _⟩
  case round =>
    clear HST hbw
    obtain ⟨k, hk, rfl, car, sl, fL, va, hL, hC⟩ := hrel
    by_cases hlt : k < O.length
    · rcases HR.out with h0 | ⟨b, off, rfl, hcell⟩
      · subst h0; simp at hlt
      obtain ⟨l, hll⟩ : ∃ l, O[k]? = some l := ⟨O[k], List.getElem?_eq_getElem hlt⟩
      have hlt' : (k : Int) < (O.length : Int) := by omega
      have hx3 := cell_blk (v := va) hL.str 3 rfl
      have HL := hide hL
      rcases hcell k l hll with ⟨c1, hl0⟩ | ⟨m, c1, hmf⟩
      · subst hl0
        have hc1 : wr.cell? ⟨b, off + k, none⟩ = some (.map none) := (hL.bel.cell (p := ⟨b, off + k, none⟩) (World.block_lt_of_cell? w _ c1)).trans c1
        have HLL := hide hll
        have hbase : X + 1 ≤ wr.heap.size := hL.size
        clear hcell c1 hll hL
        go_wp2_with (at_builtin; refine wpList_append_own_at _ rfl (.tmp 35) (.tmp 37) 22 rfl (X + 1) 3 i0 (.int .i64 0) 1 8 Try.underlying22 hi hz0 hz1 hz2 rfl (by decide) _ _ _ rfl (HL.out.all.alloc _) ⟨wr.heap.size, 0, none⟩ 1 1 [.int .i64 (k : Int)] rfl rfl (cell_one_new _ _ _) (ints_oneCell .i64 [(k : Int)]) (by unfold maxLen; omega) (by omega) (by simp; omega) ?_)
        intro v' w1 hown hgrow _ hloc
        obtain ⟨g, cap, rfl⟩ := owns_shape hown (by omega)
        obtain ⟨hx3', hf3'⟩ := HL.out.xcell hgrow
        have HL2 := hide (HL.out.alls hown hgrow hloc)
        clear hown hgrow hloc hx3 hc1 HL
        have hrg := run_range_nilMap (P := Try.prog) (w1.setCell ⟨X, 3, none⟩ (.slice (some ⟨g, 0, none⟩) (k + 1) cap)) 79 9 9 Try.underlying79
        have esz : (w1.setCell ⟨X, 3, none⟩ (.slice (some ⟨g, 0, none⟩) (k + 1) cap)).heap.size = w1.heap.size := by simp [World.setCell]
        have hnx : ∀ ty, (Instr.next (.pointer (some ⟨w1.heap.size, 0, none⟩)) false ty).run Try.prog ((w1.setCell ⟨X, 3, none⟩ (.slice (some ⟨g, 0, none⟩) (k + 1) cap)).alloc (.mapIter none 0 #[] 0)) = .ok (.tuple #[.bool false]) ((w1.setCell ⟨X, 3, none⟩ (.slice (some ⟨g, 0, none⟩) (k + 1) cap)).alloc (.mapIter none 0 #[] 0)) := fun ty => by
          have := run_next_nilMap (P := Try.prog) (w1.setCell ⟨X, 3, none⟩ (.slice (some ⟨g, 0, none⟩) (k + 1) cap)) ty 0 0 #[]
          rw [esz] at this
          exact this
        have HF : Hid (Head w X (.slice (some ⟨b, off, none⟩) O.length c) O (k + 1) ((w1.setCell ⟨X, 3, none⟩ (.slice (some ⟨g, 0, none⟩) (k + 1) cap)).alloc (.mapIter none 0 #[] 0))) :=
          midst_fin (left := fun _ => False) (MidL.start O [] k |>.mono_nil) (HL2.out.kept (Below.one _ _)) hC HLL.out (fun _ h => h)
        clear HL2 esz
        go_wp2
        refine wp_loop_rounds 1 ?_
        rw [rounds_succ]
        go_wp2
        go_roundw
        case rel => exact ⟨k + 1, by omega, by go_num, HF.out⟩
        case measure => simp [intOf]; omega
      · have hc1 : wr.cell? ⟨b, off + k, none⟩ = some (.map (some m)) := (hL.bel.cell (p := ⟨b, off + k, none⟩) (World.block_lt_of_cell? w _ c1)).trans c1
        have HMF := hide hmf
        have HLL := hide hll
        have hbase : X + 1 ≤ wr.heap.size := hL.size
        clear hcell c1 hmf hll hL
        go_wp2_with (at_builtin; refine wpList_append_own_at _ rfl (.tmp 35) (.tmp 37) 22 rfl (X + 1) 3 i0 (.int .i64 0) 1 8 Try.underlying22 hi hz0 hz1 hz2 rfl (by decide) _ _ _ rfl (HL.out.all.alloc _) ⟨wr.heap.size, 0, none⟩ 1 1 [.int .i64 (k : Int)] rfl rfl (cell_one_new _ _ _) (ints_oneCell .i64 [(k : Int)]) (by unfold maxLen; omega) (by omega) (by simp; omega) ?_)
        intro v' w1 hown hgrow _ hloc
        obtain ⟨g, cap, rfl⟩ := owns_shape hown (by omega)
        obtain ⟨hx3', hf3'⟩ := HL.out.xcell hgrow
        have HL2 := hide (HL.out.alls hown hgrow hloc)
        have HM2 := hide (HMF.out.below HL2.out.bel HMF.out.lt)
        clear hown hgrow hloc hx3 hc1 HL
        go_wp2_with (at_range; refine wpList_range_fn _ rfl _ 79 rfl 9 9 Try.underlying79 m _ rfl HM2.out ?_)
        intro w2 cnt hit hb2 hs2
        go_wp2_with fail
        have esz : (w1.setCell ⟨X, 3, none⟩ (.slice (some ⟨g, 0, none⟩) (k + 1) cap)).heap.size = w1.heap.size := by simp [World.setCell]
        have hrX : X + 1 ≤ w1.heap.size := by rw [← esz]; exact HL2.out.size
        have HMS : Hid (Midst w X (.slice (some ⟨b, off, none⟩) O.length c) O l k w1.heap.size m w2) :=
          ⟨car, _, _, cnt, sl, fL, _, hit, MidL.start O l k, HL2.out.kept (by rw [esz]; exact hb2), hC⟩
        clear hit hb2 hs2 esz HL2 HM2 hx3' hf3' hC
        generalize w1.heap.size = r at HMS hrX
        go_loopw [8, 9] (fun _ _ wr => Midst w X (.slice (some ⟨b, off, none⟩) O.length c) O l k r m wr) (fun _ _ wr => iterLeft wr r)
        case atStart => exact HMS.out
        case round =>
          clear HMS
          obtain ⟨car, lst, left, cnt, sl, fL, va, hit, hmid, hL, hC⟩ := hrel
          have HIT := hide hit
          have HCNT := hide hit.left_eq
          have HMID := hide hmid
          have HL := hide hL
          have HC := hide hC
          clear hit hmid hL hC
          go_wp2_with (at_next; refine wpList_next_fn _ rfl _ rfl r m cnt (lfn l) left Value.string (fun s v h => by unfold lfn at h; cases e : llk l s with | none => (rw [e] at h; cases h) | some u => (rw [e] at h; cases h; exact ⟨u, rfl⟩)) rfl HIT.out ?_ ?_)
          · intro hdone
            have HF := hide (midst_fin HMID.out HL.out HC.out HLL.out hdone)
            clear hdone
            go_wp2
            go_roundw
            case rel => exact ⟨k + 1, by omega, by go_num, HF.out⟩
            case measure => simp [intOf]; omega
          · intro s v w3 cnt3 hls hfs hit3 hlt3 hon3 hen3
            have HL3 := hide (HL.out.iter hon3 HIT.out.iter hrX)
            have hq := fun w r => run_eql_map_nil (P := Try.prog) w 93 9 22 r Try.underlying93
            have hlk : (Instr.lookup 92 (.map (some w.heap.size)) (.string s) false).run Try.prog w3 = .ok (.map (fL s)) w3 := by
              rw [HL3.out.maps.1.lookup Try.underlying92 Try.underlying9 (zero92 w3) s, map_getD]
            have HIT3 := hide hit3
            have HLS := hide hls
            have HFS := hide hfs
            have HLT := hide hlt3
            clear hls hfs hit3 hlt3 hon3 HL HIT
            go_upto_if 51 with fail
            clear hlk hen3
            go_cut [] from 43 to 74 (fun wc => After w X (.slice (some ⟨b, off, none⟩) O.length c) (k + 1) lst sl fL car va s r m cnt3 l (fun t => left t ∧ t ≠ s) wc)
            case first =>
              cases hfl : fL s with
              | none =>
                have HFL := hide hfl
                have HA := hide (HL3.out.maps.1.below (Below.one w3 (.map #[] 0)) HL3.out.maps.1.lt)
                go_wp2_with (at_mapUpdate; refine wpList_mapUpdate_fn _ rfl _ _ _ 92 rfl 9 93 Try.underlying92 Try.underlying9 w.heap.size _ s (.map (some w3.heap.size)) rfl rfl rfl HA.out ?_)
                intro w4 hm4 hon4
                have HAF : Hid (After w X (.slice (some ⟨b, off, none⟩) O.length c) (k + 1) lst sl fL car va s r m cnt3 l (fun t => left t ∧ t ≠ s) w4) := by
                  refine ⟨_, w3.heap.size, HL3.out.newkey HFL.out hm4 hon4, by simp, fun k hk => by simp [hk], ?_⟩
                  have hi1 := HIT3.out.blocks (w' := w3.alloc (.map #[] 0)) (Below.heap_alloc _ _ _ HIT3.out.map.lt) (Below.heap_alloc _ _ _ (by obtain ⟨_, _, _, _, h⟩ := HIT3.out.iter; exact (Array.getElem?_eq_some_iff.1 h).1))
                  refine hi1.blocks (hon4.block _ ?_) (hon4.block _ ?_)
                  · have := HMF.out.lt; omega
                  · have := HL3.out.hX; omega
                clear hm4 hon4
                go_wp2
                go_meet
                case rel => exact HAF.out
              | some bb =>
                have HFL := hide hfl
                go_wp2
                go_meet
                case rel => exact ⟨fL, bb, HL3.out, HFL.out, fun _ _ => rfl, HIT3.out⟩
            case rest =>
              obtain ⟨fL', bb, hL4, hfb, hfo, hit4⟩ := hcut
              have lk1 : ∀ W, MapFn W w.heap.size (fun k => (fL' k).map (fun b => .map (some b))) → (Instr.lookup 92 (.map (some w.heap.size)) (.string s) false).run Try.prog W = .ok (.map (some bb)) W := by
                intro W hW
                rw [hW.lookup Try.underlying92 Try.underlying9 (zero92 W) s, map_getD, hfb]
              have lk2 : ∀ W, MapFn W bb (fun u => sl s (some u)) → (Instr.lookup 93 (.map (some bb)) (.string v) false).run Try.prog W = .ok ((sl s (some v)).getD (.slice none 0 0)) W := by
                intro W hW
                rw [hW.lookup Try.underlying93 Try.underlying9 (zero22 W) v]
              have hm1 := hL4.maps.1
              have hm2 := (hL4.maps.2.2.1 s bb hfb).2
              have hown0 := hL4.rows.1 s (some v)
              have HL4 := hide hL4
              have HFB := hide hfb
              have HFO := hide hfo
              have HIT4 := hide hit4
              have HLK1 := hide lk1
              have HLK2 := hide lk2
              have HM1 := hide hm1
              have HM2 := hide hm2
              have HO0 : Hid (wc.ownsRow (X + 1) 3 1 ((sl s (some v)).getD (.slice none 0 0)) (lst s (some v)).length (ints (lst s (some v)))) := hown0
              have hS0 : (Instr.lookup 92 (.map (some w.heap.size)) (.string s) false).run Try.prog wc.drew = .ok (.map (some bb)) wc.drew ∧ (Instr.lookup 93 (.map (some bb)) (.string v) false).run Try.prog wc.drew = .ok ((sl s (some v)).getD (.slice none 0 0)) wc.drew := ⟨lk1 _ hm1.drew, lk2 _ hm2.drew⟩
              generalize hvv : (sl s (some v)).getD (.slice none 0 0) = vv at HLK2 HO0 hS0
              have HVV := hide hvv
              have HS0 := hide hS0
              clear hL4 hfb hfo hit4 lk1 lk2 hm1 hm2 hown0 hvv hS0
              go_upto_region 13 with fail
              refine startU (S := fun w' => (Instr.lookup 92 (.map (some w.heap.size)) (.string s) false).run Try.prog w' = .ok (.map (some bb)) w' ∧ (Instr.lookup 93 (.map (some bb)) (.string v) false).run Try.prog w' = .ok vv w') 13 rfl (by kernel_rfl) ?_
              refine takeU 0 55 (v := ?_) rfl rfl (by kernel_rfl) (by kernel_rfl) (by kernel_rfl) (by kernel_rfl) (fun _ _ _ h => h) (by rfl) HS0.out ?_ ?_
              rotate_left
              · intro w' hSw
                obtain ⟨h1, h2⟩ := hSw
                go_simp
                try (with_reducible rfl)
              simp only [List.setIfInBounds_toArray, List.set_cons_zero, List.set_cons_succ]
              refine takeU 1 56 (v := ?_) rfl rfl (by kernel_rfl) (by kernel_rfl) (by kernel_rfl) (by kernel_rfl) (fun _ _ _ h => h) (by rfl) HS0.out ?_ ?_
              rotate_left
              · intro w' hSw
                obtain ⟨h1, h2⟩ := hSw
                go_simp
                try (with_reducible rfl)
              simp only [List.setIfInBounds_toArray, List.set_cons_zero, List.set_cons_succ]
              refine takeU 2 57 (v := ?_) rfl rfl (by kernel_rfl) (by kernel_rfl) (by kernel_rfl) (by kernel_rfl) (fun _ _ _ h => h) (by rfl) HS0.out ?_ ?_
              rotate_left
              · intro w' hSw
                obtain ⟨h1, h2⟩ := hSw
                go_simp
                try (with_reducible rfl)
              simp only [List.setIfInBounds_toArray, List.set_cons_zero, List.set_cons_succ]
              refine takeU 3 58 (v := ?_) rfl rfl (by kernel_rfl) (by kernel_rfl) (by kernel_rfl) (by kernel_rfl) (fun _ _ _ h => h) (by rfl) HS0.out ?_ ?_
              rotate_left
              · intro w' hSw
                obtain ⟨h1, h2⟩ := hSw
                go_simp
                try (with_reducible rfl)
              simp only [List.setIfInBounds_toArray, List.set_cons_zero, List.set_cons_succ]
              refine takeU 4 59 (v := ?_) rfl rfl (by kernel_rfl) (by kernel_rfl) (by kernel_rfl) (by kernel_rfl) (fun _ _ _ h => h) (by rfl) HS0.out ?_ ?_
              rotate_left
              · intro w' hSw
                obtain ⟨h1, h2⟩ := hSw
                go_simp
                try (with_reducible rfl)
              simp only [List.setIfInBounds_toArray, List.set_cons_zero, List.set_cons_succ]
              refine takeU 5 60 (v := ?_) rfl rfl (by kernel_rfl) (by kernel_rfl) (by kernel_rfl) (by kernel_rfl) (fun _ _ _ h => h) (by rfl) HS0.out ?_ ?_
              rotate_left
              · intro w' hSw
                obtain ⟨h1, h2⟩ := hSw
                go_simp
                try (with_reducible rfl)
              simp only [List.setIfInBounds_toArray, List.set_cons_zero, List.set_cons_succ]
              refine takeU 6 61 (v := ?_) rfl rfl (by kernel_rfl) (by kernel_rfl) (by kernel_rfl) (by kernel_rfl) (fun _ _ _ h => h) (by rfl) HS0.out ?_ ?_
              rotate_left
              · intro w' hSw
                obtain ⟨h1, h2⟩ := hSw
                go_simp
                try (with_reducible rfl)
              simp only [List.setIfInBounds_toArray, List.set_cons_zero, List.set_cons_succ]
              refine takeU 7 62 (v := ?_) rfl rfl (by kernel_rfl) (by kernel_rfl) (by kernel_rfl) (by kernel_rfl) (fun _ _ _ h => h) (by rfl) HS0.out ?_ ?_
              rotate_left
              · intro w' hSw
                obtain ⟨h1, h2⟩ := hSw
                go_simp
                try (with_reducible rfl)
              simp only [List.setIfInBounds_toArray, List.set_cons_zero, List.set_cons_succ]
              refine takeU 8 63 (v := ?_) rfl rfl (by kernel_rfl) (by kernel_rfl) (by kernel_rfl) (by kernel_rfl) (fun _ _ _ h => h) (by rfl) HS0.out ?_ ?_
              rotate_left
              · intro w' hSw
                obtain ⟨h1, h2⟩ := hSw
                go_simp
                try (with_reducible rfl)
              simp only [List.setIfInBounds_toArray, List.set_cons_zero, List.set_cons_succ]
              refine takeU 9 64 (v := ?_) rfl rfl (by kernel_rfl) (by kernel_rfl) (by kernel_rfl) (by kernel_rfl) (fun _ _ _ h => h) (by rfl) HS0.out ?_ ?_
              rotate_left
              · intro w' hSw
                obtain ⟨h1, h2⟩ := hSw
                go_simp
                try (with_reducible rfl)
              simp only [List.setIfInBounds_toArray, List.set_cons_zero, List.set_cons_succ]
              refine oneU 10 rfl (by kernel_rfl) (by rfl) (fun K1 hK1 => ?_)
              go_simp
              refine hK1.out _ _ (fun _ => ?_) ?_
              · exact ⟨HLK1.out _ (HM1.out.below (Below.one wc _) HM1.out.lt).drew, HLK2.out _ (HM2.out.below (Below.one wc _) HM2.out.lt).drew⟩
              clear hK1 K1
              refine oneU 11 rfl (by kernel_rfl) (by rfl) (fun K1 hK1 => ?_)
              have hln := HMID.out.len s (some v)
              refine wp_append_lies _ (.tmp 63) (.tmp 65) 22 rfl (X + 1) 3 i0 (.int .i64 0) 1 8 Try.underlying22 hi hz0 hz1 hz2 rfl (by decide) vv _ _ rfl (HO0.out.alloc _) ⟨wc.heap.size, 0, none⟩ 1 1 [.int .i64 (k : Int)] rfl rfl (cell_one_new _ _ _) (ints_oneCell .i64 [(k : Int)]) (by omega) (by unfold maxLen; omega) (by omega) (by have := HL4.out.size; simp; omega) (wc.heap.size + 1) (by simp) ?_
              intro g cap w5 hown5 hgrow5 hloc5 hlt5
              have hgrow5' : (wc.drew.alloc (.cells #[.int .i64 (k : Int)] 3)).grownBy w5 ((sl s (some v)).getD nilS).ownBlock := by
                have := HVV.out
                unfold nilS
                rw [this]
                exact hgrow5
              have HL5 := hide (HL4.out.kept (below_drew wc))
              have hm1 : MapFn w5 w.heap.size (fun k => (fL' k).map (fun b => .map (some b))) := HL5.out.mapk s (some v) hgrow5' HM1.out.drew
              have hm2 : MapFn w5 bb (fun u => sl s (some u)) := HL5.out.mapk s (some v) hgrow5' HM2.out.drew
              have hloc5' : (Value.slice (some ⟨g, 0, none⟩) ((lst s (some v)).length + 1) cap).ownBlock = ((sl s (some v)).getD nilS).ownBlock ∨ (Value.slice (some ⟨g, 0, none⟩) ((lst s (some v)).length + 1) cap).ownBlock = some (wc.drew.heap.size + 1) := by
                have := HVV.out
                unfold nilS
                rw [this]
                rcases hloc5 with e | e
                · exact .inl e.symm
                · exact .inr (by rw [e]; rfl)
              obtain ⟨w6, hrun6, hm6, hon6⟩ := hm2.update (P := Try.prog) Try.underlying93 Try.underlying9 v (Value.slice (some ⟨g, 0, none⟩) ((lst s (some v)).length + 1) cap)
              have hbb := (HL4.out.maps.2.2.1 s bb HFB.out).1
              have hX4 := HL4.out.hX
              have HL6 := hide (HL5.out.grow (b := bb) s (some v) hown5 hgrow5' hloc5' hon6 hm2 (by omega) (by omega) (by omega) (fun hI => hI.setLabel HFB.out (by omega) v _ hm6 hon6))
              have HIT6 := hide ((HL5.out.iterk s (some v) hgrow5' (HIT4.out.blocks (w' := wc.drew) rfl rfl)).only hon6 hm2 (by have := HMF.out.lt; omega))
              refine hK1.out _ _ (fun _ => ⟨HLK1.out _ hm1, HLK2.out _ hm2⟩) ?_
              simp only [Act.put, List.setIfInBounds_toArray, List.set_cons_zero, List.set_cons_succ]
              clear hK1 K1
              refine lastU 12 rfl (by kernel_rfl) (by kernel_rfl) (by kernel_rfl) (by rfl) (fun K1 hK1 => ?_)
              refine wp_mapUpdate_run (.tmp 57) (.tmp 58) (.tmp 66) 93 rfl rfl rfl rfl hrun6 ?_
              refine hK1.out _ _ ?_
              simp only [Act.put]
              clear hK1 K1 hrun6 hm6 hon6 hm1 hm2 hown5 hgrow5 hgrow5' hloc5 hloc5' HL5 HL4 HIT4 HM1 HM2 HLK1 HLK2 HO0 HS0 HVV
              have hlk6 : ∀ W, MapFn W (w.heap.size + 1) (fun k => updT sl s (some v) (some (Value.slice (some ⟨g, 0, none⟩) ((lst s (some v)).length + 1) cap)) k none) → (Instr.lookup 93 (.map (some (w.heap.size + 1))) (.string s) false).run Try.prog W = .ok ((updT sl s (some v) (some (Value.slice (some ⟨g, 0, none⟩) ((lst s (some v)).length + 1) cap)) s none).getD (.slice none 0 0)) W := by
                intro W hW
                rw [hW.lookup Try.underlying93 Try.underlying9 (zero22 W) s]
              have hlk := hlk6 _ HL6.out.maps.2.1
              have HO6 := hide (HL6.out.rows.1 s none)
              have hln6 : (updT lst s (some v) (lst s (some v) ++ [k]) s none).length ≤ k + 1 := by rw [updT_other _ _ (by simp)]; exact HMID.out.len s none
              have hsz6 := HL6.out.size
              have HM6 := hide HL6.out.maps.2.1
              generalize hsl6 : updT sl s (some v) (some (Value.slice (some ⟨g, 0, none⟩) ((lst s (some v)).length + 1) cap)) = sl6 at HL6 HM6 HO6 hlk
              generalize hls6 : updT lst s (some v) (lst s (some v) ++ [k]) = lst6 at HL6 HO6 hln6
              have HLN := hide hln6
              have HSL6 := hide hsl6
              have HLS6 := hide hls6
              have HO6' : Hid (w6.ownsRow (X + 1) 3 1 ((sl6 s none).getD (.slice none 0 0)) (lst6 s none).length (ints (lst6 s none))) := HO6.out
              generalize hvv : (sl6 s none).getD (.slice none 0 0) = vv6 at HO6' hlk
              have HVV := hide hvv
              clear hlk6 hsl6 hls6 HO6 hvv hln6
              go_wp2_with (at_builtin; refine wpList_append_lies _ rfl (.tmp 71) (.tmp 73) 22 rfl (X + 1) 3 i0 (.int .i64 0) 1 8 Try.underlying22 hi hz0 hz1 hz2 rfl (by decide) vv6 _ _ rfl (HO6'.out.alloc _) ⟨w6.heap.size, 0, none⟩ 1 1 [.int .i64 (k : Int)] rfl rfl (cell_one_new _ _ _) (ints_oneCell .i64 [(k : Int)]) (by omega) (by have := HLN.out; unfold maxLen; omega) (by have := HLN.out; omega) (by simp; omega) (w6.heap.size + 1) (by simp) ?_)
              intro g7 cap7 w7 hown7 hgrow7 hloc7 hlt7
              have hgrow7' : (w6.alloc (.cells #[.int .i64 (k : Int)] 3)).grownBy w7 ((sl6 s none).getD nilS).ownBlock := by
                have := HVV.out
                unfold nilS
                rw [this]
                exact hgrow7
              have hloc7' : (Value.slice (some ⟨g7, 0, none⟩) ((lst6 s none).length + 1) cap7).ownBlock = ((sl6 s none).getD nilS).ownBlock ∨ (Value.slice (some ⟨g7, 0, none⟩) ((lst6 s none).length + 1) cap7).ownBlock = some (w6.heap.size + 1) := by
                have := HVV.out
                unfold nilS
                rw [this]
                rcases hloc7 with e | e
                · exact .inl e.symm
                · exact .inr (by rw [e]; rfl)
              have HM7 := hide (HL6.out.mapk s none hgrow7' HM6.out)
              have HIT7 := hide (HL6.out.iterk s none hgrow7' HIT6.out)
              have HOWN7 := hide hown7
              have HG7 := hide hgrow7'
              have HLOC7 := hide hloc7'
              clear hown7 hgrow7 hgrow7' hloc7 hloc7' hlk HIT6 HM6
              go_wp2_with (at_mapUpdate; refine wpList_mapUpdate_fn _ rfl _ _ _ 93 rfl 9 22 Try.underlying93 Try.underlying9 (w.heap.size + 1) _ s (Value.slice (some ⟨g7, 0, none⟩) ((lst6 s none).length + 1) cap7) rfl rfl rfl HM7.out ?_)
              intro w8 hm8 hon8
              have HL8 := hide (HL6.out.grow (b := w.heap.size + 1) s none HOWN7.out HG7.out HLOC7.out hon8 HM7.out (by omega) (by omega) (by omega) (fun hI => hI.setKey (by omega) _ hm8 hon8))
              have HIT8 := hide (HIT7.out.only hon8 HM7.out (by have := HMF.out.lt; omega))
              have HMS8 : Hid (Midst w X (.slice (some ⟨b, off, none⟩) O.length c) O l k r m w8) := by
                have e1 := HSL6.out
                have e2 := HLS6.out
                subst e1 e2
                have hv : llk l s = some v := by
                  have := HFS.out
                  unfold lfn at this
                  cases e : llk l s with
                  | none => rw [e] at this; cases this
                  | some u => rw [e] at this; cases this; rfl
                have hcs := cons_step HC.out (s := s) (v := v) (i := k) (y := Value.slice (some ⟨g, 0, none⟩) ((lst s (some v)).length + 1) cap) (z := Value.slice (some ⟨g7, 0, none⟩) ((updT lst s (some v) (lst s (some v) ++ [k]) s none).length + 1) cap7) HFB.out HFO.out
                have hms := HMID.out.step HLS.out hv
                have hl8 := HL8.out
                have ee : updT lst s (some v) (lst s (some v) ++ [k]) s none = lst s none := updT_other _ _ (by simp)
                rw [ee] at hl8 hcs
                exact ⟨car, _, _, cnt3, _, _, _, HIT8.out, hms, hl8, hcs⟩
              have hmeas : iterLeft w8 r < iterLeft wr r := by
                rw [HIT8.out.left_eq, HCNT.out]
                exact HLT.out
              clear hm8 hon8 HL8 HIT8 HIT7 HL6 HOWN7 HG7 HLOC7 HM7 HLN HSL6 HLS6 HVV HO6'
              go_wp2
              go_roundw
              case rel => exact HMS8.out
              case measure => exact hmeas
    · have hk0 : k = O.length := by omega
      subst hk0
      have hge : ¬ ((O.length : Int) < (O.length : Int)) := by omega
      have HL := hide hL
      have HC := hide hC
      have HP := hide (P2.start hL hC)
      obtain ⟨wo, hwo⟩ : ∃ wo, wo = wr := ⟨_, rfl⟩
      subst hwo
      have HNF := hide hL.maps.1
      clear hL hC
      go_wp2_with (at_range; refine wpList_range_fn _ rfl _ 92 rfl 9 93 Try.underlying92 w.heap.size _ rfl HNF.out ?_)
      intro w2 cnt hit hb2 hs2
      have HRR := hide (rowsR HL.out HC.out)
      have HO : Hid (Out w wo X O sl fL wo.heap.size w2) := ⟨_, _, _, cnt, hit, (HP.out.kept hb2).done' (fun k x hd => ((HP.out.post k x (Classical.not_not.1 hd)).ck (CKept.below hb2)))⟩
      clear hit hb2 hs2 HP HNF
      go_wp2_with fail
      go_loopw [10, 11] (fun _ _ wr => Out w wo X O sl fL wo.heap.size wr) (fun _ _ wr => iterLeft wr wo.heap.size)
      case atStart => exact HO.out
      case round =>
        clear HO
        obtain ⟨gL, pv, left, cnt, hit, hp⟩ := hrel
        have HIT := hide hit
        have HCNT := hide hit.left_eq
        have HP := hide hp
        clear hit hp
        go_wp2_with (at_next; refine wpList_next_fn _ rfl _ rfl wo.heap.size w.heap.size cnt _ left (fun b : Nat => Value.map (some b)) (fun s v h => by cases e : fL s with | none => (rw [e] at h; cases h) | some u => (rw [e] at h; cases h; exact ⟨u, rfl⟩)) rfl HIT.out ?_ ?_)
        · intro hdone
          have HF := hide (P2.fin HL.out HP.out (fun k _ => hdone k))
          have HB := hide HP.out.bel
          clear hdone
          go_wp2
          go_ret
          exact ⟨X, rfl, HF.out, HB.out⟩
        · intro s b w3 cnt3 hls hfs hit3 hlt3 hon3 hen3
          have hX4 := HP.out.hX
          have hX1 := HP.out.hX1
          have HP3 := hide (HP.out.iter hon3 HIT.out.iter (by omega))
          have hmb := (HP3.out.maps.2.2.1 s b hfs).2
          obtain ⟨es, cl, hbk, _⟩ := id hmb
          have hcX : w3.cell? ⟨X, 1, none⟩ = some (.map (some (w.heap.size + 2))) := HP3.out.cells.cell (cell_blk HL.out.str 1 rfl)
          have HIT3 := hide hit3
          have HLS := hide hls
          have HFS := hide hfs
          have HLT := hide hlt3
          have HCX := hide hcX
          have HBK := hide hbk
          have HS0 : Hid (w3.drew.cell? ⟨X, 1, none⟩ = some (.map (some (w.heap.size + 2))) ∧ (Builtin.len_ #[93] 3 #[Value.map (some b)]).run Try.prog w3.drew = .ok (.int .i64 es.size) w3.drew) := ⟨hcX, len_map (w := w3.drew) Try.underlying93 hbk 3⟩
          clear hls hfs hit3 hlt3 hon3 HP HIT hmb hcX hbk
          go_upto_region 19 with fail
          clear hen3
          refine startU (S := fun w' => w'.cell? ⟨X, 1, none⟩ = some (.map (some (w.heap.size + 2))) ∧ (Builtin.len_ #[93] 3 #[Value.map (some b)]).run Try.prog w' = .ok (.int .i64 es.size) w') 9 rfl (by kernel_rfl) ?_
          refine takeU 0 83 (v := ?_) rfl rfl (by kernel_rfl) (by kernel_rfl) (by kernel_rfl) (by kernel_rfl) (fun _ _ _ h => h) (by rfl) HS0.out ?_ ?_
          rotate_left
          · intro w' hSw
            obtain ⟨h1, h2⟩ := hSw
            go_simp
            try (with_reducible rfl)
          simp only [List.setIfInBounds_toArray, List.set_cons_zero, List.set_cons_succ]
          refine takeU 1 84 (v := ?_) rfl rfl (by kernel_rfl) (by kernel_rfl) (by kernel_rfl) (by kernel_rfl) (fun _ _ _ h => h) (by rfl) HS0.out ?_ ?_
          rotate_left
          · intro w' hSw
            obtain ⟨h1, h2⟩ := hSw
            go_simp
            try (with_reducible rfl)
          simp only [List.setIfInBounds_toArray, List.set_cons_zero, List.set_cons_succ]
          refine takeU 2 85 (v := ?_) rfl rfl (by kernel_rfl) (by kernel_rfl) (by kernel_rfl) (by kernel_rfl) (fun _ _ _ h => h) (by rfl) HS0.out ?_ ?_
          rotate_left
          · intro w' hSw
            obtain ⟨h1, h2⟩ := hSw
            go_simp
            try (with_reducible rfl)
          simp only [List.setIfInBounds_toArray, List.set_cons_zero, List.set_cons_succ]
          refine takeU 3 86 (v := ?_) rfl rfl (by kernel_rfl) (by kernel_rfl) (by kernel_rfl) (by kernel_rfl) (fun _ _ _ h => h) (by rfl) HS0.out ?_ ?_
          rotate_left
          · intro w' hSw
            obtain ⟨h1, h2⟩ := hSw
            go_simp
            try (with_reducible rfl)
          simp only [List.setIfInBounds_toArray, List.set_cons_zero, List.set_cons_succ]
          refine takeU 4 87 (v := ?_) rfl rfl (by kernel_rfl) (by kernel_rfl) (by kernel_rfl) (by kernel_rfl) (fun _ _ _ h => h) (by rfl) HS0.out ?_ ?_
          rotate_left
          · intro w' hSw
            obtain ⟨h1, h2⟩ := hSw
            go_simp
            try (with_reducible rfl)
          simp only [List.setIfInBounds_toArray, List.set_cons_zero, List.set_cons_succ]
          refine takeU 5 88 (v := ?_) rfl rfl (by kernel_rfl) (by kernel_rfl) (by kernel_rfl) (by kernel_rfl) (fun _ _ _ h => h) (by rfl) HS0.out ?_ ?_
          rotate_left
          · intro w' hSw
            obtain ⟨h1, h2⟩ := hSw
            go_simp
            try (with_reducible rfl)
          simp only [List.setIfInBounds_toArray, List.set_cons_zero, List.set_cons_succ]
          refine takeU 6 89 (v := ?_) rfl rfl (by kernel_rfl) (by kernel_rfl) (by kernel_rfl) (by kernel_rfl) (fun _ _ _ h => h) (by rfl) HS0.out ?_ ?_
          rotate_left
          · intro w' hSw
            obtain ⟨h1, h2⟩ := hSw
            go_simp
            try (with_reducible rfl)
          simp only [List.setIfInBounds_toArray, List.set_cons_zero, List.set_cons_succ]
          refine oneU 7 rfl (by kernel_rfl) (by rfl) (fun K1 hK1 => ?_)
          have hmh := fun n w => run_makeMap_hint Try.underlying81 .i64 n w
          go_simp
          refine hK1.out _ _ (fun _ => ?_) ?_
          · exact ⟨((Below.one w3 (.map #[] 0)).cell (p := ⟨X, 1, none⟩) (World.block_lt_of_cell? w3 _ HCX.out)).trans HCX.out, len_map (w := (w3.alloc (.map #[] 0)).drew) Try.underlying93 (((Below.one w3 (.map #[] 0)).block b (Array.getElem?_eq_some_iff.1 HBK.out).1).trans HBK.out) 3⟩
          clear hK1 K1 hmh
          have HP4 := hide (HP3.out.kept (below_drew w3))
          have HE4 := hide (HP4.out.kept (Below.one w3.drew (.map #[] 0))).eL
          obtain ⟨w4, hrun4, hm4, hon4⟩ := HE4.out.update (P := Try.prog) Try.underlying80 Try.underlying9 s (.map (some w3.drew.heap.size))
          refine lastU 8 rfl (by kernel_rfl) (by kernel_rfl) (by kernel_rfl) (by rfl) (fun K1 hK1 => ?_)
          refine wp_mapUpdate_run (.tmp 86) (.tmp 87) (.tmp 90) 80 rfl rfl rfl rfl hrun4 ?_
          refine hK1.out _ _ ?_
          simp only [Act.put]
          have HP5 := hide (HP4.out.make (s := s) (fun _ h => h HLS.out) hm4 hon4)
          have HIT5 : Hid (IterAt w4 wo.heap.size w.heap.size (fun k => (fL k).map (fun b => .map (some b))) (fun t => left t ∧ t ≠ s) cnt3) := by
            have hlt : wo.heap.size < w3.heap.size := by obtain ⟨_, _, _, _, h⟩ := HIT3.out.iter; exact (Array.getElem?_eq_some_iff.1 h).1
            have h1 : IterAt (w3.drew.alloc (.map #[] 0)) wo.heap.size w.heap.size (fun k => (fL k).map (fun b => .map (some b))) (fun t => left t ∧ t ≠ s) cnt3 := HIT3.out.blocks (Below.heap_alloc w3 _ _ HIT3.out.map.lt) (Below.heap_alloc w3 _ _ hlt)
            exact h1.only hon4 HE4.out (by omega)
          clear hK1 K1 hrun4 hm4 hon4 HE4 HP4 HP3 HIT3 HCX HBK HS0
          have HMB := hide (HP5.out.maps.2.2.1 s b HFS.out).2
          go_wp2_with (at_range; refine wpList_range_fn _ rfl _ 93 rfl 9 22 Try.underlying93 b _ rfl HMB.out ?_)
          intro w5 cntI hit5 hb5 hs5
          go_wp2_with fail
          have HI : Hid (Inn w wo X O sl fL wo.heap.size cnt3 left s w4.heap.size b w5) := by
            refine ⟨_, _, _, cntI, w3.drew.heap.size, HIT5.out.blocks (hb5.block _ HIT5.out.map.lt) (hb5.block _ ?_), hit5, by simp, (HP5.out.kept hb5).done' fun k x hd => ?_⟩
            · obtain ⟨_, _, _, _, h⟩ := HIT5.out.iter; exact (Array.getElem?_eq_some_iff.1 h).1
            · rcases hd with hd | ⟨rfl, v, rfl, hv⟩
              · exact (HP5.out.kept hb5).post k x hd
              · refine .inl ⟨(HC.out.1 k (some v)).1 (Classical.not_not.1 hv), by simp⟩
          have hr2 : wo.heap.size < w4.heap.size := by obtain ⟨_, _, _, _, h⟩ := HIT5.out.iter; exact (Array.getElem?_eq_some_iff.1 h).1
          have hN2 : w.heap.size < w4.heap.size := HIT5.out.map.lt
          clear hit5 hb5 hs5 HP5 HIT5 HMB
          obtain ⟨wq, hwq⟩ : ∃ wq, wq = wr := ⟨_, rfl⟩
          subst hwq
          generalize w4.heap.size = r2 at HI hr2 hN2
          go_loopw [12, 13] (fun _ _ wr => Inn w wo X O sl fL wo.heap.size cnt3 left s r2 b wr) (fun _ _ wr => iterLeft wr r2)
          case atStart => exact HI.out
          case round =>
            clear HI
            obtain ⟨gL, pv, leftI, cntI, g, hit1, hit2, hg, hp⟩ := hrel
            have HIT1 := hide hit1
            have HIT2 := hide hit2
            have HCNT2 := hide hit2.left_eq
            have HG := hide hg
            have HP := hide hp
            clear hit1 hit2 hg hp
            go_wp2_with (at_next; refine wpList_next_fn _ rfl _ rfl r2 b cntI _ leftI (fun c : Nat × Nat × Nat => Value.slice (some ⟨c.1, 0, none⟩) c.2.1 c.2.2) (fun u v h => by obtain ⟨g, cap, e, _⟩ := HRR.out s (some u) v h; exact ⟨(g, _, cap), e⟩) rfl HIT2.out ?_ ?_)
            · intro hdone
              obtain ⟨y, hy⟩ : ∃ y, sl s none = some y := by
                cases e : sl s none with
                | some y => exact ⟨y, rfl⟩
                | none =>
                  have h1 := (HC.out.2 s).2 ((HC.out.1 s none).1 e)
                  rw [HFS.out] at h1
                  cases h1
              obtain ⟨gg, cap, rfl, hrow, hne⟩ := HRR.out s none y hy
              have hlen : (scan O s none O.length).length ≤ O.length := scan_len O s none O.length
              have hlt : ∀ j ∈ scan O s none O.length, j < O.length := scan_lt O.length
              have hrow6 := hrow.ck HP.out.cells
              generalize hLL : scan O s none O.length = L at hlen hlt hrow hne hy hrow6
              have lk : ∀ W, MapFn W (w.heap.size + 1) (fun k => sl k none) → (Instr.lookup 93 (.map (some (w.heap.size + 1))) (.string s) false).run Try.prog W = .ok (.slice (some ⟨gg, 0, none⟩) L.length cap) W := by
                intro W hW
                rw [hW.lookup Try.underlying93 Try.underlying9 (zero22 W) s, hy]
                rfl
              have hcX : wr.cell? ⟨X, 2, none⟩ = some (.map (some (w.heap.size + 3))) := HP.out.cells.cell (cell_blk HL.out.str 2 rfl)
              have HS0 : Hid (wr.drew.cell? ⟨X, 2, none⟩ = some (.map (some (w.heap.size + 3))) ∧ (Instr.lookup 93 (.map (some (w.heap.size + 1))) (.string s) false).run Try.prog wr.drew = .ok (.slice (some ⟨gg, 0, none⟩) L.length cap) wr.drew) := ⟨hcX, lk _ HP.out.maps.2.1.drew⟩
              have HLK := hide lk
              have HY := hide hy
              have HLL := hide hLL
              have HLTT := hide hlt
              have HROW := hide hrow6
              have HNE := hide hne
              have HCX := hide hcX
              have HDN := hide hdone
              clear hdone hy hrow hne hlt lk hcX hLL hrow6
              go_upto_region 24 with fail
              refine startU (S := fun w' => w'.cell? ⟨X, 2, none⟩ = some (.map (some (w.heap.size + 3))) ∧ (Instr.lookup 93 (.map (some (w.heap.size + 1))) (.string s) false).run Try.prog w' = .ok (.slice (some ⟨gg, 0, none⟩) L.length cap) w') 12 rfl (by kernel_rfl) ?_
              refine takeU 0 109 (v := ?_) rfl rfl (by kernel_rfl) (by kernel_rfl) (by kernel_rfl) (by kernel_rfl) (fun _ _ _ h => h) (by rfl) HS0.out ?_ ?_
              rotate_left
              · intro w' hSw
                obtain ⟨h1, h2⟩ := hSw
                go_simp
                try (with_reducible rfl)
              simp only [List.setIfInBounds_toArray, List.set_cons_zero, List.set_cons_succ]
              refine takeU 1 110 (v := ?_) rfl rfl (by kernel_rfl) (by kernel_rfl) (by kernel_rfl) (by kernel_rfl) (fun _ _ _ h => h) (by rfl) HS0.out ?_ ?_
              rotate_left
              · intro w' hSw
                obtain ⟨h1, h2⟩ := hSw
                go_simp
                try (with_reducible rfl)
              simp only [List.setIfInBounds_toArray, List.set_cons_zero, List.set_cons_succ]
              refine takeU 2 111 (v := ?_) rfl rfl (by kernel_rfl) (by kernel_rfl) (by kernel_rfl) (by kernel_rfl) (fun _ _ _ h => h) (by rfl) HS0.out ?_ ?_
              rotate_left
              · intro w' hSw
                obtain ⟨h1, h2⟩ := hSw
                go_simp
                try (with_reducible rfl)
              simp only [List.setIfInBounds_toArray, List.set_cons_zero, List.set_cons_succ]
              refine takeU 3 112 (v := ?_) rfl rfl (by kernel_rfl) (by kernel_rfl) (by kernel_rfl) (by kernel_rfl) (fun _ _ _ h => h) (by rfl) HS0.out ?_ ?_
              rotate_left
              · intro w' hSw
                obtain ⟨h1, h2⟩ := hSw
                go_simp
                try (with_reducible rfl)
              simp only [List.setIfInBounds_toArray, List.set_cons_zero, List.set_cons_succ]
              refine takeU 4 113 (v := ?_) rfl rfl (by kernel_rfl) (by kernel_rfl) (by kernel_rfl) (by kernel_rfl) (fun _ _ _ h => h) (by rfl) HS0.out ?_ ?_
              rotate_left
              · intro w' hSw
                obtain ⟨h1, h2⟩ := hSw
                go_simp
                try (with_reducible rfl)
              simp only [List.setIfInBounds_toArray, List.set_cons_zero, List.set_cons_succ]
              refine takeU 5 114 (v := ?_) rfl rfl (by kernel_rfl) (by kernel_rfl) (by kernel_rfl) (by kernel_rfl) (fun _ _ _ h => h) (by rfl) HS0.out ?_ ?_
              rotate_left
              · intro w' hSw
                obtain ⟨h1, h2⟩ := hSw
                go_simp
                try (with_reducible rfl)
              simp only [List.setIfInBounds_toArray, List.set_cons_zero, List.set_cons_succ]
              refine takeU 6 115 (v := ?_) rfl rfl (by kernel_rfl) (by kernel_rfl) (by kernel_rfl) (by kernel_rfl) (fun _ _ _ h => h) (by rfl) HS0.out ?_ ?_
              rotate_left
              · intro w' hSw
                obtain ⟨h1, h2⟩ := hSw
                go_simp
                try (with_reducible rfl)
              simp only [List.setIfInBounds_toArray, List.set_cons_zero, List.set_cons_succ]
              refine takeU 7 116 (v := ?_) rfl rfl (by kernel_rfl) (by kernel_rfl) (by kernel_rfl) (by kernel_rfl) (fun _ _ _ h => h) (by rfl) HS0.out ?_ ?_
              rotate_left
              · intro w' hSw
                obtain ⟨h1, h2⟩ := hSw
                go_simp
                try (with_reducible rfl)
              simp only [List.setIfInBounds_toArray, List.set_cons_zero, List.set_cons_succ]
              refine takeU 8 117 (v := ?_) rfl rfl (by kernel_rfl) (by kernel_rfl) (by kernel_rfl) (by kernel_rfl) (fun _ _ _ h => h) (by rfl) HS0.out ?_ ?_
              rotate_left
              · intro w' hSw
                obtain ⟨h1, h2⟩ := hSw
                go_simp
                try (with_reducible rfl)
              simp only [List.setIfInBounds_toArray, List.set_cons_zero, List.set_cons_succ]
              refine takeU 9 118 (v := ?_) rfl rfl (by kernel_rfl) (by kernel_rfl) (by kernel_rfl) (by kernel_rfl) (fun _ _ _ h => h) (by rfl) HS0.out ?_ ?_
              rotate_left
              · intro w' hSw
                obtain ⟨h1, h2⟩ := hSw
                go_simp
                try (with_reducible rfl)
              simp only [List.setIfInBounds_toArray, List.set_cons_zero, List.set_cons_succ]
              refine oneU 10 rfl (by kernel_rfl) (by rfl) (fun K1 hK1 => ?_)
              go_simp
              refine (newPosting_any (some ⟨gg, 0, none⟩) cap L O.length wr.drew hl HLTT.out (by omega) HROW.out).mono ?_
              rintro e w7 ⟨a', m', rfl, hps, hb7⟩
              have HP6 := hide (HP.out.kept (below_drew wr))
              have HP7 := hide (HP6.out.kept hb7)
              refine hK1.out _ _ (fun _ => ⟨(hb7.cell (p := ⟨X, 2, none⟩) (World.block_lt_of_cell? wr.drew _ HCX.out)).trans HCX.out, HLK.out _ HP7.out.maps.2.1⟩) ?_
              clear hK1 K1
              have hpost : Posting w7 (some (.agg #[.slice (some ⟨gg, 0, none⟩) L.length cap, .slice a' m' m'])) (scan O s none O.length) O.length := by
                rw [HLL.out]
                exact .inr ⟨HNE.out, _, cap, a', m', rfl, HROW.out.below ((below_drew _).trans hb7), hps⟩
              obtain ⟨w8, hrun8, hm8, hon8⟩ := HP7.out.eK.update (P := Try.prog) Try.underlying81 Try.underlying9 s (.agg #[.slice (some ⟨gg, 0, none⟩) L.length cap, .slice a' m' m'])
              have HP8 := hide (HP7.out.setKey hm8 hon8 hpost)
              have HIT8 : Hid (IterAt w8 wo.heap.size w.heap.size (fun k => (fL k).map (fun b => .map (some b))) (fun t => left t ∧ t ≠ s) cnt3) := by
                have h1 : IterAt w7 wo.heap.size w.heap.size (fun k => (fL k).map (fun b => .map (some b))) (fun t => left t ∧ t ≠ s) cnt3 := HIT1.out.blocks (hb7.block _ HIT1.out.map.lt) (hb7.block _ (by obtain ⟨_, _, _, _, h⟩ := HIT1.out.iter; exact (Array.getElem?_eq_some_iff.1 h).1))
                exact h1.only hon8 HP7.out.eK (by omega)
              have HOUT : Hid (Out w wo X O sl fL wo.heap.size w8) := by
                refine ⟨_, _, _, cnt3, HIT8.out, HP8.out.done' fun k x hd => HP8.out.post k x ?_⟩
                by_cases e : k = s
                · subst e
                  cases x with
                  | none => exact .inr ⟨rfl, rfl⟩
                  | some v => exact .inl (.inr ⟨rfl, v, rfl, HDN.out v⟩)
                · exact .inl (.inl fun hc => hd ⟨hc, e⟩)
              have hmeas : iterLeft w8 wo.heap.size < iterLeft wq wo.heap.size := by
                rw [HIT8.out.left_eq, HCNT.out]
                exact HLT.out
              refine lastU 11 rfl (by kernel_rfl) (by kernel_rfl) (by kernel_rfl) (by rfl) (fun K1 hK1 => ?_)
              refine wp_mapUpdate_run (.tmp 112) (.tmp 113) (.tmp 119) 81 rfl rfl rfl rfl hrun8 ?_
              refine hK1.out _ _ ?_
              simp only [Act.put]
              clear hK1 K1 hrun8 hm8 hon8 HP8 HIT8 HP7 HP6 hpost HP HIT1 HIT2 hps hb7 HS0 HLK HY HLL HROW HCX HDN
              go_wp2
              go_roundw
              case rel => exact HOUT.out
              case measure => exact hmeas
            · intro u gg len cap w6 cnt6 hls6 hfs6 hit6 hlt6 hon6 hen6
              obtain ⟨g', cap', e, hrow, hne⟩ := HRR.out s (some u) _ hfs6
              cases e
              have HP6 := hide (HP.out.iter hon6 HIT2.out.iter (by omega))
              have HI1 : Hid (IterAt w6 wo.heap.size w.heap.size (fun k => (fL k).map (fun b => .map (some b))) (fun t => left t ∧ t ≠ s) cnt3) := HIT1.out.blocks (hon6.block _ (by omega)) (hon6.block _ (by omega))
              have HI2 := hide hit6
              have HLS6 := hide hls6
              have HLT6 := hide hlt6
              have hlen : (scan O s (some u) O.length).length ≤ O.length := scan_len O s (some u) O.length
              have hlt : ∀ j ∈ scan O s (some u) O.length, j < O.length := scan_lt O.length
              have hrow6 := hrow.ck HP6.out.cells
              clear hfs6 hit6 hls6 hlt6 hon6 HP HIT1 HIT2 hrow
              generalize hLL : scan O s (some u) O.length = L at hlen hlt hne hrow6 hen6
              have lk : ∀ W, MapFn W (w.heap.size + 2) (fun k => (gL k).map (fun b => .map (some b))) → (Instr.lookup 80 (.map (some (w.heap.size + 2))) (.string s) false).run Try.prog W = .ok (.map (some g)) W := by
                intro W hW
                rw [hW.lookup Try.underlying80 Try.underlying9 (zero81 W) s, map_getD, HG.out]
              have hcX : w6.cell? ⟨X, 1, none⟩ = some (.map (some (w.heap.size + 2))) := HP6.out.cells.cell (cell_blk HL.out.str 1 rfl)
              have HS0 : Hid (w6.drew.cell? ⟨X, 1, none⟩ = some (.map (some (w.heap.size + 2))) ∧ (Instr.lookup 80 (.map (some (w.heap.size + 2))) (.string s) false).run Try.prog w6.drew = .ok (.map (some g)) w6.drew) := ⟨hcX, lk _ HP6.out.eL.drew⟩
              have HLK := hide lk
              have HLL := hide hLL
              have HLTT := hide hlt
              have HROW := hide hrow6
              have HNE := hide hne
              have HCX := hide hcX
              clear hne hlt lk hcX hLL hrow6
              go_upto_region 23 with fail
              clear hen6
              refine startU (S := fun w' => w'.cell? ⟨X, 1, none⟩ = some (.map (some (w.heap.size + 2))) ∧ (Instr.lookup 80 (.map (some (w.heap.size + 2))) (.string s) false).run Try.prog w' = .ok (.map (some g)) w') 12 rfl (by kernel_rfl) ?_
              refine takeU 0 98 (v := ?_) rfl rfl (by kernel_rfl) (by kernel_rfl) (by kernel_rfl) (by kernel_rfl) (fun _ _ _ h => h) (by rfl) HS0.out ?_ ?_
              rotate_left
              · intro w' hSw
                obtain ⟨h1, h2⟩ := hSw
                go_simp
                try (with_reducible rfl)
              simp only [List.setIfInBounds_toArray, List.set_cons_zero, List.set_cons_succ]
              refine takeU 1 99 (v := ?_) rfl rfl (by kernel_rfl) (by kernel_rfl) (by kernel_rfl) (by kernel_rfl) (fun _ _ _ h => h) (by rfl) HS0.out ?_ ?_
              rotate_left
              · intro w' hSw
                obtain ⟨h1, h2⟩ := hSw
                go_simp
                try (with_reducible rfl)
              simp only [List.setIfInBounds_toArray, List.set_cons_zero, List.set_cons_succ]
              refine takeU 2 100 (v := ?_) rfl rfl (by kernel_rfl) (by kernel_rfl) (by kernel_rfl) (by kernel_rfl) (fun _ _ _ h => h) (by rfl) HS0.out ?_ ?_
              rotate_left
              · intro w' hSw
                obtain ⟨h1, h2⟩ := hSw
                go_simp
                try (with_reducible rfl)
              simp only [List.setIfInBounds_toArray, List.set_cons_zero, List.set_cons_succ]
              refine takeU 3 101 (v := ?_) rfl rfl (by kernel_rfl) (by kernel_rfl) (by kernel_rfl) (by kernel_rfl) (fun _ _ _ h => h) (by rfl) HS0.out ?_ ?_
              rotate_left
              · intro w' hSw
                obtain ⟨h1, h2⟩ := hSw
                go_simp
                try (with_reducible rfl)
              simp only [List.setIfInBounds_toArray, List.set_cons_zero, List.set_cons_succ]
              refine takeU 4 102 (v := ?_) rfl rfl (by kernel_rfl) (by kernel_rfl) (by kernel_rfl) (by kernel_rfl) (fun _ _ _ h => h) (by rfl) HS0.out ?_ ?_
              rotate_left
              · intro w' hSw
                obtain ⟨h1, h2⟩ := hSw
                go_simp
                try (with_reducible rfl)
              simp only [List.setIfInBounds_toArray, List.set_cons_zero, List.set_cons_succ]
              refine takeU 5 103 (v := ?_) rfl rfl (by kernel_rfl) (by kernel_rfl) (by kernel_rfl) (by kernel_rfl) (fun _ _ _ h => h) (by rfl) HS0.out ?_ ?_
              rotate_left
              · intro w' hSw
                obtain ⟨h1, h2⟩ := hSw
                go_simp
                try (with_reducible rfl)
              simp only [List.setIfInBounds_toArray, List.set_cons_zero, List.set_cons_succ]
              refine takeU 6 104 (v := ?_) rfl rfl (by kernel_rfl) (by kernel_rfl) (by kernel_rfl) (by kernel_rfl) (fun _ _ _ h => h) (by rfl) HS0.out ?_ ?_
              rotate_left
              · intro w' hSw
                obtain ⟨h1, h2⟩ := hSw
                go_simp
                try (with_reducible rfl)
              simp only [List.setIfInBounds_toArray, List.set_cons_zero, List.set_cons_succ]
              refine takeU 7 105 (v := ?_) rfl rfl (by kernel_rfl) (by kernel_rfl) (by kernel_rfl) (by kernel_rfl) (fun _ _ _ h => h) (by rfl) HS0.out ?_ ?_
              rotate_left
              · intro w' hSw
                obtain ⟨h1, h2⟩ := hSw
                go_simp
                try (with_reducible rfl)
              simp only [List.setIfInBounds_toArray, List.set_cons_zero, List.set_cons_succ]
              refine takeU 8 106 (v := ?_) rfl rfl (by kernel_rfl) (by kernel_rfl) (by kernel_rfl) (by kernel_rfl) (fun _ _ _ h => h) (by rfl) HS0.out ?_ ?_
              rotate_left
              · intro w' hSw
                obtain ⟨h1, h2⟩ := hSw
                go_simp
                try (with_reducible rfl)
              simp only [List.setIfInBounds_toArray, List.set_cons_zero, List.set_cons_succ]
              refine takeU 9 107 (v := ?_) rfl rfl (by kernel_rfl) (by kernel_rfl) (by kernel_rfl) (by kernel_rfl) (fun _ _ _ h => h) (by rfl) HS0.out ?_ ?_
              rotate_left
              · intro w' hSw
                obtain ⟨h1, h2⟩ := hSw
                go_simp
                try (with_reducible rfl)
              simp only [List.setIfInBounds_toArray, List.set_cons_zero, List.set_cons_succ]
              refine oneU 10 rfl (by kernel_rfl) (by rfl) (fun K1 hK1 => ?_)
              go_simp
              refine (newPosting_any (some ⟨gg, 0, none⟩) cap L O.length w6.drew hl HLTT.out (by omega) HROW.out).mono ?_
              rintro e w7 ⟨a', m', rfl, hps, hb7⟩
              have HP6' := hide (HP6.out.kept (below_drew w6))
              have HP7 := hide (HP6'.out.kept hb7)
              refine hK1.out _ _ (fun _ => ⟨(hb7.cell (p := ⟨X, 1, none⟩) (World.block_lt_of_cell? w6.drew _ HCX.out)).trans HCX.out, HLK.out _ HP7.out.eL⟩) ?_
              clear hK1 K1
              have hpost : Posting w7 (some (.agg #[.slice (some ⟨gg, 0, none⟩) L.length cap, .slice a' m' m'])) (scan O s (some u) O.length) O.length := by
                rw [HLL.out]
                exact .inr ⟨HNE.out, _, cap, a', m', rfl, HROW.out.below ((below_drew _).trans hb7), hps⟩
              have hmg := (HP7.out.inn s g HG.out).2
              have hg1 := (HP7.out.inn s g HG.out).1
              obtain ⟨w8, hrun8, hm8, hon8⟩ := hmg.update (P := Try.prog) Try.underlying81 Try.underlying9 u (.agg #[.slice (some ⟨gg, 0, none⟩) L.length cap, .slice a' m' m'])
              have HP8 := hide (HP7.out.setIn HG.out u hm8 hon8 hpost)
              have hr1lt : wo.heap.size < w6.heap.size := by obtain ⟨_, _, _, _, h⟩ := HI1.out.iter; exact (Array.getElem?_eq_some_iff.1 h).1
              have hr2lt : r2 < w6.heap.size := by obtain ⟨_, _, _, _, h⟩ := HI2.out.iter; exact (Array.getElem?_eq_some_iff.1 h).1
              have hblow := HP7.out.low s b HFS.out
              have HIT8 : Hid (IterAt w8 wo.heap.size w.heap.size (fun k => (fL k).map (fun b => .map (some b))) (fun t => left t ∧ t ≠ s) cnt3) := by
                have h1 : IterAt w7 wo.heap.size w.heap.size (fun k => (fL k).map (fun b => .map (some b))) (fun t => left t ∧ t ≠ s) cnt3 := HI1.out.blocks (hb7.block _ HI1.out.map.lt) (hb7.block _ hr1lt)
                exact h1.only hon8 hmg (by omega)
              have HIT9 := by
                have h1 := HI2.out.blocks (w' := w7) (hb7.block _ HI2.out.map.lt) (hb7.block _ hr2lt)
                exact hide (h1.only hon8 hmg (by omega))
              have HINN : Hid (Inn w wo X O sl fL wo.heap.size cnt3 left s r2 b w8) := by
                refine ⟨_, _, _, cnt6, g, HIT8.out, HIT9.out, HG.out, HP8.out.done' fun k x hd => HP8.out.post k x ?_⟩
                rcases hd with hd | ⟨rfl, v, rfl, hv⟩
                · exact .inl (.inl hd)
                · by_cases e : v = u
                  · exact .inr ⟨rfl, by rw [e]⟩
                  · exact .inl (.inr ⟨rfl, v, rfl, fun hc => hv ⟨hc, e⟩⟩)
              have hmeas : iterLeft w8 r2 < iterLeft wr r2 := by
                rw [HIT9.out.left_eq, HCNT2.out]
                exact HLT6.out
              refine lastU 11 rfl (by kernel_rfl) (by kernel_rfl) (by kernel_rfl) (by rfl) (fun K1 hK1 => ?_)
              refine wp_mapUpdate_run (.tmp 103) (.tmp 104) (.tmp 108) 81 rfl rfl rfl rfl hrun8 ?_
              refine hK1.out _ _ ?_
              simp only [Act.put]
              clear hK1 K1 hrun8 hm8 hon8 HP8 HIT8 HIT9 HP7 HP6 HP6' hpost hps hb7 HS0 HLK HLL HROW HCX hmg
              go_wp2
              go_roundw
              case rel => exact HINN.out
              case measure => exact hmeas

end Go.Proofs.Qxb6601049a
