import Derived.Test.Qxb6601060aH
namespace Go.Proofs.Qxb6601060a
open Go.ChangeShapes Go.WideShapes Go.ChangeAt Go.RowKit
set_option linter.unusedVariables false

/-- the relation of the law's loop -/
def OctRel (w : World) (B : Nat) (sp dp : Int) (ds b off len cap k x : Nat) (wr : World) : Prop :=
  MapAt wr B sp 0 dp ds (.slice (some ⟨b, off, none⟩) len cap) ∧ wr.cell? ⟨b, off + k, none⟩ = some (.int .u8 (x : Int)) ∧ Below w.heap.size w wr

theorem OctRel.below {w : World} {B : Nat} {sp dp : Int} {ds b off len cap k x : Nat} {wr w' : World} (h : OctRel w B sp dp ds b off len cap k x wr) (hb : Below wr.heap.size wr w') : OctRel w B sp dp ds b off len cap k x w' :=
  ⟨h.1.below hb, (bcell hb _ _ (World.block_lt_of_cell? _ _ h.2.1)).trans h.2.1, h.2.2.trans (hb.mono h.2.2.size)⟩

set_option maxHeartbeats 1600000 in
theorem law7_in (sp dp : Int) (ds : Nat) (a : Option Addr) (len cap : Nat) (zs : List Int) (k : Nat) (w : World) (hr : RowAt .u8 w a len zs) (hn : a = none → len = 0) (hz : Bytes zs) (hlen : len ≤ 65536)
    (hs : -1152921504606846976 ≤ sp) (hs2 : sp ≤ 1152921504606846976) (hd : -1152921504606846976 ≤ dp) (hd2 : dp ≤ 1152921504606846976) (hds : ds ≤ 8 * len) (hds2 : (ds + 7) / 8 = len) (hk : k < len) :
    Calls Try.prog 7 #[.int .i64 sp, .int .i64 dp, .int .i64 (ds : Int), .slice a len cap, .int .i64 (k : Int)] w (truePost w) := by
  have r1 : rngB sp = true := by simp [rngB, hs, hs2]
  have r2 : rngB dp = true := by simp [rngB, hd, hd2]
  have g1 : (((ds : Int) + 7) / 8 != (len : Int)) = false := by simp; omega
  have HD2 := hide hds2
  have HZ := hide hz
  have HRR := hide hr
  clear hz hr hds2
  have HZB := hide (zzBytes19_any sp dp ds k a len cap w (by unfold maxLen; omega))
  go_enter Try.func7, Try.ntmps7
  go_wp2_with fail
  refine HZB.out.mono ?_
  rintro e w1 ⟨⟨b, rfl⟩, rfl⟩
  cases b
  · go_wp2
    go_ret
    exact ⟨rfl, Below.refl _ _⟩
  go_wp2_with (go_at_call 9; refine (inRange_any _ _).mono ?_; rintro e w1 ⟨rfl, rfl⟩)
  refine (cloneBytes_any a len cap zs _ (by omega) hn HRR.out).mono ?_
  rintro e w4 ⟨a', c', rfl, hr', _, hb4⟩
  rcases hr'.2 with h0 | ⟨b, off, rfl, hcell⟩
  · omega
  obtain ⟨x, hx, hxe⟩ := HZ.out.at k
  have hcx := hcell k hk
  rw [hxe] at hcx
  have HB4 := hide hb4
  have HCX := hide hcx
  clear hxe hcell hr' hb4 HZ HRR hn hcx r1 r2
  have hbw4 := World.block_lt_of_cell? _ _ HCX.out
  go_wp2_with fail
  refine (zzOctet_any sp 0 dp ds len c' b off k x _ hlen hk hds (by have := HD2.out; omega) hx ((Below.one w4 _).cell hbw4 |>.trans HCX.out)).mono ?_
  rintro e w5 ⟨rfl, hb5⟩
  have hrel5 := OctRel.below (w := w1) (⟨MapAt.new w4 sp 0 dp ds _, ((Below.one w4 _).cell hbw4 |>.trans HCX.out), HB4.out.trans ((Below.one w4 _).mono HB4.out.size)⟩ : OctRel w1 w4.heap.size sp dp ds b off len c' k x _) hb5
  have HR5 := hide hrel5
  have HOB := hide (fun m (hm : m < 8) => oct_bit x (ds - 8 * k) m hx hm)
  have HOL := hide (octN_lt x (ds - 8 * k) hx)
  generalize octN x (ds - 8 * k) = o at HOB HOL
  clear hb5 hrel5 HB4 HCX hbw4
  go_wp2
  go_loopw [13, 14, 15] (fun i _ _ wr => ∃ m : Nat, m ≤ 8 ∧ i = .int .i64 m ∧ OctRel w1 w4.heap.size sp dp ds b off len c' k x wr) (fun i _ _ _ => 8 - (intOf i).toNat)
  case atStart => exact ⟨0, by omega, rfl, HR5.out⟩
  case round =>
    clear HR5
    obtain ⟨m, hm, rfl, hrel⟩ := hrel
    by_cases hlt : m < 8
    · have hob := HOB.out m hlt
      rw [← bit_form o m HOL.out] at hob
      by_cases hj : 8 * k + m < ds
      · rw [decide_eq_true (by omega), Bool.true_and] at hob
        have hj' : 8 * (k : Int) + m < ds := by omega
        obtain ⟨⟨k0, k1, k2, k3, k4⟩, hcx, hbw⟩ := id hrel
        have HREL := hide hrel
        have HCX : Hid (wr.cell? ⟨b, off + (8 * k + m) / 8, none⟩ = some (.int .u8 (x : Int))) := by rw [show (8 * k + m) / 8 = k by omega]; exact hcx
        have HBW := hide hbw
        clear hcx hbw hrel
        cases hbit : bitN x m
        all_goals
          rw [hbit] at hob
          have HBIT := hide ((congrArg (bitN x) (show (8 * k + m) % 8 = m by omega)).trans hbit)
          clear hbit
          go_wp2_with fail
          refine (holds_bit sp 0 dp ds _ b off len c' (8 * k + m) x _ hx (by omega) (by omega) HCX.out (by omega) (by omega) (by omega) hs hd hd2).mono ?_
          rw [HBIT.out]
          rintro e w7 ⟨rfl, hb7⟩
          have HR7 := hide (HREL.out.below hb7)
          clear hb7
          go_wp2
        · go_roundw
          case rel => exact ⟨m + 1, by omega, by go_num, HR7.out⟩
          case measure => simp [intOf]; omega
        · go_roundw
          case rel => exact ⟨m + 1, by omega, by go_num, HR7.out⟩
          case measure => simp [intOf]; omega
      · rw [decide_eq_false (by omega), Bool.false_and] at hob
        have hj' : ¬ 8 * (k : Int) + m < ds := by omega
        have HREL := hide hrel
        clear hrel
        go_wp2
        go_roundw
        case rel => exact ⟨m + 1, by omega, by go_num, HREL.out⟩
        case measure => simp [intOf]; omega
    · have HBW := hide hrel.2.2
      clear hrel
      go_wp2
      go_ret
      exact ⟨rfl, HBW.out⟩

set_option maxHeartbeats 2000000 in
theorem law7_any (sp dp ds : Int) (a : Option Addr) (len cap : Nat) (zs : List Int) (k : Int) (w : World) (hr : RowAt .u8 w a len zs) (hn : a = none → len = 0) (hz : Bytes zs) (hl : len ≤ maxLen) :
    Calls Try.prog 7 #[.int .i64 sp, .int .i64 dp, .int .i64 ds, .slice a len cap, .int .i64 k] w (truePost w) := by
  have HZB := hide (zzBytes19_any sp dp ds k a len cap w hl)
  have HRR := hide hr
  have HN := hide hn
  have HZ := hide hz
  unfold maxLen at hl
  clear hr hn hz
  by_cases c0 : len ≤ 65536
  · rcases rng_cases sp with ⟨r1, hs, hs2⟩ | r1
    · rcases rng_cases dp with ⟨r2, hd, hd2⟩ | r2
      · by_cases c1 : 0 ≤ ds
        · by_cases c2 : ds ≤ 8 * len
          · cases c3 : ((ds + 7) / 8 != (len : Int))
            · by_cases c4 : 0 ≤ k
              · by_cases c5 : k < len
                · obtain ⟨d, rfl⟩ : ∃ d : Nat, ds = (d : Int) := ⟨ds.toNat, by omega⟩
                  obtain ⟨q, rfl⟩ : ∃ q : Nat, k = (q : Int) := ⟨k.toNat, by omega⟩
                  exact law7_in sp dp d a len cap zs q w HRR.out HN.out HZ.out c0 hs hs2 hd hd2 (by omega) (by simp at c3; omega) (by omega)
                · go_enter Try.func7, Try.ntmps7
                  go_wp2_with (first | (go_at_call 19; refine HZB.out.mono ?_; rintro e w1 ⟨⟨b, rfl⟩, rfl⟩) | (go_at_call 9; refine (inRange_any _ _).mono ?_; rintro e w1 ⟨rfl, rfl⟩))
                  all_goals (go_ret; exact ⟨rfl, Below.refl _ _⟩)
              · go_enter Try.func7, Try.ntmps7
                go_wp2_with (first | (go_at_call 19; refine HZB.out.mono ?_; rintro e w1 ⟨⟨b, rfl⟩, rfl⟩) | (go_at_call 9; refine (inRange_any _ _).mono ?_; rintro e w1 ⟨rfl, rfl⟩))
                all_goals (go_ret; exact ⟨rfl, Below.refl _ _⟩)
            · go_enter Try.func7, Try.ntmps7
              go_wp2_with (first | (go_at_call 19; refine HZB.out.mono ?_; rintro e w1 ⟨⟨b, rfl⟩, rfl⟩) | (go_at_call 9; refine (inRange_any _ _).mono ?_; rintro e w1 ⟨rfl, rfl⟩))
              all_goals (go_ret; exact ⟨rfl, Below.refl _ _⟩)
          · go_enter Try.func7, Try.ntmps7
            go_wp2_with (first | (go_at_call 19; refine HZB.out.mono ?_; rintro e w1 ⟨⟨b, rfl⟩, rfl⟩) | (go_at_call 9; refine (inRange_any _ _).mono ?_; rintro e w1 ⟨rfl, rfl⟩))
            all_goals (go_ret; exact ⟨rfl, Below.refl _ _⟩)
        · go_enter Try.func7, Try.ntmps7
          go_wp2_with (first | (go_at_call 19; refine HZB.out.mono ?_; rintro e w1 ⟨⟨b, rfl⟩, rfl⟩) | (go_at_call 9; refine (inRange_any _ _).mono ?_; rintro e w1 ⟨rfl, rfl⟩))
          all_goals (go_ret; exact ⟨rfl, Below.refl _ _⟩)
      · go_enter Try.func7, Try.ntmps7
        go_wp2_with (first | (go_at_call 19; refine HZB.out.mono ?_; rintro e w1 ⟨⟨b, rfl⟩, rfl⟩) | (go_at_call 9; refine (inRange_any _ _).mono ?_; rintro e w1 ⟨rfl, rfl⟩))
        all_goals (go_ret; exact ⟨rfl, Below.refl _ _⟩)
    · go_enter Try.func7, Try.ntmps7
      go_wp2_with (first | (go_at_call 19; refine HZB.out.mono ?_; rintro e w1 ⟨⟨b, rfl⟩, rfl⟩) | (go_at_call 9; refine (inRange_any _ _).mono ?_; rintro e w1 ⟨rfl, rfl⟩))
      all_goals (go_ret; exact ⟨rfl, Below.refl _ _⟩)
  · go_enter Try.func7, Try.ntmps7
    go_wp2_with (first | (go_at_call 19; refine HZB.out.mono ?_; rintro e w1 ⟨⟨b, rfl⟩, rfl⟩) | (go_at_call 9; refine (inRange_any _ _).mono ?_; rintro e w1 ⟨rfl, rfl⟩))
    all_goals (go_ret; exact ⟨rfl, Below.refl _ _⟩)

end Go.Proofs.Qxb6601060a
