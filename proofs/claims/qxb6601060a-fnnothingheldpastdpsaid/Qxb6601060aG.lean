import Derived.Test.Qxb6601060aF
namespace Go.Proofs.Qxb6601060a
open Go.ChangeShapes Go.WideShapes Go.ChangeAt Go.RowKit
set_option linter.unusedVariables false

theorem bcell {W w1 : World} (hb : Below W.heap.size W w1) : ∀ b o, b < W.heap.size → w1.cell? ⟨b, o, none⟩ = W.cell? ⟨b, o, none⟩ :=
  fun b o h => hb.cell (p := ⟨b, o, none⟩) h

/-- the struct's five cells, in a block of its own -/
def MapAt (w : World) (B : Nat) (sp cp dp ds : Int) (v : Value) : Prop :=
  w.cell? ⟨B, 0, none⟩ = some (.int .i64 sp) ∧ w.cell? ⟨B, 1, none⟩ = some (.int .i64 cp) ∧ w.cell? ⟨B, 2, none⟩ = some (.int .i64 dp) ∧ w.cell? ⟨B, 3, none⟩ = some (.int .i64 ds) ∧ w.cell? ⟨B, 4, none⟩ = some v

theorem MapAt.new (w : World) (sp cp dp ds : Int) (v : Value) : MapAt (w.alloc (.cells #[.int .i64 sp, .int .i64 cp, .int .i64 dp, .int .i64 ds, v] 27)) w.heap.size sp cp dp ds v := by
  refine ⟨?_, ?_, ?_, ?_, ?_⟩ <;> simp

theorem MapAt.below {w w' : World} {B : Nat} {sp cp dp ds : Int} {v : Value} (h : MapAt w B sp cp dp ds v) (hb : Below w.heap.size w w') : MapAt w' B sp cp dp ds v := by
  have hl := World.block_lt_of_cell? w _ h.1
  obtain ⟨h0, h1, h2, h3, h4⟩ := h
  exact ⟨(bcell hb _ _ hl).trans h0, (bcell hb _ _ hl).trans h1, (bcell hb _ _ hl).trans h2, (bcell hb _ _ hl).trans h3, (bcell hb _ _ hl).trans h4⟩

set_option maxHeartbeats 1600000 in
theorem law5_in (sp cp dp : Int) (ds : Nat) (a : Option Addr) (len cap : Nat) (zs : List Int) (i : Int) (w : World) (hr : RowAt .u8 w a len zs) (hn : a = none → len = 0) (hz : Bytes zs) (hlen : len ≤ 65536)
    (hs : -1152921504606846976 ≤ sp) (hs2 : sp ≤ 1152921504606846976) (hc0 : 0 ≤ cp) (hc : cp ≤ 1152921504606846976) (hd : -1152921504606846976 ≤ dp) (hd2 : dp ≤ 1152921504606846976) (hds : ds ≤ 8 * len)
    (hi : -1152921504606846976 ≤ i) (hi2 : i ≤ 1152921504606846976) (hap : 0 < ds → 0 < cp → sp + cp ≤ dp) :
    Calls Try.prog 5 #[.int .i64 sp, .int .i64 cp, .int .i64 dp, .int .i64 (ds : Int), .slice a len cap, .int .i64 i] w (truePost w) := by
  have r1 : rngB sp = true := by simp [rngB, hs, hs2]
  have r2 : rngB dp = true := by simp [rngB, hd, hd2]
  have r3 : rngB i = true := by simp [rngB, hi, hi2]
  have HR1 := hide r1
  have HR2 := hide r2
  have HR3 := hide r3
  have HAP := hide hap
  have HZ := hide hz
  have HR := hide hr
  clear r1 r2 r3 hap hz hr
  go_enter Try.func5, Try.ntmps5
  go_wp2_with fail
  refine (zzBytes15_any sp cp dp ds i a len cap w (by unfold maxLen; omega)).mono ?_
  rintro e w1 ⟨⟨b, rfl⟩, rfl⟩
  cases b
  · go_wp2
    go_ret
    exact ⟨rfl, Below.refl _ _⟩
  go_wp2_with fail
  refine (inRange_any sp _).mono ?_
  rw [HR1.out]
  rintro e w1 ⟨rfl, rfl⟩
  go_wp2_with fail
  refine (inRange_any dp _).mono ?_
  rw [HR2.out]
  rintro e w2 ⟨rfl, rfl⟩
  go_wp2_with fail
  refine (inRange_any i _).mono ?_
  rw [HR3.out]
  rintro e w3 ⟨rfl, rfl⟩
  by_cases c1 : 0 < ds
  · by_cases c2 : 0 < cp
    · have c3 := HAP.out c1 c2
      have c1' : (0 : Int) < (ds : Int) := by omega
      have n1 : ((ds : Int) == 0) = false := by simp; omega
      go_wp2_with fail
      refine (cloneBytes_any a len cap zs _ (by omega) hn HR.out).mono ?_
      rintro e w4 ⟨a', c', rfl, hr', _, hb4⟩
      rcases hr'.2 with h0 | ⟨b, off, rfl, hcell⟩
      · omega
      obtain ⟨x, hx, hxe⟩ := HZ.out.at ((ds - 1) / 8)
      have hcx := hcell ((ds - 1) / 8) (by omega)
      rw [hxe] at hcx
      have HB4 := hide hb4
      have HCX := hide hcx
      clear hxe hcell hr' hb4 HZ HR hn hcx
      go_wp2_with fail
      refine (DP_any sp cp dp ds (.slice (some ⟨b, off, none⟩) len c') _ rfl hs hs2 hc0 hc hd hd2 (by omega) (by omega)).mono ?_
      rw [show dpV sp cp dp ds = dp + ((ds - 1 : Nat) : Int) from by unfold dpV; rw [if_neg (by omega)]; omega]
      rintro e w5 ⟨rfl, hw5⟩
      have hA : Below w4.heap.size w4 w5 := by rw [hw5]; exact (Below.one _ _).alloc (by simp) _
      have m5 : MapAt w5 w4.heap.size sp cp dp ds (.slice (some ⟨b, off, none⟩) len c') := by rw [hw5]; exact (MapAt.new _ _ _ _ _ _).below (Below.one _ _)
      have hc5 := (bcell hA _ _ (World.block_lt_of_cell? _ _ HCX.out)).trans HCX.out
      have HB5 := hide (HB4.out.trans (hA.mono HB4.out.size))
      clear hw5 hA
      obtain ⟨k0, k1, k2, k3, k4⟩ := m5
      by_cases hid : i ≤ dp + ((ds - 1 : Nat) : Int)
      · go_wp2_with fail
        refine (holds_bit sp cp dp ds _ b off len c' (ds - 1) x _ hx (by omega) (by omega) hc5 (by omega) rfl (by omega) hs hd hd2).mono ?_
        rintro e w7 ⟨rfl, hb7⟩
        have hc7 := (bcell hb7 _ _ (World.block_lt_of_cell? _ _ hc5)).trans hc5
        have HB7 := hide (HB5.out.trans (hb7.mono HB5.out.size))
        clear hb7
        go_wp2_with fail
        rw [show ((ds : Int) - 1) = ((ds - 1 : Nat) : Int) from by omega]
        refine (bitAt_any b off len c' (ds - 1) x _ hx (by omega) (by omega) hc7).mono ?_
        rintro e w8 ⟨rfl, rfl⟩
        go_wp2
        go_ret
        exact ⟨rfl, HB7.out⟩
      · go_wp2_with fail
        refine (holds_no sp cp dp ds i (.slice (some ⟨b, off, none⟩) len c') _ rfl (by omega) (by omega) hs hd (by omega)).mono ?_
        rintro e w6 ⟨rfl, hb6⟩
        obtain ⟨k0', k1', k2', k3', k4'⟩ := MapAt.below (⟨k0, k1, k2, k3, k4⟩ : MapAt w5 w4.heap.size sp cp dp ds (.slice (some ⟨b, off, none⟩) len c')) hb6
        have hc6 := (bcell hb6 _ _ (World.block_lt_of_cell? _ _ hc5)).trans hc5
        have HB6 := hide (HB5.out.trans (hb6.mono HB5.out.size))
        clear hb6 k0 k1 k2 k3 k4 hc5
        go_wp2_with fail
        refine (holds_bit sp cp dp ds _ b off len c' (ds - 1) x _ hx (by omega) (by omega) hc6 (by omega) rfl (by omega) hs hd hd2).mono ?_
        rintro e w7 ⟨rfl, hb7⟩
        have hc7 := (bcell hb7 _ _ (World.block_lt_of_cell? _ _ hc6)).trans hc6
        have HB7 := hide (HB6.out.trans (hb7.mono HB6.out.size))
        clear hb7
        go_wp2_with fail
        rw [show ((ds : Int) - 1) = ((ds - 1 : Nat) : Int) from by omega]
        refine (bitAt_any b off len c' (ds - 1) x _ hx (by omega) (by omega) hc7).mono ?_
        rintro e w8 ⟨rfl, rfl⟩
        go_wp2
        go_ret
        exact ⟨rfl, HB7.out⟩
    · have c3 : cp = 0 := by omega
      subst c3
      have c1' : (0 : Int) < (ds : Int) := by omega
      have n1 : ((ds : Int) == 0) = false := by simp; omega
      go_wp2_with fail
      refine (cloneBytes_any a len cap zs _ (by omega) hn HR.out).mono ?_
      rintro e w4 ⟨a', c', rfl, hr', _, hb4⟩
      rcases hr'.2 with h0 | ⟨b, off, rfl, hcell⟩
      · omega
      obtain ⟨x, hx, hxe⟩ := HZ.out.at ((ds - 1) / 8)
      have hcx := hcell ((ds - 1) / 8) (by omega)
      rw [hxe] at hcx
      have HB4 := hide hb4
      have HCX := hide hcx
      clear hxe hcell hr' hb4 HZ HR hn hcx
      go_wp2_with fail
      refine (DP_any sp 0 dp ds (.slice (some ⟨b, off, none⟩) len c') _ rfl hs hs2 (by omega) (by omega) hd hd2 (by omega) (by omega)).mono ?_
      rw [show dpV sp 0 dp ds = dp + ((ds - 1 : Nat) : Int) from by unfold dpV; rw [if_neg (by omega)]; omega]
      rintro e w5 ⟨rfl, hw5⟩
      have hA : Below w4.heap.size w4 w5 := by rw [hw5]; exact (Below.one _ _).alloc (by simp) _
      have m5 : MapAt w5 w4.heap.size sp 0 dp ds (.slice (some ⟨b, off, none⟩) len c') := by rw [hw5]; exact (MapAt.new _ _ _ _ _ _).below (Below.one _ _)
      have hc5 := (bcell hA _ _ (World.block_lt_of_cell? _ _ HCX.out)).trans HCX.out
      have HB5 := hide (HB4.out.trans (hA.mono HB4.out.size))
      clear hw5 hA
      obtain ⟨k0, k1, k2, k3, k4⟩ := m5
      by_cases hid : i ≤ dp + ((ds - 1 : Nat) : Int)
      · go_wp2_with fail
        refine (holds_bit sp 0 dp ds _ b off len c' (ds - 1) x _ hx (by omega) (by omega) hc5 (by omega) rfl (by omega) hs hd hd2).mono ?_
        rintro e w7 ⟨rfl, hb7⟩
        have hc7 := (bcell hb7 _ _ (World.block_lt_of_cell? _ _ hc5)).trans hc5
        have HB7 := hide (HB5.out.trans (hb7.mono HB5.out.size))
        clear hb7
        go_wp2_with fail
        rw [show ((ds : Int) - 1) = ((ds - 1 : Nat) : Int) from by omega]
        refine (bitAt_any b off len c' (ds - 1) x _ hx (by omega) (by omega) hc7).mono ?_
        rintro e w8 ⟨rfl, rfl⟩
        go_wp2
        go_ret
        exact ⟨rfl, HB7.out⟩
      · go_wp2_with fail
        refine (holds_no sp 0 dp ds i (.slice (some ⟨b, off, none⟩) len c') _ rfl (by omega) (by omega) hs hd (by omega)).mono ?_
        rintro e w6 ⟨rfl, hb6⟩
        obtain ⟨k0', k1', k2', k3', k4'⟩ := MapAt.below (⟨k0, k1, k2, k3, k4⟩ : MapAt w5 w4.heap.size sp 0 dp ds (.slice (some ⟨b, off, none⟩) len c')) hb6
        have hc6 := (bcell hb6 _ _ (World.block_lt_of_cell? _ _ hc5)).trans hc5
        have HB6 := hide (HB5.out.trans (hb6.mono HB5.out.size))
        clear hb6 k0 k1 k2 k3 k4 hc5
        go_wp2_with fail
        refine (holds_bit sp 0 dp ds _ b off len c' (ds - 1) x _ hx (by omega) (by omega) hc6 (by omega) rfl (by omega) hs hd hd2).mono ?_
        rintro e w7 ⟨rfl, hb7⟩
        have hc7 := (bcell hb7 _ _ (World.block_lt_of_cell? _ _ hc6)).trans hc6
        have HB7 := hide (HB6.out.trans (hb7.mono HB6.out.size))
        clear hb7
        go_wp2_with fail
        rw [show ((ds : Int) - 1) = ((ds - 1 : Nat) : Int) from by omega]
        refine (bitAt_any b off len c' (ds - 1) x _ hx (by omega) (by omega) hc7).mono ?_
        rintro e w8 ⟨rfl, rfl⟩
        go_wp2
        go_ret
        exact ⟨rfl, HB7.out⟩
  · have c3 : ds = 0 := by omega
    subst c3
    by_cases c2 : 0 < cp
    · have n2 : (0 : Int) < cp := c2
      go_wp2_with fail
      refine (cloneBytes_any a len cap zs _ (by omega) hn HR.out).mono ?_
      rintro e w4 ⟨a', c', rfl, hr', _, hb4⟩
      have HB4 := hide hb4
      clear hr' hb4 HZ HR hn
      go_wp2_with fail
      refine (DP_any sp cp dp 0 (.slice a' len c') _ rfl hs hs2 (by omega) (by omega) hd hd2 (by omega) (by omega)).mono ?_
      rw [show dpV sp cp dp 0 = sp + cp - 1 from by simp [dpV]]
      rintro e w5 ⟨rfl, hw5⟩
      have hA : Below w4.heap.size w4 w5 := by rw [hw5]; exact (Below.one _ _).alloc (by simp) _
      have m5 : MapAt w5 w4.heap.size sp cp dp 0 (.slice a' len c') := by rw [hw5]; exact (MapAt.new _ _ _ _ _ _).below (Below.one _ _)
      have HB5 := hide (HB4.out.trans (hA.mono HB4.out.size))
      clear hw5 hA
      obtain ⟨k0, k1, k2, k3, k4⟩ := m5
      by_cases hid : i ≤ sp + cp - 1
      · go_wp2_with fail
        refine (holds_yes sp cp dp 0 _ (.slice a' len c') _ rfl (by omega) (by omega) hs (by omega)).mono ?_
        rintro e w7 ⟨rfl, hb7⟩
        have HB7 := hide (HB5.out.trans (hb7.mono HB5.out.size))
        clear hb7
        go_wp2
        go_ret
        exact ⟨rfl, HB7.out⟩
      · go_wp2_with fail
        refine (holds_no sp cp dp 0 i (.slice a' len c') _ rfl (by omega) (by omega) hs hd (by omega)).mono ?_
        rintro e w6 ⟨rfl, hb6⟩
        obtain ⟨k0', k1', k2', k3', k4'⟩ := MapAt.below (⟨k0, k1, k2, k3, k4⟩ : MapAt w5 w4.heap.size sp cp dp 0 (.slice a' len c')) hb6
        have HB6 := hide (HB5.out.trans (hb6.mono HB5.out.size))
        clear hb6 k0 k1 k2 k3 k4
        go_wp2_with fail
        refine (holds_yes sp cp dp 0 _ (.slice a' len c') _ rfl (by omega) (by omega) hs (by omega)).mono ?_
        rintro e w7 ⟨rfl, hb7⟩
        have HB7 := hide (HB6.out.trans (hb7.mono HB6.out.size))
        clear hb7
        go_wp2
        go_ret
        exact ⟨rfl, HB7.out⟩
    · have c4 : cp = 0 := by omega
      subst c4
      go_wp2_with fail
      refine (cloneBytes_any a len cap zs _ (by omega) hn HR.out).mono ?_
      rintro e w4 ⟨a', c', rfl, hr', _, hb4⟩
      have HB4 := hide hb4
      clear hr' hb4 HZ HR hn
      go_wp2_with fail
      refine (DP_any sp 0 dp 0 (.slice a' len c') _ rfl hs hs2 (by omega) (by omega) hd hd2 (by omega) (by omega)).mono ?_
      rw [show dpV sp 0 dp 0 = sp + 0 - 1 from by simp [dpV]]
      rintro e w5 ⟨rfl, hw5⟩
      have hA : Below w4.heap.size w4 w5 := by rw [hw5]; exact (Below.one _ _).alloc (by simp) _
      have m5 : MapAt w5 w4.heap.size sp 0 dp 0 (.slice a' len c') := by rw [hw5]; exact (MapAt.new _ _ _ _ _ _).below (Below.one _ _)
      have HB5 := hide (HB4.out.trans (hA.mono HB4.out.size))
      clear hw5 hA
      obtain ⟨k0, k1, k2, k3, k4⟩ := m5
      by_cases hid : i ≤ sp + 0 - 1
      · go_wp2
        go_ret
        exact ⟨rfl, HB5.out⟩
      · go_wp2_with fail
        refine (holds_no sp 0 dp 0 i (.slice a' len c') _ rfl (by omega) (by omega) hs hd (by omega)).mono ?_
        rintro e w6 ⟨rfl, hb6⟩
        obtain ⟨k0', k1', k2', k3', k4'⟩ := MapAt.below (⟨k0, k1, k2, k3, k4⟩ : MapAt w5 w4.heap.size sp 0 dp 0 (.slice a' len c')) hb6
        have HB6 := hide (HB5.out.trans (hb6.mono HB5.out.size))
        clear hb6 k0 k1 k2 k3 k4
        go_wp2
        go_ret
        exact ⟨rfl, HB6.out⟩

end Go.Proofs.Qxb6601060a
