import Derived.Test.Qxb6601049aHelp2
namespace Go.Proofs.Qxb6601049a
open Go.ChangeShapes Go.WideShapes Go.ChangeAt Go.RowKit
set_option linter.unusedVariables false

set_option maxHeartbeats 400000 in
theorem setIsScan_nil (a : Option Addr) (n c : Nat) (key value : ByteArray) (bv : Bool) (len : Nat) (w : World) (hn : n ≤ 1048576) (hl : len = 0 ∨ len < (n + 63) / 64) :
    Calls Try.prog 26 #[.slice a n c, .string key, .string value, .bool bv, .int .i64 (len : Int), .slice none 0 0] w (samePost (.bool true) w) := by
  have hne := fun w a n c => Lib.run_eql_slice_nil (P := Try.prog) w 23 72 a n c 0 0 Try.underlying23
  have hnq := fun w a n c => run_neq_slice_nil_any (P := Try.prog) w 23 72 a n c 0 0 Try.underlying23
  by_cases h0 : len = 0
  · subst h0
    go_enter Try.func26, Try.ntmps26
    go_wp2
    go_ret
    exact ⟨rfl, rfl⟩
  · have h1 : ((len : Int) == 0) = false := by simp; omega
    have h2 : (len : Int) < ((n : Int) + 63) / 64 := by omega
    have h3 : decide (((n : Int) + 63) / 64 ≤ (len : Int)) = false := decide_eq_false (by omega)
    clear hl h0
    go_enter Try.func26, Try.ntmps26
    go_wp2
    go_ret
    exact ⟨rfl, rfl⟩

set_option maxHeartbeats 800000 in
theorem setIsScan_set (a : Option Addr) (O : List (List (ByteArray × ByteArray))) (c : Nat) (key value : ByteArray) (bv : Bool) (x : Option ByteArray) (hx : x = if bv then some value else none) (len : Nat) (g m : Nat) (ws : List Nat) (w : World) (hr : ObjRow w a O) (hs : SmallO O)
    (hl0 : 0 < len) (hl : (O.length + 63) / 64 ≤ len) (hlm : len ≤ 1048576) (hm : m = (O.length + 63) / 64) (hws : ws.length = m) (haw : AllW ws) (hrow : NRow .u64 w (some ⟨g, 0, none⟩) ws) (hbits : ∀ i, bitW ws i = decide (i ∈ scan O key x O.length)) :
    Calls Try.prog 26 #[.slice a O.length c, .string key, .string value, .bool bv, .int .i64 (len : Int), .slice (some ⟨g, 0, none⟩) m m] w (samePost (.bool true) w) := by
  have hne := fun w a n c => Lib.run_eql_slice_nil (P := Try.prog) w 23 72 a n c 0 0 Try.underlying23
  have hnq := fun w a n c => run_neq_slice_nil_any (P := Try.prog) w 23 72 a n c 0 0 Try.underlying23
  have hS := hide hs
  have hs1 := hs.1
  have HCA := hide (fun (a : Option Addr) (l : List (ByteArray × ByteArray)) (c : Nat) (w : World) (h : LblRow w a l) (hl : l.length ≤ 1048576) => hx ▸ carries_any a l c key value bv w h hl)
  have HB := hide hbits
  have HWS := hide hws
  have HAW := hide haw
  have h1 : ((len : Int) == 0) = false := by simp; omega
  have h2 : ((O.length : Int) + 63) / 64 ≤ (len : Int) := by omega
  have h3 : decide (((O.length : Int) + 63) / 64 ≤ (len : Int)) = true := decide_eq_true (by omega)
  have h4 : ((m : Int) != ((O.length : Int) + 63) / 64) = false := by simp; omega
  have HM := hide hm
  clear hs hbits hws haw hm hl
  go_enter Try.func26, Try.ntmps26
  go_wp2
  go_loop [15, 16] (fun i _ => ∃ k : Nat, k ≤ 64 * m ∧ i = .int .i64 k) (fun i _ => 64 * m - (intOf i).toNat)
  case atStart => exact ⟨0, Nat.zero_le _, rfl⟩
  case round =>
    obtain ⟨k, hk, rfl⟩ := hrel
    have hm2 : m ≤ 1048576 := by have := HM.out; omega
    have hm3 : ((O.length : Int) + 63) / 64 = (m : Int) := by have := HM.out; omega
    have HM3 := hide hm3
    clear hm3
    by_cases hlt : k < 64 * m
    · have hlt' : (k : Int) < 64 * (((O.length : Int) + 63) / 64) := by have := HM3.out; omega
      rcases hrow with hrow | ⟨b, off, hg, hcell⟩
      · have := HWS.out; omega
      obtain ⟨rfl, rfl⟩ : g = b ∧ off = 0 := by simp at hg; exact ⟨hg.1, hg.2.symm⟩
      have hk64 : k / 64 < ws.length := by have := HWS.out; omega
      have hcx := hcell (k / 64) hk64
      have hwx := HAW.out.getD (k / 64)
      have hbit : (ws.getD (k / 64) 0).testBit (k % 64) = decide (k ∈ scan O key x O.length) := HB.out k
      generalize ws.getD (k / 64) 0 = y at hcx hwx hbit
      have hk64' : k / 64 < m := by have := HWS.out; omega
      have HBO := hide (fun w hc => bitOf_any g 0 m m k y w hwx (by omega) hk64' hc)
      have HBIT := hide hbit
      clear hwx hbit hcell hg hk64
      by_cases hkn : k < O.length
      · obtain ⟨b, off, l, ai, ci, rfl, hl, c1, hrw⟩ := hr.at hkn
        have hll := hS.out.2 k l hl
        have HC := hide (fun w h => HCA.out ai l ci w h hll)
        have HBC : Hid (y.testBit (k % 64) = carT l key x) := by
          show _ = _
          rw [HBIT.out, Bool.eq_iff_iff, decide_eq_true_iff, mem_scan, getD_of hl]
          exact ⟨fun h => h.2, fun h => ⟨hkn, h⟩⟩
        clear hl
        cases hcar : carT l key x
        all_goals
          have HCAR := hide hcar
          have HBC2 := hide (HBC.out.trans hcar)
          clear hcar HBC
          go_wp2_with fail
          refine (HC.out w hrw).mono ?_
          rw [HCAR.out]
          rintro e w1 ⟨rfl, rfl⟩
          go_wp2_with fail
          refine (HBO.out _ hcx).mono ?_
          rw [HBC2.out]
          rintro e w1 ⟨rfl, rfl⟩
          clear hr hrw
          go_wp2
        · go_round
          case rel => exact ⟨k + 1, by omega, by go_num⟩
          case measure => simp [intOf]; omega
        · go_round
          case rel => exact ⟨k + 1, by omega, by go_num⟩
          case measure => simp [intOf]; omega
      · have HBC : Hid (y.testBit (k % 64) = false) := by
          show _ = _
          rw [HBIT.out, decide_eq_false_iff_not, mem_scan]
          exact fun h => hkn h.1
        go_wp2_with fail
        refine (HBO.out _ hcx).mono ?_
        rw [HBC.out]
        rintro e w1 ⟨rfl, rfl⟩
        clear hr
        go_wp2
        go_round
        case rel => exact ⟨k + 1, by omega, by go_num⟩
        case measure => simp [intOf]; omega
    · have hlt' : ¬ (k : Int) < 64 * (((O.length : Int) + 63) / 64) := by have := HM3.out; omega
      clear hr hrow
      go_wp2
      go_ret
      exact ⟨rfl, rfl⟩

end Go.Proofs.Qxb6601049a
