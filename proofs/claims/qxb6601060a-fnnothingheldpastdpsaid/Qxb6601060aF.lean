import Derived.Test.Qxb6601060aE
namespace Go.Proofs.Qxb6601060a
open Go.ChangeShapes Go.WideShapes Go.ChangeAt Go.RowKit
set_option linter.unusedVariables false

set_option maxHeartbeats 400000 in
theorem bit_any (sp cp dp ds : Int) (b off len cap j x : Nat) (w : World) (hx : x < 256) (hj : j ≤ 1048576) (hl : j / 8 < len) (hc : w.cell? ⟨b, off + j / 8, none⟩ = some (.int .u8 (x : Int))) :
    Calls Try.prog 20 #[.agg #[.int .i64 sp, .int .i64 cp, .int .i64 dp, .int .i64 ds, .slice (some ⟨b, off, none⟩) len cap], .int .i64 (j : Int)] w (valPost (.bool (bitN x (j % 8))) w) := by
  have hbw := World.block_lt_of_cell? w _ hc
  have hl' : (j : Int) / 8 < (len : Int) := by omega
  have e1 : ((j : Int) / 8).toNat = j / 8 := by omega
  have E := hide (bit_form x (j % 8) hx)
  go_enter Try.func20, Try.ntmps20
  go_wp2
  go_quiet (fail)
  go_wp2
  go_ret
  exact ⟨ret_bool E.out, below_drewN (Below.one _ _) _⟩

theorem and7 (j : Nat) (hj : j ≤ 1048576) : bits BinOp.and IntKind.i64 (j : Int) 7 = ((j % 8 : Nat) : Int) := by
  have h1 : (BitVec.ofInt 64 (j : Int)).toNat = j := by
    rw [BitVec.ofInt_natCast, BitVec.toNat_ofNat]; exact Nat.mod_eq_of_lt (by omega)
  have h2 : (BitVec.ofInt 64 (7 : Int)).toNat = 2 ^ 3 - 1 := by decide
  have hx : j % 8 < 8 := Nat.mod_lt _ (by omega)
  show IntKind.i64.wrap ((BitVec.ofInt 64 (j : Int) &&& BitVec.ofInt 64 (7 : Int)).toNat : Int) = _
  rw [BitVec.toNat_and, h1, h2, Nat.and_two_pow_sub_one_eq_mod]
  simp [IntKind.wrap, IntKind.bits, IntKind.signed]
  omega

theorem bitAt_form (x j : Nat) (hx : x < 256) (hj : j ≤ 1048576) : (bits BinOp.and IntKind.u8 ((x : Int) * 2 ^ min (IntKind.u64.wrap (bits BinOp.and IntKind.i64 (j : Int) 7)).toNat 8 % 256) 128 != 0) = bitN x (j % 8) := by
  have h8 : j % 8 < 8 := Nat.mod_lt _ (by omega)
  rw [and7 j hj]
  have e1 : (IntKind.u64.wrap ((j % 8 : Nat) : Int)).toNat = j % 8 := by rw [IntKind.wrap_u64]; omega
  rw [e1, Nat.min_eq_left (by omega), ← at_bit x (j % 8) hx h8]
  have e2 : ((x : Int) * 2 ^ (j % 8) % 256) = ((x * 2 ^ (j % 8) % 256 : Nat) : Int) := by simp
  have e3 := and_u8 (x * 2 ^ (j % 8) % 256) 128 (Nat.mod_lt _ (by omega)) (by omega)
  rw [e2]
  have e4 : bits BinOp.and IntKind.u8 ((x * 2 ^ (j % 8) % 256 : Nat) : Int) 128 = (((x * 2 ^ (j % 8) % 256) &&& 128 : Nat) : Int) := e3
  rw [e4, Bool.eq_iff_iff]
  generalize (x * 2 ^ (j % 8) % 256) &&& 128 = q
  simp

set_option maxHeartbeats 400000 in
theorem bitAt_any (b off len cap j x : Nat) (w : World) (hx : x < 256) (hj : j ≤ 1048576) (hl : j / 8 < len) (hc : w.cell? ⟨b, off + j / 8, none⟩ = some (.int .u8 (x : Int))) :
    Calls Try.prog 16 #[.slice (some ⟨b, off, none⟩) len cap, .int .i64 (j : Int)] w (samePost (.bool (bitN x (j % 8))) w) := by
  have hl' : (j : Int) / 8 < (len : Int) := by omega
  have e1 : ((j : Int) / 8).toNat = j / 8 := by omega
  have E := hide (bitAt_form x j hx hj)
  go_enter Try.func16, Try.ntmps16
  go_wp2
  go_ret
  exact ⟨ret_bool E.out, rfl⟩

set_option maxHeartbeats 400000 in
theorem holds_yes (sp cp dp ds i : Int) (v : Value) (w : World) (hv : v.oneCell' = true) (h1 : sp ≤ i) (h2 : i - sp < cp) (hs : -1152921504606846976 ≤ sp) (hi : i ≤ 4611686018427387904) :
    Calls Try.prog 11 #[.agg #[.int .i64 sp, .int .i64 cp, .int .i64 dp, .int .i64 ds, v], .int .i64 i] w (valPost (.bool true) w) := by
  go_enter Try.func11, Try.ntmps11
  go_wp2
  go_ret
  exact ⟨rfl, Below.one _ _⟩

set_option maxHeartbeats 400000 in
theorem holds_no (sp cp dp ds i : Int) (v : Value) (w : World) (hv : v.oneCell' = true) (h1 : sp ≤ i → ¬ i - sp < cp) (h2 : dp ≤ i → ¬ i - dp < ds) (hs : -1152921504606846976 ≤ sp) (hd : -1152921504606846976 ≤ dp) (hi : i ≤ 4611686018427387904) :
    Calls Try.prog 11 #[.agg #[.int .i64 sp, .int .i64 cp, .int .i64 dp, .int .i64 ds, v], .int .i64 i] w (valPost (.bool false) w) := by
  by_cases c1 : sp ≤ i
  · have c2 : cp ≤ i - sp := by have := h1 c1; omega
    clear h1
    by_cases c3 : dp ≤ i
    · have c4 : ds ≤ i - dp := by have := h2 c3; omega
      clear h2
      go_enter Try.func11, Try.ntmps11
      go_wp2
      go_ret
      exact ⟨rfl, Below.one _ _⟩
    · clear h2
      go_enter Try.func11, Try.ntmps11
      go_wp2
      go_ret
      exact ⟨rfl, Below.one _ _⟩
  · clear h1
    by_cases c3 : dp ≤ i
    · have c4 : ds ≤ i - dp := by have := h2 c3; omega
      clear h2
      go_enter Try.func11, Try.ntmps11
      go_wp2
      go_ret
      exact ⟨rfl, Below.one _ _⟩
    · clear h2
      go_enter Try.func11, Try.ntmps11
      go_wp2
      go_ret
      exact ⟨rfl, Below.one _ _⟩

set_option maxHeartbeats 400000 in
theorem holds_bit (sp cp dp ds i : Int) (b off len cap j x : Nat) (w : World) (hx : x < 256) (hj : j ≤ 1048576) (hl : j / 8 < len) (hc : w.cell? ⟨b, off + j / 8, none⟩ = some (.int .u8 (x : Int)))
    (h1 : sp ≤ i → ¬ i - sp < cp) (h2 : i = dp + j) (h3 : (j : Int) < ds) (hs : -1152921504606846976 ≤ sp) (hd : -1152921504606846976 ≤ dp) (hd2 : dp ≤ 1152921504606846976) :
    Calls Try.prog 11 #[.agg #[.int .i64 sp, .int .i64 cp, .int .i64 dp, .int .i64 ds, .slice (some ⟨b, off, none⟩) len cap], .int .i64 i] w (valPost (.bool (bitN x (j % 8))) w) := by
  have hbw := World.block_lt_of_cell? w _ hc
  have g1 : dp ≤ i := by omega
  have g2 : i - dp < ds := by omega
  have g3 : i ≤ 4611686018427387904 := by omega
  have g4 : i - dp = j := by omega
  have G4 := hide g4
  clear h2 g4
  by_cases c1 : sp ≤ i
  · have c2 : cp ≤ i - sp := by have := h1 c1; omega
    clear h1
    go_enter Try.func11, Try.ntmps11
    go_wp2_with fail
    rw [G4.out]
    refine (bit_any sp cp dp ds b off len cap j x _ hx hj hl ((Below.one w _).cell hbw |>.trans hc)).mono ?_
    rintro e w1 ⟨rfl, hb⟩
    go_wp2
    go_ret
    exact ⟨rfl, (Below.one _ _).trans (hb.mono (by simp))⟩
  · clear h1
    go_enter Try.func11, Try.ntmps11
    go_wp2_with fail
    rw [G4.out]
    refine (bit_any sp cp dp ds b off len cap j x _ hx hj hl ((Below.one w _).cell hbw |>.trans hc)).mono ?_
    rintro e w1 ⟨rfl, hb⟩
    go_wp2
    go_ret
    exact ⟨rfl, (Below.one _ _).trans (hb.mono (by simp))⟩

end Go.Proofs.Qxb6601060a
