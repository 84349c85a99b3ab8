import Derived.WalkKit
namespace Go.Proofs.Qxb6601049a
set_option linter.unusedVariables false

/-- a word -/
def W64 (x : Nat) : Prop := x < 18446744073709551616

theorem and63 (j : Nat) (hj : j ≤ 1048576) : bits BinOp.and IntKind.i64 (j : Int) 63 = ((j % 64 : Nat) : Int) := by
  have h1 : (BitVec.ofInt 64 (j : Int)).toNat = j := by
    rw [BitVec.ofInt_natCast, BitVec.toNat_ofNat]; exact Nat.mod_eq_of_lt (by omega)
  have h2 : (BitVec.ofInt 64 (63 : Int)).toNat = 2 ^ 6 - 1 := by decide
  have hx : j % 64 < 64 := Nat.mod_lt _ (by omega)
  show IntKind.i64.wrap ((BitVec.ofInt 64 (j : Int) &&& BitVec.ofInt 64 (63 : Int)).toNat : Int) = _
  rw [BitVec.toNat_and, h1, h2, Nat.and_two_pow_sub_one_eq_mod]
  simp [IntKind.wrap, IntKind.bits, IntKind.signed]
  omega

theorem wrap_small (r : Nat) (h : r < 64) : IntKind.u64.wrap ((r : Nat) : Int) = r := by
  rw [IntKind.wrap_u64]; omega

theorem pow_lt64 {r : Nat} (h : r < 64) : 2 ^ r < 18446744073709551616 := by
  have : 2 ^ r < 2 ^ 64 := Nat.pow_lt_pow_right (by omega) h
  omega

theorem wrap_pow (r : Nat) (h : r < 64) : IntKind.u64.wrap ((2 : Int) ^ r) = ((2 ^ r : Nat) : Int) := by
  have := pow_lt64 h
  rw [IntKind.wrap_u64]
  have e : ((2 : Int) ^ r) = ((2 ^ r : Nat) : Int) := by simp
  rw [e]
  generalize 2 ^ r = p at this
  omega

theorem or_pow (x r : Nat) (hx : W64 x) (h : r < 64) : bits BinOp.or IntKind.u64 (x : Int) (IntKind.u64.wrap ((2 : Int) ^ r)) = ((x ||| 2 ^ r : Nat) : Int) := by
  rw [wrap_pow r h, bits_or_u64_nat _ _ hx (pow_lt64 h)]

theorem W64.or {x y : Nat} (hx : W64 x) (hy : W64 y) : W64 (x ||| y) := by
  unfold W64 at *
  have : x ||| y < 2 ^ 64 := Nat.or_lt_two_pow (by omega) (by omega)
  omega

theorem shr_bit (x r : Nat) (hx : W64 x) (h : r < 64) : (bits BinOp.and IntKind.u64 ((x : Int) / 2 ^ min r 64) 1 == 1) = x.testBit r := by
  rw [Nat.min_eq_left (by omega)]
  have e : ((x : Int) / 2 ^ r) = ((x / 2 ^ r : Nat) : Int) := by simp
  have hx' : x / 2 ^ r < 18446744073709551616 := Nat.lt_of_le_of_lt (Nat.div_le_self _ _) hx
  have h1 := bits_and_u64_nat (x / 2 ^ r) 1 hx' (by omega)
  rw [e]
  have h2 : bits BinOp.and IntKind.u64 (((x / 2 ^ r : Nat)) : Int) 1 = (((x / 2 ^ r) &&& 1 : Nat) : Int) := h1
  rw [h2, Nat.testBit, Nat.shiftRight_eq_div_pow, Nat.and_comm 1]
  rcases Nat.mod_two_eq_zero_or_one (x / 2 ^ r) with h | h <;> simp [h]

theorem meet_word (x y : Nat) (hx : W64 x) (hy : W64 y) : (bits BinOp.and IntKind.u64 (x : Int) (y : Int) != 0) = true ↔ ∃ r, r < 64 ∧ x.testBit r = true ∧ y.testBit r = true := by
  rw [bits_and_u64_nat _ _ hx hy]
  constructor
  · intro h
    have h0 : (x &&& y) ≠ 0 := by
      intro e; rw [e] at h; simp at h
    obtain ⟨r, hr⟩ := Nat.exists_testBit_of_ne_zero h0
    rw [Nat.testBit_and, Bool.and_eq_true] at hr
    refine ⟨r, ?_, hr.1, hr.2⟩
    rcases Nat.lt_or_ge r 64 with h | h
    · exact h
    · have : x < 2 ^ r := Nat.lt_of_lt_of_le (by unfold W64 at hx; omega : x < 2 ^ 64) (Nat.pow_le_pow_right (by omega) h)
      rw [Nat.testBit_lt_two_pow this] at hr
      exact absurd hr.1 (by simp)
  · rintro ⟨r, hr, h1, h2⟩
    have : (x &&& y) ≠ 0 := by
      intro e
      have := Nat.testBit_and x y r
      rw [e, h1, h2] at this
      simp at this
    simp
    omega

theorem has_bit (x r : Nat) (hx : W64 x) (h : r < 64) : (bits BinOp.and IntKind.u64 (x : Int) (IntKind.u64.wrap ((2 : Int) ^ r)) != 0) = x.testBit r := by
  rw [wrap_pow r h, Bool.eq_iff_iff, meet_word _ _ hx (pow_lt64 h)]
  constructor
  · rintro ⟨r', _, h1, h2⟩
    rw [Nat.testBit_two_pow] at h2
    have : r = r' := by simpa using h2
    rw [this]; exact h1
  · intro h1
    exact ⟨r, h, h1, by simp⟩

end Go.Proofs.Qxb6601049a
