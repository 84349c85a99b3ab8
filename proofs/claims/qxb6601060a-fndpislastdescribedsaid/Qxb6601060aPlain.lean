import Derived.WalkKit
namespace Go.Proofs.Qxb6601060a
set_option linter.unusedVariables false

theorem and_u8 (a b : Nat) (ha : a < 256) (hb : b < 256) : bits .and .u8 (a : Int) (b : Int) = ((a &&& b : Nat) : Int) := by
  have hx : a &&& b < 2 ^ 8 := Nat.and_lt_two_pow _ (by omega)
  have h1 : (BitVec.ofInt 8 (a : Int)).toNat = a := by
    rw [BitVec.ofInt_natCast, BitVec.toNat_ofNat]; exact Nat.mod_eq_of_lt (by omega)
  have h2 : (BitVec.ofInt 8 (b : Int)).toNat = b := by
    rw [BitVec.ofInt_natCast, BitVec.toNat_ofNat]; exact Nat.mod_eq_of_lt (by omega)
  show IntKind.u8.wrap ((BitVec.ofInt 8 (a : Int) &&& BitVec.ofInt 8 (b : Int)).toNat : Int) = _
  rw [BitVec.toNat_and, h1, h2]
  simp [IntKind.wrap, IntKind.bits, IntKind.signed]
  omega

theorem or_u8 (a b : Nat) (ha : a < 256) (hb : b < 256) : bits .or .u8 (a : Int) (b : Int) = ((a ||| b : Nat) : Int) := by
  have hx : a ||| b < 2 ^ 8 := Nat.or_lt_two_pow (by omega) (by omega)
  have h1 : (BitVec.ofInt 8 (a : Int)).toNat = a := by
    rw [BitVec.ofInt_natCast, BitVec.toNat_ofNat]; exact Nat.mod_eq_of_lt (by omega)
  have h2 : (BitVec.ofInt 8 (b : Int)).toNat = b := by
    rw [BitVec.ofInt_natCast, BitVec.toNat_ofNat]; exact Nat.mod_eq_of_lt (by omega)
  show IntKind.u8.wrap ((BitVec.ofInt 8 (a : Int) ||| BitVec.ofInt 8 (b : Int)).toNat : Int) = _
  rw [BitVec.toNat_or, h1, h2]
  simp [IntKind.wrap, IntKind.bits, IntKind.signed]
  omega

/-- the mask of bit m, counted from the most significant -/
def maskN (m : Nat) : Nat := 128 / 2 ^ m
theorem maskN_lt (m : Nat) : maskN m < 256 := Nat.lt_of_le_of_lt (Nat.div_le_self _ _) (by omega)

/-- is bit m set? -/
def bitN (x m : Nat) : Bool := x &&& maskN m != 0

/-- what octet makes of the byte x where t bits stand for fragments -/
def octN (x t : Nat) : Nat := if 8 ≤ t then x else x &&& (255 * 2 ^ (8 - t) % 256)

/-- the law's own gathering, the first m bits looked at -/
def wantN (x t : Nat) : Nat → Nat
  | 0 => 0
  | m + 1 => if m < t ∧ bitN x m = true then wantN x t m ||| maskN m else wantN x t m
theorem wantN_lt (x t m : Nat) : wantN x t m < 256 := by
  induction m with
  | zero => simp [wantN]
  | succ m ih =>
    rw [wantN]
    split
    · have h1 := maskN_lt m
      have : wantN x t m ||| maskN m < 2 ^ 8 := Nat.or_lt_two_pow (by omega) (by omega)
      omega
    · exact ih

theorem wantN_congr (x t t' : Nat) (m : Nat) (h : ∀ i, i < m → (i < t ↔ i < t')) : wantN x t m = wantN x t' m := by
  induction m with
  | zero => rfl
  | succ m ih =>
    rw [wantN, wantN, ih (fun i hi => h i (by omega))]
    simp only [h m (by omega)]

theorem want_oct_small : ∀ x : Fin 256, ∀ t : Fin 9, wantN x.val t.val 8 = octN x.val t.val := by decide +kernel

theorem want_oct (x t : Nat) (hx : x < 256) : wantN x t 8 = octN x t := by
  by_cases h : t ≤ 8
  · exact want_oct_small ⟨x, hx⟩ ⟨t, by omega⟩
  · have h1 := want_oct_small ⟨x, hx⟩ ⟨8, by omega⟩
    rw [wantN_congr x t 8 8 (fun i hi => by omega)]
    simp only [octN] at h1 ⊢
    rw [if_pos (by omega)]
    simpa using h1

theorem oct_bit_small : ∀ x : Fin 256, ∀ t : Fin 9, ∀ m : Fin 8, bitN (octN x.val t.val) m.val = (decide (m.val < t.val) && bitN x.val m.val) := by decide +kernel

theorem oct_bit (x t m : Nat) (hx : x < 256) (hm : m < 8) : bitN (octN x t) m = (decide (m < t) && bitN x m) := by
  by_cases h : t ≤ 8
  · exact oct_bit_small ⟨x, hx⟩ ⟨t, by omega⟩ ⟨m, hm⟩
  · rw [octN, if_pos (by omega), decide_eq_true (by omega), Bool.true_and]

theorem octN_lt (x t : Nat) (hx : x < 256) : octN x t < 256 := by
  unfold octN
  split
  · exact hx
  · have : x &&& (255 * 2 ^ (8 - t) % 256) < 2 ^ 8 := Nat.and_lt_two_pow _ (by omega)
    omega

/-- the law's way to read a bit -/
theorem at_bit_small : ∀ x : Fin 256, ∀ m : Fin 8, ((x.val * 2 ^ m.val % 256) &&& 128 != 0) = bitN x.val m.val := by decide +kernel
theorem at_bit (x m : Nat) (hx : x < 256) (hm : m < 8) : ((x * 2 ^ m % 256) &&& 128 != 0) = bitN x m := at_bit_small ⟨x, hx⟩ ⟨m, hm⟩

end Go.Proofs.Qxb6601060a
