import Derived.Test.Qxb6601049aPmA
namespace Go.Proofs.Qxb6601049a
open Go.ChangeShapes Go.WideShapes Go.ChangeAt Go.RowKit
set_option linter.unusedVariables false

/-- what increasingBelow says of the first k elements -/
def IncP (zs : List Int) (n : Int) (k : Nat) : Prop := ∀ i, i < k → 0 ≤ zs.getD i 0 ∧ zs.getD i 0 < n ∧ (0 < i → zs.getD (i - 1) 0 < zs.getD i 0)
theorem IncP.succ {zs : List Int} {n : Int} {k : Nat} (h : IncP zs n k) (h0 : 0 ≤ zs.getD k 0) (h1 : zs.getD k 0 < n) (h2 : 0 < k → zs.getD (k - 1) 0 < zs.getD k 0) : IncP zs n (k + 1) := by
  intro i hi
  by_cases e : i = k
  · subst e; exact ⟨h0, h1, h2⟩
  · exact h i (by omega)

def incPost (zs : List Int) (n : Int) (len : Nat) (w : World) (e : Ending) (w' : World) : Prop :=
  (∃ b, e = .returned (.bool b) ∧ (b = true → IncP zs n len)) ∧ ∃ m, w' = w.drewN m

theorem drewN_drewN (w : World) (m n : Nat) : (w.drewN m).drewN n = w.drewN (m + n) := by
  simp [World.drewN, Nat.add_assoc]

set_option maxHeartbeats 400000 in
theorem incBelow_any (a : Option Addr) (len cap : Nat) (n : Int) (zs : List Int) (w : World) (hlen : len ≤ maxLen) (hr : RowAt .i64 w a len zs) :
    Calls Try.prog 9 #[.slice a len cap, .int .i64 n] w (incPost zs n len w) := by
  unfold maxLen at hlen
  obtain ⟨hz, hr⟩ := hr
  go_enter Try.func9, Try.ntmps9
  go_wp2
  go_loopw [5] (fun i wr => ∃ k : Nat, k ≤ len ∧ i = .int .i64 k ∧ IncP zs n k ∧ ∃ m, wr = w.drewN m) (fun i _ => len - (intOf i).toNat)
  case atStart => exact ⟨0, Nat.zero_le _, rfl, fun i hi => absurd hi (Nat.not_lt_zero _), 0, rfl⟩
  case round =>
    obtain ⟨k, hk, rfl, hP, m, rfl⟩ := hrel
    by_cases hlt : k < len
    · rcases hr with hr | ⟨b, off, rfl, hcell⟩
      · omega
      have hs := fun h0 h1 h2 => IncP.succ hP (k := k) h0 h1 h2
      have hc := hcell k hlt
      have hc' := hcell (k - 1) (by omega)
      generalize zs.getD k 0 = x at hc hs
      generalize zs.getD (k - 1) 0 = y at hc' hs
      have HS : Hid (0 ≤ x → x < n → (0 < k → y < x) → IncP zs n (k + 1)) := hs
      clear hP hcell hs hz
      by_cases h1 : 0 ≤ x
      · by_cases h2 : x < n
        · by_cases h0 : 0 < k
          · have h0' : (0:Int) < (k:Int) := by omega
            have h0'' : decide ((0:Int) < (k:Int)) = true := by simpa using h0
            have e1 : ((k:Int) - 1).toNat = k - 1 := by omega
            have g1 : (0:Int) ≤ (k:Int) - 1 := by omega
            have g2 : (k:Int) - 1 < (len:Int) := by omega
            by_cases h3 : y < x
            · go_wp2
              go_quiet (fail)
              go_wp2
              go_roundw
              case rel => exact ⟨k + 1, by omega, by go_num, HS.out h1 h2 (fun _ => h3), _, by first | rfl | exact drewN_drewN _ _ _⟩
              case measure => simp [intOf]; omega
            · go_wp2
              go_quiet (fail)
              go_wp2
              go_ret
              exact ⟨⟨_, rfl, fun h => by cases h⟩, _, by first | rfl | exact drewN_drewN _ _ _⟩
          · have h0'' : decide ((0:Int) < (k:Int)) = false := decide_eq_false (by omega)
            go_wp2
            go_quiet (fail)
            go_wp2
            go_roundw
            case rel => exact ⟨k + 1, by omega, by go_num, HS.out h1 h2 (fun h => absurd h h0), _, by first | rfl | exact drewN_drewN _ _ _⟩
            case measure => simp [intOf]; omega
        · go_wp2
          go_ret
          exact ⟨⟨_, rfl, fun h => by cases h⟩, m, rfl⟩
      · go_wp2
        go_ret
        exact ⟨⟨_, rfl, fun h => by cases h⟩, m, rfl⟩
    · go_wp2
      go_ret
      exact ⟨⟨_, rfl, fun _ => by have : k = len := by omega
                                  subst this; exact hP⟩, m, rfl⟩

end Go.Proofs.Qxb6601049a
