import Derived.Test.Qxb6601049aZz
namespace Go.Proofs.Qxb6601049a
open Go.ChangeShapes Go.WideShapes Go.ChangeAt Go.RowKit
set_option linter.unusedVariables false

def SmallR (R : List Rq) : Prop := R.length ≤ 1048576 ∧ ∀ (i : Nat) (r : Rq), R[i]? = some r → r.vals.length ≤ 1048576
theorem smallR_ge {R : List Rq} (h1 : R.length ≤ 1048576) (h2 : ∀ (i : Nat) (r : Rq), i < R.length → R[i]? = some r → r.vals.length ≤ 1048576) : SmallR R :=
  ⟨h1, fun i r hi => h2 i r (List.getElem?_eq_some_iff.1 hi).1 hi⟩

def reqWPost (R : List Rq) (w : World) (e : Ending) (w' : World) : Prop :=
  ∃ b c : Int, e = .returned (.tuple #[.int .i64 b, .int .i64 c]) ∧ (b ≤ 1048576 → SmallR R) ∧ 0 ≤ b ∧ b ≤ 1048577 ∧ ∃ m, w' = w.drewN m

set_option maxRecDepth 8000 in
set_option maxHeartbeats 1600000 in
theorem reqsWeight_any (a : Option Addr) (R : List Rq) (c : Nat) (w : World) (hr : ReqRow w a R) (hl : LenR R) :
    Calls Try.prog 31 #[.slice a R.length c] w (reqWPost R w) := by
  obtain ⟨hl1, hl2⟩ := hl
  unfold maxLen at hl1 hl2
  have HLL := hide hl2
  clear hl2
  by_cases h1 : R.length ≤ 1048576
  · by_cases h2 : 48 * R.length ≤ 1048576
    · go_enter Try.func31, Try.ntmps31
      go_wp2
      go_loopw [5, 6, 7, 8] (fun v q i _ wr => ∃ (k t : Nat) (b : Int), k ≤ R.length ∧ i = .int .i64 k ∧ v = .int .i64 b ∧ 0 ≤ b ∧ b ≤ 1048576 ∧ q = .int .i64 t ∧ t ≤ k * 1048576 ∧ Hid (∀ (j : Nat) (r : Rq), j < k → R[j]? = some r → r.vals.length ≤ 1048576) ∧ ∃ m, wr = w.drewN m) (fun _ _ i _ _ => R.length - (intOf i).toNat)
      case atStart => exact ⟨0, 0, _, Nat.zero_le _, rfl, rfl, by omega, by omega, rfl, by omega, fun j l hj => absurd hj (Nat.not_lt_zero _), 0, rfl⟩
      case round =>
        obtain ⟨k, t, b, hk, rfl, rfl, hb0, hb1, rfl, ht, HJ, m, rfl⟩ := hrel
        by_cases hlt : k < R.length
        · obtain ⟨ab, off, ⟨key, vals, any, neg⟩, va, vc, rfl, hl2, c0, c1, _, _, hst⟩ := hr.at hlt
          have hlm := HLL.out k _ hl2
          have hlt' : (k : Int) < (R.length : Int) := by omega
          simp only at hlm c0 c1 hst
          by_cases g00 : key.size ≤ 1048576
          · by_cases g0 : vals.length ≤ 1048576
            · have HJ2 : Hid (∀ (j : Nat) (r : Rq), j < k + 1 → R[j]? = some r → r.vals.length ≤ 1048576) := by
                intro j l' hj hl'
                by_cases e : j = k
                · subst e; rw [hl2] at hl'; cases hl'; exact g0
                · exact HJ.out j l' (by omega) hl'
              clear HJ hl2 hr
              by_cases g1 : b + (key.size + 16 * vals.length) ≤ 1048576
              · go_wp2
                go_quiet (fail)
                go_wp2
                go_loopw [5, 8] (fun v j wr => ∃ (q : Nat) (b : Int), q ≤ vals.length ∧ j = .int .i64 q ∧ v = .int .i64 b ∧ 0 ≤ b ∧ b ≤ 1048576 ∧ ∃ m, wr = w.drewN m) (fun _ j _ => vals.length - (intOf j).toNat)
                case atStart => exact ⟨0, _, Nat.zero_le _, rfl, rfl, by omega, by omega, _, by first | rfl | exact drewN_drewN _ _ _⟩
                case round =>
                  clear hb0 hb1 g1
                  obtain ⟨q, b, hq, rfl, rfl, hb0, hb1, m, rfl⟩ := hrel
                  by_cases hqlt : q < vals.length
                  · obtain ⟨lb, lo, s, rfl, hkv, c2⟩ := hst.at hqlt
                    clear hkv hst
                    have hq' : (q : Int) < (vals.length : Int) := by omega
                    by_cases g1 : s.size ≤ 1048576
                    · by_cases g3 : b + s.size ≤ 1048576
                      · go_wp2
                        go_roundw
                        case rel => exact ⟨q + 1, _, by omega, by go_num, rfl, by omega, by omega, _, by first | rfl | exact drewN_drewN _ _ _⟩
                        case measure => simp [intOf]; omega
                      · go_wp2
                        go_ret2
                        exact ⟨_, _, rfl, fun h => absurd h (by omega), by omega, by omega, _, by first | rfl | exact drewN_drewN _ _ _⟩
                    · go_wp2
                      go_ret2
                      exact ⟨_, _, rfl, fun h => absurd h (by omega), by omega, by omega, m, rfl⟩
                  · clear hst
                    go_wp2
                    go_roundw
                    case rel => exact ⟨k + 1, t + vals.length, _, by omega, by go_num, rfl, by omega, by omega, by go_num, by omega, HJ2, m, rfl⟩
                    case measure => simp [intOf]; omega
              · clear hst
                go_wp2
                go_quiet (fail)
                go_wp2
                go_ret2
                exact ⟨_, _, rfl, fun h => absurd h (by omega), by omega, by omega, _, by first | rfl | exact drewN_drewN _ _ _⟩
            · clear hl2 hst hr
              go_wp2
              go_ret2
              exact ⟨_, _, rfl, fun h => absurd h (by omega), by omega, by omega, m, rfl⟩
          · clear hl2 hst hr
            go_wp2
            go_ret2
            exact ⟨_, _, rfl, fun h => absurd h (by omega), by omega, by omega, m, rfl⟩
        · clear hr
          have hko : k = R.length := by omega
          have HJF : Hid (SmallR R) := smallR_ge h1 (fun i l hi h => HJ.out i l (by omega) h)
          clear hko
          go_wp2
          go_ret2
          exact ⟨_, _, rfl, fun _ => HJF.out, by omega, by omega, m, rfl⟩
    · clear hr
      go_enter Try.func31, Try.ntmps31
      go_wp2
      go_ret2
      exact ⟨_, _, rfl, fun h => absurd h (by omega), by omega, by omega, 0, rfl⟩
  · clear hr
    go_enter Try.func31, Try.ntmps31
    go_wp2
    go_ret2
    exact ⟨_, _, rfl, fun h => absurd h (by omega), by omega, by omega, 0, rfl⟩

end Go.Proofs.Qxb6601049a
