import Derived.Test.Qxb6601049aClone
namespace Go.Proofs.Qxb6601049a
open Go.ChangeShapes Go.WideShapes Go.ChangeAt Go.RowKit
set_option linter.unusedVariables false

def listWPost (l : List (ByteArray × ByteArray)) (w : World) (e : Ending) (w' : World) : Prop :=
  ∃ b : Int, e = .returned (.int .i64 b) ∧ (b ≤ 1048576 → l.length ≤ 1048576) ∧ 0 ≤ b ∧ b ≤ 1048577 ∧ ∃ m, w' = w.drewN m

set_option maxHeartbeats 800000 in
theorem labelListWeight_any (a : Option Addr) (l : List (ByteArray × ByteArray)) (c : Nat) (w : World) (hr : LblRow w a l) (hl : l.length ≤ maxLen) :
    Calls Try.prog 18 #[.slice a l.length c] w (listWPost l w) := by
  unfold maxLen at hl
  by_cases h1 : l.length ≤ 1048576
  · by_cases h2 : 32 * l.length ≤ 1048576
    · go_enter Try.func18, Try.ntmps18
      go_wp2
      go_loopw [4, 5] (fun v i wr => ∃ (k : Nat) (b : Int), k ≤ l.length ∧ i = .int .i64 k ∧ v = .int .i64 b ∧ 0 ≤ b ∧ b ≤ 1048576 ∧ ∃ m, wr = w.drewN m) (fun _ i _ => l.length - (intOf i).toNat)
      case atStart => exact ⟨0, _, Nat.zero_le _, rfl, rfl, by omega, by omega, 0, rfl⟩
      case round =>
        obtain ⟨k, b, hk, rfl, rfl, hb0, hb1, m, rfl⟩ := hrel
        by_cases hlt : k < l.length
        · obtain ⟨ab, off, kk, vv, rfl, hkv, c1, c2⟩ := hr.at hlt
          clear hkv hr
          have hlt' : (k : Int) < (l.length : Int) := by omega
          by_cases g1 : kk.size ≤ 1048576
          · by_cases g2 : vv.size ≤ 1048576
            · by_cases g3 : b + (kk.size + vv.size) ≤ 1048576
              · go_wp2
                go_quiet (fail)
                go_wp2
                go_roundw
                case rel => exact ⟨k + 1, _, by omega, by go_num, rfl, by omega, by omega, _, by first | rfl | exact drewN_drewN _ _ _⟩
                case measure => simp [intOf]; omega
              · go_wp2
                go_quiet (fail)
                go_wp2
                go_ret
                exact ⟨_, rfl, fun _ => h1, by omega, by omega, _, by first | rfl | exact drewN_drewN _ _ _⟩
            · go_wp2
              go_ret
              exact ⟨_, rfl, fun _ => h1, by omega, by omega, m, rfl⟩
          · go_wp2
            go_ret
            exact ⟨_, rfl, fun _ => h1, by omega, by omega, m, rfl⟩
        · clear hr
          go_wp2
          go_ret
          exact ⟨_, rfl, fun _ => h1, by omega, by omega, m, rfl⟩
    · clear hr
      go_enter Try.func18, Try.ntmps18
      go_wp2
      go_ret
      exact ⟨_, rfl, fun _ => h1, by omega, by omega, 0, rfl⟩
  · clear hr
    go_enter Try.func18, Try.ntmps18
    go_wp2
    go_ret
    exact ⟨_, rfl, fun h => absurd h (by omega), by omega, by omega, 0, rfl⟩

/-- how many labels the first k objects hold -/
def tot (O : List (List (ByteArray × ByteArray))) : Nat → Nat
  | 0 => 0
  | k + 1 => tot O k + (O.getD k []).length

def objWPost (O : List (List (ByteArray × ByteArray))) (w : World) (e : Ending) (w' : World) : Prop :=
  ∃ b c : Int, e = .returned (.tuple #[.int .i64 b, .int .i64 c]) ∧ (b ≤ 1048576 → SmallO O ∧ c = (tot O O.length : Nat)) ∧ 0 ≤ b ∧ b ≤ 1048577 ∧ ∃ m, w' = w.drewN m

theorem small_ge {O : List (List (ByteArray × ByteArray))} (h1 : O.length ≤ 1048576) (h2 : ∀ (i : Nat) (l : List (ByteArray × ByteArray)), i < O.length → O[i]? = some l → l.length ≤ 1048576) : SmallO O :=
  ⟨h1, fun i l hi => h2 i l (List.getElem?_eq_some_iff.1 hi).1 hi⟩

set_option maxRecDepth 8000 in
set_option maxHeartbeats 1600000 in
theorem labelsWeight_any (a : Option Addr) (O : List (List (ByteArray × ByteArray))) (c : Nat) (w : World) (hr : ObjRow w a O) (hl : O.length ≤ maxLen) (hll : ∀ (i : Nat) (l : List (ByteArray × ByteArray)), O[i]? = some l → l.length ≤ maxLen) :
    Calls Try.prog 17 #[.slice a O.length c] w (objWPost O w) := by
  unfold maxLen at hl hll
  have HLL := hide hll
  clear hll
  by_cases h1 : O.length ≤ 1048576
  · by_cases h2 : 24 * O.length ≤ 1048576
    · go_enter Try.func17, Try.ntmps17
      go_wp2
      go_loopw [5, 6, 7, 8] (fun v q i _ wr => ∃ (k t : Nat) (b : Int), k ≤ O.length ∧ i = .int .i64 k ∧ v = .int .i64 b ∧ 0 ≤ b ∧ b ≤ 1048576 ∧ q = .int .i64 t ∧ t ≤ k * 1048576 ∧ Hid (t = tot O k) ∧ Hid (∀ (j : Nat) (l : List (ByteArray × ByteArray)), j < k → O[j]? = some l → l.length ≤ 1048576) ∧ ∃ m, wr = w.drewN m) (fun _ _ i _ _ => O.length - (intOf i).toNat)
      case atStart => exact ⟨0, 0, _, Nat.zero_le _, rfl, rfl, by omega, by omega, rfl, by omega, rfl, fun j l hj => absurd hj (Nat.not_lt_zero _), 0, rfl⟩
      case round =>
        obtain ⟨k, t, b, hk, rfl, rfl, hb0, hb1, rfl, ht, HT, HJ, m, rfl⟩ := hrel
        by_cases hlt : k < O.length
        · obtain ⟨ab, off, l, ai, ci, rfl, hl2, c1, hrow⟩ := hr.at hlt
          have hlm := HLL.out k l hl2
          have HT2 : Hid (t + l.length = tot O (k + 1)) := by show _ = _; rw [tot, HT.out, getD_of hl2]
          have hlt' : (k : Int) < (O.length : Int) := by omega
          by_cases g0 : l.length ≤ 1048576
          · have HJ2 : Hid (∀ (j : Nat) (l : List (ByteArray × ByteArray)), j < k + 1 → O[j]? = some l → l.length ≤ 1048576) := by
              intro j l' hj hl'
              by_cases e : j = k
              · subst e; rw [hl2] at hl'; cases hl'; exact g0
              · exact HJ.out j l' (by omega) hl'
            clear HT HJ hl2
            by_cases g1 : b + 32 * l.length ≤ 1048576
            · go_wp2
              go_loopw [5, 8] (fun v j wr => ∃ (q : Nat) (b : Int), q ≤ l.length ∧ j = .int .i64 q ∧ v = .int .i64 b ∧ 0 ≤ b ∧ b ≤ 1048576 ∧ ∃ m, wr = w.drewN m) (fun _ j _ => l.length - (intOf j).toNat)
              case atStart => exact ⟨0, _, Nat.zero_le _, rfl, rfl, by omega, by omega, m, rfl⟩
              case round =>
                clear hb0 hb1 g1
                obtain ⟨q, b, hq, rfl, rfl, hb0, hb1, m, rfl⟩ := hrel
                by_cases hqlt : q < l.length
                · obtain ⟨lb, lo, kk, vv, rfl, hkv, c2, c3⟩ := hrow.at hqlt
                  clear hkv hr hrow
                  have hq' : (q : Int) < (l.length : Int) := by omega
                  by_cases g1 : kk.size ≤ 1048576
                  · by_cases g2 : vv.size ≤ 1048576
                    · by_cases g3 : b + (kk.size + vv.size) ≤ 1048576
                      · go_wp2
                        go_quiet (fail)
                        go_wp2
                        go_roundw
                        case rel => exact ⟨q + 1, _, by omega, by go_num, rfl, by omega, by omega, _, by first | rfl | exact drewN_drewN _ _ _⟩
                        case measure => simp [intOf]; omega
                      · go_wp2
                        go_quiet (fail)
                        go_wp2
                        go_ret2
                        exact ⟨_, _, rfl, fun h => absurd h (by omega), by omega, by omega, _, by first | rfl | exact drewN_drewN _ _ _⟩
                    · go_wp2
                      go_ret2
                      exact ⟨_, _, rfl, fun h => absurd h (by omega), by omega, by omega, m, rfl⟩
                  · go_wp2
                    go_ret2
                    exact ⟨_, _, rfl, fun h => absurd h (by omega), by omega, by omega, m, rfl⟩
                · clear hr hrow
                  go_wp2
                  go_roundw
                  case rel => exact ⟨k + 1, t + l.length, _, by omega, by go_num, rfl, by omega, by omega, by go_num, by omega, HT2, HJ2, m, rfl⟩
                  case measure => simp [intOf]; omega
            · clear hr hrow
              go_wp2
              go_ret2
              exact ⟨_, _, rfl, fun h => absurd h (by omega), by omega, by omega, m, rfl⟩
          · clear hl2 hrow hr
            go_wp2
            go_ret2
            exact ⟨_, _, rfl, fun h => absurd h (by omega), by omega, by omega, m, rfl⟩
        · clear hr
          have hko : k = O.length := by omega
          have HTF : Hid (t = tot O O.length) := by rw [← hko]; exact HT
          have HJF : Hid (SmallO O) := small_ge h1 (fun i l hi h => HJ.out i l (by omega) h)
          clear hko
          go_wp2
          go_ret2
          exact ⟨_, _, rfl, fun _ => ⟨HJF.out, by rw [HTF.out]⟩, by omega, by omega, m, rfl⟩
    · clear hr
      go_enter Try.func17, Try.ntmps17
      go_wp2
      go_ret2
      exact ⟨_, _, rfl, fun h => absurd h (by omega), by omega, by omega, 0, rfl⟩
  · clear hr
    go_enter Try.func17, Try.ntmps17
    go_wp2
    go_ret2
    exact ⟨_, _, rfl, fun h => absurd h (by omega), by omega, by omega, 0, rfl⟩

end Go.Proofs.Qxb6601049a
