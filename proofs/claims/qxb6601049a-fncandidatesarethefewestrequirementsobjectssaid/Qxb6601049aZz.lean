import Derived.Test.Qxb6601049aWeight
namespace Go.Proofs.Qxb6601049a
open Go.ChangeShapes Go.WideShapes Go.ChangeAt Go.RowKit
set_option linter.unusedVariables false

/-- a slice of requirements -/
def ReqRow (w : World) (a : Option Addr) (R : List Rq) : Prop :=
  (a = none → R = []) ∧ (R = [] ∨ ∃ b off, a = some ⟨b, off, none⟩ ∧ ∀ j r, R[j]? = some r → w.cell? ⟨b, off + j * 4, none⟩ = some (.string r.key) ∧ (∃ va vc, w.cell? ⟨b, off + j * 4 + 1, none⟩ = some (.slice va r.vals.length vc) ∧ StrRow w va r.vals) ∧
    w.cell? ⟨b, off + j * 4 + 2, none⟩ = some (.bool r.any) ∧ w.cell? ⟨b, off + j * 4 + 3, none⟩ = some (.bool r.neg))

theorem ReqRow.below {w w' : World} {a : Option Addr} {R : List Rq} (h : ReqRow w a R) (hb : Below w.heap.size w w') : ReqRow w' a R := by
  refine ⟨h.1, ?_⟩
  rcases h.2 with h0 | ⟨b, off, ha, hc⟩
  · exact .inl h0
  · refine .inr ⟨b, off, ha, fun j r hj => ?_⟩
    obtain ⟨c0, ⟨va, vc, c1, s1⟩, c2, c3⟩ := hc j r hj
    have hlt : b < w.heap.size := World.block_lt_of_cell? w _ c0
    exact ⟨(hb.cell (p := ⟨b, off + j * 4, none⟩) hlt).trans c0, ⟨va, vc, (hb.cell (p := ⟨b, off + j * 4 + 1, none⟩) hlt).trans c1, s1.below hb⟩, (hb.cell (p := ⟨b, off + j * 4 + 2, none⟩) hlt).trans c2, (hb.cell (p := ⟨b, off + j * 4 + 3, none⟩) hlt).trans c3⟩

theorem ReqRow.at {w : World} {a : Option Addr} {R : List Rq} (h : ReqRow w a R) {j : Nat} (hj : j < R.length) :
    ∃ b off r va vc, a = some ⟨b, off, none⟩ ∧ R[j]? = some r ∧ w.cell? ⟨b, off + j * 4, none⟩ = some (.string r.key) ∧ w.cell? ⟨b, off + j * 4 + 1, none⟩ = some (.slice va r.vals.length vc) ∧
      w.cell? ⟨b, off + j * 4 + 2, none⟩ = some (.bool r.any) ∧ w.cell? ⟨b, off + j * 4 + 3, none⟩ = some (.bool r.neg) ∧ StrRow w va r.vals := by
  rcases h.2 with h0 | ⟨b, off, ha, hc⟩
  · subst h0; simp at hj
  · have e : R[j]? = some R[j] := List.getElem?_eq_getElem hj
    obtain ⟨c0, ⟨va, vc, c1, s1⟩, c2, c3⟩ := hc j _ e
    exact ⟨b, off, R[j], va, vc, ha, e, c0, c1, c2, c3, s1⟩

def somePost (w : World) (e : Ending) (w' : World) : Prop := (∃ b, e = .returned (.bool b)) ∧ w' = w

/-- no row is longer than a length can be -/
def LenO (O : List (List (ByteArray × ByteArray))) : Prop := O.length ≤ maxLen ∧ ∀ (i : Nat) (l : List (ByteArray × ByteArray)), O[i]? = some l → l.length ≤ maxLen
def LenR (R : List Rq) : Prop := R.length ≤ maxLen ∧ ∀ (i : Nat) (r : Rq), R[i]? = some r → r.vals.length ≤ maxLen

set_option maxRecDepth 8000 in
set_option maxHeartbeats 2000000 in
theorem zzBytes16_any (a : Option Addr) (O : List (List (ByteArray × ByteArray))) (c : Nat) (pa : Option Addr) (Pr : List (ByteArray × ByteArray)) (pc : Nat) (w : World) (hr : ObjRow w a O) (hp : LblRow w pa Pr) (hl : LenO O) (hpl : Pr.length ≤ maxLen) :
    Calls Try.prog 16 #[.slice a O.length c, .slice pa Pr.length pc] w (somePost w) := by
  obtain ⟨hl1, hl2⟩ := hl
  unfold maxLen at hl1 hl2 hpl
  have HL2 := hide hl2
  have HP := hide hp
  clear hl2 hp
  go_enter Try.func16, Try.ntmps16
  go_wp2
  all_goals first | (go_ret; exact ⟨⟨_, rfl⟩, rfl⟩) | skip
  go_loop [5, 6, 7] (fun v i _ => ∃ (k : Nat) (b : Int), k ≤ O.length ∧ i = .int .i64 k ∧ v = .int .i64 b ∧ 0 ≤ b ∧ b ≤ 1048576) (fun _ i _ => O.length - (intOf i).toNat)
  case atStart => exact ⟨0, _, Nat.zero_le _, rfl, rfl, by omega, by omega⟩
  case round =>
    obtain ⟨k, b, hk, rfl, rfl, hb0, hb1⟩ := hrel
    by_cases hlt : k < O.length
    · obtain ⟨ab, off, l, ai, ci, rfl, hll, c1, hrow⟩ := hr.at hlt
      have hlm := HL2.out k l hll
      have hlt' : (k : Int) < (O.length : Int) := by omega
      clear hll hr
      go_wp2
      all_goals first | (go_ret; exact ⟨⟨_, rfl⟩, rfl⟩) | skip
      go_loop [5, 7] (fun v j => ∃ (q : Nat) (b : Int), q ≤ l.length ∧ j = .int .i64 q ∧ v = .int .i64 b ∧ 0 ≤ b ∧ b ≤ 1048576) (fun _ j => l.length - (intOf j).toNat)
      case atStart => exact ⟨0, _, Nat.zero_le _, rfl, rfl, by omega, by omega⟩
      case round =>
        clear hb0 hb1
        obtain ⟨q, b, hq, rfl, rfl, hb0, hb1⟩ := hrel
        by_cases hqlt : q < l.length
        · obtain ⟨lb, lo, kk, vv, rfl, hkv, c2, c3⟩ := hrow.at hqlt
          have hq' : (q : Int) < (l.length : Int) := by omega
          clear hkv hrow
          go_wp2
          all_goals first | (go_ret; exact ⟨⟨_, rfl⟩, rfl⟩) | skip
          go_round
          case rel => exact ⟨q + 1, _, by omega, by go_num, rfl, by omega, by omega⟩
          case measure => simp [intOf]; omega
        · clear hrow
          go_wp2
          go_round
          case rel => exact ⟨k + 1, _, by omega, by go_num, rfl, by omega, by omega⟩
          case measure => simp [intOf]; omega
    · clear hr
      go_wp2
      all_goals first | (go_ret; exact ⟨⟨_, rfl⟩, rfl⟩) | skip
      go_loop [5, 8] (fun v j => ∃ (q : Nat) (b : Int), q ≤ Pr.length ∧ j = .int .i64 q ∧ v = .int .i64 b ∧ 0 ≤ b ∧ b ≤ 1048576) (fun _ j => Pr.length - (intOf j).toNat)
      case atStart => exact ⟨0, _, Nat.zero_le _, rfl, rfl, by omega, by omega⟩
      case round =>
        clear hb0 hb1
        obtain ⟨q, b, hq, rfl, rfl, hb0, hb1⟩ := hrel
        by_cases hqlt : q < Pr.length
        · obtain ⟨lb, lo, kk, vv, rfl, hkv, c2, c3⟩ := HP.out.at hqlt
          have hq' : (q : Int) < (Pr.length : Int) := by omega
          clear hkv
          go_wp2
          all_goals first | (go_ret; exact ⟨⟨_, rfl⟩, rfl⟩) | skip
          go_round
          case rel => exact ⟨q + 1, _, by omega, by go_num, rfl, by omega, by omega⟩
          case measure => simp [intOf]; omega
        · go_wp2
          go_ret
          exact ⟨⟨_, rfl⟩, rfl⟩

set_option maxRecDepth 8000 in
set_option maxHeartbeats 2000000 in
theorem zzBytes30_any (a : Option Addr) (O : List (List (ByteArray × ByteArray))) (c : Nat) (ra : Option Addr) (R : List Rq) (rc : Nat) (w : World) (hr : ObjRow w a O) (hp : ReqRow w ra R) (hl : LenO O) (hrl : LenR R) :
    Calls Try.prog 30 #[.slice a O.length c, .slice ra R.length rc] w (somePost w) := by
  obtain ⟨hl1, hl2⟩ := hl
  obtain ⟨hr1, hr2⟩ := hrl
  unfold maxLen at hl1 hl2 hr1 hr2
  have HL2 := hide hl2
  have HR2 := hide hr2
  have HP := hide hp
  clear hl2 hp hr2
  go_enter Try.func30, Try.ntmps30
  go_wp2
  all_goals first | (go_ret; exact ⟨⟨_, rfl⟩, rfl⟩) | skip
  go_loop [5, 6, 7] (fun v i _ => ∃ (k : Nat) (b : Int), k ≤ O.length ∧ i = .int .i64 k ∧ v = .int .i64 b ∧ 0 ≤ b ∧ b ≤ 1048576) (fun _ i _ => O.length - (intOf i).toNat)
  case atStart => exact ⟨0, _, Nat.zero_le _, rfl, rfl, by omega, by omega⟩
  case round =>
    obtain ⟨k, b, hk, rfl, rfl, hb0, hb1⟩ := hrel
    by_cases hlt : k < O.length
    · obtain ⟨ab, off, l, ai, ci, rfl, hll, c1, hrow⟩ := hr.at hlt
      have hlm := HL2.out k l hll
      have hlt' : (k : Int) < (O.length : Int) := by omega
      clear hll hr
      go_wp2
      all_goals first | (go_ret; exact ⟨⟨_, rfl⟩, rfl⟩) | skip
      go_loop [5, 7] (fun v j => ∃ (q : Nat) (b : Int), q ≤ l.length ∧ j = .int .i64 q ∧ v = .int .i64 b ∧ 0 ≤ b ∧ b ≤ 1048576) (fun _ j => l.length - (intOf j).toNat)
      case atStart => exact ⟨0, _, Nat.zero_le _, rfl, rfl, by omega, by omega⟩
      case round =>
        clear hb0 hb1
        obtain ⟨q, b, hq, rfl, rfl, hb0, hb1⟩ := hrel
        by_cases hqlt : q < l.length
        · obtain ⟨lb, lo, kk, vv, rfl, hkv, c2, c3⟩ := hrow.at hqlt
          have hq' : (q : Int) < (l.length : Int) := by omega
          clear hkv hrow
          go_wp2
          all_goals first | (go_ret; exact ⟨⟨_, rfl⟩, rfl⟩) | skip
          go_round
          case rel => exact ⟨q + 1, _, by omega, by go_num, rfl, by omega, by omega⟩
          case measure => simp [intOf]; omega
        · clear hrow
          go_wp2
          go_round
          case rel => exact ⟨k + 1, _, by omega, by go_num, rfl, by omega, by omega⟩
          case measure => simp [intOf]; omega
    · clear hr
      go_wp2
      all_goals first | (go_ret; exact ⟨⟨_, rfl⟩, rfl⟩) | skip
      go_loop [5, 8, 9] (fun v j _ => ∃ (q : Nat) (b : Int), q ≤ R.length ∧ j = .int .i64 q ∧ v = .int .i64 b ∧ 0 ≤ b ∧ b ≤ 1048576) (fun _ j _ => R.length - (intOf j).toNat)
      case atStart => exact ⟨0, _, Nat.zero_le _, rfl, rfl, by omega, by omega⟩
      case round =>
        clear hb0 hb1
        obtain ⟨q, b, hq, rfl, rfl, hb0, hb1⟩ := hrel
        by_cases hqlt : q < R.length
        · obtain ⟨lb, lo, ⟨key, vals, any, neg⟩, va, vc, rfl, hkv, c2, c3, c4, c5, hst⟩ := HP.out.at hqlt
          have hvm := HR2.out q _ hkv
          have hq' : (q : Int) < (R.length : Int) := by omega
          clear hkv c4 c5
          simp only at c2 c3 hst hvm
          go_wp2
          all_goals first | (go_ret; exact ⟨⟨_, rfl⟩, rfl⟩) | skip
          go_loop [5, 9] (fun v j => ∃ (p : Nat) (b : Int), p ≤ vals.length ∧ j = .int .i64 p ∧ v = .int .i64 b ∧ 0 ≤ b ∧ b ≤ 1048576) (fun _ j => vals.length - (intOf j).toNat)
          case atStart => exact ⟨0, _, Nat.zero_le _, rfl, rfl, by omega, by omega⟩
          case round =>
            clear hb0 hb1
            obtain ⟨p, b, hp, rfl, rfl, hb0, hb1⟩ := hrel
            by_cases hplt : p < vals.length
            · obtain ⟨sb, so, s, rfl, hs, c6⟩ := hst.at hplt
              have hp' : (p : Int) < (vals.length : Int) := by omega
              clear hs hst
              go_wp2
              all_goals first | (go_ret; exact ⟨⟨_, rfl⟩, rfl⟩) | skip
              go_round
              case rel => exact ⟨p + 1, _, by omega, by go_num, rfl, by omega, by omega⟩
              case measure => simp [intOf]; omega
            · clear hst
              go_wp2
              go_round
              case rel => exact ⟨q + 1, _, by omega, by go_num, rfl, by omega, by omega⟩
              case measure => simp [intOf]; omega
        · go_wp2
          go_ret
          exact ⟨⟨_, rfl⟩, rfl⟩

set_option maxRecDepth 8000 in
set_option maxHeartbeats 2000000 in
theorem zzBytes41_any (a : Option Addr) (O : List (List (ByteArray × ByteArray))) (c : Nat) (ra : Option Addr) (R : List Rq) (rc : Nat) (w : World) (hr : ObjRow w a O) (hp : ReqRow w ra R) (hl : LenO O) (hrl : LenR R) :
    Calls Try.prog 41 #[.slice a O.length c, .slice ra R.length rc] w (somePost w) := by
  obtain ⟨hl1, hl2⟩ := hl
  obtain ⟨hr1, hr2⟩ := hrl
  unfold maxLen at hl1 hl2 hr1 hr2
  have HL2 := hide hl2
  have HR2 := hide hr2
  have HP := hide hp
  clear hl2 hp hr2
  go_enter Try.func41, Try.ntmps41
  go_wp2
  all_goals first | (go_ret; exact ⟨⟨_, rfl⟩, rfl⟩) | skip
  go_loop [5, 6, 7] (fun v i _ => ∃ (k : Nat) (b : Int), k ≤ O.length ∧ i = .int .i64 k ∧ v = .int .i64 b ∧ 0 ≤ b ∧ b ≤ 1048576) (fun _ i _ => O.length - (intOf i).toNat)
  case atStart => exact ⟨0, _, Nat.zero_le _, rfl, rfl, by omega, by omega⟩
  case round =>
    obtain ⟨k, b, hk, rfl, rfl, hb0, hb1⟩ := hrel
    by_cases hlt : k < O.length
    · obtain ⟨ab, off, l, ai, ci, rfl, hll, c1, hrow⟩ := hr.at hlt
      have hlm := HL2.out k l hll
      have hlt' : (k : Int) < (O.length : Int) := by omega
      clear hll hr
      go_wp2
      all_goals first | (go_ret; exact ⟨⟨_, rfl⟩, rfl⟩) | skip
      go_loop [5, 7] (fun v j => ∃ (q : Nat) (b : Int), q ≤ l.length ∧ j = .int .i64 q ∧ v = .int .i64 b ∧ 0 ≤ b ∧ b ≤ 1048576) (fun _ j => l.length - (intOf j).toNat)
      case atStart => exact ⟨0, _, Nat.zero_le _, rfl, rfl, by omega, by omega⟩
      case round =>
        clear hb0 hb1
        obtain ⟨q, b, hq, rfl, rfl, hb0, hb1⟩ := hrel
        by_cases hqlt : q < l.length
        · obtain ⟨lb, lo, kk, vv, rfl, hkv, c2, c3⟩ := hrow.at hqlt
          have hq' : (q : Int) < (l.length : Int) := by omega
          clear hkv hrow
          go_wp2
          all_goals first | (go_ret; exact ⟨⟨_, rfl⟩, rfl⟩) | skip
          go_round
          case rel => exact ⟨q + 1, _, by omega, by go_num, rfl, by omega, by omega⟩
          case measure => simp [intOf]; omega
        · clear hrow
          go_wp2
          go_round
          case rel => exact ⟨k + 1, _, by omega, by go_num, rfl, by omega, by omega⟩
          case measure => simp [intOf]; omega
    · clear hr
      go_wp2
      all_goals first | (go_ret; exact ⟨⟨_, rfl⟩, rfl⟩) | skip
      go_loop [5, 8, 9] (fun v j _ => ∃ (q : Nat) (b : Int), q ≤ R.length ∧ j = .int .i64 q ∧ v = .int .i64 b ∧ 0 ≤ b ∧ b ≤ 1048576) (fun _ j _ => R.length - (intOf j).toNat)
      case atStart => exact ⟨0, _, Nat.zero_le _, rfl, rfl, by omega, by omega⟩
      case round =>
        clear hb0 hb1
        obtain ⟨q, b, hq, rfl, rfl, hb0, hb1⟩ := hrel
        by_cases hqlt : q < R.length
        · obtain ⟨lb, lo, ⟨key, vals, any, neg⟩, va, vc, rfl, hkv, c2, c3, c4, c5, hst⟩ := HP.out.at hqlt
          have hvm := HR2.out q _ hkv
          have hq' : (q : Int) < (R.length : Int) := by omega
          clear hkv c4 c5
          simp only at c2 c3 hst hvm
          go_wp2
          all_goals first | (go_ret; exact ⟨⟨_, rfl⟩, rfl⟩) | skip
          go_loop [5, 9] (fun v j => ∃ (p : Nat) (b : Int), p ≤ vals.length ∧ j = .int .i64 p ∧ v = .int .i64 b ∧ 0 ≤ b ∧ b ≤ 1048576) (fun _ j => vals.length - (intOf j).toNat)
          case atStart => exact ⟨0, _, Nat.zero_le _, rfl, rfl, by omega, by omega⟩
          case round =>
            clear hb0 hb1
            obtain ⟨p, b, hp, rfl, rfl, hb0, hb1⟩ := hrel
            by_cases hplt : p < vals.length
            · obtain ⟨sb, so, s, rfl, hs, c6⟩ := hst.at hplt
              have hp' : (p : Int) < (vals.length : Int) := by omega
              clear hs hst
              go_wp2
              all_goals first | (go_ret; exact ⟨⟨_, rfl⟩, rfl⟩) | skip
              go_round
              case rel => exact ⟨p + 1, _, by omega, by go_num, rfl, by omega, by omega⟩
              case measure => simp [intOf]; omega
            · clear hst
              go_wp2
              go_round
              case rel => exact ⟨q + 1, _, by omega, by go_num, rfl, by omega, by omega⟩
              case measure => simp [intOf]; omega
        · go_wp2
          go_ret
          exact ⟨⟨_, rfl⟩, rfl⟩

end Go.Proofs.Qxb6601049a
