import Derived.Test.Qxb6601060aA
import Derived.Test.Qxb6601060aPlain
namespace Go.Proofs.Qxb6601060a
open Go.ChangeShapes Go.WideShapes Go.ChangeAt Go.RowKit
set_option linter.unusedVariables false

theorem Below.one (w : World) (o : Obj) : Below w.heap.size w (w.alloc o) := (Below.refl _ _).alloc (Nat.le_refl _) _


theorem last_val (x len ds : Nat) (hx : x < 256) (h1 : ds ≤ 8 * (len + 1)) (h2 : 8 * (len + 1) < ds + 8) : bits .and .u8 (x : Int) (255 * 2 ^ (8 * (len + 1) - ds) % 256) = ((octN x (ds - 8 * len) : Nat) : Int) := by
  have e : (255 * 2 ^ (8 * (len + 1) - ds) % 256 : Int) = ((255 * 2 ^ (8 * (len + 1) - ds) % 256 : Nat) : Int) := by simp
  rw [e, and_u8 _ _ hx (Nat.mod_lt _ (by omega))]
  unfold octN
  by_cases h : 8 ≤ ds - 8 * len
  · rw [if_pos h, show 8 * (len + 1) - ds = 0 by omega]
    have := want_oct_small ⟨x, hx⟩ ⟨8, by omega⟩
    have h3 : x &&& 255 = x := by
      rw [show (255 : Nat) = 2 ^ 8 - 1 by rfl, Nat.and_two_pow_sub_one_eq_mod]; exact Nat.mod_eq_of_lt hx
    simp [h3]
  · rw [if_neg h, show 8 * (len + 1) - ds = 8 - (ds - 8 * len) by omega]

set_option maxHeartbeats 400000 in
theorem octet_any (sp cp dp : Int) (ds len cap b off k x : Nat) (w : World) (hlen : len ≤ 65536) (hk : k < len) (hds : ds ≤ 8 * len) (hds2 : 8 * len < ds + 8) (hx : x < 256)
    (hc : w.cell? ⟨b, off + k, none⟩ = some (.int .u8 (x : Int))) :
    Calls Try.prog 22 #[.agg #[.int .i64 sp, .int .i64 cp, .int .i64 dp, .int .i64 (ds : Int), .slice (some ⟨b, off, none⟩) len cap], .int .i64 (k : Int)] w
      (valPost (.int .u8 ((octN x (ds - 8 * k) : Nat) : Int)) w) := by
  have hbw := World.block_lt_of_cell? w _ hc
  by_cases hk2 : k + 1 = len
  · subst hk2
    have hk1 : (k : Int) < ((k + 1 : Nat) : Int) := by omega
    go_enter Try.func22, Try.ntmps22
    go_wp2
    go_ret
    exact ⟨ret_int (last_val x k ds hx hds hds2), Below.one _ _⟩
  · have hk1 : ((k : Int) == (len : Int) - 1) = false := by simp; omega
    have e : octN x (ds - 8 * k) = x := by unfold octN; rw [if_pos (by omega)]
    rw [e]
    clear e
    go_enter Try.func22, Try.ntmps22
    go_wp2
    go_ret
    exact ⟨rfl, Below.one _ _⟩

set_option maxHeartbeats 400000 in
theorem zzOctet_any (sp cp dp : Int) (ds len cap b off k x : Nat) (w : World) (hlen : len ≤ 65536) (hk : k < len) (hds : ds ≤ 8 * len) (hds2 : 8 * len < ds + 8) (hx : x < 256)
    (hc : w.cell? ⟨b, off + k, none⟩ = some (.int .u8 (x : Int))) :
    Calls Try.prog 18 #[.agg #[.int .i64 sp, .int .i64 cp, .int .i64 dp, .int .i64 (ds : Int), .slice (some ⟨b, off, none⟩) len cap], .int .i64 (k : Int)] w
      (valPost (.int .u8 ((octN x (ds - 8 * k) : Nat) : Int)) w) := by
  have hbw := World.block_lt_of_cell? w _ hc
  go_enter Try.func18, Try.ntmps18
  go_wp2_with fail
  refine (octet_any sp cp dp ds len cap b off k x _ hlen hk hds hds2 hx ((Below.one w _).cell hbw |>.trans hc)).mono ?_
  rintro e w1 ⟨rfl, hb⟩
  go_wp2
  go_ret
  exact ⟨rfl, (Below.one _ _).trans (hb.mono (by simp))⟩

set_option maxHeartbeats 400000 in
theorem zzBytes17_any (ds k : Int) (a : Option Addr) (len cap : Nat) (w : World) (h : len ≤ maxLen) :
    Calls Try.prog 17 #[.int .i64 ds, .slice a len cap, .int .i64 k] w (somePost w) := by
  unfold maxLen at h
  go_enter Try.func17, Try.ntmps17
  go_wp2
  all_goals (go_ret; exact ⟨⟨_, rfl⟩, rfl⟩)

set_option maxHeartbeats 400000 in
theorem zzBytes15_any (a0 a1 a2 a3 a5 : Int) (a : Option Addr) (len cap : Nat) (w : World) (h : len ≤ maxLen) :
    Calls Try.prog 15 #[.int .i64 a0, .int .i64 a1, .int .i64 a2, .int .i64 a3, .slice a len cap, .int .i64 a5] w (somePost w) := by
  unfold maxLen at h
  go_enter Try.func15, Try.ntmps15
  go_wp2
  all_goals (go_ret; exact ⟨⟨_, rfl⟩, rfl⟩)

set_option maxHeartbeats 400000 in
theorem zzBytes19_any (a0 a1 a2 k : Int) (a : Option Addr) (len cap : Nat) (w : World) (h : len ≤ maxLen) :
    Calls Try.prog 19 #[.int .i64 a0, .int .i64 a1, .int .i64 a2, .slice a len cap, .int .i64 k] w (somePost w) := by
  unfold maxLen at h
  go_enter Try.func19, Try.ntmps19
  go_wp2
  all_goals (go_ret; exact ⟨⟨_, rfl⟩, rfl⟩)

end Go.Proofs.Qxb6601060a
