import Derived.Test.Qxb6601049aPmC
import Derived.Test.Qxb6601049aBits
import Derived.RegionTactic
import Derived.ChangeAlike
namespace Go.Proofs.Qxb6601049a
open Go.ChangeShapes Go.WideShapes Go.ChangeAt Go.RowKit
set_option linter.unusedVariables false

theorem ret_bool {a b : Bool} (h : a = b) : Ending.returned (.bool a) = .returned (.bool b) := by rw [h]

def bitPost (v : Bool) (w : World) (e : Ending) (w' : World) : Prop := e = .returned (.bool v) ∧ ∃ m, w' = w.drewN m

def samePost (v : Value) (w : World) (e : Ending) (w' : World) : Prop := e = .returned v ∧ w' = w

set_option maxHeartbeats 400000 in
theorem bitOf_any (b off len cap j : Nat) (x : Nat) (w : World) (hx : W64 x) (hj : j ≤ 1048576) (hl : j / 64 < len) (hc : w.cell? ⟨b, off + j / 64, none⟩ = some (.int .u64 (x : Int))) :
    Calls Try.prog 13 #[.slice (some ⟨b, off, none⟩) len cap, .int .i64 (j : Int)] w (samePost (.bool (x.testBit (j % 64))) w) := by
  have hl' : (j : Int) / 64 < (len : Int) := by omega
  have e1 : ((j : Int) / 64).toNat = j / 64 := by omega
  go_enter Try.func13, Try.ntmps13
  go_wp2
  go_ret
  refine ⟨ret_bool ?_, rfl⟩
  rw [and63 j hj, wrap_small _ (Nat.mod_lt _ (by omega))]
  exact shr_bit x _ hx (Nat.mod_lt _ (by omega))

set_option maxHeartbeats 400000 in
theorem has_any (b off len cap j : Nat) (x : Nat) (w : World) (hx : W64 x) (hj : j ≤ 1048576) (hl : j / 64 < len) (hc : w.cell? ⟨b, off + j / 64, none⟩ = some (.int .u64 (x : Int))) :
    Calls Try.prog 50 #[.slice (some ⟨b, off, none⟩) len cap, .int .i64 (j : Int)] w (bitPost (x.testBit (j % 64)) w) := by
  have hl' : (j : Int) / 64 < (len : Int) := by omega
  have e1 : ((j : Int) / 64).toNat = j / 64 := by omega
  go_enter Try.func50, Try.ntmps50
  go_wp2
  go_quiet (fail)
  go_wp2
  go_ret
  exact ⟨ret_bool (has_bit x _ hx (Nat.mod_lt _ (by omega))), _, rfl⟩

def addPost (b off j x : Nat) (w : World) (e : Ending) (w' : World) : Prop :=
  e = .returned (.tuple #[]) ∧ w' = (w.setCell ⟨b, off + j / 64, none⟩ (.int .u64 ((x ||| 2 ^ (j % 64) : Nat) : Int))).drew

set_option maxHeartbeats 400000 in
theorem add_any (b off len cap j : Nat) (x : Nat) (w : World) (hx : W64 x) (hj : j ≤ 1048576) (hl : j / 64 < len) (hc : w.cell? ⟨b, off + j / 64, none⟩ = some (.int .u64 (x : Int))) (hf : w.frozen? ⟨b, off + j / 64, none⟩ = false) :
    Calls Try.prog 49 #[.slice (some ⟨b, off, none⟩) len cap, .int .i64 (j : Int)] w (addPost b off j x w) := by
  have hl' : (j : Int) / 64 < (len : Int) := by omega
  have e1 : ((j : Int) / 64).toNat = j / 64 := by omega
  go_enter Try.func49, Try.ntmps49
  go_wp2
  go_region
  all_goals
    go_end0
    refine ⟨rfl, ?_⟩
    rw [or_pow x _ hx (Nat.mod_lt _ (by omega))]

def bitsetPost (m : Nat) (w : World) (e : Ending) (w' : World) : Prop :=
  e = .returned (.slice (some ⟨w.heap.size, 0, none⟩) m m) ∧ w'.ownsRow w.heap.size 72 1 (.slice (some ⟨w.heap.size, 0, none⟩) m m) m (List.replicate m (.int .u64 0)) ∧ Below w.heap.size w w'

set_option maxHeartbeats 400000 in
theorem newBitset_any (n : Nat) (w : World) (hn : n ≤ 1048576) :
    Calls Try.prog 48 #[.int .i64 (n : Int)] w (bitsetPost ((n + 63) / 64) w) := by
  obtain ⟨i0, hi, hz0, hz1, hz2⟩ := info_parts Try.info72
  go_enter Try.func48, Try.ntmps48
  go_wp2_with (first | (at_make; refine wpList_make_full _ rfl _ _ 73 rfl w.heap.size 72 i0 (.int .u64 0) 1 Try.underlying73 hi hz0 hz1 .i64 .i64 _ _ ((n + 63) / 64) rfl rfl (by omega) (by omega) ?_ ?_ ?_ ?_) | go_in)
  · rw [hz2]; omega
  · unfold maxLen; omega
  · exact Nat.le_refl _
  intro w1 hown hgrow
  have hb1 : Below w.heap.size w w1 := (Below.refl _ _).grown hgrow (Nat.le_refl _) (fun k h => by cases h)
  have HO := hide hown
  clear hown hgrow
  go_wp2
  go_ret
  refine ⟨rfl, ?_, hb1⟩
  have := HO.out
  simpa [Value.cells, toList_madeCells_one] using this

end Go.Proofs.Qxb6601049a
