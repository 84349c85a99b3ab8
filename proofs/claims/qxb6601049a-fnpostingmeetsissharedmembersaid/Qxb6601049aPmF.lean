import Derived.Test.Qxb6601049aPmE
namespace Go.Proofs.Qxb6601049a
open Go.ChangeShapes Go.WideShapes Go.ChangeAt Go.RowKit
set_option linter.unusedVariables false

def meetsPost (l ss : List Nat) (w : World) (e : Ending) (w' : World) : Prop := e = .returned (.bool (l.any (bitW ss))) ∧ Below w.heap.size w w'

theorem any_take_succ (l : List Nat) (p : Nat → Bool) (k : Nat) (hk : k < l.length) : (l.take (k + 1)).any p = ((l.take k).any p || p (l.getD k 0)) := by
  rw [List.take_add_one, List.any_append, List.getElem?_eq_getElem hk]
  simp [List.getD_eq_getElem?_getD, hk]

theorem any_of_take {l : List Nat} {p : Nat → Bool} {k : Nat} (hk : k < l.length) (h : p (l.getD k 0) = true) : l.any p = true :=
  List.any_eq_true.2 ⟨_, getD_mem hk, h⟩

theorem any_nil_take {l : List Nat} {p : Nat → Bool} (h : (l.take l.length).any p = false) : l.any p = false := by rwa [List.take_length] at h

set_option maxHeartbeats 400000 in
theorem meets_list (a : Option Addr) (cap : Nat) (l : List Nat) (sa : Option Addr) (cs : Nat) (ss : List Nat) (w : World) (hj : ∀ j ∈ l, j / 64 < ss.length ∧ j ≤ 1048576) (hlen : l.length ≤ 1048576) (hss : AllW ss) (hr : NRow .i64 w a l) (hs : NRow .u64 w sa ss) :
    Calls Try.prog 43 #[.agg #[.slice a l.length cap, .slice none 0 0], .slice sa ss.length cs] w (meetsPost l ss w) := by
  have hne := fun w a n c => Lib.run_eql_slice_nil (P := Try.prog) w 73 72 a n c 0 0 Try.underlying73
  have HJ := hide hj
  have HS := hide hss
  clear hj hss
  have hbl : Below w.heap.size w (w.alloc (.cells #[.slice a l.length cap, .slice none 0 0] 75)) := (Below.refl _ _).alloc (Nat.le_refl _) _
  have HB := hide hbl
  clear hbl
  go_enter Try.func43, Try.ntmps43
  go_wp2
  go_loopw [6, 15] (fun _ i wr => ∃ k : Nat, k ≤ l.length ∧ i = .int .i64 k ∧ Hid ((l.take k).any (bitW ss) = false) ∧ ∃ m, wr = (w.alloc (.cells #[.slice a l.length cap, .slice none 0 0] 75)).drewN m) (fun _ i _ => l.length - (intOf i).toNat)
  case atStart => exact ⟨0, Nat.zero_le _, rfl, by simp [Hid], 0, rfl⟩
  case round =>
    obtain ⟨k, hk, rfl, hany, m, rfl⟩ := hrel
    by_cases hlt : k < l.length
    · rcases hr with hr | ⟨b, off, rfl, hcell⟩
      · omega
      have hc0 := hcell k hlt
      have hbw := World.block_lt_of_cell? w _ hc0
      obtain ⟨hj64, hjn⟩ := HJ.out _ (getD_mem hlt)
      rcases hs with hs | ⟨b', off', rfl, hcell'⟩
      · omega
      have hc0' := hcell' _ hj64
      have hbw' := World.block_lt_of_cell? w _ hc0'
      have hsucc := any_take_succ l (bitW ss) k hlt
      rw [hany.out, Bool.false_or] at hsucc
      have hof := any_of_take (p := bitW ss) hlt
      have hwx := HS.out.getD (l.getD k 0 / 64)
      unfold bitW at hsucc hof
      generalize l.getD k 0 = j at *
      generalize ss.getD (j / 64) 0 = x at *
      have HX := hide hwx
      have HSU := hide hsucc
      have HOF := hide hof
      clear hwx hsucc hof hcell hcell'
      cases hbit : x.testBit (j % 64)
      all_goals
        have HBIT := hide hbit
        clear hbit
        go_wp2_with fail
        refine (has_any b' off' ss.length cs j x _ HX.out hjn hj64 (by exact (HB.out.cell (p := ⟨b', off' + j / 64, none⟩) hbw').trans hc0')).mono ?_
        rw [HBIT.out]
        rintro e w2 ⟨rfl, m2, rfl⟩
        go_wp2
      · go_roundw
        case rel => exact ⟨k + 1, by omega, by go_num, HSU.out.trans HBIT.out, _, by first | rfl | exact drewN_drewN _ _ _⟩
        case measure => simp [intOf]; omega
      · go_ret
        refine ⟨ret_bool (HOF.out HBIT.out).symm, ?_⟩
        exact below_drewN (HB.out) _
    · have hkl : k = l.length := by omega
      have HF : Hid (l.any (bitW ss) = false) := any_nil_take (by rw [← hkl]; exact hany.out)
      clear hkl hany
      go_wp2
      go_ret
      exact ⟨ret_bool HF.out.symm, below_drewN HB.out _⟩

end Go.Proofs.Qxb6601049a
