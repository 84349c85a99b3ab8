import Derived.Test.Qxb6601049aPmF
namespace Go.Proofs.Qxb6601049a
open Go.ChangeShapes Go.WideShapes Go.ChangeAt Go.RowKit
set_option linter.unusedVariables false

/-- no word among the first k meets -/
def NoMeet (ws ss : List Nat) (k : Nat) : Prop := ∀ q, q < k → (bits BinOp.and IntKind.u64 ((ws.getD q 0 : Nat) : Int) ((ss.getD q 0 : Nat) : Int) != 0) = false

theorem meet_hit {l ws ss : List Nat} {q : Nat} (hw : AllW ws) (hs : AllW ss) (hbits : ∀ i, bitW ws i = decide (i ∈ l)) (h : (bits BinOp.and IntKind.u64 ((ws.getD q 0 : Nat) : Int) ((ss.getD q 0 : Nat) : Int) != 0) = true) : l.any (bitW ss) = true := by
  obtain ⟨r, hr, h1, h2⟩ := (meet_word _ _ (hw.getD q) (hs.getD q)).1 h
  have e1 : (64 * q + r) / 64 = q := by omega
  have e2 : (64 * q + r) % 64 = r := by omega
  have h3 : bitW ws (64 * q + r) = true := by unfold bitW; rw [e1, e2]; exact h1
  have h4 : bitW ss (64 * q + r) = true := by unfold bitW; rw [e1, e2]; exact h2
  rw [hbits] at h3
  exact List.any_eq_true.2 ⟨_, of_decide_eq_true h3, h4⟩

theorem meet_miss {l ws ss : List Nat} {m : Nat} (hw : AllW ws) (hs : AllW ss) (hbits : ∀ i, bitW ws i = decide (i ∈ l)) (hl : ∀ j ∈ l, j / 64 < m) (h : NoMeet ws ss m) : l.any (bitW ss) = false := by
  rw [List.any_eq_false]
  intro i hi hb
  have h3 : bitW ws i = true := by rw [hbits]; simp [hi]
  have h4 := h (i / 64) (hl i hi)
  have h5 := (meet_word _ _ (hw.getD (i / 64)) (hs.getD (i / 64))).2 ⟨i % 64, Nat.mod_lt _ (by omega), h3, hb⟩
  rw [h4] at h5
  cases h5

set_option maxHeartbeats 400000 in
theorem meets_set (a : Option Addr) (cap : Nat) (l : List Nat) (sa : Option Addr) (cs : Nat) (ss : List Nat) (g m : Nat) (ws : List Nat) (w : World) (hj : ∀ j ∈ l, j / 64 < m) (hm : m ≤ 1048576) (hss : AllW ss) (hws : AllW ws) (hwl : ws.length = m) (hsl : ss.length = m)
    (hr : NRow .u64 w (some ⟨g, 0, none⟩) ws) (hs : NRow .u64 w sa ss) (hbits : ∀ i, bitW ws i = decide (i ∈ l)) :
    Calls Try.prog 43 #[.agg #[.slice a l.length cap, .slice (some ⟨g, 0, none⟩) m m], .slice sa m cs] w (meetsPost l ss w) := by
  have hne := fun w a n c => Lib.run_eql_slice_nil (P := Try.prog) w 73 72 a n c 0 0 Try.underlying73
  have HIT := hide (fun q => meet_hit (q := q) hws hss hbits)
  have MISS := hide (meet_miss hws hss hbits hj)
  have HW := hide hws
  have HS := hide hss
  have HWL := hide hwl
  have HSL := hide hsl
  clear hj hss hws hbits hwl hsl
  have hbl : Below w.heap.size w (w.alloc (.cells #[.slice a l.length cap, .slice (some ⟨g, 0, none⟩) m m] 75)) := (Below.refl _ _).alloc (Nat.le_refl _) _
  have HB := hide hbl
  clear hbl
  go_enter Try.func43, Try.ntmps43
  go_wp2
  go_loop [7, 8, 26] (fun _ _ i => ∃ k : Nat, k ≤ m ∧ i = .int .i64 k ∧ Hid (NoMeet ws ss k)) (fun _ _ i => m - (intOf i).toNat)
  case atStart => exact ⟨0, Nat.zero_le _, rfl, fun q hq => absurd hq (Nat.not_lt_zero _)⟩
  case round =>
    obtain ⟨k, hk, rfl, hno⟩ := hrel
    by_cases hlt : k < m
    · rcases hr with hr | ⟨b, off, hg, hcell⟩
      · have := HWL.out; omega
      rcases hs with hs | ⟨b', off', rfl, hcell'⟩
      · have := HSL.out; omega
      obtain ⟨rfl, rfl⟩ : g = b ∧ off = 0 := by simp at hg; exact ⟨hg.1, hg.2.symm⟩
      have hc0 := hcell k (by rw [HWL.out]; exact hlt)
      have hc0' := hcell' k (by rw [HSL.out]; exact hlt)
      have hbw := World.block_lt_of_cell? w _ hc0
      have hbw' := World.block_lt_of_cell? w _ hc0'
      rw [Nat.zero_add] at hc0
      have hit := HIT.out k
      have hnos : (bits BinOp.and IntKind.u64 ((ws.getD k 0 : Nat) : Int) ((ss.getD k 0 : Nat) : Int) != 0) = false → NoMeet ws ss (k + 1) := by
        intro h q hq
        by_cases e : q = k
        · subst e; exact h
        · exact hno.out q (by omega)
      generalize ws.getD k 0 = x at *
      generalize ss.getD k 0 = y at *
      have HNOS := hide hnos
      have HITK := hide hit
      clear hnos hit hcell hcell' hg hno HIT
      cases hbit : (bits BinOp.and IntKind.u64 (x : Int) (y : Int) != 0)
      · go_wp2
        go_round
        case rel => exact ⟨k + 1, by omega, by go_num, HNOS.out hbit⟩
        case measure => simp [intOf]; omega
      · go_wp2
        go_ret
        exact ⟨ret_bool (HITK.out hbit).symm, HB.out⟩
    · have hkl : k = m := by omega
      have HF : Hid (l.any (bitW ss) = false) := MISS.out (by rw [← hkl]; exact hno.out)
      clear hkl hno
      go_wp2
      go_ret
      exact ⟨ret_bool HF.out.symm, HB.out⟩

set_option maxHeartbeats 400000 in
theorem zzMeets_any (a : Option Addr) (cap : Nat) (l : List Nat) (sa : Option Addr) (cs : Nat) (ss : List Nat) (n : Nat) (w : World) (hn : n ≤ 65536) (hl : ∀ j ∈ l, j < n) (hlen : l.length ≤ 1048576) (hss : AllW ss) (hsl : ss.length = (n + 63) / 64) (hr : NRow .i64 w a l) (hs : NRow .u64 w sa ss) :
    Calls Try.prog 12 #[.slice a l.length cap, .int .i64 (n : Int), .slice sa ss.length cs] w (meetsPost l ss w) := by
  have HSL := hide hsl
  have HL := hide hl
  have HSS := hide hss
  clear hsl hl hss
  go_enter Try.func12, Try.ntmps12
  go_wp2_with fail
  refine (newPosting_any a cap l n w (by omega) HL.out hlen hr).mono ?_
  rintro e w1 ⟨a', m', rfl, hps, hb⟩
  have HPS := hide hps
  clear hps
  have hr1 := hr.below hb
  have hs1 := hs.below hb
  go_wp2_with fail
  rcases HPS.out with ⟨h1, rfl, rfl⟩ | ⟨h1, rfl, g, ws, rfl, hwl, haw, hnr, hbits⟩
  · refine (meets_list a cap l sa cs ss w1 (fun j hj => ⟨?_, ?_⟩) hlen HSS.out hr1 hs1).mono ?_
    · have := HL.out j hj; have := HSL.out; omega
    · have := HL.out j hj; omega
    rintro e w2 ⟨rfl, hb2⟩
    go_wp2
    go_ret
    exact ⟨rfl, hb.trans (hb2.mono hb.size)⟩
  · rw [HSL.out]
    refine (meets_set a cap l sa cs ss g ((n + 63) / 64) ws w1 (fun j hj => ?_) (by omega) HSS.out haw hwl HSL.out hnr hs1 hbits).mono ?_
    · have := HL.out j hj; omega
    rintro e w2 ⟨rfl, hb2⟩
    go_wp2
    go_ret
    exact ⟨rfl, hb.trans (hb2.mono hb.size)⟩

end Go.Proofs.Qxb6601049a
