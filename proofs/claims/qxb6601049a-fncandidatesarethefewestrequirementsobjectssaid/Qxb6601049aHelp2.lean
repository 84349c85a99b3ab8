import Derived.Test.Qxb6601049aHelp
namespace Go.Proofs.Qxb6601049a
open Go.ChangeShapes Go.WideShapes Go.ChangeAt Go.RowKit
set_option linter.unusedVariables false

/-- the objects' sizes are small -/
def SmallO (O : List (List (ByteArray × ByteArray))) : Prop := O.length ≤ 1048576 ∧ ∀ (i : Nat) (l : List (ByteArray × ByteArray)), O[i]? = some l → l.length ≤ 1048576

theorem getD_of {α : Type} {O : List α} {i : Nat} {l d : α} (h : O[i]? = some l) : O.getD i d = l := by simp [List.getD_eq_getElem?_getD, h]

theorem scan_hit {O : List (List (ByteArray × ByteArray))} {key : ByteArray} {x : Option ByteArray} {i n : Nat} (hi : i < n) (h : carT (O.getD i []) key x = true) : (scan O key x i).length < (scan O key x n).length ∧ (scan O key x n).getD (scan O key x i).length 0 = i := by
  obtain ⟨r, hr⟩ := scan_prefix (O := O) (key := key) (x := x) (i := i + 1) (n := n) (by omega)
  have e : scan O key x (i + 1) = scan O key x i ++ [i] := by rw [scan, if_pos h]
  rw [e, List.append_assoc] at hr
  rw [hr]
  constructor
  · simp
  · simp [List.getD_eq_getElem?_getD]

set_option maxHeartbeats 400000 in
theorem listIsScan_any (a : Option Addr) (O : List (List (ByteArray × ByteArray))) (c : Nat) (key value : ByteArray) (bv : Bool) (x : Option ByteArray) (hx : x = if bv then some value else none) (la : Option Addr) (lc : Nat) (L : List Nat) (w : World) (hr : ObjRow w a O) (hs : SmallO O)
    (hL : NRow .i64 w la L) (hLs : L = scan O key x O.length) :
    Calls Try.prog 25 #[.slice a O.length c, .string key, .string value, .bool bv, .slice la L.length lc] w (samePost (.bool true) w) := by
  have hS := hide hs
  have HCA := hide (fun (a : Option Addr) (l : List (ByteArray × ByteArray)) (c : Nat) (w : World) (h : LblRow w a l) (hl : l.length ≤ 1048576) => hx ▸ carries_any a l c key value bv w h hl)
  clear hx
  have hs1 := hs.1
  have hLl : L.length ≤ O.length := by rw [hLs]; exact scan_len _ _ _ _
  have HLS := hide hLs
  clear hs hLs
  go_enter Try.func25, Try.ntmps25
  go_wp2
  go_loop [11, 12] (fun p i => ∃ k : Nat, k ≤ O.length ∧ i = .int .i64 k ∧ p = .int .i64 (scan O key x k).length) (fun _ i => O.length - (intOf i).toNat)
  case atStart => exact ⟨0, Nat.zero_le _, rfl, rfl⟩
  case round =>
    obtain ⟨k, hk, rfl, rfl⟩ := hrel
    have hkl := scan_len O key x k
    by_cases hlt : k < O.length
    · obtain ⟨b, off, l, ai, ci, rfl, hl, c1, hrow⟩ := hr.at hlt
      have hll := hS.out.2 k l hl
      have HL := hide hl
      have HSC : Hid (scan O key x (k + 1) = if carT l key x then scan O key x k ++ [k] else scan O key x k) := by
        show _ = _
        rw [scan, getD_of hl]
      have HHIT : Hid (carT l key x = true → (scan O key x k).length < L.length ∧ L.getD (scan O key x k).length 0 = k) := by
        intro h
        rw [HLS.out]
        exact scan_hit hlt (by rw [getD_of hl]; exact h)
      have HC := hide (fun w h => HCA.out ai l ci w h hll)
      clear hl
      generalize (scan O key x k) = S at *
      cases hcar : carT l key x
      · have HCAR := hide hcar
        clear hcar
        go_wp2_with fail
        refine (HC.out w hrow).mono ?_
        rw [HCAR.out]
        rintro e w1 ⟨rfl, rfl⟩
        clear hr hL hrow
        go_wp2
        go_round
        case rel => exact ⟨k + 1, by omega, by go_num, by rw [HSC.out, HCAR.out]; rfl⟩
        case measure => simp [intOf]; omega
      · obtain ⟨h1, h2⟩ := HHIT.out hcar
        have HCAR := hide hcar
        rcases hL with hL | ⟨lb, lo, rfl, hLc⟩
        · omega
        have hcx := hLc _ h1
        rw [h2] at hcx
        have h1' : ¬ (L.length : Int) ≤ (S.length : Int) := by omega
        clear hcar h2 hLc
        go_wp2_with fail
        refine (HC.out w hrow).mono ?_
        rw [HCAR.out]
        rintro e w1 ⟨rfl, rfl⟩
        clear hr hrow
        go_wp2
        go_round
        case rel => exact ⟨k + 1, by omega, by go_num, by rw [HSC.out, HCAR.out]; simp⟩
        case measure => simp [intOf]; omega
    · have hkl : k = O.length := by omega
      have HE : Hid ((scan O key x k).length = L.length) := by show _ = _; rw [HLS.out, hkl]
      rw [HE.out]
      clear hkl hr hL HE
      go_wp2
      go_ret
      exact ⟨ret_bool (by simp), rfl⟩

end Go.Proofs.Qxb6601049a
