import Derived.Test.Qxb6601049aData
namespace Go.Proofs.Qxb6601049a
open Go.ChangeShapes Go.WideShapes Go.ChangeAt Go.RowKit
set_option linter.unusedVariables false

theorem ret2 {a b a' b' : Value} (h1 : a = a') (h2 : b = b') : Ending.returned (.tuple #[a, b]) = .returned (.tuple #[a', b']) := by rw [h1, h2]

set_option maxHeartbeats 400000 in
theorem lookupLabel_any (a : Option Addr) (l : List (ByteArray × ByteArray)) (c : Nat) (key : ByteArray) (w : World) (hr : LblRow w a l) (hl : l.length ≤ 1048576) :
    Calls Try.prog 40 #[.slice a l.length c, .string key] w (samePost (.tuple #[.string ((llk l key).getD ⟨#[]⟩), .bool (llk l key).isSome]) w) := by
  go_enter Try.func40, Try.ntmps40
  go_wp2
  go_loop [6, 7, 8] (fun v h i => ∃ k : Nat, k ≤ l.length ∧ i = .int .i64 k ∧ v = .string ((llk (l.take k) key).getD ⟨#[]⟩) ∧ h = .bool (llk (l.take k) key).isSome) (fun _ _ i => l.length - (intOf i).toNat)
  case atStart => exact ⟨0, Nat.zero_le _, rfl, rfl, rfl⟩
  case round =>
    obtain ⟨k, hk, rfl, rfl, rfl⟩ := hrel
    by_cases hlt : k < l.length
    · obtain ⟨b, off, kk, vv, rfl, hkv, c1, c2⟩ := hr.at hlt
      have HS := hide (llk_take hkv key)
      have HKV := hide hkv
      clear hkv hr
      generalize llk (l.take k) key = cur at HS
      by_cases he : kk = key
      · subst he
        have e1 := eqS_self kk
        have HS' := hide (HS.out.trans (if_pos rfl))
        clear HS
        go_wp2
        go_round
        case rel => exact ⟨k + 1, by omega, by go_num, by rw [HS'.out]; rfl, by rw [HS'.out]; rfl⟩
        case measure => simp [intOf]; omega
      · have e1 := eqS_ne he
        have HS' := hide (HS.out.trans (if_neg he))
        clear HS he
        go_wp2
        go_round
        case rel => exact ⟨k + 1, by omega, by go_num, by rw [HS'.out], by rw [HS'.out]⟩
        case measure => simp [intOf]; omega
    · have hkl : l.take k = l := List.take_of_length_le (by omega)
      rw [hkl]
      clear hkl hr
      go_wp2
      go_ret2
      exact ⟨rfl, rfl⟩

theorem carT_none {l : List (ByteArray × ByteArray)} {key : ByteArray} (h : llk l key = none) (x : Option ByteArray) : carT l key x = false := by simp [carT, h]
theorem carT_key {l : List (ByteArray × ByteArray)} {key v : ByteArray} (h : llk l key = some v) : carT l key none = true := by simp [carT, h]
theorem carT_val {l : List (ByteArray × ByteArray)} {key v : ByteArray} (h : llk l key = some v) (u : ByteArray) : carT l key (some u) = decide (v = u) := by simp [carT, h]

set_option maxHeartbeats 400000 in
theorem carries_any (a : Option Addr) (l : List (ByteArray × ByteArray)) (c : Nat) (key value : ByteArray) (bv : Bool) (w : World) (hr : LblRow w a l) (hl : l.length ≤ 1048576) :
    Calls Try.prog 45 #[.slice a l.length c, .string key, .string value, .bool bv] w (samePost (.bool (carT l key (if bv then some value else none))) w) := by
  cases hk : llk l key with
  | none =>
    have HK := hide hk
    rw [carT_none hk]
    clear hk
    go_enter Try.func45, Try.ntmps45
    go_wp2_with fail
    refine (lookupLabel_any a l c key w hr hl).mono ?_
    rw [HK.out]
    rintro e w1 ⟨rfl, rfl⟩
    clear hr
    go_wp2
    go_ret
    exact ⟨rfl, rfl⟩
  | some v =>
    have HK := hide hk
    cases bv
    · simp only [Bool.false_eq_true, if_false]
      rw [carT_key hk]
      clear hk
      go_enter Try.func45, Try.ntmps45
      go_wp2_with fail
      refine (lookupLabel_any a l c key w hr hl).mono ?_
      rw [HK.out]
      rintro e w1 ⟨rfl, rfl⟩
      clear hr
      go_wp2
      go_ret
      exact ⟨rfl, rfl⟩
    · simp only [if_true]
      rw [carT_val hk, ← eqS]
      clear hk
      go_enter Try.func45, Try.ntmps45
      go_wp2_with fail
      refine (lookupLabel_any a l c key w hr hl).mono ?_
      rw [HK.out]
      rintro e w1 ⟨rfl, rfl⟩
      clear hr
      go_wp2
      go_ret
      exact ⟨ret_bool (by simp), rfl⟩

end Go.Proofs.Qxb6601049a
