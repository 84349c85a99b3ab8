import Derived.Test.Qxb6601049aHelp3
namespace Go.Proofs.Qxb6601049a
open Go.ChangeShapes Go.WideShapes Go.ChangeAt Go.RowKit
set_option linter.unusedVariables false

/-- the first place of a string -/
def FIdx (S : List ByteArray) (s : ByteArray) (r : Int) : Prop := (r = -1 ∧ s ∉ S) ∨ ∃ t : Nat, r = (t : Int) ∧ S[t]? = some s ∧ ∀ j, j < t → S[j]? ≠ some s
def fidxPost (S : List ByteArray) (s : ByteArray) (w : World) (e : Ending) (w' : World) : Prop := ∃ r : Int, e = .returned (.int .i64 r) ∧ FIdx S s r ∧ w' = w

theorem FIdx.neg {S : List ByteArray} {s : ByteArray} {r : Int} (h : FIdx S s r) : r < 0 ↔ s ∉ S := by
  rcases h with ⟨rfl, h⟩ | ⟨t, rfl, h1, h2⟩
  · simp [h]
  · have : s ∈ S := List.mem_of_getElem? h1
    simp [this]

set_option maxHeartbeats 400000 in
theorem firstIndexOf_any (a : Option Addr) (S : List ByteArray) (c : Nat) (s : ByteArray) (w : World) (hr : StrRow w a S) (hl : S.length ≤ 1048576) :
    Calls Try.prog 38 #[.slice a S.length c, .string s] w (fidxPost S s w) := by
  go_enter Try.func38, Try.ntmps38
  go_wp2
  go_loop [5] (fun i => ∃ k : Nat, k ≤ S.length ∧ i = .int .i64 k ∧ Hid (∀ j, j < k → S[j]? ≠ some s)) (fun i => S.length - (intOf i).toNat)
  case atStart => exact ⟨0, Nat.zero_le _, rfl, fun j hj => absurd hj (Nat.not_lt_zero _)⟩
  case round =>
    obtain ⟨k, hk, rfl, HN⟩ := hrel
    by_cases hlt : k < S.length
    · obtain ⟨b, off, t, rfl, ht, c1⟩ := hr.at hlt
      have HT := hide ht
      clear ht hr
      by_cases he : t = s
      · subst he
        have e1 := eqS_self t
        go_wp2
        go_ret
        exact ⟨_, rfl, .inr ⟨k, rfl, HT.out, HN.out⟩, rfl⟩
      · have e1 := eqS_ne he
        have HN' : Hid (∀ j, j < k + 1 → S[j]? ≠ some s) := by
          intro j hj hc
          by_cases hjk : j = k
          · subst hjk; rw [HT.out] at hc; cases hc; exact he rfl
          · exact HN.out j (by omega) hc
        clear he
        go_wp2
        go_round
        case rel => exact ⟨k + 1, by omega, by go_num, HN'⟩
        case measure => simp [intOf]; omega
    · clear hr
      go_wp2
      go_ret
      refine ⟨_, rfl, .inl ⟨rfl, fun hm => ?_⟩, rfl⟩
      obtain ⟨j, hj, e⟩ := List.mem_iff_getElem.1 hm
      exact HN.out j (by omega) (by rw [List.getElem?_eq_getElem hj, e])

/-- a requirement -/
structure Rq where
  key : ByteArray
  vals : List ByteArray
  any : Bool
  neg : Bool

/-- is the string among them? -/
def inB (S : List ByteArray) (v : ByteArray) : Bool := S.any (fun u => decide (u = v))
theorem inB_iff (S : List ByteArray) (v : ByteArray) : inB S v = true ↔ v ∈ S := by
  simp [inB]
theorem inB_false {S : List ByteArray} {v : ByteArray} (h : v ∉ S) : inB S v = false := by
  cases e : inB S v with
  | false => rfl
  | true => exact absurd ((inB_iff S v).1 e) h

/-- met, negation aside -/
def posB (l : List (ByteArray × ByteArray)) (r : Rq) : Bool :=
  match llk l r.key with
  | none => false
  | some v => r.any || inB r.vals v
def meetB (l : List (ByteArray × ByteArray)) (r : Rq) : Bool := posB l r != r.neg

def boolPost (v : Bool) (w : World) (e : Ending) (w' : World) : Prop := e = .returned (.bool v) ∧ Below w.heap.size w w'

theorem Below.one (w : World) (o : Obj) : Below w.heap.size w (w.alloc o) := (Below.refl _ _).alloc (Nat.le_refl _) _

set_option maxHeartbeats 800000 in
theorem meetsReq_any (a : Option Addr) (l : List (ByteArray × ByteArray)) (c : Nat) (r : Rq) (va : Option Addr) (vc : Nat) (w : World) (hr : LblRow w a l) (hl : l.length ≤ 1048576) (hv : StrRow w va r.vals) (hvl : r.vals.length ≤ 1048576) :
    Calls Try.prog 37 #[.slice a l.length c, .agg #[.string r.key, .slice va r.vals.length vc, .bool r.any, .bool r.neg]] w (boolPost (meetB l r) w) := by
  obtain ⟨key, vals, any, neg⟩ := r
  have HR := hide hr
  have HV := hide hv
  clear hr hv
  simp only at hvl HV ⊢
  cases hk : llk l key with
  | none =>
    have em : meetB l ⟨key, vals, any, neg⟩ = (false != neg) := by simp [meetB, posB, hk]
    rw [em]
    have HK := hide hk
    clear hk em
    cases any
    all_goals
      cases neg
      all_goals
        go_enter Try.func37, Try.ntmps37
        go_wp2_with fail
        refine (lookupLabel_any a l c key _ (HR.out.below (Below.one _ _)) hl).mono ?_
        rw [HK.out]
        rintro e w1 ⟨rfl, rfl⟩
        go_wp2
        go_ret
        exact ⟨rfl, Below.one _ _⟩
  | some v =>
    have HK := hide hk
    cases any
    · have em : meetB l ⟨key, vals, false, neg⟩ = (inB vals v != neg) := by simp [meetB, posB, hk]
      rw [em]
      clear hk em
      by_cases hm : v ∈ vals
      · rw [(inB_iff _ _).2 hm]
        have HM := hide hm
        clear hm
        cases neg
        all_goals
          go_enter Try.func37, Try.ntmps37
          go_wp2_with fail
          refine (lookupLabel_any a l c key _ (HR.out.below (Below.one _ _)) hl).mono ?_
          rw [HK.out]
          rintro e w1 ⟨rfl, rfl⟩
          go_wp2_with fail
          refine (firstIndexOf_any va vals vc v _ (HV.out.below (Below.one _ _)) hvl).mono ?_
          rintro e w1 ⟨q, rfl, hq, rfl⟩
          have hq0 : 0 ≤ q := by have := hq.neg; exact Int.not_lt.1 (fun h => (this.1 h) HM.out)
          clear hq
          go_wp2
          go_ret
          exact ⟨rfl, Below.one _ _⟩
      · rw [inB_false hm]
        have HM := hide hm
        clear hm
        cases neg
        all_goals
          go_enter Try.func37, Try.ntmps37
          go_wp2_with fail
          refine (lookupLabel_any a l c key _ (HR.out.below (Below.one _ _)) hl).mono ?_
          rw [HK.out]
          rintro e w1 ⟨rfl, rfl⟩
          go_wp2_with fail
          refine (firstIndexOf_any va vals vc v _ (HV.out.below (Below.one _ _)) hvl).mono ?_
          rintro e w1 ⟨q, rfl, hq, rfl⟩
          have hq0 : decide (0 ≤ q) = false := decide_eq_false (by have := hq.neg.2 HM.out; omega)
          clear hq
          go_wp2
          go_ret
          exact ⟨rfl, Below.one _ _⟩
    · have em : meetB l ⟨key, vals, true, neg⟩ = (true != neg) := by simp [meetB, posB, hk]
      rw [em]
      clear hk em
      cases neg
      all_goals
        go_enter Try.func37, Try.ntmps37
        go_wp2_with fail
        refine (lookupLabel_any a l c key _ (HR.out.below (Below.one _ _)) hl).mono ?_
        rw [HK.out]
        rintro e w1 ⟨rfl, rfl⟩
        go_wp2
        go_ret
        exact ⟨rfl, Below.one _ _⟩

set_option maxHeartbeats 400000 in
theorem countCarrying_any (a : Option Addr) (O : List (List (ByteArray × ByteArray))) (c : Nat) (key value : ByteArray) (w : World) (hr : ObjRow w a O) (hs : SmallO O) :
    Calls Try.prog 39 #[.slice a O.length c, .string key, .string value] w (samePost (.int .i64 ((scan O key (some value) O.length).length : Nat)) w) := by
  have hS := hide hs
  have hs1 := hs.1
  clear hs
  go_enter Try.func39, Try.ntmps39
  go_wp2
  go_loop [7, 8] (fun p i => ∃ k : Nat, k ≤ O.length ∧ i = .int .i64 k ∧ p = .int .i64 ((scan O key (some value) k).length : Nat)) (fun _ i => O.length - (intOf i).toNat)
  case atStart => exact ⟨0, Nat.zero_le _, rfl, rfl⟩
  case round =>
    obtain ⟨k, hk, rfl, rfl⟩ := hrel
    have hkl := scan_len O key (some value) k
    by_cases hlt : k < O.length
    · obtain ⟨b, off, l, ai, ci, rfl, hl, c1, hrow⟩ := hr.at hlt
      have hll := hS.out.2 k l hl
      have HSC : Hid (scan O key (some value) (k + 1) = if carT l key (some value) then scan O key (some value) k ++ [k] else scan O key (some value) k) := by
        show _ = _
        rw [scan, getD_of hl]
      have HC := hide (fun w h => carries_any ai l ci key value true w h hll)
      clear hl
      generalize (scan O key (some value) k) = S at *
      cases hcar : carT l key (some value)
      all_goals
        have HCAR := hide hcar
        clear hcar
        go_wp2_with fail
        refine (HC.out w hrow).mono ?_
        simp only [if_true]
        rw [HCAR.out]
        rintro e w1 ⟨rfl, rfl⟩
        clear hr hrow
        go_wp2
      · go_round
        case rel => exact ⟨k + 1, by omega, by go_num, by rw [HSC.out, HCAR.out]; rfl⟩
        case measure => simp [intOf]; omega
      · go_round
        case rel => exact ⟨k + 1, by omega, by go_num, by rw [HSC.out, HCAR.out]; simp⟩
        case measure => simp [intOf]; omega
    · have hkl : k = O.length := by omega
      rw [hkl]
      clear hkl hr
      go_wp2
      go_ret
      exact ⟨rfl, rfl⟩

end Go.Proofs.Qxb6601049a
