import Derived.Test.Qxb6601060aC
namespace Go.Proofs.Qxb6601060a
open Go.ChangeShapes Go.WideShapes Go.ChangeAt Go.RowKit
set_option linter.unusedVariables false

/-- in range -/
def rngB (x : Int) : Bool := decide (-1152921504606846976 ≤ x ∧ x ≤ 1152921504606846976)

set_option maxHeartbeats 400000 in
theorem inRange_any (x : Int) (w : World) : Calls Try.prog 9 #[.int .i64 x] w (samePost (.bool (rngB x)) w) := by
  by_cases h1 : -1152921504606846976 ≤ x
  · by_cases h2 : x ≤ 1152921504606846976
    · have e : rngB x = true := by simp [rngB, h1, h2]
      rw [e]; clear e
      go_enter Try.func9, Try.ntmps9
      go_wp2
      go_ret
      exact ⟨rfl, rfl⟩
    · have e : rngB x = false := by simp [rngB, h2]
      rw [e]; clear e
      go_enter Try.func9, Try.ntmps9
      go_wp2
      go_ret
      exact ⟨rfl, rfl⟩
  · have e : rngB x = false := by simp [rngB, h1]
    rw [e]; clear e
    go_enter Try.func9, Try.ntmps9
    go_wp2
    go_ret
    exact ⟨rfl, rfl⟩

def inB (s c x : Int) : Bool := decide (0 < c ∧ s ≤ x ∧ x < s + c)

set_option maxHeartbeats 400000 in
theorem inCompleted_any (s c x : Int) (w : World) (hs : -1152921504606846976 ≤ s) (hs2 : s ≤ 1152921504606846976) (hc : c ≤ 1152921504606846976) : Calls Try.prog 21 #[.int .i64 s, .int .i64 c, .int .i64 x] w (samePost (.bool (inB s c x)) w) := by
  by_cases h1 : 0 < c
  · by_cases h2 : s ≤ x
    · by_cases h3 : x < s + c
      · have e : inB s c x = true := by simp [inB, h1, h2, h3]
        rw [e]; clear e
        go_enter Try.func21, Try.ntmps21
        go_wp2
        go_ret
        exact ⟨rfl, rfl⟩
      · have e : inB s c x = false := by simp [inB, h3]
        rw [e]; clear e
        go_enter Try.func21, Try.ntmps21
        go_wp2
        go_ret
        exact ⟨rfl, rfl⟩
    · have e : inB s c x = false := by simp [inB, h2]
      rw [e]; clear e
      go_enter Try.func21, Try.ntmps21
      go_wp2
      go_ret
      exact ⟨rfl, rfl⟩
  · have e : inB s c x = false := by simp [inB, h1]
    rw [e]; clear e
    go_enter Try.func21, Try.ntmps21
    go_wp2
    go_ret
    exact ⟨rfl, rfl⟩

set_option maxHeartbeats 400000 in
theorem inDownloading_any (s c x : Int) (w : World) (hs : -1152921504606846976 ≤ s) (hs2 : s ≤ 1152921504606846976) (hc : c ≤ 1152921504606846976) : Calls Try.prog 12 #[.int .i64 s, .int .i64 c, .int .i64 x] w (samePost (.bool (inB s c x)) w) := by
  by_cases h1 : 0 < c
  · by_cases h2 : s ≤ x
    · by_cases h3 : x < s + c
      · have e : inB s c x = true := by simp [inB, h1, h2, h3]
        rw [e]; clear e
        go_enter Try.func12, Try.ntmps12
        go_wp2
        go_ret
        exact ⟨rfl, rfl⟩
      · have e : inB s c x = false := by simp [inB, h3]
        rw [e]; clear e
        go_enter Try.func12, Try.ntmps12
        go_wp2
        go_ret
        exact ⟨rfl, rfl⟩
    · have e : inB s c x = false := by simp [inB, h2]
      rw [e]; clear e
      go_enter Try.func12, Try.ntmps12
      go_wp2
      go_ret
      exact ⟨rfl, rfl⟩
  · have e : inB s c x = false := by simp [inB, h1]
    rw [e]; clear e
    go_enter Try.func12, Try.ntmps12
    go_wp2
    go_ret
    exact ⟨rfl, rfl⟩

def descB (sp cp dp ds x : Int) : Bool := inB sp cp x || inB dp ds x

set_option maxHeartbeats 400000 in
theorem describes_any (sp cp dp ds x : Int) (w : World) (hs : -1152921504606846976 ≤ sp) (hs2 : sp ≤ 1152921504606846976) (hc : cp ≤ 1152921504606846976) (hd : -1152921504606846976 ≤ dp) (hd2 : dp ≤ 1152921504606846976) (hds : ds ≤ 1152921504606846976) :
    Calls Try.prog 14 #[.int .i64 sp, .int .i64 cp, .int .i64 dp, .int .i64 ds, .int .i64 x] w (samePost (.bool (descB sp cp dp ds x)) w) := by
  unfold descB
  cases h1 : inB sp cp x
  · have H1 := hide h1
    clear h1
    go_enter Try.func14, Try.ntmps14
    go_wp2_with fail
    refine (inCompleted_any sp cp x _ hs hs2 hc).mono ?_
    rw [H1.out]
    rintro e w1 ⟨rfl, rfl⟩
    go_wp2_with fail
    refine (inDownloading_any dp ds x _ hd hd2 hds).mono ?_
    rintro e w2 ⟨rfl, rfl⟩
    go_wp2
    go_ret
    exact ⟨ret_bool (by simp), rfl⟩
  · have H1 := hide h1
    clear h1
    go_enter Try.func14, Try.ntmps14
    go_wp2_with fail
    refine (inCompleted_any sp cp x _ hs hs2 hc).mono ?_
    rw [H1.out]
    rintro e w1 ⟨rfl, rfl⟩
    go_wp2
    go_ret
    exact ⟨ret_bool (by simp), rfl⟩

/-- the downloading point -/
def dpV (sp cp dp ds : Int) : Int := if ds = 0 then sp + cp - 1 else dp + ds - 1

set_option maxHeartbeats 400000 in
theorem DP_any (sp cp dp ds : Int) (v : Value) (w : World) (hv : v.oneCell' = true) (hs : -1152921504606846976 ≤ sp) (hs2 : sp ≤ 1152921504606846976) (hc0 : 0 ≤ cp) (hc : cp ≤ 1152921504606846976) (hd : -1152921504606846976 ≤ dp) (hd2 : dp ≤ 1152921504606846976) (hds0 : 0 ≤ ds) (hds : ds ≤ 1152921504606846976) :
    Calls Try.prog 13 #[.agg #[.int .i64 sp, .int .i64 cp, .int .i64 dp, .int .i64 ds, v]] w (samePost (.int .i64 (dpV sp cp dp ds)) (w.alloc (.cells #[.int .i64 sp, .int .i64 cp, .int .i64 dp, .int .i64 ds, v] 27))) := by
  by_cases h : ds = 0
  · subst h
    have e : dpV sp cp dp 0 = sp + cp - 1 := by simp [dpV]
    rw [e]; clear e
    go_enter Try.func13, Try.ntmps13
    go_wp2
    go_ret
    exact ⟨rfl, rfl⟩
  · have e : dpV sp cp dp ds = dp + ds - 1 := by simp [dpV, h]
    rw [e]; clear e
    have h' : (ds == 0) = false := by simpa using h
    go_enter Try.func13, Try.ntmps13
    go_wp2
    go_ret
    exact ⟨rfl, rfl⟩

theorem law4_plain1 {sp cp dp ds : Int} (h : dpV sp cp dp ds = dpV sp cp dp ds) (c0 : 0 ≤ cp) (d0 : 0 ≤ ds) (hne : ¬ (cp = 0 ∧ ds = 0)) : descB sp cp dp ds (dpV sp cp dp ds) = true := by
  unfold descB dpV inB
  split <;> simp <;> omega
theorem law4_plain2 {sp cp dp ds i : Int} (c0 : 0 ≤ cp) (d0 : 0 ≤ ds) (hne : ¬ (cp = 0 ∧ ds = 0)) (hap : 0 < ds → 0 < cp → sp + cp ≤ dp) (hi : dpV sp cp dp ds < i) : descB sp cp dp ds i = false := by
  unfold dpV at hi
  unfold descB inB
  split at hi <;> simp <;> omega

def grownPost (w : World) (e : Ending) (w' : World) : Prop := e = .returned (.bool true) ∧ Grown w w'

theorem rng_cases (x : Int) : (rngB x = true ∧ -1152921504606846976 ≤ x ∧ x ≤ 1152921504606846976) ∨ rngB x = false := by
  by_cases h : -1152921504606846976 ≤ x ∧ x ≤ 1152921504606846976
  · exact .inl ⟨by simp [rngB, h], h⟩
  · exact .inr (by simp [rngB]; omega)

set_option maxHeartbeats 1000000 in
theorem law4_in (sp cp dp ds i : Int) (w : World) (hs : -1152921504606846976 ≤ sp) (hs2 : sp ≤ 1152921504606846976) (hc0 : 0 ≤ cp) (hc : cp ≤ 1152921504606846976) (hd : -1152921504606846976 ≤ dp) (hd2 : dp ≤ 1152921504606846976) (hds0 : 0 ≤ ds) (hds : ds ≤ 1152921504606846976)
    (hi : -1152921504606846976 ≤ i) (hi2 : i ≤ 1152921504606846976) (hap : 0 < ds → 0 < cp → sp + cp ≤ dp) :
    Calls Try.prog 4 #[.int .i64 sp, .int .i64 cp, .int .i64 dp, .int .i64 ds, .int .i64 i] w (grownPost w) := by
  have r1 : rngB sp = true := by simp [rngB, hs, hs2]
  have r2 : rngB dp = true := by simp [rngB, hd, hd2]
  have r3 : rngB i = true := by simp [rngB, hi, hi2]
  have HR1 := hide r1
  have HR2 := hide r2
  have HR3 := hide r3
  have HAP := hide hap
  clear r1 r2 r3 hap
  go_enter Try.func4, Try.ntmps4
  go_wp2_with fail
  refine (inRange_any sp _).mono ?_
  rw [HR1.out]
  rintro e w1 ⟨rfl, rfl⟩
  go_wp2_with fail
  refine (inRange_any dp _).mono ?_
  rw [HR2.out]
  rintro e w2 ⟨rfl, rfl⟩
  go_wp2_with fail
  refine (inRange_any i _).mono ?_
  rw [HR3.out]
  rintro e w3 ⟨rfl, rfl⟩
  by_cases hne : cp = 0 ∧ ds = 0
  · obtain ⟨rfl, rfl⟩ := hne
    go_wp2_with fail
    refine (DP_any sp 0 dp 0 (.slice none 0 0) _ rfl hs hs2 (by omega) (by omega) hd hd2 (by omega) (by omega)).mono ?_
    rintro e w4 ⟨rfl, rfl⟩
    have e : dpV sp 0 dp 0 = sp - 1 := by simp [dpV]
    rw [e]
    clear e
    go_wp2
    go_ret
    exact ⟨rfl, Grown.alloc (Grown.alloc (Grown.refl _) _ _) _ _⟩
  have D1 := hide (law4_plain1 (sp := sp) (dp := dp) rfl hc0 hds0 hne)
  have D2 := hide (fun h => law4_plain2 (i := i) hc0 hds0 hne HAP.out h)
  by_cases c1 : 0 < ds
  · have n1 : (ds == 0) = false := by simp; omega
    by_cases c2 : 0 < cp
    · have n2 : (cp == 0) = false := by simp; omega
      have c3 := HAP.out c1 c2
      clear hne
      go_wp2_with fail
      refine (DP_any sp cp dp ds (.slice none 0 0) _ rfl hs hs2 hc0 hc hd hd2 hds0 hds).mono ?_
      generalize dpV sp cp dp ds = d at D1 D2
      rintro e w4 ⟨rfl, rfl⟩
      go_wp2_with fail
      refine (describes_any sp cp dp ds d _ hs hs2 hc hd hd2 hds).mono ?_
      rw [D1.out]
      rintro e w5 ⟨rfl, rfl⟩
      by_cases hid : i ≤ d
      · go_wp2
        go_ret
        exact ⟨rfl, Grown.alloc (Grown.alloc (Grown.refl _) _ _) _ _⟩
      · go_wp2_with fail
        refine (describes_any sp cp dp ds i _ hs hs2 hc hd hd2 hds).mono ?_
        rw [D2.out (by omega)]
        rintro e w6 ⟨rfl, rfl⟩
        go_wp2
        go_ret
        exact ⟨rfl, Grown.alloc (Grown.alloc (Grown.refl _) _ _) _ _⟩
    · have n2 : cp = 0 := by omega
      subst n2
      clear hne
      go_wp2_with fail
      refine (DP_any sp 0 dp ds (.slice none 0 0) _ rfl hs hs2 (by omega) (by omega) hd hd2 hds0 hds).mono ?_
      generalize dpV sp 0 dp ds = d at D1 D2
      rintro e w4 ⟨rfl, rfl⟩
      go_wp2_with fail
      refine (describes_any sp 0 dp ds d _ hs hs2 (by omega) hd hd2 hds).mono ?_
      rw [D1.out]
      rintro e w5 ⟨rfl, rfl⟩
      by_cases hid : i ≤ d
      · go_wp2
        go_ret
        exact ⟨rfl, Grown.alloc (Grown.alloc (Grown.refl _) _ _) _ _⟩
      · go_wp2_with fail
        refine (describes_any sp 0 dp ds i _ hs hs2 (by omega) hd hd2 hds).mono ?_
        rw [D2.out (by omega)]
        rintro e w6 ⟨rfl, rfl⟩
        go_wp2
        go_ret
        exact ⟨rfl, Grown.alloc (Grown.alloc (Grown.refl _) _ _) _ _⟩
  · have n1 : ds = 0 := by omega
    subst n1
    have n2 : (cp == 0) = false := by simp; omega
    have n3 : 0 < cp := by omega
    clear hne
    go_wp2_with fail
    refine (DP_any sp cp dp 0 (.slice none 0 0) _ rfl hs hs2 hc0 hc hd hd2 (by omega) (by omega)).mono ?_
    generalize dpV sp cp dp 0 = d at D1 D2
    rintro e w4 ⟨rfl, rfl⟩
    go_wp2_with fail
    refine (describes_any sp cp dp 0 d _ hs hs2 hc hd hd2 (by omega)).mono ?_
    rw [D1.out]
    rintro e w5 ⟨rfl, rfl⟩
    by_cases hid : i ≤ d
    · go_wp2
      go_ret
      exact ⟨rfl, Grown.alloc (Grown.alloc (Grown.refl _) _ _) _ _⟩
    · go_wp2_with fail
      refine (describes_any sp cp dp 0 i _ hs hs2 hc hd hd2 (by omega)).mono ?_
      rw [D2.out (by omega)]
      rintro e w6 ⟨rfl, rfl⟩
      go_wp2
      go_ret
      exact ⟨rfl, Grown.alloc (Grown.alloc (Grown.refl _) _ _) _ _⟩

end Go.Proofs.Qxb6601060a
