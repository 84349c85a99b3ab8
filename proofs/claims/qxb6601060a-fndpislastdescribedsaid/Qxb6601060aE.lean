import Derived.Test.Qxb6601060aD
namespace Go.Proofs.Qxb6601060a
open Go.ChangeShapes Go.WideShapes Go.ChangeAt Go.RowKit
set_option linter.unusedVariables false

set_option maxHeartbeats 1000000 in
theorem law4_any (sp cp dp ds i : Int) (w : World) (bs : -9223372036854775808 ≤ sp ∧ sp ≤ 9223372036854775807) (bc : -9223372036854775808 ≤ cp ∧ cp ≤ 9223372036854775807) :
    Calls Try.prog 4 #[.int .i64 sp, .int .i64 cp, .int .i64 dp, .int .i64 ds, .int .i64 i] w (grownPost w) := by
  have HBS := hide bs
  have HBC := hide bc
  clear bs bc
  rcases rng_cases sp with ⟨r1, hs, hs2⟩ | r1
  · rcases rng_cases dp with ⟨r2, hd, hd2⟩ | r2
    · rcases rng_cases i with ⟨r3, hi, hi2⟩ | r3
      · by_cases c1 : 0 ≤ cp
        · by_cases c2 : cp ≤ 1152921504606846976
          · by_cases c3 : 0 ≤ ds
            · by_cases c4 : ds ≤ 1152921504606846976
              · by_cases c5 : 0 < ds → 0 < cp → sp + cp ≤ dp
                · exact law4_in sp cp dp ds i w hs hs2 c1 c2 hd hd2 c3 c4 hi hi2 c5
                · have c6 : 0 < ds := by omega
                  have c7 : 0 < cp := by omega
                  have c8 : dp < sp + cp := by omega
                  clear c5
                  have HR1 := hide r1
                  have HR2 := hide r2
                  have HR3 := hide r3
                  clear r1 r2 r3
                  go_enter Try.func4, Try.ntmps4
                  go_wp2_with fail
                  refine (inRange_any sp _).mono ?_
                  rw [HR1.out]
                  rintro e w1 ⟨rfl, rfl⟩
                  go_wp2_with fail
                  refine (inRange_any dp _).mono ?_
                  rw [HR2.out]
                  rintro e w2 ⟨rfl, rfl⟩
                  go_wp2_with fail
                  refine (inRange_any i _).mono ?_
                  rw [HR3.out]
                  rintro e w3 ⟨rfl, rfl⟩
                  go_wp2
                  go_ret
                  exact ⟨rfl, Grown.refl _⟩
              all_goals
                have HR1 := hide r1
                have HR2 := hide r2
                have HR3 := hide r3
                clear r1 r2 r3
                go_enter Try.func4, Try.ntmps4
                go_wp2_with fail
                refine (inRange_any sp _).mono ?_
                rw [HR1.out]
                rintro e w1 ⟨rfl, rfl⟩
                go_wp2_with fail
                refine (inRange_any dp _).mono ?_
                rw [HR2.out]
                rintro e w2 ⟨rfl, rfl⟩
                go_wp2_with fail
                refine (inRange_any i _).mono ?_
                rw [HR3.out]
                rintro e w3 ⟨rfl, rfl⟩
                go_wp2
                go_ret
                exact ⟨rfl, Grown.refl _⟩
            all_goals
              have HR1 := hide r1
              have HR2 := hide r2
              have HR3 := hide r3
              clear r1 r2 r3
              go_enter Try.func4, Try.ntmps4
              go_wp2_with fail
              refine (inRange_any sp _).mono ?_
              rw [HR1.out]
              rintro e w1 ⟨rfl, rfl⟩
              go_wp2_with fail
              refine (inRange_any dp _).mono ?_
              rw [HR2.out]
              rintro e w2 ⟨rfl, rfl⟩
              go_wp2_with fail
              refine (inRange_any i _).mono ?_
              rw [HR3.out]
              rintro e w3 ⟨rfl, rfl⟩
              go_wp2
              go_ret
              exact ⟨rfl, Grown.refl _⟩
          all_goals
            have HR1 := hide r1
            have HR2 := hide r2
            have HR3 := hide r3
            clear r1 r2 r3
            go_enter Try.func4, Try.ntmps4
            go_wp2_with fail
            refine (inRange_any sp _).mono ?_
            rw [HR1.out]
            rintro e w1 ⟨rfl, rfl⟩
            go_wp2_with fail
            refine (inRange_any dp _).mono ?_
            rw [HR2.out]
            rintro e w2 ⟨rfl, rfl⟩
            go_wp2_with fail
            refine (inRange_any i _).mono ?_
            rw [HR3.out]
            rintro e w3 ⟨rfl, rfl⟩
            go_wp2
            go_ret
            exact ⟨rfl, Grown.refl _⟩
        all_goals
          have HR1 := hide r1
          have HR2 := hide r2
          have HR3 := hide r3
          clear r1 r2 r3
          go_enter Try.func4, Try.ntmps4
          go_wp2_with fail
          refine (inRange_any sp _).mono ?_
          rw [HR1.out]
          rintro e w1 ⟨rfl, rfl⟩
          go_wp2_with fail
          refine (inRange_any dp _).mono ?_
          rw [HR2.out]
          rintro e w2 ⟨rfl, rfl⟩
          go_wp2_with fail
          refine (inRange_any i _).mono ?_
          rw [HR3.out]
          rintro e w3 ⟨rfl, rfl⟩
          go_wp2
          go_ret
          exact ⟨rfl, Grown.refl _⟩
      · have HR1 := hide r1
        have HR2 := hide r2
        have HR3 := hide r3
        clear r1 r2 r3
        go_enter Try.func4, Try.ntmps4
        go_wp2_with fail
        refine (inRange_any sp _).mono ?_
        rw [HR1.out]
        rintro e w1 ⟨rfl, rfl⟩
        go_wp2_with fail
        refine (inRange_any dp _).mono ?_
        rw [HR2.out]
        rintro e w2 ⟨rfl, rfl⟩
        go_wp2_with fail
        refine (inRange_any i _).mono ?_
        rw [HR3.out]
        rintro e w3 ⟨rfl, rfl⟩
        go_wp2
        go_ret
        exact ⟨rfl, Grown.refl _⟩
    · have HR1 := hide r1
      have HR2 := hide r2
      clear r1 r2
      go_enter Try.func4, Try.ntmps4
      go_wp2_with fail
      refine (inRange_any sp _).mono ?_
      rw [HR1.out]
      rintro e w1 ⟨rfl, rfl⟩
      go_wp2_with fail
      refine (inRange_any dp _).mono ?_
      rw [HR2.out]
      rintro e w2 ⟨rfl, rfl⟩
      go_wp2
      go_ret
      exact ⟨rfl, Grown.refl _⟩
  · have HR1 := hide r1
    clear r1
    go_enter Try.func4, Try.ntmps4
    go_wp2_with fail
    refine (inRange_any sp _).mono ?_
    rw [HR1.out]
    rintro e w1 ⟨rfl, rfl⟩
    go_wp2
    go_ret
    exact ⟨rfl, Grown.refl _⟩

end Go.Proofs.Qxb6601060a
