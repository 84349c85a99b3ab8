import Derived.Test.Qxb6601060aG
namespace Go.Proofs.Qxb6601060a
open Go.ChangeShapes Go.WideShapes Go.ChangeAt Go.RowKit
set_option linter.unusedVariables false

set_option maxHeartbeats 2000000 in
theorem law5_any (sp cp dp ds : Int) (a : Option Addr) (len cap : Nat) (zs : List Int) (i : Int) (w : World) (hr : RowAt .u8 w a len zs) (hn : a = none → len = 0) (hz : Bytes zs) (hl : len ≤ maxLen) :
    Calls Try.prog 5 #[.int .i64 sp, .int .i64 cp, .int .i64 dp, .int .i64 ds, .slice a len cap, .int .i64 i] w (truePost w) := by
  have HZB := hide (zzBytes15_any sp cp dp ds i a len cap w hl)
  have HRR := hide hr
  have HN := hide hn
  have HZ := hide hz
  unfold maxLen at hl
  clear hr hn hz
  by_cases c0 : len ≤ 65536
  · rcases rng_cases sp with ⟨r1, hs, hs2⟩ | r1
    · rcases rng_cases dp with ⟨r2, hd, hd2⟩ | r2
      · rcases rng_cases i with ⟨r3, hi, hi2⟩ | r3
        · by_cases c1 : 0 ≤ cp
          · by_cases c2 : cp ≤ 1152921504606846976
            · by_cases c3 : 0 ≤ ds
              · by_cases c4 : ds ≤ 8 * len
                · by_cases c5 : 0 < ds → 0 < cp → sp + cp ≤ dp
                  · obtain ⟨d, rfl⟩ : ∃ d : Nat, ds = (d : Int) := ⟨ds.toNat, by omega⟩
                    exact law5_in sp cp dp d a len cap zs i w HRR.out HN.out HZ.out c0 hs hs2 c1 c2 hd hd2 (by omega) hi hi2 (fun h1 h2 => c5 (by omega) h2)
                  · have c6 : 0 < ds := by omega
                    have c7 : 0 < cp := by omega
                    have c8 : dp < sp + cp := by omega
                    clear c5
                    go_enter Try.func5, Try.ntmps5
                    go_wp2_with (first | (go_at_call 15; refine HZB.out.mono ?_; rintro e w1 ⟨⟨b, rfl⟩, rfl⟩) | (go_at_call 9; refine (inRange_any _ _).mono ?_; rintro e w1 ⟨rfl, rfl⟩))
                    all_goals (go_ret; exact ⟨rfl, Below.refl _ _⟩)
                · go_enter Try.func5, Try.ntmps5
                  go_wp2_with (first | (go_at_call 15; refine HZB.out.mono ?_; rintro e w1 ⟨⟨b, rfl⟩, rfl⟩) | (go_at_call 9; refine (inRange_any _ _).mono ?_; rintro e w1 ⟨rfl, rfl⟩))
                  all_goals (go_ret; exact ⟨rfl, Below.refl _ _⟩)
              · go_enter Try.func5, Try.ntmps5
                go_wp2_with (first | (go_at_call 15; refine HZB.out.mono ?_; rintro e w1 ⟨⟨b, rfl⟩, rfl⟩) | (go_at_call 9; refine (inRange_any _ _).mono ?_; rintro e w1 ⟨rfl, rfl⟩))
                all_goals (go_ret; exact ⟨rfl, Below.refl _ _⟩)
            · go_enter Try.func5, Try.ntmps5
              go_wp2_with (first | (go_at_call 15; refine HZB.out.mono ?_; rintro e w1 ⟨⟨b, rfl⟩, rfl⟩) | (go_at_call 9; refine (inRange_any _ _).mono ?_; rintro e w1 ⟨rfl, rfl⟩))
              all_goals (go_ret; exact ⟨rfl, Below.refl _ _⟩)
          · go_enter Try.func5, Try.ntmps5
            go_wp2_with (first | (go_at_call 15; refine HZB.out.mono ?_; rintro e w1 ⟨⟨b, rfl⟩, rfl⟩) | (go_at_call 9; refine (inRange_any _ _).mono ?_; rintro e w1 ⟨rfl, rfl⟩))
            all_goals (go_ret; exact ⟨rfl, Below.refl _ _⟩)
        · go_enter Try.func5, Try.ntmps5
          go_wp2_with (first | (go_at_call 15; refine HZB.out.mono ?_; rintro e w1 ⟨⟨b, rfl⟩, rfl⟩) | (go_at_call 9; refine (inRange_any _ _).mono ?_; rintro e w1 ⟨rfl, rfl⟩))
          all_goals (go_ret; exact ⟨rfl, Below.refl _ _⟩)
      · go_enter Try.func5, Try.ntmps5
        go_wp2_with (first | (go_at_call 15; refine HZB.out.mono ?_; rintro e w1 ⟨⟨b, rfl⟩, rfl⟩) | (go_at_call 9; refine (inRange_any _ _).mono ?_; rintro e w1 ⟨rfl, rfl⟩))
        all_goals (go_ret; exact ⟨rfl, Below.refl _ _⟩)
    · go_enter Try.func5, Try.ntmps5
      go_wp2_with (first | (go_at_call 15; refine HZB.out.mono ?_; rintro e w1 ⟨⟨b, rfl⟩, rfl⟩) | (go_at_call 9; refine (inRange_any _ _).mono ?_; rintro e w1 ⟨rfl, rfl⟩))
      all_goals (go_ret; exact ⟨rfl, Below.refl _ _⟩)
  · go_enter Try.func5, Try.ntmps5
    go_wp2_with (first | (go_at_call 15; refine HZB.out.mono ?_; rintro e w1 ⟨⟨b, rfl⟩, rfl⟩) | (go_at_call 9; refine (inRange_any _ _).mono ?_; rintro e w1 ⟨rfl, rfl⟩))
    all_goals (go_ret; exact ⟨rfl, Below.refl _ _⟩)

end Go.Proofs.Qxb6601060a
