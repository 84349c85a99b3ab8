import Derived.Test.Qxb6601060aB
namespace Go.Proofs.Qxb6601060a
open Go.ChangeShapes Go.WideShapes Go.ChangeAt Go.RowKit
set_option linter.unusedVariables false

/-- each byte fits -/
def Bytes (zs : List Int) : Prop := ∀ n ∈ zs, 0 ≤ n ∧ n < 256
theorem Bytes.at {zs : List Int} (h : Bytes zs) (k : Nat) : ∃ x : Nat, x < 256 ∧ zs.getD k 0 = (x : Int) := by
  have : 0 ≤ zs.getD k 0 ∧ zs.getD k 0 < 256 := by
    rw [List.getD_eq_getElem?_getD]
    cases e : zs[k]? with
    | none => simp
    | some x => exact h x (List.mem_of_getElem? e)
  exact ⟨(zs.getD k 0).toNat, by omega, by omega⟩

theorem mask_cast (m : Nat) : ((128 : Int) / 2 ^ m) = ((maskN m : Nat) : Int) := by simp [maskN]
theorem bit_form (x m : Nat) (hx : x < 256) : (bits .and .u8 (x : Int) (128 / 2 ^ m) != 0) = bitN x m := by
  rw [mask_cast, and_u8 _ _ hx (maskN_lt m)]
  unfold bitN
  rw [Bool.eq_iff_iff]
  simp
theorem step_yes {x ds k m : Nat} (hx : x < 256) (h1 : 8 * (k : Int) + m < ds) (h2 : (bits .and .u8 (x : Int) (128 / 2 ^ m) != 0) = true) : bits .or .u8 ((wantN x (ds - 8 * k) m : Nat) : Int) (128 / 2 ^ m) = ((wantN x (ds - 8 * k) (m + 1) : Nat) : Int) := by
  rw [bit_form x m hx] at h2
  rw [mask_cast, or_u8 _ _ (wantN_lt _ _ _) (maskN_lt m), wantN, if_pos ⟨by omega, h2⟩]
theorem step_no {x ds k m : Nat} (hx : x < 256) (h2 : (bits .and .u8 (x : Int) (128 / 2 ^ m) != 0) = false) : wantN x (ds - 8 * k) m = wantN x (ds - 8 * k) (m + 1) := by
  rw [bit_form x m hx] at h2
  rw [wantN, if_neg (by rw [h2]; simp)]
theorem step_past {x ds k m : Nat} (h1 : ¬ 8 * (k : Int) + m < ds) : wantN x (ds - 8 * k) m = wantN x (ds - 8 * k) (m + 1) := by
  rw [wantN, if_neg (by omega)]

set_option maxHeartbeats 1000000 in
theorem law6_in (ds : Nat) (a : Option Addr) (len cap : Nat) (zs : List Int) (k : Nat) (w : World) (hr : RowAt .u8 w a len zs) (hn : a = none → len = 0) (hz : Bytes zs)
    (hlen : len ≤ 65536) (hds : ds ≤ 8 * len) (hds2 : (ds + 7) / 8 = len) (hk : k < len) :
    Calls Try.prog 6 #[.int .i64 (ds : Int), .slice a len cap, .int .i64 (k : Int)] w (truePost w) := by
  have g1 : (((ds : Int) + 7) / 8 != (len : Int)) = false := by simp; omega
  have HD2 := hide hds2
  have HZ := hide hz
  clear hds2 hz
  go_enter Try.func6, Try.ntmps6
  go_wp2_with fail
  refine (zzBytes17_any ds k a len cap w (by unfold maxLen; omega)).mono ?_
  rintro e w1 ⟨⟨b, rfl⟩, rfl⟩
  cases b
  · go_wp2
    go_ret
    exact ⟨rfl, Below.refl _ _⟩
  go_wp2_with fail
  refine (cloneBytes_any a len cap zs _ (by omega) hn hr).mono ?_
  rintro e w3 ⟨a', c', rfl, hr', _, hb⟩
  rcases hr'.2 with h0 | ⟨b, off, rfl, hcell⟩
  · omega
  obtain ⟨x, hx, hxe⟩ := HZ.out.at k
  have hc := hcell k hk
  rw [hxe] at hc
  have HB := hide hb
  clear hxe hcell hr' hb HZ hr hn
  go_wp2
  go_loop [7, 8, 9] (fun v i _ => ∃ m : Nat, m ≤ 8 ∧ i = .int .i64 m ∧ v = .int .u8 ((wantN x (ds - 8 * k) m : Nat) : Int)) (fun _ i _ => 8 - (intOf i).toNat)
  case atStart => exact ⟨0, by omega, rfl, rfl⟩
  case round =>
    obtain ⟨m, hm, rfl, rfl⟩ := hrel
    by_cases hlt : m < 8
    · by_cases h1 : 8 * (k : Int) + m < ds
      · cases h2 : (bits .and .u8 (x : Int) (128 / 2 ^ m) != 0)
        · have E := hide (step_no (ds := ds) (k := k) hx h2)
          go_wp2
          go_round
          case rel => exact ⟨m + 1, by omega, by go_num, by rw [← E.out]⟩
          case measure => simp [intOf]; omega
        · have E := hide (step_yes hx h1 h2)
          go_wp2
          go_round
          case rel => exact ⟨m + 1, by omega, by go_num, by rw [E.out]⟩
          case measure => simp [intOf]; omega
      · have E := hide (step_past (x := x) h1)
        go_wp2
        go_round
        case rel => exact ⟨m + 1, by omega, by go_num, by rw [← E.out]⟩
        case measure => simp [intOf]; omega
    · have hm8 : m = 8 := by omega
      have E := hide (want_oct x (ds - 8 * k) hx)
      rw [hm8]
      clear hm8
      go_wp2_with fail
      refine (zzOctet_any 0 0 0 ds len c' b off k x _ hlen hk hds (by have := HD2.out; omega) hx hc).mono ?_
      rintro e w4 ⟨rfl, hb4⟩
      rw [E.out]
      go_wp2
      go_ret
      exact ⟨ret_bool (by simp), HB.out.trans (hb4.mono HB.out.size)⟩

set_option maxHeartbeats 1000000 in
theorem law6_any (ds : Int) (a : Option Addr) (len cap : Nat) (zs : List Int) (k : Int) (w : World) (hr : RowAt .u8 w a len zs) (hn : a = none → len = 0) (hz : Bytes zs) (hl : len ≤ maxLen) :
    Calls Try.prog 6 #[.int .i64 ds, .slice a len cap, .int .i64 k] w (truePost w) := by
  by_cases g : len ≤ 65536 ∧ 0 ≤ ds ∧ ds ≤ 8 * len ∧ (ds + 7) / 8 = len ∧ 0 ≤ k ∧ k < len
  · obtain ⟨g1, g2, g3, g4, g5, g6⟩ := g
    obtain ⟨d, rfl⟩ : ∃ d : Nat, ds = (d : Int) := ⟨ds.toNat, by omega⟩
    obtain ⟨q, rfl⟩ : ∃ q : Nat, k = (q : Int) := ⟨k.toNat, by omega⟩
    exact law6_in d a len cap zs q w hr hn hz g1 (by omega) (by omega) (by omega)
  · have HG := hide g
    have HZ := hide (zzBytes17_any ds k a len cap w hl)
    clear g hr hz hn
    unfold maxLen at hl
    by_cases c1 : len ≤ 65536
    · by_cases c2 : 0 ≤ ds
      · by_cases c3 : ds ≤ 8 * len
        · cases c4 : ((ds + 7) / 8 != (len : Int))
          · by_cases c5 : 0 ≤ k
            · have c6 : ¬ k < len := by
                intro h
                exact HG.out ⟨c1, c2, c3, by simpa using c4, c5, h⟩
              go_enter Try.func6, Try.ntmps6
              go_wp2_with (go_at_call 17; refine HZ.out.mono ?_; rintro e w1 ⟨⟨b, rfl⟩, rfl⟩)
              all_goals (go_ret; exact ⟨rfl, Below.refl _ _⟩)
            · go_enter Try.func6, Try.ntmps6
              go_wp2_with (go_at_call 17; refine HZ.out.mono ?_; rintro e w1 ⟨⟨b, rfl⟩, rfl⟩)
              all_goals (go_ret; exact ⟨rfl, Below.refl _ _⟩)
          · go_enter Try.func6, Try.ntmps6
            go_wp2_with (go_at_call 17; refine HZ.out.mono ?_; rintro e w1 ⟨⟨b, rfl⟩, rfl⟩)
            all_goals (go_ret; exact ⟨rfl, Below.refl _ _⟩)
        · go_enter Try.func6, Try.ntmps6
          go_wp2_with (go_at_call 17; refine HZ.out.mono ?_; rintro e w1 ⟨⟨b, rfl⟩, rfl⟩)
          all_goals (go_ret; exact ⟨rfl, Below.refl _ _⟩)
      · go_enter Try.func6, Try.ntmps6
        go_wp2_with (go_at_call 17; refine HZ.out.mono ?_; rintro e w1 ⟨⟨b, rfl⟩, rfl⟩)
        all_goals (go_ret; exact ⟨rfl, Below.refl _ _⟩)
    · go_enter Try.func6, Try.ntmps6
      go_wp2_with (go_at_call 17; refine HZ.out.mono ?_; rintro e w1 ⟨⟨b, rfl⟩, rfl⟩)
      all_goals (go_ret; exact ⟨rfl, Below.refl _ _⟩)

end Go.Proofs.Qxb6601060a
