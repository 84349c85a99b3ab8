import Derived.Test.Qxb6601049aPmG
namespace Go.Proofs.Qxb6601049a
open Go.ChangeShapes Go.WideShapes Go.ChangeAt Go.RowKit
set_option linter.unusedVariables false

/-- what the law's own scan has found among the numbers below j -/
def wantB (l ss : List Nat) (j : Nat) : Bool := (List.range j).any (fun i => decide (i ∈ l) && bitW ss i)
theorem wantB_succ (l ss : List Nat) (j : Nat) : wantB l ss (j + 1) = (wantB l ss j || (decide (j ∈ l) && bitW ss j)) := by
  simp [wantB, List.range_succ]
theorem wantB_end (l ss : List Nat) (n : Nat) (h : ∀ j ∈ l, j < n) : wantB l ss n = l.any (bitW ss) := by
  rw [Bool.eq_iff_iff]
  simp only [wantB, List.any_eq_true, List.mem_range, Bool.and_eq_true, decide_eq_true_eq]
  exact ⟨fun ⟨i, _, h2, h3⟩ => ⟨i, h2, h3⟩, fun ⟨i, h1, h2⟩ => ⟨i, h i h1, h1, h2⟩⟩

/-- strictly increasing -/
def Inc (l : List Nat) : Prop := ∀ i j, i < j → j < l.length → l.getD i 0 < l.getD j 0

theorem Inc.mem {l : List Nat} (h : Inc l) {p j : Nat} (h1 : ∀ i, i < p → l.getD i 0 < j) (h2 : p < l.length → j ≤ l.getD p 0) : j ∈ l ↔ p < l.length ∧ l.getD p 0 = j := by
  constructor
  · intro hm
    obtain ⟨q, hq, e⟩ := List.mem_iff_getElem.1 hm
    have e' : l.getD q 0 = j := by simp [List.getD_eq_getElem?_getD, hq, e]
    rcases Nat.lt_trichotomy q p with h3 | h3 | h3
    · have := h1 q h3; omega
    · subst h3; exact ⟨hq, e'⟩
    · have h4 := h2 (by omega)
      have := h p q h3 hq
      omega
  · rintro ⟨h3, rfl⟩
    exact getD_mem h3

/-- the law's scan, behind the clones -/
def Below1 (l : List Nat) (j p : Nat) : Prop := p ≤ l.length ∧ ∀ i, i < p → l.getD i 0 < j

def truePost (w : World) (e : Ending) (w' : World) : Prop := e = .returned (.bool true) ∧ Below w.heap.size w w'

theorem NRow.of_row {k : IntKind} {w : World} {a : Option Addr} {len : Nat} {zs : List Int} (h : RowAt k w a len zs) (h0 : ∀ i, i < len → 0 ≤ zs.getD i 0) : NRow k w a (zs.map Int.toNat) := by
  obtain ⟨hz, h⟩ := h
  rcases h with h | ⟨b, off, rfl, hc⟩
  · exact .inl (by rw [List.length_map]; omega)
  · refine .inr ⟨b, off, rfl, fun i hi => ?_⟩
    simp at hi
    have h1 := hc i (by omega)
    have h2 := h0 i (by omega)
    rw [h1]
    simp only [List.getD_eq_getElem?_getD, List.getElem?_map, List.getElem?_eq_getElem (show i < zs.length by omega), Option.getD_some, Option.map_some] at h2 ⊢
    rw [Int.toNat_of_nonneg h2]

theorem IncP.inc {zs : List Int} {n : Int} {len : Nat} (h : IncP zs n len) (hz : zs.length = len) : Inc (zs.map Int.toNat) ∧ ∀ j ∈ zs.map Int.toNat, (j : Int) < n := by
  have hg : ∀ i, i < len → (zs.map Int.toNat).getD i 0 = (zs.getD i 0).toNat := by
    intro i hi
    simp [List.getD_eq_getElem?_getD, List.getElem?_eq_getElem (show i < zs.length by omega)]
  refine ⟨?_, ?_⟩
  · have key : ∀ d i, i + d + 1 < len → zs.getD i 0 < zs.getD (i + d + 1) 0 := by
      intro d
      induction d with
      | zero => intro i hi; have := (h (i + 1) (by omega)).2.2 (by omega); simpa using this
      | succ d ih =>
        intro i hi
        have h1 := ih i (by omega)
        have h2 := (h (i + (d + 1) + 1) (by omega)).2.2 (by omega)
        simp only [Nat.add_sub_cancel] at h2
        rw [show i + (d + 1) = i + d + 1 by omega] at h2 ⊢
        omega
    intro i j hij hj
    simp at hj
    rw [hg i (by omega), hg j (by omega)]
    have h1 := key (j - i - 1) i (by omega)
    rw [show i + (j - i - 1) + 1 = j by omega] at h1
    have h2 := (h i (by omega)).1
    omega
  · intro j hj
    obtain ⟨q, hq, e⟩ := List.mem_iff_getElem.1 hj
    simp at hq
    have e' : (zs.map Int.toNat).getD q 0 = j := by simp [List.getD_eq_getElem?_getD, hq]; simpa using e
    rw [hg q (by omega)] at e'
    have := h q (by omega)
    omega

set_option maxHeartbeats 1000000 in
theorem law1_in (a0 : Option Addr) (l : List Nat) (cap0 : Nat) (z0 : List Int) (m : Nat) (a2 : Option Addr) (ss : List Nat) (cap2 : Nat) (z2 : List Int) (w : World) (h0 : RowAt .i64 w a0 l.length z0) (h2 : RowAt .u64 w a2 ss.length z2)
    (hn0 : a0 = none → l.length = 0) (hn2 : a2 = none → ss.length = 0) (hw2 : AllW ss)
    (hN : ∀ w a, RowAt .i64 w a l.length z0 → IncP z0 m l.length → NRow .i64 w a l ∧ Inc l ∧ ∀ j ∈ l, j < m) (hS : ∀ w a, RowAt .u64 w a ss.length z2 → NRow .u64 w a ss)
    (g1 : l.length ≤ 65536) (g2 : ss.length ≤ 65536) (g3 : 8 * l.length + 8 * ss.length ≤ 1048576) (g5 : m ≤ 65536) (g6 : ss.length = (m + 63) / 64) :
    Calls Try.prog 3 #[.slice a0 l.length cap0, .int .i64 m, .slice a2 ss.length cap2] w (truePost w) := by
  have g6' : ((ss.length : Int) != ((m : Int) + 63) / 64) = false := by simp; omega
  have HG6 := hide g6
  have H0 := hide h0
  have H2 := hide h2
  have HW2 := hide hw2
  have HN := hide hN
  have HS := hide hS
  clear g6 h0 h2 hw2 hN hS
  go_enter Try.func3, Try.ntmps3
  go_wp2_with fail
  refine (zzBytes_any a0 a2 l.length cap0 ss.length cap2 m w (by unfold maxLen; omega) (by unfold maxLen; omega)).mono ?_
  rintro e w1 ⟨⟨b, rfl⟩, rfl⟩
  cases b
  · go_wp2
    go_ret
    exact ⟨rfl, Below.refl _ _⟩
  go_wp2_with fail
  refine (incBelow_any a0 l.length cap0 m z0 w1 (by unfold maxLen; omega) H0.out).mono ?_
  rintro e w2 ⟨⟨b, rfl, hinc⟩, md, rfl⟩
  have HI := hide hinc
  clear hinc
  cases b
  · go_wp2
    go_ret
    exact ⟨rfl, below_drewN (Below.refl _ _) _⟩
  have HI2 := hide (HI.out rfl)
  clear HI
  have hbA : Below w1.heap.size w1 (w1.drewN md) := below_drewN (Below.refl _ _) _
  have H0' := hide (H0.out.below hbA)
  have HA := hide hbA
  clear hbA
  go_wp2_with fail
  refine (cloneInts_any a0 l.length cap0 z0 _ (by omega) hn0 H0'.out).mono ?_
  rintro e w3 ⟨a0', c0', rfl, hr0, _, hb3⟩
  have HB3 := hide (HA.out.trans hb3)
  have H2' := hide (H2.out.below (HA.out.trans hb3))
  have HR0 := hide hr0
  clear hr0 hb3
  go_wp2_with fail
  refine (cloneWords_any a2 ss.length cap2 z2 _ (by omega) hn2 H2'.out).mono ?_
  rintro e w4 ⟨a2', c2', rfl, hr2, _, hb4⟩
  have HB4 := hide (HB3.out.trans (hb4.mono HB3.out.size))
  obtain ⟨hr0, hI, hIn⟩ := HN.out _ _ (HR0.out.below hb4) HI2.out
  have hr2' := HS.out _ _ hr2
  have HR2 := hide hr2'
  have HR0' := hide hr0
  have HIN := hide hIn
  have HIC := hide hI
  clear hr0 hr2 hr2' hI hIn hb4 HR0 H0 H0' H2 H2' HN HS HI2 HA HB3
  go_wp2_with fail
  refine (zzMeets_any a0' c0' l a2' c2' ss m w4 g5 HIN.out (by omega) HW2.out HG6.out HR0'.out HR2.out).mono ?_
  rintro e w5 ⟨rfl, hb5⟩
  have HB5 := hide (HB4.out.trans (hb5.mono HB4.out.size))
  have hr := HR0'.out.below hb5
  have hs := HR2.out.below hb5
  clear hb5 HB4 HR0' HR2
  have hwe := wantB_end l ss m HIN.out
  have HWE := hide hwe
  clear hwe
  generalize hgot : l.any (bitW ss) = got at HWE
  clear hgot
  go_wp2
  go_loop [8, 9, 10] (fun v p j => ∃ q k : Nat, k ≤ m ∧ j = .int .i64 k ∧ p = .int .i64 q ∧ Below1 l k q ∧ v = .bool (wantB l ss k)) (fun _ _ j => m - (intOf j).toNat)
  case atStart => exact ⟨0, 0, Nat.zero_le _, rfl, rfl, ⟨Nat.zero_le _, fun i hi => absurd hi (Nat.not_lt_zero _)⟩, rfl⟩
  case round =>
    obtain ⟨q, k, hk, rfl, rfl, ⟨hq, hbe⟩, rfl⟩ := hrel
    have HBE := hide hbe
    clear hbe
    by_cases hlt : k < m
    · go_wp2
      go_loop [9] (fun p => ∃ q : Nat, p = .int .i64 q ∧ q ≤ l.length ∧ Hid (∀ i, i < q → l.getD i 0 < k)) (fun p => l.length - (intOf p).toNat)
      case atStart => exact ⟨q, rfl, hq, HBE⟩
      case round =>
        clear HBE hq
        obtain ⟨p, rfl, hp, HBE⟩ := hrel
        by_cases hpl : p < l.length
        · rcases hr with hr | ⟨b, off, rfl, hcell⟩
          · omega
          have hc := hcell p hpl
          have hlast := HBE.out
          have hmem := fun h => HIC.out.mem (p := p) (j := k) HBE.out h
          have hsucc : l.getD p 0 < k → ∀ i, i < p + 1 → l.getD i 0 < k := by
            intro h i hi
            by_cases e : i = p
            · subst e; exact h
            · exact hlast i (by omega)
          have hle : l.getD p 0 < k + 1 → ∀ i, i < p → l.getD i 0 < k + 1 := fun _ i hi => by have := hlast i hi; omega
          generalize l.getD p 0 = x at hc hmem hsucc
          have HS := hide hsucc
          have HM := hide hmem
          clear hsucc hmem hcell hlast hle
          by_cases hx : x < k
          · have hx' : (x : Int) < (k : Int) := by omega
            go_wp2
            go_round
            case rel => exact ⟨p + 1, by go_num, by omega, HS.out hx⟩
            case measure => simp [intOf]; omega
          · have hx' : ¬ (x : Int) < (k : Int) := by omega
            by_cases hxe : x = k
            · subst hxe
              rcases hs with hs | ⟨b', off', rfl, hcell'⟩
              · have := HG6.out; omega
              have hk64 : x / 64 < ss.length := by have := HG6.out; omega
              have hc' := hcell' (x / 64) hk64
              have hwx := HW2.out.getD (x / 64)
              have hwant : wantB l ss (x + 1) = (wantB l ss x || (ss.getD (x / 64) 0).testBit (x % 64)) := by
                rw [wantB_succ, decide_eq_true ((HM.out (fun _ => Nat.le_refl _)).2 ⟨hpl, rfl⟩), Bool.true_and]; rfl
              generalize ss.getD (x / 64) 0 = y at hc' hwx hwant
              have HY := hide hwx
              have HWT := hide hwant
              clear hwx hwant hcell'
              cases hbit : y.testBit (x % 64)
              all_goals
                have HBIT := hide hbit
                clear hbit
                go_wp2_with fail
                refine (bitOf_any b' off' ss.length c2' x y _ HY.out (by omega) hk64 hc').mono ?_
                rw [HBIT.out]
                rintro e w6 ⟨rfl, rfl⟩
                go_wp2
              · go_round
                case rel => exact ⟨p, x + 1, by omega, by go_num, rfl, ⟨hp, fun i hi => by have := HBE.out i hi; omega⟩, by rw [HWT.out, HBIT.out, Bool.or_false]⟩
                case measure => simp [intOf]; omega
              · go_round
                case rel => exact ⟨p, x + 1, by omega, by go_num, rfl, ⟨hp, fun i hi => by have := HBE.out i hi; omega⟩, by rw [HWT.out, HBIT.out, Bool.or_true]⟩
                case measure => simp [intOf]; omega
            · have hxe' : ((x : Int) == (k : Int)) = false := by simp; omega
              have hwant : wantB l ss (k + 1) = wantB l ss k := by
                rw [wantB_succ, decide_eq_false (fun h => hxe ((HM.out (fun _ => by omega)).1 h).2), Bool.false_and, Bool.or_false]
              have HWT := hide hwant
              clear hwant
              go_wp2
              go_round
              case rel => exact ⟨p, k + 1, by omega, by go_num, rfl, ⟨hp, fun i hi => by have := HBE.out i hi; omega⟩, by rw [HWT.out]⟩
              case measure => simp [intOf]; omega
        · have hwant : wantB l ss (k + 1) = wantB l ss k := by
            rw [wantB_succ, decide_eq_false (fun h => hpl ((HIC.out.mem (p := p) (j := k) HBE.out (fun h => absurd h hpl)).1 h).1), Bool.false_and, Bool.or_false]
          have HWT := hide hwant
          clear hwant
          go_wp2
          go_round
          case rel => exact ⟨p, k + 1, by omega, by go_num, rfl, ⟨hp, fun i hi => by have := HBE.out i hi; omega⟩, by rw [HWT.out]⟩
          case measure => simp [intOf]; omega
    · have hkm : k = m := by omega
      have e : wantB l ss k = got := by rw [hkm]; exact HWE.out
      have E := hide e
      clear e hkm
      go_wp2
      go_ret
      rw [E.out]
      exact ⟨ret_bool (by simp), HB5.out⟩

set_option maxHeartbeats 800000 in
theorem law1_any (a0 : Option Addr) (len0 cap0 : Nat) (z0 : List Int) (n : Int) (a2 : Option Addr) (len2 cap2 : Nat) (z2 : List Int) (w : World) (h0 : RowAt .i64 w a0 len0 z0) (h2 : RowAt .u64 w a2 len2 z2)
    (hl0 : len0 ≤ maxLen) (hl2 : len2 ≤ maxLen) (hn0 : a0 = none → len0 = 0) (hn2 : a2 = none → len2 = 0) (hw2 : AllW (z2.map Int.toNat)) (hp2 : ∀ i, i < len2 → 0 ≤ z2.getD i 0) :
    Calls Try.prog 3 #[.slice a0 len0 cap0, .int .i64 n, .slice a2 len2 cap2] w (truePost w) := by
  by_cases g : len0 ≤ 65536 ∧ len2 ≤ 65536 ∧ 8 * len0 + 8 * len2 ≤ 1048576 ∧ 0 ≤ n ∧ n ≤ 65536 ∧ (len2 : Int) = (n + 63) / 64
  · obtain ⟨g1, g2, g3, g4, g5, g6⟩ := g
    obtain ⟨m, rfl⟩ : ∃ m : Nat, n = (m : Int) := ⟨n.toNat, by omega⟩
    have e0 : len0 = (z0.map Int.toNat).length := by rw [List.length_map]; exact h0.1.symm
    have e2 : len2 = (z2.map Int.toNat).length := by rw [List.length_map]; exact h2.1.symm
    subst e0
    subst e2
    refine law1_in a0 (z0.map Int.toNat) cap0 z0 m a2 (z2.map Int.toNat) cap2 z2 w h0 h2 hn0 hn2 hw2 (fun w a hr hI => ?_) (fun w a hr => NRow.of_row hr hp2) g1 g2 g3 (by omega) (by omega)
    have := hI.inc hr.1
    exact ⟨NRow.of_row hr (fun i hi => (hI i hi).1), this.1, fun j hj => by have := this.2 j hj; omega⟩
  · have HG := hide g
    clear g
    unfold maxLen at hl0 hl2
    have hz := zzBytes_any a0 a2 len0 cap0 len2 cap2 n w (by unfold maxLen; omega) (by unfold maxLen; omega)
    have HZ := hide hz
    clear hz
    by_cases c1 : len0 ≤ 65536
    · by_cases c2 : len2 ≤ 65536
      · by_cases c3 : 8 * len0 + 8 * len2 ≤ 1048576
        · by_cases c4 : 0 ≤ n
          · by_cases c5 : n ≤ 65536
            · have c6 : ((len2 : Int) != (n + 63) / 64) = true := by
                have := HG.out
                simp only [bne_iff_ne, ne_eq]
                intro h
                exact this ⟨c1, c2, c3, c4, c5, h⟩
              go_enter Try.func3, Try.ntmps3
              go_wp2_with (go_at_call 8; refine HZ.out.mono ?_; rintro e w1 ⟨⟨b, rfl⟩, rfl⟩)
              all_goals (go_ret; exact ⟨rfl, Below.refl _ _⟩)
            all_goals
              go_enter Try.func3, Try.ntmps3
              go_wp2_with (go_at_call 8; refine HZ.out.mono ?_; rintro e w1 ⟨⟨b, rfl⟩, rfl⟩)
              all_goals (go_ret; exact ⟨rfl, Below.refl _ _⟩)
          all_goals
            go_enter Try.func3, Try.ntmps3
            go_wp2_with (go_at_call 8; refine HZ.out.mono ?_; rintro e w1 ⟨⟨b, rfl⟩, rfl⟩)
            all_goals (go_ret; exact ⟨rfl, Below.refl _ _⟩)
        all_goals
          go_enter Try.func3, Try.ntmps3
          go_wp2_with (go_at_call 8; refine HZ.out.mono ?_; rintro e w1 ⟨⟨b, rfl⟩, rfl⟩)
          all_goals (go_ret; exact ⟨rfl, Below.refl _ _⟩)
      all_goals
        go_enter Try.func3, Try.ntmps3
        go_wp2_with (go_at_call 8; refine HZ.out.mono ?_; rintro e w1 ⟨⟨b, rfl⟩, rfl⟩)
        all_goals (go_ret; exact ⟨rfl, Below.refl _ _⟩)
    all_goals
      go_enter Try.func3, Try.ntmps3
      go_wp2_with (go_at_call 8; refine HZ.out.mono ?_; rintro e w1 ⟨⟨b, rfl⟩, rfl⟩)
      all_goals (go_ret; exact ⟨rfl, Below.refl _ _⟩)

end Go.Proofs.Qxb6601049a
