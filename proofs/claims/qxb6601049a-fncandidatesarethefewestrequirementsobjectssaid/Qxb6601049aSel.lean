/-
  A selector in memory: reqValues, ZZNoSelector, ZZSelectorAppend.
-/
import Derived.Test.Qxb6601049aZix
namespace Go.Proofs.Qxb6601049a
open Go.ChangeShapes Go.WideShapes Go.ChangeAt Go.RowKit
set_option linter.unusedVariables false

/-- the values of a requirement, as a set -/
def vfn (S : List ByteArray) : ByteArray → Option Value := fun s => if inB S s = true then some (.bool true) else none

theorem vfn_ne {S : List ByteArray} {s : ByteArray} : vfn S s ≠ none ↔ s ∈ S := by
  unfold vfn
  rw [← inB_iff]
  cases inB S s <;> simp

theorem vfn_step {S : List ByteArray} {i : Nat} {s : ByteArray} (h : S[i]? = some s) : ∀ t, upd (vfn (S.take i)) s (.bool true) t = vfn (S.take (i + 1)) t := by
  intro t
  have e : S.take (i + 1) = S.take i ++ [s] := by rw [List.take_add_one, h]; rfl
  have e2 : inB (S.take i ++ [s]) t = (inB (S.take i) t || decide (s = t)) := by simp [inB]
  unfold upd vfn
  rw [e, e2]
  by_cases ht : t = s
  · subst ht; simp
  · have ht' : s ≠ t := fun hc => ht hc.symm
    simp [ht, ht']

theorem Try.info87 : (Try.prog.info? 87).map (fun i => (i.zero, i.size, i.bytes)) = some (some (.agg #[.string ⟨#[]⟩, .map none, .bool false]), 3, 32) := by kernel_rfl
theorem Try.info22 : (Try.prog.info? 22).map (fun i => (i.zero, i.size, i.bytes)) = some (some (.slice none 0 0), 1, 24) := by kernel_rfl

/-- the map of a requirement's values -/
def ValOk (w : World) (mo : Option Nat) (r : Rq) : Prop := (r.any = true ∧ mo = none) ∨ (r.any = false ∧ ∃ m, mo = some m ∧ MapFn w m (vfn r.vals))

def valsPost (r : Rq) (w : World) (e : Ending) (w' : World) : Prop := ∃ mo, e = .returned (.map mo) ∧ ValOk w' mo r ∧ Below w.heap.size w w'

def RvRel (w : World) (r : Rq) (va : Option Addr) (vc : Nat) (k : Nat) (wr : World) : Prop :=
  MapFn wr (w.heap.size + 1) (vfn (r.vals.take k)) ∧ wr.heap[w.heap.size]? = some (.cells #[.string r.key, .slice va r.vals.length vc, .bool r.any, .bool r.neg] 62 (0, 0)) ∧ Below w.heap.size w wr

set_option maxRecDepth 8000 in
set_option maxHeartbeats 1600000 in
theorem reqValues_any (r : Rq) (va : Option Addr) (vc : Nat) (w : World) (hv : StrRow w va r.vals) (hvl : r.vals.length ≤ 1048576) :
    Calls Try.prog 35 #[.agg #[.string r.key, .slice va r.vals.length vc, .bool r.any, .bool r.neg]] w (valsPost r w) := by
  have hmm := fun n w => run_makeMap_hint Try.underlying63 .i64 n w
  have HV := hide hv
  clear hv
  have hst : RvRel w r va vc 0 ((w.alloc (.cells #[.string r.key, .slice va r.vals.length vc, .bool r.any, .bool r.neg] 62)).alloc (.map #[] 0)) := by
    refine ⟨?_, ?_, ((Below.refl _ _).alloc (Nat.le_refl _) _).alloc (by simp) _⟩
    · have := MapFn.made (w.alloc (.cells #[.string r.key, .slice va r.vals.length vc, .bool r.any, .bool r.neg] 62))
      have e : (w.alloc (.cells #[.string r.key, .slice va r.vals.length vc, .bool r.any, .bool r.neg] 62)).heap.size = w.heap.size + 1 := by simp
      rw [e] at this
      exact this.congr (fun s => by simp [vfn, inB])
    · rw [Below.heap_alloc _ _ _ (by simp)]
      exact heap_alloc_new w _
  obtain ⟨key, vals, any, neg⟩ := r
  have HST := hide hst
  clear hst
  simp only at hvl HV ⊢
  cases any with
  | true =>
    go_enter Try.func35, Try.ntmps35
    go_wp2
    go_ret
    exact ⟨none, rfl, .inl ⟨rfl, rfl⟩, Below.one _ _⟩
  | false =>
    go_enter Try.func35, Try.ntmps35
    go_wp2_with fail
    go_loopw [4] (fun i wr => ∃ k : Nat, k ≤ vals.length ∧ i = .int .i64 k ∧ RvRel w ⟨key, vals, false, neg⟩ va vc k wr) (fun i _ => vals.length - (intOf i).toNat)
    case atStart => exact ⟨0, Nat.zero_le _, rfl, HST.out⟩
    case round =>
      clear HST
      obtain ⟨k, hk, rfl, h1, h2, h3⟩ := hrel
      have hc := cell_blk (v := .slice va vals.length vc) h2 1 rfl
      have HM := hide h1
      have HX := hide h2
      by_cases hlt : k < vals.length
      · have hlt' : (k : Int) < (vals.length : Int) := by omega
        obtain ⟨b, off, s, rfl, hs, c1⟩ := HV.out.at hlt
        have hd : wr.cell? ⟨b, off + k, none⟩ = some (.string s) := (h3.cell (p := ⟨b, off + k, none⟩) (World.block_lt_of_cell? w _ c1)).trans c1
        have HB := hide h3
        have HS := hide hs
        clear h1 h2 h3 c1 hs
        go_wp2_with (at_mapUpdate; refine wpList_mapUpdate_fn _ rfl _ _ _ 63 rfl 9 4 Try.underlying63 Try.underlying9 (w.heap.size + 1) _ s (.bool true) rfl rfl rfl HM.out ?_)
        intro w2 hm2 hon2
        have HN : Hid (RvRel w ⟨key, vals, false, neg⟩ (some ⟨b, off, none⟩) vc (k + 1) w2) := ⟨hm2.congr (vfn_step HS.out), (hon2.block _ (by omega)).trans HX.out, HB.out.trans (hon2.below (by omega))⟩
        clear hm2 hon2
        go_wp2
        go_roundw
        case rel => exact ⟨k + 1, by omega, by go_num, HN.out⟩
        case measure => simp [intOf]; omega
      · have hge : ¬ ((k : Int) < (vals.length : Int)) := by omega
        have HF : Hid (ValOk wr (some (w.heap.size + 1)) ⟨key, vals, false, neg⟩ ∧ Below w.heap.size w wr) := by
          have e : k = vals.length := by omega
          subst e
          rw [List.take_length] at h1
          exact ⟨.inr ⟨rfl, _, rfl, h1⟩, h3⟩
        clear h1 h2 h3
        go_wp2
        go_ret
        exact ⟨_, rfl, HF.out.1, HF.out.2⟩

theorem zzNoSelector_any (w : World) : Calls Try.prog 33 #[] w (samePost (.slice none 0 0) w) := by
  go_enter Try.func33, Try.ntmps33
  go_wp2
  go_ret
  exact ⟨rfl, rfl⟩

theorem cell_three_new (w : World) (x y z : Value) (t : TypeId) : ∀ j u, [x, y, z][j]? = some u → (w.alloc (.cells #[x, y, z] t)).cell? ((⟨w.heap.size, 0, none⟩ : Addr).add j) = some u := by
  intro j u hj
  match j, hj with
  | 0, hj =>
    simp at hj
    subst hj
    simp [Addr.add]
  | 1, hj =>
    simp at hj
    subst hj
    simp [Addr.add]
  | 2, hj =>
    simp at hj
    subst hj
    simp [Addr.add]

theorem ent_oneCell (k : ByteArray) (mo : Option Nat) (b : Bool) : ∀ u ∈ [Value.string k, Value.map mo, Value.bool b], u.oneCell' = true := by
  intro u hu
  simp at hu
  rcases hu with rfl | rfl | rfl <;> rfl

def appPost (B : Nat) (v : Value) (n : Nat) (xs : List Value) (key : ByteArray) (mo : Option Nat) (neg : Bool) (w : World) (e : Ending) (w' : World) : Prop :=
  ∃ g cap blk, e = .returned (.slice (some ⟨g, 0, none⟩) (n + 1) cap) ∧ w'.ownsRow B 87 3 (.slice (some ⟨g, 0, none⟩) (n + 1) cap) (n + 1) (xs ++ [.string key, .map mo, .bool neg]) ∧ (w.alloc blk).grownBy w' v.ownBlock

set_option maxHeartbeats 1600000 in
theorem zzSelectorAppend_any (B : Nat) (v : Value) (n : Nat) (xs : List Value) (key : ByteArray) (mo : Option Nat) (neg : Bool) (w : World) (hown : w.ownsRow B 87 3 v n xs) (hB : B ≤ w.heap.size) (hn : n ≤ 1048576) :
    Calls Try.prog 34 #[v, .string key, .map mo, .bool neg] w (appPost B v n xs key mo neg w) := by
  obtain ⟨i0, hi, hz0, hz1, hz2⟩ := info_parts Try.info87
  have HO := hide hown
  clear hown
  go_enter Try.func34, Try.ntmps34
  go_wp2_with (at_builtin; refine wpList_append_lies _ rfl (.tmp 9) (.tmp 14) 57 rfl B 87 i0 (.agg #[.string ⟨#[]⟩, .map none, .bool false]) 3 32 Try.underlying57 hi hz0 hz1 hz2 rfl (by decide) v n xs rfl (HO.out.alloc _) ⟨w.heap.size, 0, none⟩ 1 1 [.string key, .map mo, .bool neg] rfl rfl (cell_three_new _ _ _ _ _) (ent_oneCell _ _ _) (by omega) (by unfold maxLen; omega) (by omega) (by simp; omega) (w.heap.size + 1) (by simp) ?_)
  intro g cap w1 hown1 hgrow1 _ _
  have HO1 := hide hown1
  have HG1 := hide hgrow1
  clear hown1 hgrow1
  go_wp2
  go_ret
  exact ⟨g, cap, _, rfl, HO1.out, HG1.out⟩

end Go.Proofs.Qxb6601049a
