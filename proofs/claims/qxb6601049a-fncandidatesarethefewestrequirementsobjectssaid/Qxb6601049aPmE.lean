import Derived.Test.Qxb6601049aPmD
namespace Go.Proofs.Qxb6601049a
open Go.ChangeShapes Go.WideShapes Go.ChangeAt Go.RowKit
set_option linter.unusedVariables false

/-- a slice header leads to the numbers l -/
def NRow (k : IntKind) (w : World) (a : Option Addr) (l : List Nat) : Prop :=
  l.length = 0 ∨ ∃ b off, a = some ⟨b, off, none⟩ ∧ ∀ i, i < l.length → w.cell? ⟨b, off + i, none⟩ = some (.int k ((l.getD i 0 : Nat) : Int))

theorem NRow.below {k : IntKind} {w w' : World} {a : Option Addr} {l : List Nat} (h : NRow k w a l) (hb : Below w.heap.size w w') : NRow k w' a l := by
  rcases h with h2 | ⟨b, off, rfl, hc⟩
  · exact .inl h2
  · refine .inr ⟨b, off, rfl, fun i hi => ?_⟩
    have := hc i hi
    rw [hb.cell (p := ⟨b, off + i, none⟩) (World.block_lt_of_cell? w _ this)]
    exact this

/-- is bit j set among the words? -/
def bitW (ws : List Nat) (j : Nat) : Bool := (ws.getD (j / 64) 0).testBit (j % 64)
def addW (ws : List Nat) (j : Nat) : List Nat := ws.set (j / 64) (ws.getD (j / 64) 0 ||| 2 ^ (j % 64))
theorem addW_len (ws : List Nat) (j : Nat) : (addW ws j).length = ws.length := by simp [addW]
theorem foldW_len (l : List Nat) (ws : List Nat) : (l.foldl addW ws).length = ws.length := by
  induction l generalizing ws with
  | nil => rfl
  | cons a l ih => rw [List.foldl_cons, ih, addW_len]
theorem bitW_addW (ws : List Nat) (j i : Nat) (hj : j / 64 < ws.length) : bitW (addW ws j) i = (bitW ws i || decide (i = j)) := by
  unfold bitW addW
  by_cases h : i / 64 = j / 64
  · have e : (ws.set (j / 64) (ws.getD (j / 64) 0 ||| 2 ^ (j % 64))).getD (i / 64) 0 = ws.getD (j / 64) 0 ||| 2 ^ (j % 64) := by
      rw [h]; simp [List.getD_eq_getElem?_getD, hj]
    rw [e, Nat.testBit_or, Nat.testBit_two_pow, h]
    congr 1
    by_cases h2 : i = j
    · subst h2; simp
    · have : j % 64 ≠ i % 64 := by omega
      simp [h2, this]
  · have e : (ws.set (j / 64) (ws.getD (j / 64) 0 ||| 2 ^ (j % 64))).getD (i / 64) 0 = ws.getD (i / 64) 0 := by
      simp [List.getD_eq_getElem?_getD, Ne.symm h]
    rw [e]
    have : i ≠ j := by intro h'; exact h (by rw [h'])
    simp [this]
theorem bitW_fold (l : List Nat) (ws : List Nat) (i : Nat) (hl : ∀ j ∈ l, j / 64 < ws.length) : bitW (l.foldl addW ws) i = (bitW ws i || decide (i ∈ l)) := by
  induction l generalizing ws with
  | nil => simp
  | cons a l ih =>
    rw [List.foldl_cons, ih _ (fun j hj => by rw [addW_len]; exact hl j (List.mem_cons_of_mem _ hj)), bitW_addW _ _ _ (hl a (by simp))]
    rw [Bool.or_assoc]
    congr 1
    simp [List.mem_cons, Bool.decide_or]
theorem bitW_zero (m i : Nat) : bitW (List.replicate m 0) i = false := by
  unfold bitW
  have : (List.replicate m 0).getD (i / 64) 0 = 0 := by
    simp only [List.getD_eq_getElem?_getD, List.getElem?_replicate]; split <;> rfl
  rw [this]; simp
def AllW (ws : List Nat) : Prop := ∀ x ∈ ws, W64 x
theorem AllW.getD {ws : List Nat} (h : AllW ws) (j : Nat) : W64 (ws.getD j 0) := by
  rw [List.getD_eq_getElem?_getD]
  cases e : ws[j]? with
  | none => simp [W64]
  | some x => exact h x (List.mem_of_getElem? e)
theorem AllW.add {ws : List Nat} (h : AllW ws) (j : Nat) : AllW (addW ws j) := by
  intro x hx
  rcases List.mem_or_eq_of_mem_set hx with h1 | rfl
  · exact h x h1
  · exact (h.getD _).or (pow_lt64 (Nat.mod_lt _ (by omega)))
theorem AllW.fold {ws : List Nat} (h : AllW ws) (l : List Nat) : AllW (l.foldl addW ws) := by
  induction l generalizing ws with
  | nil => exact h
  | cons a l ih => exact ih (h.add a)
theorem AllW.zero (m : Nat) : AllW (List.replicate m 0) := by
  intro x hx
  rw [List.eq_of_mem_replicate hx]; simp [W64]

def words (ws : List Nat) : List Value := ws.map (fun x => Value.int .u64 ((x : Nat) : Int))

theorem words_set (ws : List Nat) (j x : Nat) : (words ws).set j (.int .u64 (x : Int)) = words (ws.set j x) := by simp [words, List.map_set]
theorem words_get (ws : List Nat) (j : Nat) (h : j < ws.length) : (words ws)[j]? = some (.int .u64 ((ws.getD j 0 : Nat) : Int)) := by
  simp [words, h]

theorem NRow.of_words {w : World} {base g : Nat} {e : TypeId} {m cap : Nat} {ws : List Nat} (h : w.ownsRow base e 1 (.slice (some ⟨g, 0, none⟩) m cap) m (words ws)) : NRow .u64 w (some ⟨g, 0, none⟩) ws := by
  have hl : ws.length = m := by have := h.1; simpa [words] using this
  refine .inr ⟨g, 0, rfl, fun i hi => ?_⟩
  rw [Nat.zero_add, h.cellAt i (by omega), words_get _ _ hi]

/-- the bitset of a posting -/
def PSet (w : World) (a' : Option Addr) (m' : Nat) (l : List Nat) (n : Nat) : Prop :=
  (l.length < (n + 63) / 64 ∧ a' = none ∧ m' = 0) ∨
  ((n + 63) / 64 ≤ l.length ∧ m' = (n + 63) / 64 ∧ ∃ g ws, a' = some ⟨g, 0, none⟩ ∧ ws.length = m' ∧ AllW ws ∧ NRow .u64 w a' ws ∧ ∀ i, bitW ws i = decide (i ∈ l))

def postingPost (a : Option Addr) (cap : Nat) (l : List Nat) (n : Nat) (w : World) (e : Ending) (w' : World) : Prop :=
  ∃ a' m', e = .returned (.agg #[.slice a l.length cap, .slice a' m' m']) ∧ PSet w' a' m' l n ∧ Below w.heap.size w w'

theorem cell_blk {w : World} {b : Nat} {cs : Array Value} {t : TypeId} (h : w.heap[b]? = some (.cells cs t (0, 0))) (i : Nat) {v : Value} (hv : cs[i]? = some v) : w.cell? ⟨b, i, none⟩ = some v := by
  rw [cell_of_row w b i cs t (0, 0) h, hv]

theorem free_blk {w : World} {b : Nat} {cs : Array Value} {t : TypeId} (h : w.heap[b]? = some (.cells cs t (0, 0))) (i : Nat) : w.frozen? ⟨b, i, none⟩ = false := by
  simp [World.frozen?, h]

theorem blk_set {w : World} {b : Nat} {cs : Array Value} {t : TypeId} (h : w.heap[b]? = some (.cells cs t (0, 0))) (i : Nat) (v : Value) : (w.setCell ⟨b, i, none⟩ v).heap[b]? = some (.cells (cs.setIfInBounds i v) t (0, 0)) := by
  simp only [World.setCell, Array.getElem?_modify, if_true, h]
  rfl

theorem after_two {w w1 : World} {A B : Obj} (hb : Below ((w.alloc A).alloc B).heap.size ((w.alloc A).alloc B) w1) :
    w.heap.size + 2 ≤ w1.heap.size ∧ w1.heap[w.heap.size]? = some A ∧ w1.heap[w.heap.size + 1]? = some B ∧ Below w.heap.size w w1 := by
  have hs := hb.size
  simp at hs
  refine ⟨hs, ?_, ?_, ?_⟩
  · rw [hb.block _ (by simp; omega), Below.heap_alloc (w.alloc A) B _ (by simp), heap_alloc_new]
  · rw [hb.block _ (by simp)]
    have := heap_alloc_new (w.alloc A) B
    simpa using this
  · exact (((Below.refl _ _).alloc (Nat.le_refl _) _).alloc (by simp) _).trans (hb.mono (by simp; omega))

/-- the relation of newPosting's loop -/
def NPRel (w : World) (a : Option Addr) (cap : Nat) (l : List Nat) (m k : Nat) (wr : World) : Prop :=
  wr.ownsRow (w.heap.size + 2) 72 1 (.slice (some ⟨w.heap.size + 2, 0, none⟩) m m) m (words ((l.take k).foldl addW (List.replicate m 0))) ∧
  wr.heap[w.heap.size]? = some (.cells #[.slice none 0 0, .slice none 0 0] 75 (0, 0)) ∧ wr.heap[w.heap.size + 1]? = some (.cells #[.slice a l.length cap, .slice (some ⟨w.heap.size + 2, 0, none⟩) m m] 75 (0, 0)) ∧ Below w.heap.size w wr

theorem NPRel.start {w w1 : World} {a : Option Addr} {cap m : Nat} {l : List Nat} (hs : w.heap.size + 2 ≤ w1.heap.size)
    (hown : w1.ownsRow (w.heap.size + 2) 72 1 (.slice (some ⟨w.heap.size + 2, 0, none⟩) m m) m (List.replicate m (.int .u64 0)))
    (hR : w1.heap[w.heap.size]? = some (.cells #[.slice none 0 0, .slice none 0 0] 75 (0, 0))) (hP : w1.heap[w.heap.size + 1]? = some (.cells #[.slice a l.length cap, .slice none 0 0] 75 (0, 0))) (hb : Below w.heap.size w w1) :
    NPRel w a cap l m 0 (w1.setCell ⟨w.heap.size + 1, 1, none⟩ (.slice (some ⟨w.heap.size + 2, 0, none⟩) m m)) := by
  refine ⟨?_, ?_, ?_, ?_⟩
  · have := ownsRow_setCell_below hown (a := ⟨w.heap.size + 1, 1, none⟩) (by simp) (.slice (some ⟨w.heap.size + 2, 0, none⟩) m m)
    simpa [words] using this
  · rw [Below.heap_setCell _ _ _ _ (by simp)]; exact hR
  · rw [blk_set hP]; rfl
  · exact hb.setCell (by simp) _

theorem NPRel.step {w wr : World} {a : Option Addr} {cap m k : Nat} {l : List Nat} (h : NPRel w a cap l m k wr) (hk : k < l.length) {j : Nat} (hj : j = l.getD k 0) (x : Nat) (hx : x = ((l.take k).foldl addW (List.replicate m 0)).getD (j / 64) 0) :
    NPRel w a cap l m (k + 1) (wr.setCell ⟨w.heap.size + 2, j / 64, none⟩ (.int .u64 ((x ||| 2 ^ (j % 64) : Nat) : Int))).drew := by
  subst hx
  obtain ⟨h1, h2, h3, h4⟩ := h
  have e : (l.take (k + 1)).foldl addW (List.replicate m 0) = addW ((l.take k).foldl addW (List.replicate m 0)) j := by
    rw [List.take_add_one, List.foldl_append, List.getElem?_eq_getElem hk]
    subst hj
    simp [List.getD_eq_getElem?_getD, hk]
  refine ⟨?_, ?_, ?_, ?_⟩
  · rw [e]
    have := (h1.stored (j / 64) (.int .u64 ((((l.take k).foldl addW (List.replicate m 0)).getD (j / 64) 0 ||| 2 ^ (j % 64) : Nat) : Int))).1
    rw [words_set] at this
    exact this.drew
  · show (wr.setCell _ _).heap[w.heap.size]? = _
    rw [Below.heap_setCell _ _ _ _ (by simp)]; exact h2
  · show (wr.setCell _ _).heap[w.heap.size + 1]? = _
    rw [Below.heap_setCell _ _ _ _ (by simp)]; exact h3
  · exact (h4.setCell (by simp) _).drew

theorem NPRel.psets {w wr : World} {a : Option Addr} {cap n : Nat} {l : List Nat} (h : NPRel w a cap l ((n + 63) / 64) l.length wr) (hl : ∀ j ∈ l, j < n) (hn : (n + 63) / 64 ≤ l.length) (u v : Value) :
    PSet ((wr.setCell ⟨w.heap.size, 0, none⟩ u).setCell ⟨w.heap.size, 1, none⟩ v) (some ⟨w.heap.size + 2, 0, none⟩) ((n + 63) / 64) l n ∧ Below w.heap.size w ((wr.setCell ⟨w.heap.size, 0, none⟩ u).setCell ⟨w.heap.size, 1, none⟩ v) := by
  obtain ⟨h1, h2, h3, h4⟩ := h
  rw [List.take_length] at h1
  refine ⟨?_, (h4.setCell (Nat.le_refl _) _).setCell (Nat.le_refl _) _⟩
  refine .inr ⟨hn, rfl, _, l.foldl addW (List.replicate ((n + 63) / 64) 0), rfl, by rw [foldW_len]; simp, (AllW.zero _).fold _, ?_, fun i => ?_⟩
  · exact NRow.of_words (ownsRow_setCell_below (ownsRow_setCell_below h1 (by simp) _) (by simp) _)
  · rw [bitW_fold _ _ _ (fun j hj => by have := hl j hj; simp; omega), bitW_zero, Bool.false_or]

theorem getD_mem {l : List Nat} {k : Nat} (h : k < l.length) : l.getD k 0 ∈ l := by
  simp [List.getD_eq_getElem?_getD, h]

set_option maxHeartbeats 400000 in
theorem newPosting_any (a : Option Addr) (cap : Nat) (l : List Nat) (n : Nat) (w : World) (hn : n ≤ 1048576) (hl : ∀ j ∈ l, j < n) (hlen : l.length ≤ 1048576) (hr : NRow .i64 w a l) :
    Calls Try.prog 42 #[.slice a l.length cap, .int .i64 (n : Int)] w (postingPost a cap l n w) := by
  have HL := hide hl
  clear hl
  by_cases hsz : l.length < (n + 63) / 64
  · have hsz' : (l.length : Int) < ((n : Int) + 63) / 64 := by omega
    go_enter Try.func42, Try.ntmps42
    go_wp2
    refine bodyPost_ret (v := .agg #[.slice a l.length cap, .slice none 0 0]) (by simp [results, Try.results42, go_sem]) rfl ⟨none, 0, rfl, .inl ⟨hsz, rfl, rfl⟩, ?_⟩
    exact ((Below.refl _ _).alloc (Nat.le_refl _) _).alloc (by simp) _
  · have hsz' : ((n : Int) + 63) / 64 ≤ (l.length : Int) := by omega
    go_enter Try.func42, Try.ntmps42
    go_wp2_with fail
    refine (newBitset_any n _ hn).mono ?_
    rintro e w1 ⟨rfl, hown, hb⟩
    generalize hm : (n + 63) / 64 = m at hown
    have HM := hide hm
    have hm' : m ≤ l.length := by omega
    clear hm
    obtain ⟨hs, hR1, hP1, hbb⟩ := after_two hb
    have hst := NPRel.start hs (by simpa using hown) hR1 hP1 hbb
    have f1 := free_blk hP1 1
    have c1 := cell_blk hP1 1 rfl
    have HST := hide hst
    clear hst hown hb hR1 hP1 hbb
    go_wp2
    go_loopw [7, 21] (fun _ i wr => ∃ k : Nat, k ≤ l.length ∧ i = .int .i64 k ∧ NPRel w a cap l m k wr) (fun _ i _ => l.length - (intOf i).toNat)
    case atStart => exact ⟨0, Nat.zero_le _, rfl, HST.out⟩
    case round =>
      clear HST c1 f1 hs
      obtain ⟨k, hk, rfl, hrel⟩ := hrel
      by_cases hlt : k < l.length
      · rcases hr with hr | ⟨b, off, rfl, hcell⟩
        · omega
        have hc0 := hcell k hlt
        have hbw := World.block_lt_of_cell? w _ hc0
        have hc : wr.cell? ⟨b, off + k, none⟩ = some (.int .i64 ((l.getD k 0 : Nat) : Int)) := by
          rw [hrel.2.2.2.cell (p := ⟨b, off + k, none⟩) hbw]; exact hc0
        have hjn := HL.out _ (getD_mem hlt)
        have hstep := fun x hx => NPRel.step hrel hlt (j := l.getD k 0) rfl x hx
        have hj64 : l.getD k 0 / 64 < m := by have := HM.out; omega
        have hcp := cell_blk hrel.2.2.1 1 rfl
        have hx := hrel.1.cellAt (l.getD k 0 / 64) (by omega)
        have hl64 : ((l.take k).foldl addW (List.replicate m 0)).length = m := by rw [foldW_len]; simp
        rw [words_get _ _ (by rw [hl64]; exact hj64)] at hx
        have hfx := hrel.1.frozenAt (l.getD k 0 / 64)
        have hwx : W64 (((l.take k).foldl addW (List.replicate m 0)).getD (l.getD k 0 / 64) 0) := ((AllW.zero m).fold _).getD _
        generalize l.getD k 0 = j at hc hstep hx hfx hwx hj64 hjn
        generalize ((l.take k).foldl addW (List.replicate m 0)).getD (j / 64) 0 = x at hx hstep hwx
        have hj2 : j ≤ 1048576 := by omega
        replace hstep := hstep x rfl
        have HS := hide hstep
        have HWX := hide hwx
        clear hstep hwx hrel hcell hc0 hbw hl64
        go_wp2_with fail
        refine (add_any (w.heap.size + 2) 0 m m j x _ HWX.out hj2 hj64 (by rw [Nat.zero_add]; exact hx) (by rw [Nat.zero_add]; exact hfx)).mono ?_
        rintro e w2 ⟨rfl, rfl⟩
        go_wp2
        go_roundw
        case rel => exact ⟨k + 1, by omega, by go_num, HS.out⟩
        case measure => simp [intOf]; omega
      · have hkl : k = l.length := by omega
        rw [hkl] at hrel
        have hps := NPRel.psets (n := n) (by rw [HM.out]; exact hrel) HL.out (by rw [HM.out]; exact hm') (.slice a l.length cap) (.slice (some ⟨w.heap.size + 2, 0, none⟩) m m)
        rw [HM.out] at hps
        have HP := hide hps
        clear hps
        have g0 := cell_blk (v := .slice a l.length cap) hrel.2.2.1 0 rfl
        have g1 := cell_blk (v := .slice (some ⟨w.heap.size + 2, 0, none⟩) m m) hrel.2.2.1 1 rfl
        have r0 := cell_blk (v := .slice none 0 0) hrel.2.1 0 rfl
        have r1 := cell_blk (v := .slice none 0 0) hrel.2.1 1 rfl
        have k0 := free_blk hrel.2.1 0
        have k1 := free_blk hrel.2.1 1
        have HR := hide hrel
        clear hrel hkl
        go_wp2
        refine bodyPost_ret (v := .agg #[.slice a l.length cap, .slice (some ⟨w.heap.size + 2, 0, none⟩) m m]) ?_ rfl ⟨_, _, rfl, HP.out.1, HP.out.2⟩
        simp [results, Try.results42, go_sem, r0, r1]

end Go.Proofs.Qxb6601049a
