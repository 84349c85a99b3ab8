/-
  ZZCandidates; the table 'times' of the law on the candidates.
-/
import Derived.Test.Qxb6601049aCand
namespace Go.Proofs.Qxb6601049a
open Go.ChangeShapes Go.WideShapes Go.ChangeAt Go.RowKit
set_option linter.unusedVariables false

theorem SelAt.shape {B : Nat} {w : World} {v : Value} {R : List Rq} (h : SelAt B w v R) : ∃ va vc, v = .slice va R.length vc := by
  obtain ⟨es, _, _, h3⟩ := h
  rcases h3.2 with ⟨h1, h2⟩ | ⟨g, cap, cur, h1, _⟩
  · exact ⟨none, 0, by rw [h1, h2]⟩
  · exact ⟨_, _, h1⟩

theorem zzCandidates_any (X : Nat) (O : Objs) (R : List Rq) (B : Nat) (va : Option Addr) (vc : Nat) (w : World) (hix : IndexAt w X O) (hsel : SelAt B w (.slice va R.length vc) R) (hs : O.length ≤ 1048576) (hsr : SmallR R) :
    Calls Try.prog 36 #[.pointer (some ⟨X, 0, none⟩), .slice va R.length vc] w (candPost O R w) := by
  have HC := hide (candidates_any X O R B va vc w hix hsel hs hsr)
  clear hix hsel hsr
  go_enter Try.func36, Try.ntmps36
  go_wp2_with fail
  refine HC.out.mono ?_
  rintro e w' ⟨a, c, Ls, rfl, h1, h2, h3, h4⟩
  have H1 := hide h1
  have H2 := hide h2
  have H3 := hide h3
  have H4 := hide h4
  clear h1 h2 h3 h4 HC
  go_wp2
  go_ret
  exact ⟨a, c, Ls, rfl, H1.out, H2.out, H3.out, H4.out⟩

theorem LRow.below {w w' : World} {a : Option Addr} {Ls : List (List Nat)} (h : LRow w a Ls) (hb : Below w.heap.size w w') : LRow w' a Ls := by
  rcases h with h | ⟨b, off, h1, h2⟩
  · exact .inl h
  · refine .inr ⟨b, off, h1, fun q L hq => ?_⟩
    obtain ⟨ai, ci, c1, c2⟩ := h2 q L hq
    exact ⟨ai, ci, (hb.cell (p := ⟨b, off + q, none⟩) (World.block_lt_of_cell? w _ c1)).trans c1, c2.below hb⟩

theorem LRow.at {w : World} {a : Option Addr} {Ls : List (List Nat)} (h : LRow w a Ls) {q : Nat} (hq : q < Ls.length) : ∃ b off L ai ci, a = some ⟨b, off, none⟩ ∧ Ls[q]? = some L ∧ w.cell? ⟨b, off + q, none⟩ = some (.slice ai L.length ci) ∧ NRow .i64 w ai L := by
  rcases h with h | ⟨b, off, h1, h2⟩
  · subst h; simp at hq
  · have e : Ls[q]? = some Ls[q] := List.getElem?_eq_getElem hq
    obtain ⟨ai, ci, c1, c2⟩ := h2 q _ e
    exact ⟨b, off, _, ai, ci, h1, e, c1, c2⟩

theorem NRow.at {w : World} {a : Option Addr} {L : List Nat} (h : NRow .i64 w a L) {t : Nat} (ht : t < L.length) : ∃ b off, a = some ⟨b, off, none⟩ ∧ ∀ j, j < L.length → w.cell? ⟨b, off + j, none⟩ = some (.int .i64 ((L.getD j 0 : Nat) : Int)) := by
  rcases h with h | ⟨b, off, h1, h2⟩
  · omega
  · exact ⟨b, off, h1, h2⟩

theorem CandR.len {O : Objs} {R : List Rq} {isNil : Prop} {Ls : List (List Nat)} (h : CandR O R isNil Ls) (hsr : SmallR R) : Ls.length ≤ 1048576 ∧ ∀ L ∈ Ls, L.length ≤ O.length := by
  rcases h with ⟨_, rfl, _⟩ | ⟨_, _, best, few, hb, hl⟩
  · exact ⟨by simp, fun L hL => by cases hL⟩
  · rcases hl with ⟨_, rfl⟩ | ⟨j, r, _, hr, hn, hl⟩
    · refine ⟨by simp, fun L hL => ?_⟩
      simp at hL
      subst hL
      simp
    · rcases hl with ⟨ha, rfl⟩ | ⟨ha, ds, hd, hv, rfl⟩
      · refine ⟨by simp, fun L hL => ?_⟩
        simp at hL
        subst hL
        exact scan_len O r.key none O.length
      · refine ⟨?_, fun L hL => ?_⟩
        · rw [List.length_map]
          exact Nat.le_trans (nodup_len r.vals hd (fun v h => (hv v).1 h)) (hsr.2 j r hr)
        · obtain ⟨v, _, rfl⟩ := List.mem_map.1 hL
          exact scan_len O r.key _ O.length

/-- how often each object has been seen: those of 'vis' once, the others never -/
def TimesAt (wi : World) (G n : Nat) (vis : List Nat) (wr : World) : Prop :=
  (∃ Ts : List Nat, wr.ownsRow wi.heap.size 3 1 (.slice (some ⟨G, 0, none⟩) n n) n (ints Ts) ∧ ∀ i, i < n → Ts.getD i 0 = if i ∈ vis then 1 else 0) ∧ Below wi.heap.size wi wr

theorem TimesAt.cell {wi wr : World} {G n : Nat} {vis : List Nat} (h : TimesAt wi G n vis wr) {e : Nat} (he : e < n) : wr.cell? ⟨G, e, none⟩ = some (.int .i64 ((if e ∈ vis then 1 else 0 : Nat) : Int)) ∧ wr.frozen? ⟨G, e, none⟩ = false := by
  obtain ⟨⟨Ts, h1, h2⟩, _⟩ := h
  have hl : Ts.length = n := by have := h1.1; rw [ints_len] at this; omega
  refine ⟨?_, h1.frozenAt e⟩
  rw [h1.cellAt e (by omega), ints_get Ts (by omega), h2 e he]

theorem TimesAt.step {wi wr : World} {G n : Nat} {vis : List Nat} (h : TimesAt wi G n vis wr) {e : Nat} (he : e < n) (hG : wi.heap.size ≤ G) : TimesAt wi G n (vis ++ [e]) (wr.setCell ⟨G, e, none⟩ (.int .i64 1)) := by
  obtain ⟨⟨Ts, h1, h2⟩, h3⟩ := h
  have hl : Ts.length = n := by have := h1.1; rw [ints_len] at this; omega
  refine ⟨⟨Ts.set e 1, ?_, fun i hi => ?_⟩, h3.setCell hG _⟩
  · have := (h1.stored e (.int .i64 1)).1
    rw [show ints (Ts.set e 1) = (ints Ts).set e (.int .i64 1) by simp [ints, List.map_set]]
    exact this
  · by_cases hie : i = e
    · subst hie
      simp [List.getD_eq_getElem?_getD, hl, hi]
    · have := h2 i hi
      rw [List.getD_eq_getElem?_getD] at this ⊢
      rw [List.getElem?_set_ne (Ne.symm hie), this]
      simp [hie]

theorem times_start {wi w9 : World} {n : Nat} {Ls : List (List Nat)} (hown : w9.ownsRow wi.heap.size 3 1 (.slice (some ⟨wi.heap.size, 0, none⟩) n n) n (madeCells #[Value.int .i64 0] n).toList) (hg : wi.grownBy w9 none) : TimesAt wi wi.heap.size n (Ls.take 0).flatten w9 := by
  refine ⟨⟨List.replicate n 0, ?_, fun i hi => by simp [List.getD_eq_getElem?_getD, hi]⟩, (Below.refl _ _).grown hg (Nat.le_refl _) (fun k h => by cases h)⟩
  have e : ints (List.replicate n 0) = List.replicate n (Value.int .i64 0) := by simp [ints]
  rw [e]
  simpa [toList_madeCells_one] using hown

/-- the head of an inner round -/
theorem vis_step {Ls : List (List Nat)} {q t : Nat} {L : List Nat} (hL : Ls[q]? = some L) (ht : t < L.length) (hn : Ls.flatten.Nodup) : L.getD t 0 ∉ (Ls.take q).flatten ++ L.take t ∧ (Ls.take q).flatten ++ L.take t ++ [L.getD t 0] = (Ls.take q).flatten ++ L.take (t + 1) := by
  have e1 : L.getD t 0 = L[t] := by simp [List.getD_eq_getElem?_getD, ht]
  have e2 : L.take (t + 1) = L.take t ++ [L[t]] := by rw [List.take_add_one, List.getElem?_eq_getElem ht]; rfl
  have hq : q < Ls.length := (List.getElem?_eq_some_iff.1 hL).1
  have e3 : Ls.flatten = (Ls.take q).flatten ++ (L.take t ++ (L[t] :: (L.drop (t + 1) ++ (Ls.drop (q + 1)).flatten))) := by
    have h1 : Ls = Ls.take q ++ (L :: Ls.drop (q + 1)) := by
      have h2 := (List.take_append_drop q Ls).symm
      rw [List.drop_eq_getElem_cons hq] at h2
      have h3 : Ls[q] = L := (List.getElem?_eq_some_iff.1 hL).2
      rw [h3] at h2
      exact h2
    have h4 : L = L.take t ++ (L[t] :: L.drop (t + 1)) := by
      have h2 := (List.take_append_drop t L).symm
      rw [List.drop_eq_getElem_cons ht] at h2
      exact h2
    calc Ls.flatten = (Ls.take q ++ (L :: Ls.drop (q + 1))).flatten := by rw [← h1]
      _ = (Ls.take q).flatten ++ (L ++ (Ls.drop (q + 1)).flatten) := by simp
      _ = (Ls.take q).flatten ++ ((L.take t ++ (L[t] :: L.drop (t + 1))) ++ (Ls.drop (q + 1)).flatten) := by rw [← h4]
      _ = _ := by rw [List.append_assoc (L.take t), List.cons_append]
  refine ⟨fun hm => ?_, by rw [e1, e2, List.append_assoc]⟩
  rw [e3, ← List.append_assoc] at hn
  rw [e1] at hm
  unfold List.Nodup at hn
  rw [List.pairwise_append] at hn
  exact hn.2.2 _ hm _ (by simp) rfl

theorem vis_next {Ls : List (List Nat)} {q : Nat} {L : List Nat} (hL : Ls[q]? = some L) : (Ls.take q).flatten ++ L.take L.length = (Ls.take (q + 1)).flatten := by
  rw [List.take_length, List.take_add_one, hL]
  simp

theorem sorted_lt {L : List Nat} (h : L.Pairwise (· < ·)) {t : Nat} (ht : t + 1 < L.length) : L.getD t 0 < L.getD (t + 1) 0 := by
  have := List.pairwise_iff_getElem.1 h t (t + 1) (by omega) ht (by omega)
  simpa [List.getD_eq_getElem?_getD, ht, show t < L.length by omega] using this

end Go.Proofs.Qxb6601049a
