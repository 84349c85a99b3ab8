/-
  The windows on the index: ZZNewLabelIndex, ZZIndexAll, ZZIndexByLabelList | Set, ZZIndexByKeyList | Set.
-/
import Derived.Test.Qxb6601049aNew
namespace Go.Proofs.Qxb6601049a
open Go.ChangeShapes Go.WideShapes Go.ChangeAt Go.RowKit
set_option linter.unusedVariables false

theorem IndexAt.below {w w' : World} {X : Nat} {O : List (List (ByteArray × ByteArray))} (h : IndexAt w X O) (hb : Below w.heap.size w w') : IndexAt w' X O := by
  obtain ⟨lab, car, bL, bK, va, ca, gL, pv, h1, h2, h3, h4, h5, h6, h7⟩ := h
  exact ⟨lab, car, bL, bK, va, ca, gL, pv, (CKept.below hb) _ _ _ _ h1, h2.below hb, h3.below hb h3.lt, fun k b hk => (h4 k b hk).below hb (h4 k b hk).lt, h5, h6.below hb h6.lt, fun k x => (h7 k x).ck (CKept.below hb)⟩

theorem IndexAt.lt {w : World} {X : Nat} {O : List (List (ByteArray × ByteArray))} (h : IndexAt w X O) : X < w.heap.size := by
  obtain ⟨lab, car, bL, bK, va, ca, gL, pv, h1, _⟩ := h
  exact (Array.getElem?_eq_some_iff.1 h1).1

/-- the bitset of a posting that may be absent -/
def SetOk (w : World) (a' : Option Addr) (m' : Nat) (L : List Nat) (n : Nat) : Prop :=
  (a' = none ∧ m' = 0 ∧ (L.length = 0 ∨ L.length < (n + 63) / 64)) ∨
  (0 < L.length ∧ (n + 63) / 64 ≤ L.length ∧ m' = (n + 63) / 64 ∧ ∃ g ws, a' = some ⟨g, 0, none⟩ ∧ ws.length = m' ∧ AllW ws ∧ NRow .u64 w a' ws ∧ ∀ i, bitW ws i = decide (i ∈ L))

theorem Posting.val {w : World} {p : Option Value} {L : List Nat} {n : Nat} (h : Posting w p L n) : ∃ la lc a' m', p.getD (.agg #[.slice none 0 0, .slice none 0 0]) = .agg #[.slice la L.length lc, .slice a' m' m'] ∧ NRow .i64 w la L ∧ SetOk w a' m' L n := by
  rcases h with ⟨h1, h2⟩ | ⟨h1, la, lc, a', m', h2, h3, h4⟩
  · subst h1 h2
    exact ⟨none, 0, none, 0, rfl, .inl rfl, .inl ⟨rfl, rfl, .inl rfl⟩⟩
  · subst h2
    refine ⟨la, lc, a', m', rfl, h3, ?_⟩
    rcases h4 with ⟨h5, h6, h7⟩ | ⟨h5, h6, g, ws, h7⟩
    · exact .inl ⟨h6, h7, .inr h5⟩
    · exact .inr ⟨List.length_pos_iff.2 h1, h5, h6, g, ws, h7⟩

theorem zero75 (w : World) : (zeroValue 75).run Try.prog w = .ok (.agg #[.slice none 0 0, .slice none 0 0]) w := by kernel_rfl

theorem field75_0 (x y : Value) (w : World) : (Instr.field 75 (.agg #[x, y]) 0).run Try.prog w = .ok x w := by kernel_rfl
theorem field75_1 (x y : Value) (w : World) : (Instr.field 75 (.agg #[x, y]) 1).run Try.prog w = .ok y w := by kernel_rfl

def listPost (L : List Nat) (w : World) (e : Ending) (w' : World) : Prop :=
  ∃ la lc, e = .returned (.slice la L.length lc) ∧ NRow .i64 w la L ∧ w' = w
def setPost (L : List Nat) (n : Nat) (w : World) (e : Ending) (w' : World) : Prop :=
  ∃ a' m', e = .returned (.slice a' m' m') ∧ SetOk w a' m' L n ∧ w' = w

theorem zzNewLabelIndex_any (a : Option Addr) (O : List (List (ByteArray × ByteArray))) (c : Nat) (w : World) (hs : SmallO O) (hr : MapRow w a O) :
    Calls Try.prog 21 #[.slice a O.length c] w (indexPost O w) := by
  go_enter Try.func21, Try.ntmps21
  go_wp2_with fail
  refine (newLabelIndex_any a O c w hs hr).mono ?_
  rintro e w' ⟨X, rfl, hX, hb⟩
  have HX := hide hX
  have HB := hide hb
  clear hX hb hr
  go_wp2
  go_ret
  exact ⟨X, rfl, HX.out, HB.out⟩

theorem zzIndexAll_any (X : Nat) (O : List (List (ByteArray × ByteArray))) (w : World) (h : IndexAt w X O) :
    Calls Try.prog 23 #[.pointer (some ⟨X, 0, none⟩)] w (listPost (List.range O.length) w) := by
  obtain ⟨lab, car, bL, bK, va, ca, gL, pv, h1, h2, _⟩ := h
  have hc := cell_blk h1 3 rfl
  have HR := hide h2
  clear h1 h2
  go_enter Try.func23, Try.ntmps23
  go_wp2
  go_ret
  exact ⟨va, ca, by rw [List.length_range]; rfl, HR.out, rfl⟩

theorem zzByLabelList_any (X : Nat) (O : List (List (ByteArray × ByteArray))) (k v : ByteArray) (w : World) (h : IndexAt w X O) :
    Calls Try.prog 24 #[.pointer (some ⟨X, 0, none⟩), .string k, .string v] w (listPost (scan O k (some v) O.length) w) := by
  obtain ⟨lab, car, bL, bK, va, ca, gL, pv, h1, _, h3, h4, h5, h6, h7⟩ := h
  have hc := cell_blk h1 1 rfl
  obtain ⟨la, lc, a', m', hv, hn, hset⟩ := (h7 k (some v)).val
  have hl1 : (Instr.lookup 80 (.map (some bL)) (.string k) false).run Try.prog w = .ok (.map (gL k)) w := by
    rw [h3.lookup Try.underlying80 Try.underlying9 (zero81 w) k, map_getD]
  have hl2 : (Instr.lookup 81 (.map (gL k)) (.string v) false).run Try.prog w = .ok (.agg #[.slice la (scan O k (some v) O.length).length lc, .slice a' m' m']) w := by
    rw [← hv]
    cases e : gL k with
    | none => rw [lookup_nil Try.underlying81 Try.underlying9 (zero75 w) v, h5 k e v]; rfl
    | some b => rw [(h4 k b e).lookup Try.underlying81 Try.underlying9 (zero75 w) v]
  have HN := hide hn
  clear h1 h3 h4 h5 h6 h7 hv hn hset
  have hfd := field75_0
  go_enter Try.func24, Try.ntmps24
  go_wp2
  go_ret
  exact ⟨la, lc, rfl, HN.out, rfl⟩

theorem zzByLabelSet_any (X : Nat) (O : List (List (ByteArray × ByteArray))) (k v : ByteArray) (w : World) (h : IndexAt w X O) :
    Calls Try.prog 27 #[.pointer (some ⟨X, 0, none⟩), .string k, .string v] w (setPost (scan O k (some v) O.length) O.length w) := by
  obtain ⟨lab, car, bL, bK, va, ca, gL, pv, h1, _, h3, h4, h5, h6, h7⟩ := h
  have hc := cell_blk h1 1 rfl
  obtain ⟨la, lc, a', m', hv, hn, hset⟩ := (h7 k (some v)).val
  have hl1 : (Instr.lookup 80 (.map (some bL)) (.string k) false).run Try.prog w = .ok (.map (gL k)) w := by
    rw [h3.lookup Try.underlying80 Try.underlying9 (zero81 w) k, map_getD]
  have hl2 : (Instr.lookup 81 (.map (gL k)) (.string v) false).run Try.prog w = .ok (.agg #[.slice la (scan O k (some v) O.length).length lc, .slice a' m' m']) w := by
    rw [← hv]
    cases e : gL k with
    | none => rw [lookup_nil Try.underlying81 Try.underlying9 (zero75 w) v, h5 k e v]; rfl
    | some b => rw [(h4 k b e).lookup Try.underlying81 Try.underlying9 (zero75 w) v]
  have HS := hide hset
  clear h1 h3 h4 h5 h6 h7 hv hn hset
  have hfd := field75_1
  go_enter Try.func27, Try.ntmps27
  go_wp2
  go_ret
  exact ⟨a', m', rfl, HS.out, rfl⟩

theorem zzByKeyList_any (X : Nat) (O : List (List (ByteArray × ByteArray))) (k : ByteArray) (w : World) (h : IndexAt w X O) :
    Calls Try.prog 28 #[.pointer (some ⟨X, 0, none⟩), .string k] w (listPost (scan O k none O.length) w) := by
  obtain ⟨lab, car, bL, bK, va, ca, gL, pv, h1, _, h3, h4, h5, h6, h7⟩ := h
  have hc := cell_blk h1 2 rfl
  obtain ⟨la, lc, a', m', hv, hn, hset⟩ := (h7 k none).val
  have hl1 : (Instr.lookup 81 (.map (some bK)) (.string k) false).run Try.prog w = .ok (.agg #[.slice la (scan O k none O.length).length lc, .slice a' m' m']) w := by
    rw [← hv, h6.lookup Try.underlying81 Try.underlying9 (zero75 w) k]
  have HN := hide hn
  clear h1 h3 h4 h5 h6 h7 hv hn hset
  have hfd := field75_0
  go_enter Try.func28, Try.ntmps28
  go_wp2
  go_ret
  exact ⟨la, lc, rfl, HN.out, rfl⟩

theorem zzByKeySet_any (X : Nat) (O : List (List (ByteArray × ByteArray))) (k : ByteArray) (w : World) (h : IndexAt w X O) :
    Calls Try.prog 29 #[.pointer (some ⟨X, 0, none⟩), .string k] w (setPost (scan O k none O.length) O.length w) := by
  obtain ⟨lab, car, bL, bK, va, ca, gL, pv, h1, _, h3, h4, h5, h6, h7⟩ := h
  have hc := cell_blk h1 2 rfl
  obtain ⟨la, lc, a', m', hv, hn, hset⟩ := (h7 k none).val
  have hl1 : (Instr.lookup 81 (.map (some bK)) (.string k) false).run Try.prog w = .ok (.agg #[.slice la (scan O k none O.length).length lc, .slice a' m' m']) w := by
    rw [← hv, h6.lookup Try.underlying81 Try.underlying9 (zero75 w) k]
  have HS := hide hset
  clear h1 h3 h4 h5 h6 h7 hv hn hset
  have hfd := field75_1
  go_enter Try.func29, Try.ntmps29
  go_wp2
  go_ret
  exact ⟨a', m', rfl, HS.out, rfl⟩

/-- setIsScan of what the index holds -/
theorem setIsScan_ok (a : Option Addr) (O : List (List (ByteArray × ByteArray))) (c : Nat) (key value : ByteArray) (bv : Bool) (x : Option ByteArray) (hx : x = if bv then some value else none) (len : Nat) (a' : Option Addr) (m' : Nat) (w : World) (hr : ObjRow w a O) (hs : SmallO O)
    (hlen : len = (scan O key x O.length).length) (h : SetOk w a' m' (scan O key x O.length) O.length) :
    Calls Try.prog 26 #[.slice a O.length c, .string key, .string value, .bool bv, .int .i64 (len : Int), .slice a' m' m'] w (samePost (.bool true) w) := by
  have hsl := scan_len O key x O.length
  rcases h with ⟨rfl, rfl, h1⟩ | ⟨h0, h1, h2, g, ws, rfl, h4, h5, h6, h7⟩
  · exact setIsScan_nil a O.length c key value bv len w hs.1 (by omega)
  · exact setIsScan_set a O c key value bv x hx len g m' ws w hr hs (by omega) (by omega) (by have := hs.1; omega) h2 h4 h5 h6 h7

end Go.Proofs.Qxb6601049a
