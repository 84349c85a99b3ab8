/-
  candidates.
-/
import Derived.Test.Qxb6601049aSel2
namespace Go.Proofs.Qxb6601049a
open Go.ChangeShapes Go.WideShapes Go.ChangeAt Go.RowKit
set_option linter.unusedVariables false

def bi : Option Nat → Int
  | none => -1
  | some j => (j : Int)

/-- at the head of the loop over the requirements -/
def CHead (w : World) (O : Objs) (R : List Rq) (k : Nat) (bo : Option Nat) (fw : Nat) (wr : World) : Prop :=
  Best O R k bo fw ∧ (∀ j r, j < k → R[j]? = some r → meets O r ≠ 0) ∧ Below w.heap.size w wr

/-- the variable 'req' in block Y -/
def ReqVar (w : World) (r : Rq) (mo : Option Nat) (Y : Nat) (wc : World) : Prop :=
  wc.heap[Y]? = some (.cells #[.string r.key, .map mo, .bool r.neg] 87 (0, 0)) ∧ Below w.heap.size w wc

theorem ReqVar.kept {w wc wd : World} {r : Rq} {mo : Option Nat} {Y : Nat} (h : ReqVar w r mo Y wc) (hb : Below wc.heap.size wc wd) : ReqVar w r mo Y wd :=
  ⟨(CKept.below hb) _ _ _ _ h.1, h.2.trans (hb.mono h.2.size)⟩

theorem ReqVar.iter {w wc wd : World} {r : Rq} {mo : Option Nat} {Y i : Nat} (h : ReqVar w r mo Y wc) (hon : Only i wc wd) (hr : ∃ m s x c, wc.heap[i]? = some (.mapIter m s x c)) (hi : w.heap.size ≤ i) : ReqVar w r mo Y wd :=
  ⟨(CKept.iter hon hr) _ _ _ _ h.1, h.2.trans (hon.below hi)⟩

/-- in the midst of a requirement's values: ds have been looked at -/
def CIn (w : World) (O : Objs) (r : Rq) (mo : Option Nat) (Y m i : Nat) (ds : List ByteArray) (left : ByteArray → Prop) (cnt : Nat) (wr : World) : Prop :=
  ds.Nodup ∧ (∀ v, v ∈ ds ↔ v ∈ r.vals ∧ ¬ left v) ∧ IterAt wr i m (vfn r.vals) left cnt ∧ ReqVar w r mo Y wr

theorem CIn.fin {w wr : World} {O : Objs} {r : Rq} {mo : Option Nat} {Y m i : Nat} {ds : List ByteArray} {left : ByteArray → Prop} {cnt : Nat} (h : CIn w O r mo Y m i ds left cnt wr) (ha : r.any = false) (hd : ∀ v, ¬ left v) : sumS O r.key O.length ds = carr O r O.length :=
  (carr_vals ha h.1 (fun v => ⟨fun hv => ((h.2.1 v).1 hv).1, fun hv => (h.2.1 v).2 ⟨hv, hd v⟩⟩) _).symm

theorem nodup_snoc {ds : List ByteArray} {v : ByteArray} (h : ds.Nodup) (hv : v ∉ ds) : (ds ++ [v]).Nodup := by
  unfold List.Nodup at *
  rw [List.pairwise_append]
  exact ⟨h, by simp, fun a ha b hb hab => by simp at hb; subst hb; subst hab; exact hv ha⟩

theorem CIn.step {w wr w3 : World} {O : Objs} {r : Rq} {mo : Option Nat} {Y m i : Nat} {ds : List ByteArray} {left : ByteArray → Prop} {cnt cnt3 n : Nat} (h : CIn w O r mo Y m i ds left cnt wr) {v : ByteArray} (hl : left v) (hf : vfn r.vals v ≠ none) (hit : IterAt w3 i m (vfn r.vals) (fun t => left t ∧ t ≠ v) cnt3) (hon : Only i wr w3) (hi : w.heap.size ≤ i) :
    CIn w O r mo Y m i (ds ++ [v]) (fun t => left t ∧ t ≠ v) cnt3 (w3.drewN n) := by
  obtain ⟨h1, h2, h3, h4⟩ := h
  have hv : v ∉ ds := fun hc => ((h2 v).1 hc).2 hl
  refine ⟨nodup_snoc h1 hv, fun u => ?_, hit.blocks (w' := w3.drewN n) rfl rfl, (h4.iter hon h3.iter hi).kept ⟨rfl, rfl, rfl, Nat.le_refl _, fun _ _ => rfl⟩⟩
  rw [List.mem_append, h2]
  constructor
  · rintro (⟨a, b⟩ | hc)
    · exact ⟨a, fun hc => b hc.1⟩
    · simp at hc
      subst hc
      exact ⟨vfn_ne.1 hf, fun hc => hc.2 rfl⟩
  · rintro ⟨a, b⟩
    by_cases e : u = v
    · exact .inr (by simp [e])
    · exact .inl ⟨a, fun hc => b ⟨hc, e⟩⟩

theorem CIn.bound {w wr : World} {O : Objs} {r : Rq} {mo : Option Nat} {Y m i : Nat} {ds : List ByteArray} {left : ByteArray → Prop} {cnt : Nat} (h : CIn w O r mo Y m i ds left cnt wr) {v : ByteArray} (hl : left v) : sumS O r.key O.length ds + (scan O r.key (some v) O.length).length ≤ O.length := by
  have hv : v ∉ ds := fun hc => ((h.2.1 v).1 hc).2 hl
  have := sumS_le O r.key (nodup_snoc h.1 hv) O.length
  rw [sumS_snoc] at this
  exact this

def hdrs (O : Objs) (key : ByteArray) (pa : ByteArray → Option ByteArray → Option Addr) (pc : ByteArray → Option ByteArray → Nat) (ds : List ByteArray) : List Value := ds.map fun u => .slice (pa key (some u)) (scan O key (some u) O.length).length (pc key (some u))

/-- in the midst of the gathering of the lists -/
def LIn (w : World) (O : Objs) (r : Rq) (pa : ByteArray → Option ByteArray → Option Addr) (pc : ByteArray → Option ByteArray → Nat) (Y m i : Nat) (ds : List ByteArray) (left : ByteArray → Prop) (cnt : Nat) (v : Value) (wr : World) : Prop :=
  CIn w O r (some m) Y m i ds left cnt wr ∧ wr.ownsRow (Y + 1) 22 1 v ds.length (hdrs O r.key pa pc ds)

theorem LIn.step {w wr w3 w5 : World} {O : Objs} {r : Rq} {pa : ByteArray → Option ByteArray → Option Addr} {pc : ByteArray → Option ByteArray → Nat} {Y m i : Nat} {ds : List ByteArray} {left : ByteArray → Prop} {cnt cnt3 : Nat} {vv v' : Value} {blk : Obj} (h : LIn w O r pa pc Y m i ds left cnt vv wr) {v : ByteArray} (hl : left v) (hf : vfn r.vals v ≠ none) (hit : IterAt w3 i m (vfn r.vals) (fun t => left t ∧ t ≠ v) cnt3) (hon : Only i wr w3) (hi : w.heap.size ≤ i) (hY : w.heap.size ≤ Y)
    (hown : w5.ownsRow (Y + 1) 22 1 v' (ds.length + 1) (hdrs O r.key pa pc ds ++ [.slice (pa r.key (some v)) (scan O r.key (some v) O.length).length (pc r.key (some v))])) (hg : (w3.drew.alloc blk).grownBy w5 vv.ownBlock) (ho3 : w3.drew.ownsRow (Y + 1) 22 1 vv ds.length (hdrs O r.key pa pc ds)) :
    LIn w O r pa pc Y m i (ds ++ [v]) (fun t => left t ∧ t ≠ v) cnt3 v' w5 := by
  have hs := h.1.step (n := 1) hl hf hit hon hi
  obtain ⟨s1, s2, s3, s4⟩ := hs
  have e : w3.drewN 1 = w3.drew := rfl
  rw [e] at s3 s4
  have ha := s4.kept (Below.one w3.drew blk)
  have rowY : ∀ g, vv.ownBlock = some g → Y + 1 ≤ g := fun g hg => (ho3.lt g hg).1
  have hYlt : Y < (w3.drew.alloc blk).heap.size := (Array.getElem?_eq_some_iff.1 ha.1).1
  refine ⟨⟨s1, s2, ?_, ?_, ?_⟩, ?_⟩
  · have hrl : i < w3.heap.size := by obtain ⟨_, _, _, _, h⟩ := s3.iter; exact (Array.getElem?_eq_some_iff.1 h).1
    have h1 : IterAt (w3.drew.alloc blk) i m (vfn r.vals) (fun t => left t ∧ t ≠ v) cnt3 := s3.blocks (Below.heap_alloc _ _ _ s3.map.lt) (Below.heap_alloc _ _ _ hrl)
    refine h1.blocks (hg.block m h1.map.lt (fun hc => ?_)) (hg.block i (by simp; omega) (fun hc => ?_))
    · obtain ⟨cs, hcs⟩ := owns_cells (ho3.alloc blk) hc.symm
      exact h1.map.ne_cells hcs rfl
    · obtain ⟨cs, hcs⟩ := owns_cells (ho3.alloc blk) hc.symm
      obtain ⟨_, _, _, _, h2⟩ := h1.iter
      rw [h2] at hcs
      cases hcs
  · rw [hg.block Y hYlt (fun hc => by have := rowY Y hc.symm; omega)]
    exact ha.1
  · exact ha.2.grown hg ha.2.size (fun k hk => by have := rowY k hk; omega)
  · have : hdrs O r.key pa pc (ds ++ [v]) = hdrs O r.key pa pc ds ++ [.slice (pa r.key (some v)) (scan O r.key (some v) O.length).length (pc r.key (some v))] := by simp [hdrs]
    rw [this]
    simpa using hown

theorem LIn.fin {w wr : World} {O : Objs} {r : Rq} {X bL bK : Nat} {ia : Option Addr} {ica : Nat} {gL : ByteArray → Option Nat} {pz : ByteArray → Option ByteArray → Value} {pa : ByteArray → Option ByteArray → Option Addr} {pc : ByteArray → Option ByteArray → Nat} {Y m i : Nat} {ds : List ByteArray} {left : ByteArray → Prop} {cnt : Nat} {v : Value} (h : LIn w O r pa pc Y m i ds left cnt v wr) (hl : Look w X O bL bK ia ica gL pa pc pz wr) (ha : r.any = false) (hz : carr O r O.length ≠ 0) (hd : ∀ u, ¬ left u) :
    ∃ g cap, v = .slice (some ⟨g, 0, none⟩) (ds.map fun u => scan O r.key (some u) O.length).length cap ∧ LRow wr (some ⟨g, 0, none⟩) (ds.map fun u => scan O r.key (some u) O.length) ∧ ds.Nodup ∧ (∀ u, u ∈ ds ↔ u ∈ r.vals) := by
  have hc := h.1.fin ha hd
  have hne : 0 < ds.length := by
    cases ds with
    | nil => rw [← hc] at hz; simp [sumS] at hz
    | cons => simp
  obtain ⟨g, cap, rfl⟩ := owns_shape h.2 hne
  refine ⟨g, cap, by simp, .inr ⟨g, 0, rfl, fun q L hq => ?_⟩, h.1.1, fun u => ⟨fun hu => ((h.1.2.1 u).1 hu).1, fun hu => (h.1.2.1 u).2 ⟨hu, hd u⟩⟩⟩
  rw [List.getElem?_map] at hq
  obtain ⟨u, hu, rfl⟩ := Option.map_eq_some_iff.1 hq
  refine ⟨pa r.key (some u), pc r.key (some u), ?_, hl.rows r.key (some u)⟩
  have hql : q < ds.length := (List.getElem?_eq_some_iff.1 hu).1
  rw [Nat.zero_add, h.2.cellAt q (by omega)]
  unfold hdrs
  rw [List.getElem?_map, hu]
  rfl

theorem hdr_oneCell (a : Option Addr) (n c : Nat) : ∀ u ∈ [Value.slice a n c], u.oneCell' = true := by
  intro u hu
  simp at hu
  subst hu
  rfl

theorem nodup_len : ∀ (S : List ByteArray) {ds : List ByteArray}, ds.Nodup → (∀ v, v ∈ ds → v ∈ S) → ds.length ≤ S.length
  | [], ds, _, h => by
    cases ds with
    | nil => simp
    | cons v ds => exact absurd (h v (by simp)) (by simp)
  | a :: S, ds, hd, h => by
    have h1 := nodup_len S (ds := ds.filter fun v => !decide (some a = some v)) (List.Pairwise.filter _ hd) (fun v hv => by
      obtain ⟨h2, h3⟩ := List.mem_filter.1 hv
      rcases List.mem_cons.1 (h v h2) with e | e
      · subst e; simp at h3
      · exact e)
    have h2 := List.length_eq_countP_add_countP (fun v => decide (some a = some v)) (l := ds)
    rw [countP_mem a hd] at h2
    have h3 : List.countP (fun v => decide ¬(decide (some a = some v) = true)) ds = (ds.filter fun v => !decide (some a = some v)).length := by
      rw [List.countP_eq_length_filter]
      congr 2
      funext v
      cases decide (some a = some v) <;> simp
    rw [h3] at h2
    have h4 : (if inB ds a = true then 1 else 0) ≤ 1 := by split <;> omega
    simp only [List.length_cons]
    omega

set_option maxRecDepth 10000 in
set_option maxHeartbeats 4000000 in
theorem candidates_any (X : Nat) (O : Objs) (R : List Rq) (B : Nat) (va : Option Addr) (vc : Nat) (w : World) (hix : IndexAt w X O) (hsel : SelAt B w (.slice va R.length vc) R) (hs : O.length ≤ 1048576) (hsr : SmallR R) :
    Calls Try.prog 47 #[.pointer (some ⟨X, 0, none⟩), .slice va R.length vc] w (candPost O R w) := by
  obtain ⟨i0, hi, hz0, hz1, hz2⟩ := info_parts Try.info22
  have hrl := hsr.1
  obtain ⟨bL, bK, ia, ica, gL, pa, pc, pz, hlook⟩ := hix.look
  have HLK := hide hlook
  have HSEL := hide hsel
  have h3 := (hlook w (Below.refl _ _)).c3
  clear hlook hsel hix
  go_enter Try.func47, Try.ntmps47
  go_upto_region 1 with fail
  go_quiet (fail)
  have HST : Hid (CHead w O R 0 none O.length (w.drewN nq)) := ⟨Best.start O R, fun j r h => absurd h (Nat.not_lt_zero _), ⟨rfl, rfl, rfl, Nat.le_refl _, fun _ _ => rfl⟩⟩
  clear h3
  generalize w.drewN nq = wz at HST
  go_wp2_with fail
  go_loopw [22, 5, 6] (fun i b f wr => ∃ (k : Nat) (bo : Option Nat) (fw : Nat), k ≤ R.length ∧ i = .int .i64 k ∧ b = .int .i64 (bi bo) ∧ f = .int .i64 fw ∧ CHead w O R k bo fw wr) (fun i _ _ _ => R.length - (intOf i).toNat)
  case atStart => exact ⟨0, none, _, Nat.zero_le _, rfl, rfl, rfl, HST.out⟩
  case round =>
    clear HST
    obtain ⟨k, bo, fw, hk, rfl, rfl, rfl, hch⟩ := hrel
    have HCH := hide hch
    have hfw := hch.1.le.1
    have hbel := hch.2.2
    have HB := hide hbel
    by_cases hlt : k < R.length
    · have hlt' : (k : Int) < (R.length : Int) := by omega
      obtain ⟨r, hr⟩ : ∃ r, R[k]? = some r := ⟨R[k], List.getElem?_eq_getElem hlt⟩
      obtain ⟨g, cap, mo, hv, hval, d1, d2, d3⟩ := HSEL.out.at hr
      cases hv
      have e1 : wr.cell? ⟨g, k * 3, none⟩ = some (.string r.key) := (hbel.cell (p := ⟨g, k * 3, none⟩) (World.block_lt_of_cell? w _ d1)).trans d1
      have e2 : wr.cell? ⟨g, k * 3 + 1, none⟩ = some (.map mo) := (hbel.cell (p := ⟨g, k * 3 + 1, none⟩) (World.block_lt_of_cell? w _ d2)).trans d2
      have e3 : wr.cell? ⟨g, k * 3 + 2, none⟩ = some (.bool r.neg) := (hbel.cell (p := ⟨g, k * 3 + 2, none⟩) (World.block_lt_of_cell? w _ d3)).trans d3
      have HVAL := hide hval
      have HR := hide hr
      have hbase := hbel.size
      clear d1 d2 d3 hval hr hch hbel
      go_upto_region 6 with fail
      have HY : Hid (ReqVar w r mo wr.heap.size (wr.alloc (.cells #[.string r.key, .map mo, .bool r.neg] 87))) := ⟨heap_alloc_new wr _, HB.out.alloc hbase _⟩
      clear e1 e2 e3
      generalize wr.alloc (.cells #[.string r.key, .map mo, .bool r.neg] 87) = w1 at HY
      generalize wr.heap.size = Y at HY
      clear hbase HB
      have y0 := cell_blk (v := .string r.key) HY.out.1 0 rfl
      have y1 := cell_blk (v := .map mo) HY.out.1 1 rfl
      have hnq := fun w r => run_neq_map_nil (P := Try.prog) w 63 9 4 r Try.underlying63
      go_upto_if 29 with fail
      go_cut [9] from 23 to 83 (fun c wc => c = .int .i64 (carr O r O.length : Nat) ∧ ReqVar w r mo Y wc)
      case first =>
        have HK1 := HLK.out w1 HY.out.2
        rcases HVAL.out with ⟨ha, hmo⟩ | ⟨ha, m, hmo, hm⟩
        · subst hmo
          have lk := fun n => (HLK.out (w1.drewN n) (HY.out.2.trans ⟨rfl, rfl, rfl, Nat.le_refl _, fun _ _ => rfl⟩)).lK r.key
          have c2 := HK1.c2
          have hca := carr_any (O := O) ha O.length
          have HCA := hide hca
          generalize hln : (scan O r.key none O.length).length = ln at lk hca
          have HLN := hide hln
          generalize pa r.key none = p1 at lk
          generalize pc r.key none = p2 at lk
          generalize pz r.key none = p3 at lk
          have hfd := field75_0
          clear HK1 hca hln
          go_upto_region 11 with fail
          go_quiet (fail)
          have HYN := hide (HY.out.kept (wd := w1.drewN nq) ⟨rfl, rfl, rfl, Nat.le_refl _, fun _ _ => rfl⟩)
          clear lk c2
          go_wp2
          go_meet
          case rel => exact ⟨by rw [HCA.out, HLN.out], HYN.out⟩
        · subst hmo
          have HA := hide ha
          have HM1 := hide (hm.below HY.out.2 hm.lt)
          have hmlt := hm.lt
          clear ha hm HK1
          go_wp2_with (at_range; refine wpList_range_fn _ rfl _ 63 rfl 9 4 Try.underlying63 m _ rfl HM1.out ?_)
          intro w2 cnt hit hb2 hs2
          have HIN : Hid (CIn w O r (some m) Y m w1.heap.size [] (fun s => vfn r.vals s ≠ none) cnt w2) :=
            ⟨List.Pairwise.nil, fun v => ⟨fun h => (by cases h), fun h => absurd (vfn_ne.2 h.1) h.2⟩, hit, HY.out.kept hb2⟩
          have hw1 := HY.out.2.size
          clear hit hb2 hs2 HY HM1
          go_wp2_with fail
          generalize w1.heap.size = i2 at HIN hw1
          go_loopw [9, 10] (fun c _ wr => ∃ ds left cnt, c = .int .i64 (sumS O r.key O.length ds : Nat) ∧ CIn w O r (some m) Y m i2 ds left cnt wr) (fun _ _ wr => iterLeft wr i2)
          case atStart => exact ⟨[], _, _, rfl, HIN.out⟩
          case round =>
            clear HIN y0 y1
            obtain ⟨ds, left, cnt, rfl, hin⟩ := hrel
            have HIT := hide hin.2.2.1
            have HCNT := hide hin.2.2.1.left_eq
            have HIN := hide hin
            clear hin
            go_wp2_with (at_next; refine wpList_next_fn _ rfl _ rfl i2 m cnt (vfn r.vals) left (fun _ : Nat => Value.bool true) (fun s v h => by unfold vfn at h; split at h; (cases h; exact ⟨0, rfl⟩); cases h) rfl HIT.out ?_ ?_)
            · intro hdone
              have HF : Hid (sumS O r.key O.length ds = carr O r O.length ∧ ReqVar w r (some m) Y wr) := ⟨HIN.out.fin HA.out hdone, HIN.out.2.2.2⟩
              clear hdone
              go_wp2
              go_meet
              case rel => exact ⟨by rw [HF.out.1], HF.out.2⟩
            · intro v w3 cnt3 hls hfs hit3 hlt3 hon3 hen3
              have HYW := HIN.out.2.2.2.iter hon3 HIT.out.iter hw1
              have y0 := cell_blk (v := .string r.key) HYW.1 0 rfl
              have c1 := (HLK.out w3 HYW.2).c1
              have l80 := fun n => (HLK.out (w3.drewN n) (HYW.2.trans ⟨rfl, rfl, rfl, Nat.le_refl _, fun _ _ => rfl⟩)).l80 r.key
              have l81 := fun n => (HLK.out (w3.drewN n) (HYW.2.trans ⟨rfl, rfl, rfl, Nat.le_refl _, fun _ _ => rfl⟩)).l81 r.key v
              have hbd := HIN.out.bound (O := O) hls
              have HST := hide (fun n => HIN.out.step (n := n) hls (by rw [hfs]; simp) hit3 hon3 hw1)
              have HIT3 := hide hit3
              have HLT := hide hlt3
              have hsn := sumS_snoc O r.key O.length ds v
              generalize sumS O r.key O.length ds = sm at hbd hsn
              generalize (scan O r.key (some v) O.length).length = ln at hbd hsn l81
              generalize pa r.key (some v) = p1 at l81
              generalize pc r.key (some v) = p2 at l81
              generalize pz r.key (some v) = p3 at l81
              generalize gL r.key = gl at l80 l81
              have hwr : IntKind.i64.wrap ((sm : Int) + (ln : Int)) = (sm : Int) + (ln : Int) := by rw [IntKind.wrap_i64]; omega
              have hfd := field75_0
              have HSN := hide hsn
              clear HYW hls hfs hit3 hlt3 hon3 HIN HIT hsn hbd
              go_upto_region 10 with fail
              clear hen3
              go_quiet (fail)
              have HS2 := hide (HST.out nq)
              have HM2 : Hid (iterLeft (w3.drewN nq) i2 < iterLeft wr i2) := by
                have e : iterLeft (w3.drewN nq) i2 = cnt3 := (HIT3.out.blocks (w' := w3.drewN nq) rfl rfl).left_eq
                rw [e, HCNT.out]
                exact HLT.out
              clear l80 l81 c1 y0 HST hwr
              go_wp2
              go_roundw
              case rel => exact ⟨_, _, _, by rw [HSN.out]; go_num, HS2.out⟩
              case measure => exact HM2.out
      case rest =>
        obtain ⟨rfl, hrv⟩ := hcut
        have y2 := cell_blk (v := .bool r.neg) hrv.1 2 rfl
        have c3 := (HLK.out wc hrv.2).c3
        have hcl := carr_le O r O.length
        have HBW := hide hrv.2
        have hmp := fun h => meets_pos (O := O) (r := r) h
        have hmn := fun h => meets_neg (O := O) (r := r) h
        clear hrv
        generalize carr O r O.length = cc at hcl hmp hmn
        cases hneg : r.neg with
        | true =>
          have hm := hmn hneg
          rw [hneg] at y2
          have HNEG := hide hneg
          have HM := hide hm
          have hwr : IntKind.i64.wrap ((O.length : Int) - (cc : Int)) = (O.length : Int) - (cc : Int) := by rw [IntKind.wrap_i64]; omega
          clear hmp hmn hneg hm
          by_cases hz : O.length = cc
          · have hz' : (O.length : Int) - (cc : Int) = 0 := by omega
            go_wp2
            go_ret
            exact ⟨none, 0, [], rfl, fun _ => rfl, .inl rfl, .inl ⟨rfl, rfl, k, r, HR.out, by rw [HM.out]; omega⟩, HBW.out⟩
          · have hz' : ¬ ((O.length : Int) - (cc : Int) = 0) := by omega
            have HN : Hid (CHead w O R (k + 1) bo fw wc) := by
              refine ⟨HCH.out.1.skip HR.out (.inl HNEG.out), fun j r' hj hr' => ?_, HBW.out⟩
              by_cases e : j = k
              · subst e
                have := HR.out
                rw [this] at hr'
                cases hr'
                rw [HM.out]
                omega
              · exact HCH.out.2.1 j r' (by omega) hr'
            by_cases hf : O.length - cc < fw
            · have hf' : (O.length : Int) - (cc : Int) < (fw : Int) := by omega
              go_wp2
              exact ⟨⟨k + 1, bo, fw, by omega, by go_num, rfl, rfl, HN.out⟩, by simp [intOf]; omega⟩
            · have hf' : ¬ ((O.length : Int) - (cc : Int) < (fw : Int)) := by omega
              go_wp2
              exact ⟨⟨k + 1, bo, fw, by omega, by go_num, rfl, rfl, HN.out⟩, by simp [intOf]; omega⟩
        | false =>
          have hm := hmp hneg
          rw [hneg] at y2
          have HNEG := hide hneg
          have HM := hide hm
          clear hmp hmn hneg hm
          by_cases hz : cc = 0
          · subst hz
            go_wp2
            go_ret
            exact ⟨none, 0, [], rfl, fun _ => rfl, .inl rfl, .inl ⟨rfl, rfl, k, r, HR.out, HM.out⟩, HBW.out⟩
          · have hz' : ¬ ((cc : Int) = 0) := by omega
            have HNZ : Hid (∀ j r', j < k + 1 → R[j]? = some r' → meets O r' ≠ 0) := by
              intro j r' hj hr'
              by_cases e : j = k
              · subst e
                have := HR.out
                rw [this] at hr'
                cases hr'
                rw [HM.out]
                omega
              · exact HCH.out.2.1 j r' (by omega) hr'
            by_cases hf : cc < fw
            · have hf' : (cc : Int) < (fw : Int) := by omega
              have HN : Hid (CHead w O R (k + 1) (some k) cc wc) := ⟨by have := HCH.out.1.take HR.out HNEG.out (by rw [HM.out]; exact hf); rwa [HM.out] at this, HNZ.out, HBW.out⟩
              go_wp2
              exact ⟨⟨k + 1, some k, cc, by omega, by go_num, rfl, rfl, HN.out⟩, by simp [intOf]; omega⟩
            · have hf' : ¬ ((cc : Int) < (fw : Int)) := by omega
              have HN : Hid (CHead w O R (k + 1) bo fw wc) := ⟨HCH.out.1.skip HR.out (.inr (by rw [HM.out]; omega)), HNZ.out, HBW.out⟩
              go_wp2
              exact ⟨⟨k + 1, bo, fw, by omega, by go_num, rfl, rfl, HN.out⟩, by simp [intOf]; omega⟩
    · have hk0 : k = R.length := by omega
      subst hk0
      have hge : ¬ ((R.length : Int) < (R.length : Int)) := by omega
      have HNZ : Hid (∀ (j : Nat) (r : Rq), R[j]? = some r → meets O r ≠ 0) := fun j r hr => hch.2.1 j r (List.getElem?_eq_some_iff.1 hr).1 hr
      have hbase := hbel.size
      have HBST := hide hch.1
      clear hch hbel HCH
      cases bo with
      | none =>
        have c3 := (HLK.out wr HB.out).c3
        have HNW := hide (HLK.out _ (HB.out.alloc hbase (.cells #[.slice ia O.length ica] 22)))
        have hneg1 : (bi none < 0) := by simp [bi]
        go_wp2
        go_ret
        refine ⟨some ⟨wr.heap.size, 0, none⟩, 1, [List.range O.length], rfl, fun h => (by cases h), .inr ⟨_, _, rfl, fun q L hq => ?_⟩, .inr ⟨by simp, HNZ.out, none, fw, HBST.out, .inl ⟨rfl, rfl⟩⟩, HB.out.alloc hbase _⟩
        match q, hq with
        | 0, hq =>
          simp at hq
          subst hq
          exact ⟨ia, ica, by simp, HNW.out.all⟩
      | some j =>
        have hjl := HBST.out.le.2.1 j rfl
        have hj' : ¬ (bi (some j) < 0) := by simp [bi]
        have hj2 : bi (some j) = (j : Int) := rfl
        obtain ⟨r, hr, hneg⟩ : ∃ r, R[j]? = some r ∧ r.neg = false := by
          rcases HBST.out with ⟨h, _⟩ | ⟨j', r, h, _, h3, h4, _⟩
          · cases h
          · cases h
            exact ⟨r, h3, h4⟩
        obtain ⟨g, cap, mo, hv, hval, d1, d2, d3⟩ := HSEL.out.at hr
        cases hv
        have e1 : wr.cell? ⟨g, j * 3, none⟩ = some (.string r.key) := (HB.out.cell (p := ⟨g, j * 3, none⟩) (World.block_lt_of_cell? w _ d1)).trans d1
        have e2 : wr.cell? ⟨g, j * 3 + 1, none⟩ = some (.map mo) := (HB.out.cell (p := ⟨g, j * 3 + 1, none⟩) (World.block_lt_of_cell? w _ d2)).trans d2
        have e3 : wr.cell? ⟨g, j * 3 + 2, none⟩ = some (.bool r.neg) := (HB.out.cell (p := ⟨g, j * 3 + 2, none⟩) (World.block_lt_of_cell? w _ d3)).trans d3
        have hjlt : (j : Int) < (R.length : Int) := by omega
        have HVAL := hide hval
        have HR := hide hr
        have HNEG := hide hneg
        clear d1 d2 d3 hval hr hneg
        rw [hj2] at hj'
        simp only [hj2]
        clear hj2
        go_upto_region 23 with fail
        have HY : Hid (ReqVar w r mo wr.heap.size (wr.alloc (.cells #[.string r.key, .map mo, .bool r.neg] 87))) := ⟨heap_alloc_new wr _, HB.out.alloc hbase _⟩
        clear e1 e2 e3
        generalize wr.alloc (.cells #[.string r.key, .map mo, .bool r.neg] 87) = w1 at HY
        generalize wr.heap.size = Y at HY hbase
        clear HB
        have y0 := cell_blk (v := .string r.key) HY.out.1 0 rfl
        have y1 := cell_blk (v := .map mo) HY.out.1 1 rfl
        have hnq := fun w r => run_eql_map_nil (P := Try.prog) w 63 9 4 r Try.underlying63
        rcases HVAL.out with ⟨ha, hmo⟩ | ⟨ha, m, hmo, hm⟩
        · subst hmo
          have HA := hide ha
          have hfd := field75_0
          have lk := fun W (h : Below w.heap.size w W) => (HLK.out W h).lK r.key
          have HRW := hide (fun W (h : Below w.heap.size w W) => (HLK.out W h).rows r.key none)
          have c2 := fun W (h : Below w.heap.size w W) => (HLK.out W h).c2
          generalize hLE : scan O r.key none O.length = L at lk HRW
          have HLE := hide hLE
          generalize pa r.key none = p1 at lk HRW
          generalize pc r.key none = p2 at lk
          generalize pz r.key none = p3 at lk
          have HLKK := hide lk
          have HC2 := hide c2
          have HS0 : Hid (w1.drew.cell? ⟨X, 2, none⟩ = some (.map (some bK)) ∧ w1.drew.cell? ⟨Y, 0, none⟩ = some (.string r.key) ∧ (Instr.lookup 81 (.map (some bK)) (.string r.key) false).run Try.prog w1.drew = .ok (.agg #[.slice p1 L.length p2, p3]) w1.drew) :=
            ⟨c2 _ (HY.out.2.trans ⟨rfl, rfl, rfl, Nat.le_refl _, fun _ _ => rfl⟩), y0, lk _ (HY.out.2.trans ⟨rfl, rfl, rfl, Nat.le_refl _, fun _ _ => rfl⟩)⟩
          clear lk c2 ha hLE
          go_upto_region 24 with fail
          clear y0 y1
          refine startU (S := fun w' => w'.cell? ⟨X, 2, none⟩ = some (.map (some bK)) ∧ w'.cell? ⟨Y, 0, none⟩ = some (.string r.key) ∧ (Instr.lookup 81 (.map (some bK)) (.string r.key) false).run Try.prog w' = .ok (.agg #[.slice p1 L.length p2, p3]) w') 10 rfl (by kernel_rfl) ?_
          refine takeU 0 98 (v := ?_) rfl rfl (by kernel_rfl) (by kernel_rfl) (by kernel_rfl) (by kernel_rfl) (fun _ _ _ h => h) (by rfl) HS0.out ?_ ?_
          rotate_left
          · intro w' hSw
            obtain ⟨h1, h2, h3⟩ := hSw
            go_simp
            try (with_reducible rfl)
          simp only [List.setIfInBounds_toArray, List.set_cons_zero, List.set_cons_succ]
          refine takeU 1 99 (v := ?_) rfl rfl (by kernel_rfl) (by kernel_rfl) (by kernel_rfl) (by kernel_rfl) (fun _ _ _ h => h) (by rfl) HS0.out ?_ ?_
          rotate_left
          · intro w' hSw
            obtain ⟨h1, h2, h3⟩ := hSw
            go_simp
            try (with_reducible rfl)
          simp only [List.setIfInBounds_toArray, List.set_cons_zero, List.set_cons_succ]
          refine takeU 2 100 (v := ?_) rfl rfl (by kernel_rfl) (by kernel_rfl) (by kernel_rfl) (by kernel_rfl) (fun _ _ _ h => h) (by rfl) HS0.out ?_ ?_
          rotate_left
          · intro w' hSw
            obtain ⟨h1, h2, h3⟩ := hSw
            go_simp
            try (with_reducible rfl)
          simp only [List.setIfInBounds_toArray, List.set_cons_zero, List.set_cons_succ]
          refine takeU 3 101 (v := ?_) rfl rfl (by kernel_rfl) (by kernel_rfl) (by kernel_rfl) (by kernel_rfl) (fun _ _ _ h => h) (by rfl) HS0.out ?_ ?_
          rotate_left
          · intro w' hSw
            obtain ⟨h1, h2, h3⟩ := hSw
            go_simp
            try (with_reducible rfl)
          simp only [List.setIfInBounds_toArray, List.set_cons_zero, List.set_cons_succ]
          refine takeU 4 102 (v := ?_) rfl rfl (by kernel_rfl) (by kernel_rfl) (by kernel_rfl) (by kernel_rfl) (fun _ _ _ h => h) (by rfl) HS0.out ?_ ?_
          rotate_left
          · intro w' hSw
            obtain ⟨h1, h2, h3⟩ := hSw
            go_simp
            try (with_reducible rfl)
          simp only [List.setIfInBounds_toArray, List.set_cons_zero, List.set_cons_succ]
          refine takeU 5 103 (v := ?_) rfl rfl (by kernel_rfl) (by kernel_rfl) (by kernel_rfl) (by kernel_rfl) (fun _ _ _ h => h) (by rfl) HS0.out ?_ ?_
          rotate_left
          · intro w' hSw
            obtain ⟨h1, h2, h3⟩ := hSw
            go_simp
            try (with_reducible rfl)
          simp only [List.setIfInBounds_toArray, List.set_cons_zero, List.set_cons_succ]
          refine takeU 6 104 (v := ?_) rfl rfl (by kernel_rfl) (by kernel_rfl) (by kernel_rfl) (by kernel_rfl) (fun _ _ _ h => h) (by rfl) HS0.out ?_ ?_
          rotate_left
          · intro w' hSw
            obtain ⟨h1, h2, h3⟩ := hSw
            go_simp
            try (with_reducible rfl)
          simp only [List.setIfInBounds_toArray, List.set_cons_zero, List.set_cons_succ]
          refine takeU 7 105 (v := ?_) rfl rfl (by kernel_rfl) (by kernel_rfl) (by kernel_rfl) (by kernel_rfl) (fun _ _ _ h => h) (by rfl) HS0.out ?_ ?_
          rotate_left
          · intro w' hSw
            obtain ⟨h1, h2, h3⟩ := hSw
            go_simp
            try (with_reducible rfl)
          simp only [List.setIfInBounds_toArray, List.set_cons_zero, List.set_cons_succ]
          refine oneU 8 rfl (by kernel_rfl) (by rfl) (fun K1 hK1 => ?_)
          go_simp
          have HB2 : Hid (Below w.heap.size w (w1.alloc (.cells #[.slice p1 L.length p2] 22)).drew) := HY.out.2.trans ((Below.one w1 _).mono HY.out.2.size |>.trans ⟨rfl, rfl, rfl, Nat.le_refl _, fun _ _ => rfl⟩)
          refine hK1.out _ _ (fun _ => ?_) ?_
          · exact ⟨HC2.out _ HB2.out, cell_blk (v := .string r.key) (HY.out.kept (Below.one w1 _)).1 0 rfl, HLKK.out _ HB2.out⟩
          clear hK1 K1
          refine lastU 9 rfl (by kernel_rfl) (by kernel_rfl) (by kernel_rfl) (by rfl) (fun K1 hK1 => ?_)
          go_simp
          refine hK1.out _ _ ?_
          clear hK1 K1 HS0
          go_wp2
          go_ret
          refine ⟨some ⟨w1.heap.size, 0, none⟩, 1, [L], rfl, fun h => (by cases h), .inr ⟨_, _, rfl, fun q L' hq => ?_⟩, .inr ⟨by simp, HNZ.out, some j, fw, HBST.out, .inr ⟨j, r, rfl, HR.out, HNEG.out, .inl ⟨HA.out, by rw [HLE.out]⟩⟩⟩, HB2.out⟩
          match q, hq with
          | 0, hq =>
            simp at hq
            subst hq
            exact ⟨p1, p2, by simp, HRW.out _ HB2.out⟩
        · subst hmo
          have HA := hide ha
          have HM1 := hide (hm.below HY.out.2 hm.lt)
          have hmlt := hm.lt
          clear ha hm
          go_wp2_with (at_range; refine wpList_range_fn _ rfl _ 63 rfl 9 4 Try.underlying63 m _ rfl HM1.out ?_)
          intro w2 cnt hit hb2 hs2
          have HIN : Hid (LIn w O r pa pc Y m w1.heap.size [] (fun s => vfn r.vals s ≠ none) cnt (.slice none 0 0) w2) :=
            ⟨⟨List.Pairwise.nil, fun v => ⟨fun h => (by cases h), fun h => absurd (vfn_ne.2 h.1) h.2⟩, hit, HY.out.kept hb2⟩, World.ownsRow_nil _ _ _ _⟩
          have hw1 := HY.out.2.size
          have hYw : w.heap.size ≤ Y := hbase
          clear hit hb2 hs2 HY HM1 y0 y1
          go_wp2_with fail
          generalize w1.heap.size = i2 at HIN hw1
          go_loopw [13, 14] (fun l _ wr => ∃ ds left cnt, LIn w O r pa pc Y m i2 ds left cnt l wr) (fun _ _ wr => iterLeft wr i2)
          case atStart => exact ⟨[], _, _, HIN.out⟩
          case round =>
            clear HIN
            obtain ⟨ds, left, cnt, hin⟩ := hrel
            have HIT := hide hin.1.2.2.1
            have HCNT := hide hin.1.2.2.1.left_eq
            have HIN := hide hin
            clear hin
            go_wp2_with (at_next; refine wpList_next_fn _ rfl _ rfl i2 m cnt (vfn r.vals) left (fun _ : Nat => Value.bool true) (fun s v h => by unfold vfn at h; split at h; (cases h; exact ⟨0, rfl⟩); cases h) rfl HIT.out ?_ ?_)
            · intro hdone
              have hcz : carr O r O.length ≠ 0 := by rw [← meets_pos HNEG.out]; exact HNZ.out j r HR.out
              obtain ⟨g2, cap2, hv2, hrow, hnd, hmem⟩ := HIN.out.fin (HLK.out wr HIN.out.1.2.2.2.2) HA.out hcz hdone
              have HBW := hide HIN.out.1.2.2.2.2
              subst hv2
              have HROW := hide hrow
              have HND := hide hnd
              have HMEM := hide hmem
              clear hdone hcz hrow hnd hmem HIN HIT
              go_wp2
              go_ret
              exact ⟨_, _, _, rfl, fun h => (by cases h), HROW.out, .inr ⟨by simp, HNZ.out, some j, fw, HBST.out, .inr ⟨j, r, rfl, HR.out, HNEG.out, .inr ⟨HA.out, ds, HND.out, HMEM.out, rfl⟩⟩⟩, HBW.out⟩
            · intro v w3 cnt3 hls hfs hit3 hlt3 hon3 hen3
              have HYW := hide (HIN.out.1.2.2.2.iter hon3 HIT.out.iter hw1)
              have HFA := hide (fun W (h : Below w.heap.size w W) => (⟨(HLK.out W h).c1, (HLK.out W h).l80 r.key, (HLK.out W h).l81 r.key v⟩ : _ ∧ _ ∧ _))
              have ho3 : w3.drew.ownsRow (Y + 1) 22 1 u13 ds.length (hdrs O r.key pa pc ds) := by
                refine HIN.out.2.kept hon3.drew.grown (kept_or fun g hg hc => ?_)
                obtain ⟨cs, hcs⟩ := owns_cells HIN.out.2 hg
                obtain ⟨_, _, _, _, h2⟩ := HIT.out.iter
                cases hc
                rw [h2] at hcs
                cases hcs
              have hdl : ds.length ≤ 1048576 := Nat.le_trans (nodup_len r.vals HIN.out.1.1 (fun v hv => ((HIN.out.1.2.1 v).1 hv).1)) (hsr.2 j r HR.out)
              have HST := hide (fun w5 v' blk => HIN.out.step (w5 := w5) (v' := v') (blk := blk) hls (by rw [hfs]; simp) hit3 hon3 hw1 hYw)
              have HIT3 := hide hit3
              have HLT := hide hlt3
              have HO3 := hide ho3
              have hw3 : Y < w3.heap.size := (Array.getElem?_eq_some_iff.1 HYW.out.1).1
              generalize hhd : hdrs O r.key pa pc ds = hd at HO3 HST
              generalize (scan O r.key (some v) O.length).length = ln at HFA HST
              generalize pa r.key (some v) = p1 at HFA HST
              generalize pc r.key (some v) = p2 at HFA HST
              generalize pz r.key (some v) = p3 at HFA
              generalize gL r.key = gl at HFA
              have HS0 : Hid (w3.drew.cell? ⟨X, 1, none⟩ = some (.map (some bL)) ∧ w3.drew.cell? ⟨Y, 0, none⟩ = some (.string r.key) ∧ (Instr.lookup 80 (.map (some bL)) (.string r.key) false).run Try.prog w3.drew = .ok (.map gl) w3.drew ∧ (Instr.lookup 81 (.map gl) (.string v) false).run Try.prog w3.drew = .ok (.agg #[.slice p1 ln p2, p3]) w3.drew) := by
                obtain ⟨f1, f2, f3⟩ := HFA.out w3.drew (HYW.out.2.trans ⟨rfl, rfl, rfl, Nat.le_refl _, fun _ _ => rfl⟩)
                exact ⟨f1, cell_blk (v := .string r.key) HYW.out.1 0 rfl, f2, f3⟩
              have hfd := field75_0
              clear hls hfs hit3 hlt3 hon3 HIN HIT hhd ho3
              go_upto_region 29 with fail
              clear hen3
              refine startU (S := fun w' => w'.cell? ⟨X, 1, none⟩ = some (.map (some bL)) ∧ w'.cell? ⟨Y, 0, none⟩ = some (.string r.key) ∧ (Instr.lookup 80 (.map (some bL)) (.string r.key) false).run Try.prog w' = .ok (.map gl) w' ∧ (Instr.lookup 81 (.map gl) (.string v) false).run Try.prog w' = .ok (.agg #[.slice p1 ln p2, p3]) w') 14 rfl (by kernel_rfl) ?_
              refine takeU 0 114 (v := ?_) rfl rfl (by kernel_rfl) (by kernel_rfl) (by kernel_rfl) (by kernel_rfl) (fun _ _ _ h => h) (by rfl) HS0.out ?_ ?_
              rotate_left
              · intro w' hSw
                obtain ⟨h1, h2, h3, h4⟩ := hSw
                go_simp
                try (with_reducible rfl)
              simp only [List.setIfInBounds_toArray, List.set_cons_zero, List.set_cons_succ]
              refine takeU 1 115 (v := ?_) rfl rfl (by kernel_rfl) (by kernel_rfl) (by kernel_rfl) (by kernel_rfl) (fun _ _ _ h => h) (by rfl) HS0.out ?_ ?_
              rotate_left
              · intro w' hSw
                obtain ⟨h1, h2, h3, h4⟩ := hSw
                go_simp
                try (with_reducible rfl)
              simp only [List.setIfInBounds_toArray, List.set_cons_zero, List.set_cons_succ]
              refine takeU 2 116 (v := ?_) rfl rfl (by kernel_rfl) (by kernel_rfl) (by kernel_rfl) (by kernel_rfl) (fun _ _ _ h => h) (by rfl) HS0.out ?_ ?_
              rotate_left
              · intro w' hSw
                obtain ⟨h1, h2, h3, h4⟩ := hSw
                go_simp
                try (with_reducible rfl)
              simp only [List.setIfInBounds_toArray, List.set_cons_zero, List.set_cons_succ]
              refine takeU 3 117 (v := ?_) rfl rfl (by kernel_rfl) (by kernel_rfl) (by kernel_rfl) (by kernel_rfl) (fun _ _ _ h => h) (by rfl) HS0.out ?_ ?_
              rotate_left
              · intro w' hSw
                obtain ⟨h1, h2, h3, h4⟩ := hSw
                go_simp
                try (with_reducible rfl)
              simp only [List.setIfInBounds_toArray, List.set_cons_zero, List.set_cons_succ]
              refine takeU 4 118 (v := ?_) rfl rfl (by kernel_rfl) (by kernel_rfl) (by kernel_rfl) (by kernel_rfl) (fun _ _ _ h => h) (by rfl) HS0.out ?_ ?_
              rotate_left
              · intro w' hSw
                obtain ⟨h1, h2, h3, h4⟩ := hSw
                go_simp
                try (with_reducible rfl)
              simp only [List.setIfInBounds_toArray, List.set_cons_zero, List.set_cons_succ]
              refine takeU 5 119 (v := ?_) rfl rfl (by kernel_rfl) (by kernel_rfl) (by kernel_rfl) (by kernel_rfl) (fun _ _ _ h => h) (by rfl) HS0.out ?_ ?_
              rotate_left
              · intro w' hSw
                obtain ⟨h1, h2, h3, h4⟩ := hSw
                go_simp
                try (with_reducible rfl)
              simp only [List.setIfInBounds_toArray, List.set_cons_zero, List.set_cons_succ]
              refine takeU 6 120 (v := ?_) rfl rfl (by kernel_rfl) (by kernel_rfl) (by kernel_rfl) (by kernel_rfl) (fun _ _ _ h => h) (by rfl) HS0.out ?_ ?_
              rotate_left
              · intro w' hSw
                obtain ⟨h1, h2, h3, h4⟩ := hSw
                go_simp
                try (with_reducible rfl)
              simp only [List.setIfInBounds_toArray, List.set_cons_zero, List.set_cons_succ]
              refine takeU 7 121 (v := ?_) rfl rfl (by kernel_rfl) (by kernel_rfl) (by kernel_rfl) (by kernel_rfl) (fun _ _ _ h => h) (by rfl) HS0.out ?_ ?_
              rotate_left
              · intro w' hSw
                obtain ⟨h1, h2, h3, h4⟩ := hSw
                go_simp
                try (with_reducible rfl)
              simp only [List.setIfInBounds_toArray, List.set_cons_zero, List.set_cons_succ]
              refine takeU 8 122 (v := ?_) rfl rfl (by kernel_rfl) (by kernel_rfl) (by kernel_rfl) (by kernel_rfl) (fun _ _ _ h => h) (by rfl) HS0.out ?_ ?_
              rotate_left
              · intro w' hSw
                obtain ⟨h1, h2, h3, h4⟩ := hSw
                go_simp
                try (with_reducible rfl)
              simp only [List.setIfInBounds_toArray, List.set_cons_zero, List.set_cons_succ]
              refine takeU 9 123 (v := ?_) rfl rfl (by kernel_rfl) (by kernel_rfl) (by kernel_rfl) (by kernel_rfl) (fun _ _ _ h => h) (by rfl) HS0.out ?_ ?_
              rotate_left
              · intro w' hSw
                obtain ⟨h1, h2, h3, h4⟩ := hSw
                go_simp
                try (with_reducible rfl)
              simp only [List.setIfInBounds_toArray, List.set_cons_zero, List.set_cons_succ]
              refine takeU 10 124 (v := ?_) rfl rfl (by kernel_rfl) (by kernel_rfl) (by kernel_rfl) (by kernel_rfl) (fun _ _ _ h => h) (by rfl) HS0.out ?_ ?_
              rotate_left
              · intro w' hSw
                obtain ⟨h1, h2, h3, h4⟩ := hSw
                go_simp
                try (with_reducible rfl)
              simp only [List.setIfInBounds_toArray, List.set_cons_zero, List.set_cons_succ]
              refine oneU 11 rfl (by kernel_rfl) (by rfl) (fun K1 hK1 => ?_)
              go_simp
              have HRV4 := hide (HYW.out.kept ((Below.one w3 (.cells #[.slice p1 ln p2] 22)).trans (below_drew _ |>.mono (by simp))))
              refine hK1.out _ _ (fun _ => ?_) ?_
              · obtain ⟨f1, f2, f3⟩ := HFA.out _ HRV4.out.2
                exact ⟨f1, cell_blk (v := .string r.key) HRV4.out.1 0 rfl, f2, f3⟩
              clear hK1 K1
              refine oneU 12 rfl (by kernel_rfl) (by rfl) (fun K1 hK1 => ?_)
              refine wp_append_lies _ (.tmp 114) (.tmp 125) 65 rfl (Y + 1) 22 i0 (.slice none 0 0) 1 24 Try.underlying65 hi hz0 hz1 hz2 rfl (by decide) u13 _ _ rfl (HO3.out.alloc _) ⟨w3.heap.size, 0, none⟩ 1 1 [.slice p1 ln p2] rfl rfl (cell_one_new _ _ _) (hdr_oneCell _ _ _) (by omega) (by unfold maxLen; omega) (by omega) (by simp; omega) (w3.heap.size + 1) (by simp) ?_
              intro g5 cap5 w5 hown5 hgrow5 _ hlt5
              have HL5 := hide (HST.out w5 _ _ hown5 hgrow5 HO3.out)
              refine hK1.out _ _ (fun _ => ?_) ?_
              · obtain ⟨f1, f2, f3⟩ := HFA.out _ HL5.out.1.2.2.2.2
                exact ⟨f1, cell_blk (v := .string r.key) HL5.out.1.2.2.2.1 0 rfl, f2, f3⟩
              simp only [Act.put, List.setIfInBounds_toArray, List.set_cons_zero, List.set_cons_succ]
              clear hK1 K1
              have hmeas : iterLeft w5 i2 < iterLeft wr i2 := by
                rw [HL5.out.1.2.2.1.left_eq, HCNT.out]
                exact HLT.out
              refine lastU 13 rfl (by kernel_rfl) (by kernel_rfl) (by kernel_rfl) (by rfl) (fun K1 hK1 => ?_)
              go_simp
              refine hK1.out _ _ ?_
              clear hK1 K1 HS0 hown5 hgrow5 HST HFA HO3 HYW HRV4
              go_wp2
              go_roundw
              case rel => exact ⟨_, _, _, HL5.out⟩
              case measure => exact hmeas

end Go.Proofs.Qxb6601049a
