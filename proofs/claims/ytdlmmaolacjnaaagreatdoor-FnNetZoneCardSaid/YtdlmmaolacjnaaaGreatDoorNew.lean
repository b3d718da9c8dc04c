/-
  The contracts of newComponent and NewComponent.
-/
import Derived.Test.YtdlmmaolacjnaaaGreatDoorValid3
import Derived.Laws.CopyOwn
namespace Go.Proofs.YtdlmmaolacjnaaaGreatDoor
set_option linter.unusedVariables false
set_option linter.unusedSimpArgs false
open Go.RowKit Go.Sort

/-- m laid over l from off on. -/
def over (l : List UInt8) (off : Nat) (m : List UInt8) : List UInt8 := l.take off ++ (m ++ l.drop (off + m.length))
theorem splice_over (l : List UInt8) (off : Nat) (m : List UInt8) : splice (l.map B) off (m.map B) = (over l off m).map B := by
  simp [splice, over, List.map_take, List.map_drop]
theorem over_length (l : List UInt8) (off : Nat) (m : List UInt8) (h : off + m.length ≤ l.length) : (over l off m).length = l.length := by
  simp [over]; omega
theorem over_zeros (a m : List UInt8) (n : Nat) : over (a ++ List.replicate (m.length + n) 0) a.length m = a ++ m ++ List.replicate n 0 := by
  unfold over
  rw [List.take_left, List.drop_append, List.drop_of_length_le (by omega), show a.length + m.length - a.length = m.length by omega, List.drop_replicate, show m.length + n - m.length = n by omega]
  simp
theorem splice_set {α : Type} (cur : List α) (o : Nat) (v : α) (r : List α) (h : o < cur.length) : splice (cur.set o v) (o + 1) r = splice cur o (v :: r) := by
  unfold splice
  have e1 : (cur.set o v).take (o + 1) = cur.take o ++ [v] := by
    rw [List.take_add_one, List.take_set_of_le (Nat.le_refl _)]
    simp [h]
  have e2 : (cur.set o v).drop (o + 1 + r.length) = cur.drop (o + (v :: r).length) := by
    rw [List.drop_set_of_lt (by omega)]
    congr 1; simp; omega
  rw [e1, e2]; simp
theorem setCells_splice (g : Nat) (t : TypeId) : ∀ (vs : List Value) (o : Nat) (w : World) (cur : List Value), w.heap[g]? = some (.cells cur.toArray t (0, 0)) → o + vs.length ≤ cur.length →
    (w.setCells g o vs).heap[g]? = some (.cells (splice cur o vs).toArray t (0, 0))
  | [], o, w, cur, hg, _ => by
    rw [World.setCells, hg]
    simp [splice]
  | v :: r, o, w, cur, hg, hfit => by
    have ho : o < cur.length := by simp at hfit; omega
    rw [World.setCells]
    have h1 := heap_setCell_same w g o cur.toArray t v hg
    have e : (cur.toArray.setIfInBounds o v) = (cur.set o v).toArray := by simp
    rw [e] at h1
    rw [setCells_splice g t r (o + 1) (w.setCell ⟨g, o, none⟩ v) (cur.set o v) h1 (by simp at hfit ⊢; omega), splice_set _ _ _ _ ho]

/-- a made row's block -/
theorem own_block {w : World} {base g n : Nat} {e : TypeId} {xs : List Value} (h : w.ownsRow base e 1 (.slice (some ⟨g, 0, none⟩) n n) n xs) : w.heap[g]? = some (.cells xs.toArray e (0, 0)) := by
  obtain ⟨hl, h2⟩ := h
  rcases h2 with ⟨h3, -⟩ | ⟨g', cap, cur, hv, hb, hg, hn, hm, hs, ht⟩
  · cases h3
  · injection hv with h5 h6 h7
    injection h5 with h5
    injection h5 with h5
    subst h5 h7
    rw [hg]
    congr 2
    rw [← ht, List.take_of_length_le (by simp; omega)]
theorem zeros_map (n : Nat) : (madeCells (Value.int .u8 0).cells (n * 1)).toList = (List.replicate n (0 : UInt8)).map B := by
  have e : (madeCells (Value.int .u8 0).cells n).toList = List.replicate n (.int .u8 0) := toList_madeCells_one _ _
  rw [Nat.mul_one, e]
  simp

theorem boxP (p : Pr) (gv : Nat) (ρ : Operand → Value) (w : World) (o : Oper) (x : Operand) (h : o.op = .box 66 x) (hx : ρ x = p.val (vc gv p.code)) :
    (execOp ρ o).run Tryz.prog w = .ok (.value (.pointer (some ⟨w.heap.size, 0, none⟩))) (w.alloc (.cells (p.cells (vc gv p.code)) 66 (0, 0))) := by
  unfold execOp
  simp only [h, hx]
  simp [go_sem, Pr.val, Pr.cells]

theorem withName_ok (p : Pr) (h : Named p) (h1 : p.tc.oneCell' = true) (w : World) : Calls Tryz.prog 61 #[.string p.name] w fun e w' =>
    e = .returned (p.val (vc (w.heap.size + 3) p.code)) ∧ Bs w' (Lib.uvarint p.code) (vc (w.heap.size + 3) p.code) ∧ Ext w w' := by
  have H := Lib.hid h
  clear h
  go_enter Tryz.func61, Tryz.ntmps61
  go_wp2_with (first
    | (go_at_call 77; refine (H.out _).mono ?_; rintro e w1 ⟨rfl, hb, he⟩; rw [World.size_alloc] at hb ⊢; have Hb := Lib.hid hb; have He := Lib.hid he; have hg1 := he.block (heap_alloc_new w _); clear hb he)
    | (refine wpList_store_row rfl 66 _ _ rfl w.heap.size (p.cells _) rfl rfl 66 _ hg1 ?c1 ?c2 ?c3 ?c4; (case c1 => kernel_rfl); (case c2 => rfl); (case c3 => exact Pr.one _ h1 _ _)))
  refine bodyPost_ret (results_cell_row Tryz.results61 _ _ w.heap.size 66 _ (0, 0) _ rfl (setRow_heap _ _ _ _ _ _ hg1) Tryz.underlying66 rfl (by kernel_rfl)) rfl ⟨rfl, Bs.block Hb.out (setRow_other _ _ _ _ (by simp)), ?_⟩
  exact below_setRow' (Ext.trans (Ext.alloc (Ext.refl w) _) He.out) (Nat.le_refl _) _

theorem boxC (s : ByteArray) (pb k : Nat) (ρ : Operand → Value) (w : World) (o : Oper) (x : Operand) (h : o.op = .box 61 x) (hx : ρ x = .agg #[.string s, .pointer (some ⟨pb, 0, none⟩), .int .i64 (k : Int)]) :
    (execOp ρ o).run Tryz.prog w = .ok (.value (.pointer (some ⟨w.heap.size, 0, none⟩))) (w.alloc (.cells #[.string s, .pointer (some ⟨pb, 0, none⟩), .int .i64 (k : Int)] 61 (0, 0))) := by
  unfold execOp
  simp only [h, hx]
  simp [go_sem]

/-- What newComponent has at hand while it fills the bytes: the boxed protocol (block p0), the protocol's pointer (block pb), and the row gM of the bytes. -/
def Fill (w w3 wx : World) (c : Cmp) (p0 gv0 pb gv gM : Nat) (lst : List UInt8) : Prop :=
  Ext w w3 ∧ w.heap.size ≤ gM ∧ p0 < gM ∧ Below gM w3 wx ∧ w3.heap[p0]? = some (.cells (c.p.cells (vc gv0 c.p.code)) 66 (0, 0)) ∧ PrAt w3 c.p pb gv ∧ pb < gM ∧ gv < gM ∧ wx.heap[gM]? = some (.cells (lst.map B).toArray 5 (0, 0))
theorem Fill.cell {w w3 wx : World} {c : Cmp} {p0 gv0 pb gv gM : Nat} {lst : List UInt8} (h : Fill w w3 wx c p0 gv0 pb gv gM lst) (j : Nat) : wx.cell? ⟨p0, j, none⟩ = (c.p.cells (vc gv0 c.p.code))[j]? := by
  obtain ⟨-, -, h2, h3, h4, -⟩ := h
  rw [← cell_of_row w3 p0 j _ _ _ h4]
  exact h3.cell (p := ⟨p0, j, none⟩) h2
theorem Fill.ext {w w3 wx : World} {c : Cmp} {p0 gv0 pb gv gM : Nat} {lst : List UInt8} (h : Fill w w3 wx c p0 gv0 pb gv gM lst) : Ext w wx :=
  Below.trans h.1 (Below.mono h.2.2.2.1 h.2.1)
theorem Fill.drew {w w3 wx : World} {c : Cmp} {p0 gv0 pb gv gM : Nat} {lst : List UInt8} (h : Fill w w3 wx c p0 gv0 pb gv gM lst) : Fill w w3 wx.drew c p0 gv0 pb gv gM lst :=
  ⟨h.1, h.2.1, h.2.2.1, Below.drew h.2.2.2.1, h.2.2.2.2.1, h.2.2.2.2.2.1, h.2.2.2.2.2.2.1, h.2.2.2.2.2.2.2.1, h.2.2.2.2.2.2.2.2⟩
theorem Fill.write {w w3 wx wy : World} {c : Cmp} {p0 gv0 pb gv gM : Nat} {lst lst' : List UInt8} (h : Fill w w3 wx c p0 gv0 pb gv gM lst) (hb : Below gM w3 wy) (hy : wy.heap[gM]? = some (.cells (lst'.map B).toArray 5 (0, 0))) : Fill w w3 wy c p0 gv0 pb gv gM lst' :=
  ⟨h.1, h.2.1, h.2.2.1, hb, h.2.2.2.2.1, h.2.2.2.2.2.1, h.2.2.2.2.2.2.1, h.2.2.2.2.2.2.2.1, hy⟩
theorem Fill.prAt {w w3 wx : World} {c : Cmp} {p0 gv0 pb gv gM : Nat} {lst : List UInt8} (h : Fill w w3 wx c p0 gv0 pb gv gM lst) : PrAt wx c.p pb gv := by
  obtain ⟨-, -, -, h3, -, h5, h6, h7, -⟩ := h
  refine ⟨by rw [Below.block h3 pb h6]; exact h5.1, fun j v hj => ?_⟩
  rw [h3.cell (p := ⟨gv, 0 + j, none⟩) h7]
  exact h5.2 j v hj

set_option maxHeartbeats 4000000 in
set_option maxRecDepth 100000 in
theorem newComponent_ok (c : Cmp) (hg : Good c) (hc : Coded c.p) (hne : c.val ≠ []) (gv0 : Nat) (bv : Value) (w : World) (hv0 : Row w gv0 0 ((Lib.uvarint c.p.code).map B)) (hbv : By w c.val bv) (ht : Tab w) :
    Calls Tryz.prog 63 #[c.p.val (vc gv0 c.p.code), bv] w fun e w' => ∃ g, e = .returned (.tuple #[.pointer (some ⟨g, 0, none⟩), .nilIface]) ∧ CmpAt w' c g 0 ∧ Ext w w' := by
  obtain ⟨L, hL⟩ : ∃ L, L = (Lib.uvarint c.p.code).length := ⟨_, rfl⟩
  obtain ⟨m, hm⟩ : ∃ m, m = c.val.length := ⟨_, rfl⟩
  obtain ⟨n, hn⟩ : ∃ n, n = c.pre.length := ⟨_, rfl⟩
  have hL1 : 1 ≤ L := by rw [hL]; exact Lib.uvarint_pos _
  have hL9 : L ≤ 10 := by rw [hL]; exact Lib.uvarint_length64 (by have := hg.code; omega)
  have hm1 : m ≤ 1000000 := by rw [hm]; exact hg.len
  obtain ⟨a, cap, hbe, hcap, -⟩ := id hbv
  rw [← hm] at hbe hcap
  subst hbe
  have hm0 : 0 < m := by rw [hm]; exact List.length_pos_iff.2 hne
  obtain ⟨sz, hsz⟩ : ∃ sz, sz = c.p.size := ⟨_, rfl⟩
  obtain ⟨U, hU⟩ : ∃ U, U = (Lib.uvarint m).length := ⟨_, rfl⟩
  have hU1 : 1 ≤ U ∧ U ≤ 10 := by rw [hU]; exact ⟨Lib.uvarint_pos _, Lib.uvarint_length64 (by omega)⟩
  have hnn : (sz < 0 ∧ n = L + U) ∨ (0 ≤ sz ∧ n = L) := by
    rw [hn, hsz]
    unfold Cmp.pre
    by_cases h : c.p.size < 0
    · rw [if_pos h, List.length_append, ← hL, ← hm, ← hU]; exact .inl ⟨h, rfl⟩
    · rw [if_neg h, List.length_append, ← hL]; exact .inr ⟨by omega, rfl⟩
  have hn20 : n ≤ 20 := by omega
  have hP := ptr_ok c.p hc hg.one hg.code0
  have hk1 := Lib.hid hg.one
  have HB := Lib.hid (And.intro hv0 hbv)
  have HL := Lib.hid hL
  have HM := Lib.hid hm
  have HN := Lib.hid hn
  have HG := Lib.hid hg
  have HP := Lib.hid hP
  have HSZ := Lib.hid hsz
  have HU := Lib.hid hU
  have HNN := Lib.hid hnn
  have HNE := Lib.hid hne
  obtain ⟨i0, hi, hz0, hz1, hz2⟩ := info_parts Tryz.info5
  have b2 : i0.bytes * (n + m) ≤ 281474976710656 := by rw [hz2]; omega
  have b3 : n + m ≤ maxLen := by unfold maxLen; omega
  clear hv0 hbv hL hm hn hg hP hc hsz hU hnn hne
  go_enter Tryz.func63, Tryz.ntmps63
  go_upto_if 26 with (first
    | (refine wpList_new (w := w) rfl (c.p.cells (vc gv0 c.p.code)) _ (boxP c.p gv0 _ _ _ _ rfl rfl) ?_; intro w1 hn1; have k1 : w1.cell? ⟨w.heap.size, 1, none⟩ = some (.int .i64 (c.p.code : Int)) := cell_of_row _ _ _ _ _ _ hn1.blk)
    | (go_at_call 78; refine (HP.out w1).mono ?_; rintro e w2 ⟨pb, rfl, hpb, hlt, hbs, he2⟩; have k2 : w2.cell? ⟨w.heap.size, 2, none⟩ = some (.slice (some ⟨gv0, 0, none⟩) L L) := by { rw [HL.out]; exact he2.cell (cell_of_row _ _ _ _ _ _ hn1.blk) }; have k3 : w2.cell? ⟨w.heap.size, 3, none⟩ = some (.int .i64 sz) := by { rw [HSZ.out]; exact he2.cell (cell_of_row _ _ _ _ _ _ hn1.blk) }))
  go_cut [7] (fun s7 wx => w2 = wx ∧ s7 = .int .i64 ((n + m : Nat) : Int))
  case first =>
    as_aux_lemma =>
      rcases HNN.out with ⟨hs, hn⟩ | ⟨hs, hn⟩
      · have hx : m < 18446744073709551616 := by omega
        have HUS := Lib.hid (fun w => uvarintSize_ok m hx w)
        rw [← HU.out] at HUS
        go_wp2_with (go_at_call 79; refine (HUS.out _).mono ?_; rintro e w' ⟨rfl, rfl⟩)
        go_meet
        exact ⟨rfl, by rw [hn]; go_num⟩
      · go_wp2
        go_meet
        exact ⟨rfl, by rw [hn]; go_num⟩
  case rest =>
    obtain ⟨rfl, rfl⟩ := hcut
    have HN1 := Lib.hid (And.intro hn1 (And.intro hpb (And.intro hbs (And.intro he2 hlt))))
    clear hpb hbs
    go_upto_region 10 with (refine wpList_make_full _ rfl _ _ 22 rfl w2.heap.size 5 i0 (.int .u8 0) 1 Tryz.underlying22 hi hz0 hz1 _ _ _ _ (n + m) rfl rfl rfl rfl b2 b3 (Nat.le_refl _) ?_; intro w3 hown hgr)
    have hF : Fill w w3 w3 c w.heap.size gv0 pb (w1.heap.size + 2) w2.heap.size (List.replicate (n + m) 0) := by
      obtain ⟨hn1, hpb, hbs, he2, hlt⟩ := HN1.out
      have hg3 := below_of_grown hgr
      have hz1 := hn1.size
      have hz2 := he2.size
      have hrow : Row w2 (w1.heap.size + 2) 0 ((Lib.uvarint c.p.code).map B) := by
        obtain ⟨a, cc, h1, -, -, h4⟩ := hbs
        obtain ⟨g, o, hg, hr⟩ := h4 (by have := Lib.uvarint_pos c.p.code; intro h; simp at h; rw [h] at this; simp at this)
        injection h1 with h1
        rw [← h1] at hg
        injection hg with hg
        injection hg with hg1 hg2
        subst hg1; subst hg2
        exact hr
      have hpl : pb < w2.heap.size := (Array.getElem?_eq_some_iff.1 hpb).1
      have hgl : w1.heap.size + 2 < w2.heap.size := hrow.lt (by have := Lib.uvarint_pos c.p.code; intro h; simp at h; rw [h] at this; simp at this)
      refine ⟨(hn1.ext.trans he2).trans hg3, by omega, by omega, Below.refl _ _, ?_, ⟨Ext.block hg3 hpb, Ext.row hg3 hrow⟩, hpl, hgl, ?_⟩
      · exact Ext.block hg3 (he2.block hn1.blk)
      · rw [own_block hown, zeros_map]
    have HF := Lib.hid hF
    have k2 : w3.cell? ⟨w.heap.size, 2, none⟩ = some (.slice (some ⟨gv0, 0, none⟩) L L) := by rw [HL.out]; exact hF.cell 2
    clear hF hown hgr
    have HZ : Hid (over (List.replicate (n + m) 0) 0 (Lib.uvarint c.p.code) = Lib.uvarint c.p.code ++ List.replicate (n + m - L) 0) := Lib.hid (by
      have := over_zeros [] (Lib.uvarint c.p.code) (n + m - L)
      rw [← HL.out, show L + (n + m - L) = n + m by have := HNN.out; omega] at this
      simpa using this)
    go_cut [9] (fun s9 wx => s9 = .int .i64 (L : Int) ∧ Fill w w3 wx c w.heap.size gv0 pb (w1.heap.size + 2) w2.heap.size (Lib.uvarint c.p.code ++ List.replicate (n + m - L) 0))
    case first =>
      as_aux_lemma =>
        have hcp : Hid ((w3.drew.heap[w2.heap.size]? = some (.cells ((List.replicate (n + m) 0).map B).toArray 5 (0, 0))) ∧ (∀ j v, ((Lib.uvarint c.p.code).map B)[j]? = some v → w3.drew.cell? ((⟨gv0, 0, none⟩ : Addr).add j) = some v) ∧ Below w2.heap.size w3 w3.drew) := Lib.hid (by
          have hf := HF.out
          refine ⟨hf.2.2.2.2.2.2.2.2, fun j v hj => ?_, Below.drew (Below.refl _ _)⟩
          rw [addr_add]
          have h1 := (Ext.trans hf.1 (Ext.drew (Ext.refl w3))).row HB.out.1 j v hj
          exact h1)
        have hLn : L ≤ n := by have := HNN.out; omega
        have hnm0 : (0 : Int) ≤ (n : Int) + (m : Int) := by omega
        have hwL : IntKind.i64.wrap (L : Int) = (L : Int) := by rw [IntKind.wrap_i64]; omega
        refine wp_region_noPanic ?_
        refine wp_region_held_drew (S := fun w' => w'.cell? ⟨w.heap.size, 2, none⟩ = some (.slice (some ⟨gv0, 0, none⟩) L L)) (by kernel_rfl) ?_ (fun hHeld => ?_)
        · exact (Ext.drew (Ext.refl w3)).cell k2
        refine wpAnyH_take (i := 0) (v := ?_) (by simp only [List.getElem?_toArray, List.getElem?_cons_zero]; rfl) (by kernel_rfl) (by kernel_rfl) (by kernel_rfl) (fun _ _ _ h => h) (Or.inl ⟨by rfl, ?_⟩) hHeld ?_
        rotate_left
        · ((intro wS hSw; (try dsimp only at hSw); go_simp) <;> (try with_reducible rfl))
        (try simp only [Act.put, List.setIfInBounds_toArray, List.set_cons_zero, List.set_cons_succ])
        refine wpAnyH_take (i := 1) (v := ?_) (by simp only [List.getElem?_toArray, List.getElem?_cons_zero, List.getElem?_cons_succ]; rfl) (by kernel_rfl) (by kernel_rfl) (by kernel_rfl) (fun _ _ _ h => h) (Or.inl ⟨by rfl, ?_⟩) hHeld ?_
        rotate_left
        · ((intro wS hSw; (try dsimp only at hSw); go_simp) <;> (try with_reducible rfl))
        (try simp only [Act.put, List.setIfInBounds_toArray, List.set_cons_zero, List.set_cons_succ])
        refine wpAnyH_take (i := 2) (v := ?_) (by simp only [List.getElem?_toArray, List.getElem?_cons_zero, List.getElem?_cons_succ]; rfl) (by kernel_rfl) (by kernel_rfl) (by kernel_rfl) (fun _ _ _ h => h) (Or.inl ⟨by rfl, ?_⟩) hHeld ?_
        rotate_left
        · ((intro wS hSw; (try dsimp only at hSw); go_simp) <;> (try with_reducible rfl))
        (try simp only [Act.put, List.setIfInBounds_toArray, List.set_cons_zero, List.set_cons_succ])
        refine wpAnyH_take (i := 3) (v := ?_) (by simp only [List.getElem?_toArray, List.getElem?_cons_zero, List.getElem?_cons_succ]; rfl) (by kernel_rfl) (by kernel_rfl) (by kernel_rfl) (fun _ _ _ h => h) (Or.inl ⟨by rfl, ?_⟩) hHeld ?_
        rotate_left
        · ((intro wS hSw; (try dsimp only at hSw); go_simp) <;> (try with_reducible rfl))
        (try simp only [Act.put, List.setIfInBounds_toArray, List.set_cons_zero, List.set_cons_succ])
        refine wpAnyH_take (i := 4) (v := ?_) (by simp only [List.getElem?_toArray, List.getElem?_cons_zero, List.getElem?_cons_succ]; rfl) (by kernel_rfl) (by kernel_rfl) (by kernel_rfl) (fun _ _ _ h => h) (Or.inl ⟨by rfl, ?_⟩) hHeld ?_
        rotate_left
        · ((intro wS hSw; (try dsimp only at hSw); go_simp) <;> (try with_reducible rfl))
        (try simp only [Act.put, List.setIfInBounds_toArray, List.set_cons_zero, List.set_cons_succ])
        refine wpAnyH_take (i := 5) (v := ?_) (by simp only [List.getElem?_toArray, List.getElem?_cons_zero, List.getElem?_cons_succ]; rfl) (by kernel_rfl) (by kernel_rfl) (by kernel_rfl) (fun _ _ _ h => h) (Or.inl ⟨by rfl, ?_⟩) hHeld ?_
        rotate_left
        · ((intro wS hSw; (try dsimp only at hSw); go_simp) <;> (try with_reducible rfl))
        (try simp only [Act.put, List.setIfInBounds_toArray, List.set_cons_zero, List.set_cons_succ])
        refine wpAnyH_ready (rs := [6]) (by kernel_rfl) (by simp) ?_
        refine AllReadyH.cons (by simp only [List.getElem?_toArray, List.getElem?_cons_zero, List.getElem?_cons_succ]; rfl) (fun K hK => ?_) AllReadyH.nil
        refine step_copy_splice rfl (.tmp 38) (.tmp 40) 22 22 rfl 5 Tryz.underlying22 (by kernel_rfl) (some ⟨w2.heap.size, 0, none⟩) (some ⟨gv0, 0, none⟩) (n + m) (n + m) L L rfl rfl w2.heap.size 0 ((List.replicate (n + m) 0).map B) 5 hcp.out.1 ((Lib.uvarint c.p.code).map B) (by rw [List.length_map, ← HL.out]; show L = min L (n + m); omega) (fun _ => ⟨rfl, _, rfl, hcp.out.2.1⟩) (by rw [List.length_map, List.length_map, ← HL.out, List.length_replicate]; omega) (by intro v hv; obtain ⟨x, -, rfl⟩ := List.mem_map.1 hv; rfl) w2.heap.size w3 hcp.out.2.2 (Nat.le_refl _) ?_
        intro w4 hg4 hb4
        rw [List.length_map, ← HL.out]
        have HF2 : Fill w w3 w4 c w.heap.size gv0 pb (w1.heap.size + 2) w2.heap.size (Lib.uvarint c.p.code ++ List.replicate (n + m - L) 0) := HF.out.write hb4 (by rw [hg4.out, splice_over, HZ.out])
        clear hg4 hb4
        refine hK.out _ _ ?_ (fun hHeld2 => ?_)
        · ((try dsimp only); rw [HL.out]; exact HF2.cell 2)
        clear hK K hHeld
        have hHeld := hHeld2
        clear hHeld2
        (try simp only [Act.put, List.setIfInBounds_toArray, List.set_cons_zero, List.set_cons_succ])
        refine wpAnyH_take (i := 7) (v := ?_) (by simp only [List.getElem?_toArray, List.getElem?_cons_zero, List.getElem?_cons_succ]; rfl) (by kernel_rfl) (by kernel_rfl) (by kernel_rfl) (fun _ _ _ h => h) (Or.inl ⟨by rfl, ?_⟩) hHeld ?_
        rotate_left
        · ((intro wS hSw; (try dsimp only at hSw); go_simp) <;> (try with_reducible rfl))
        (try simp only [Act.put, List.setIfInBounds_toArray, List.set_cons_zero, List.set_cons_succ])
        refine wpAnyH_take (i := 8) (v := ?_) (by simp only [List.getElem?_toArray, List.getElem?_cons_zero, List.getElem?_cons_succ]; rfl) (by kernel_rfl) (by kernel_rfl) (by kernel_rfl) (fun _ _ _ h => h) (Or.inl ⟨by rfl, ?_⟩) hHeld ?_
        rotate_left
        · ((intro wS hSw; (try dsimp only at hSw); go_simp) <;> (try with_reducible rfl))
        (try simp only [Act.put, List.setIfInBounds_toArray, List.set_cons_zero, List.set_cons_succ])
        refine wpAnyH_done (by kernel_rfl) ?_ _
        refine NoPanic.normal ?_
        clear hHeld
        go_wp2
        go_meet
        exact ⟨rfl, HF2⟩
    case rest =>
      obtain ⟨rfl, hF1⟩ := hcut
      clear k1 k2 k3 HF HZ hz0 hz1 hz2 hi b2 b3
      have HF1 := Lib.hid hF1
      have k3 : wc.cell? ⟨w.heap.size, 3, none⟩ = some (.int .i64 sz) := by rw [HSZ.out]; exact hF1.cell 3
      have hLn : L ≤ n := by have := HNN.out; omega
      have hLnI : (L : Int) ≤ (n : Int) := by omega
      clear hF1
      go_upto_if 45 with (fail)
      go_cut [9] (fun s9 wx => s9 = .int .i64 (n : Int) ∧ Fill w w3 wx c w.heap.size gv0 pb (w1.heap.size + 2) w2.heap.size (c.pre ++ List.replicate m 0))
      case first =>
        as_aux_lemma =>
          rcases HNN.out with ⟨hs, hn⟩ | ⟨hs, hn⟩
          · have hx : m < 18446744073709551616 := by omega
            have hsl : (L : Int) ≤ (n : Int) + (m : Int) := by omega
            have hcl : ∀ j, j < (Lib.uvarint m).length → (wc.cell? ⟨w2.heap.size, L + j, none⟩).isSome = true ∧ wc.frozen? ⟨w2.heap.size, L + j, none⟩ = false := by
              intro j hj
              have hb := HF1.out.2.2.2.2.2.2.2.2
              refine ⟨?_, frozen_of_row _ _ _ _ _ hb⟩
              rw [cell_of_row _ _ _ _ _ _ hb]
              have h1 := HU.out
              have h2 := HL.out
              have : L + j < (((Lib.uvarint c.p.code ++ List.replicate (n + m - L) 0).map B).toArray).size := by simp; omega
              rw [Array.getElem?_eq_getElem this]; rfl
            have HPU := Lib.hid (Tryz.binary_PutUvarint w2.heap.size L (n + m - L) (n + m - L) m hx wc (by have h1 := HU.out; omega) hcl)
            have HF2 : Hid (Fill w w3 (wc.setCells w2.heap.size L (Lib.byteCells (Lib.uvarint m))) c w.heap.size gv0 pb (w1.heap.size + 2) w2.heap.size (c.pre ++ List.replicate m 0)) := Lib.hid (by
              have hf := HF1.out
              refine hf.write (below_setCells' hf.2.2.2.1 (Nat.le_refl _) _ _) ?_
              have h1 := HU.out
              have h2 := HL.out
              rw [setCells_splice _ _ _ _ _ _ hf.2.2.2.2.2.2.2.2 (by rw [Lib.byteCells_length]; simp; omega)]
              have e : Lib.byteCells (Lib.uvarint m) = (Lib.uvarint m).map B := rfl
              rw [e, splice_over]
              have h3 := over_zeros (Lib.uvarint c.p.code) (Lib.uvarint m) m
              rw [← h2, show (Lib.uvarint m).length + m = n + m - L by omega] at h3
              rw [h3]
              have h4 : c.pre = Lib.uvarint c.p.code ++ Lib.uvarint m := by
                unfold Cmp.pre
                rw [if_pos (by rw [← HSZ.out]; exact hs), ← HM.out]
              rw [h4])
            rw [← HU.out] at HPU
            have Hn := Lib.hid hn
            clear hcl hx hn
            go_wp2_with (go_at_call 80; (with_reducible refine HPU.out.mono ?_); rintro e w' ⟨rfl, rfl⟩)
            go_meet
            exact ⟨by rw [Hn.out]; go_num, HF2.out⟩
          · have HF2 : Hid (Fill w w3 wc c w.heap.size gv0 pb (w1.heap.size + 2) w2.heap.size (c.pre ++ List.replicate m 0)) := Lib.hid (by
              have hf := HF1.out
              have h4 : c.pre = Lib.uvarint c.p.code := by
                unfold Cmp.pre
                rw [if_neg (by rw [← HSZ.out]; omega)]; simp
              rw [h4]
              rwa [show n + m - L = m by omega] at hf)
            go_wp2
            go_meet
            exact ⟨by rw [hn], HF2.out⟩
      case rest =>
        obtain ⟨rfl, hF2⟩ := hcut
        clear k3 HF1
        have HF2 := Lib.hid hF2
        clear hF2
        have HC : Hid (Below w2.heap.size w3 wc ∧ wc.heap[w2.heap.size]? = some (.cells ((c.pre ++ List.replicate m 0).map B).toArray 5 (0, 0)) ∧ (∃ ad, a = some ad ∧ ∀ j v, (c.val.map B)[j]? = some v → wc.cell? (ad.add j) = some v)) := Lib.hid (by
          have hf := HF2.out
          refine ⟨hf.2.2.2.1, hf.2.2.2.2.2.2.2.2, ?_⟩
          obtain ⟨a', c', he, -, h4⟩ := hf.ext.by HB.out.2
          obtain ⟨g, o, ha, hr⟩ := h4 HNE.out
          injection he with he
          subst he
          exact ⟨_, ha, fun j v hj => by rw [addr_add]; exact hr j v hj⟩)
        go_upto_region 14 with (refine wpList_copy_splice rfl _ _ 22 22 rfl 5 Tryz.underlying22 (by kernel_rfl) (some ⟨w2.heap.size, n, none⟩) a m m m cap rfl rfl w2.heap.size n ((c.pre ++ List.replicate m 0).map B) 5 HC.out.2.1 (c.val.map B) (by rw [List.length_map, ← HM.out]; exact (Nat.min_self m).symm) (fun _ => ⟨rfl, HC.out.2.2⟩) (by rw [List.length_map, List.length_map, List.length_append, ← HM.out, ← HN.out, List.length_replicate]; exact Nat.le_refl _) (by intro v hv; obtain ⟨x, -, rfl⟩ := List.mem_map.1 hv; rfl) w2.heap.size w3 HC.out.1 (Nat.le_refl _) ?_; intro w4 hg4 hb4)
        have HF4 : Hid (Fill w w3 w4 c w.heap.size gv0 pb (w1.heap.size + 2) w2.heap.size (c.pre ++ c.val)) := Lib.hid (HF2.out.write hb4 (by
          rw [hg4.out, splice_over]
          have h1 := over_zeros c.pre c.val 0
          rw [← HN.out, ← HM.out] at h1
          rw [show List.replicate m (0 : UInt8) = List.replicate (m + 0) 0 from rfl, h1]; simp))
        have HBy : Hid (By w4 (c.pre ++ c.val) (.slice (some ⟨w2.heap.size, 0, none⟩) (n + m) (n + m))) := Lib.hid (by
          have hb := HF4.out.2.2.2.2.2.2.2.2
          have hr : Row w4 w2.heap.size 0 ((c.pre ++ c.val).map B) := fun j v hj => by
            rw [Nat.zero_add, cell_of_row _ _ _ _ _ _ hb]
            simpa using hj
          have hl : (c.pre ++ c.val).length = n + m := by rw [List.length_append, ← HN.out, ← HM.out]
          have := By.of_row hr (Nat.le_refl _)
          rwa [hl] at this)
        clear hg4 hb4 HC HF2
        have hcmp : ∀ w5, New w4 w5 #[.string c.str, .pointer (some ⟨pb, 0, none⟩), .int .i64 (n : Int)] 61 → CmpAt w5 c w4.heap.size 0 ∧ Ext w w5 := by
          intro w5 h5
          refine ⟨⟨pb, w1.heap.size + 2, fun j v hj => ?_, h5.ext.prAt HF4.out.prAt⟩, HF4.out.ext.trans h5.ext⟩
          rw [Nat.zero_add, cell_of_row _ _ _ _ _ _ h5.blk]
          unfold Cmp.cells at hj
          rw [← HN.out] at hj
          simpa using hj
        have HCm := Lib.hid hcmp
        have HVd := Lib.hid (fun w5 (h : CmpAt w5 c w4.heap.size 0) (he : Ext w w5) => validate_ok c HG.out w4.heap.size 0 w5 h (he.tab ht))
        clear hcmp
        go_wp2_with (first
          | (refine wpList_str rfl _ rfl (c.pre ++ c.val) HBy.out ?_)
          | (refine wpList_new (w := w4) rfl #[.string c.str, .pointer (some ⟨pb, 0, none⟩), .int .i64 (n : Int)] _ (boxC c.str pb n _ _ _ _ rfl rfl) ?_; intro w5 h5; have hcm := HCm.out w5 h5)
          | (go_at_call 81; refine (HVd.out w5 hcm.1 hcm.2).mono ?_; rintro e w6 ⟨rfl, he6⟩))
        go_ret2
        exact ⟨_, rfl, he6.cmpAt hcm.1, hcm.2.trans he6⟩
end Go.Proofs.YtdlmmaolacjnaaaGreatDoor
