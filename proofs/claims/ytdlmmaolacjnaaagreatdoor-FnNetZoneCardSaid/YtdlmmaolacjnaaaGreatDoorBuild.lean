/-
  The contracts of ZZUvarint, ZZComponent and the thin package's component.
-/
import Derived.Test.YtdlmmaolacjnaaaGreatDoorLists
import Derived.Deep.RegionHeld3
namespace Go.Proofs.YtdlmmaolacjnaaaGreatDoor
set_option linter.unusedVariables false
set_option linter.unusedSimpArgs false
open Go.RowKit Go.Sort

theorem bs_row {w : World} {l : List UInt8} {g n c : Nat} (h : Bs w l (.slice (some ⟨g, 0, none⟩) n c)) (hne : l ≠ []) : Row w g 0 (l.map B) := by
  obtain ⟨a, cc, h1, -, -, h4⟩ := h
  obtain ⟨g', o, hg, hr⟩ := h4 (by simpa using hne)
  injection h1 with h1
  rw [← h1] at hg
  injection hg with hg
  injection hg with hg1 hg2
  subst hg1; subst hg2
  exact hr
theorem uv_ne (x : Nat) : Lib.uvarint x ≠ [] := by
  have := Lib.uvarint_pos x
  intro h; rw [h] at this; simp at this

theorem zzUvarint_ok (x : Nat) (hx : x < 18446744073709551616) (w : World) :
    Calls Tryz.prog 71 #[.int .u64 x] w fun e w' => e = .returned (vc w.heap.size x) ∧ Row w' w.heap.size 0 ((Lib.uvarint x).map B) ∧ Ext w w' := by
  go_enter Tryz.func71, Tryz.ntmps71
  go_wp2_with (go_at_call 85; refine (toUvarint_ok x hx _).mono ?_; rintro e w1 ⟨rfl, hb, he⟩)
  go_ret
  exact ⟨rfl, bs_row hb (uv_ne x), he⟩

set_option maxRecDepth 100000 in
theorem zzComponent_ok (p : Pr) (hc : Coded p) (h1 : p.tc.oneCell' = true) (h0 : p.code ≠ 0) (s : ByteArray) (n : Nat) (w : World) :
    Calls Tryz.prog 70 #[.int .i64 (p.code : Int), .string s, .int .i64 (n : Int)] w fun e w' =>
      ∃ pb gv, e = .returned (.agg #[.string s, .pointer (some ⟨pb, 0, none⟩), .int .i64 (n : Int)]) ∧ w.heap.size < pb ∧ w.heap.size < gv ∧ PrAt w' p pb gv ∧ Ext w w' := by
  have HP := Lib.hid (ptr_ok p hc h1 h0)
  clear hc h1 h0
  go_enter Tryz.func70, Tryz.ntmps70
  go_wp2_with (first
    | (refine wpList_new (w := w) rfl _ _ (allocC _ _ _ rfl) ?_; intro w1 hn1)
    | (go_at_call 78; refine (HP.out w1).mono ?_; rintro e w2 ⟨pb, rfl, hpb, hlt, hbs, he2⟩)
    | (refine wpList_put rfl 61 _ _ rfl w.heap.size #[.string s, .pointer (some ⟨pb, 0, none⟩), .int .i64 (n : Int)] rfl rfl 61 _ (he2.block hn1.blk) ?c2 ?c3 ?c4 ?_; (case c2 => kernel_rfl); (case c3 => rfl); (case c4 => simp [Value.oneCell']); intro w3 hp3))
  have hs := hn1.size
  refine bodyPost_ret (results_cell_row Tryz.results70 _ _ w.heap.size 61 _ (0, 0) _ rfl hp3.blk Tryz.underlying61 rfl (by kernel_rfl)) rfl ⟨pb, w1.heap.size + 2, rfl, by omega, by omega, ⟨?_, fun j v hj => ?_⟩, hp3.below (Nat.le_refl _) (hn1.ext.trans he2)⟩
  · rw [hp3.other _ (by omega)]; exact hpb
  · rw [World.cell?_of_block (w := w2) (a := ⟨w1.heap.size + 2, 0 + j, none⟩) (hp3.other _ (by show w1.heap.size + 2 ≠ w.heap.size; omega))]
    exact bs_row hbs (uv_ne _) j v hj

section
variable {P : Program}
/-- the store of a whole variable as one step of a region that draws its order -/
theorem step_put {ops : Array Oper} {o : Oper} {a : Act} {w : World} {K : Act → World → Prop} {Q : Exit → Act → World → Prop} {E : Prop} (hgd : o.guard = none) (ty : TypeId) (x y : Operand) (ho : o.op = .store ty x y)
    (g : Nat) (cells : Array Value) (hx : a.eval x = .pointer (some ⟨g, 0, none⟩)) (hy : a.eval y = .agg cells)
    (t : TypeId) (old : Array Value) (hg : w.heap[g]? = some (.cells old t (0, 0))) (hi : (P.info? ty).map (·.size) = some cells.size)
    (hold : old.size = cells.size) (h1 : cells.all (·.oneCell') = true)
    (h : ∀ w2, Put w w2 g cells t → K (a.put o.dst undef) w2) : if Region.wanted o (yielded ops a.tmps) = true then Oper.wp P o a w K Q else E := by
  have hw : Region.wanted o (yielded ops a.tmps) = true := by simp [Region.wanted, hgd]
  rw [if_pos hw]
  exact wp_store_row ty x y ho g cells hx hy t old hg hi hold h1 (h _ (Put.of_setRow hg))
/-- the append of one step of a region that draws its order -/
theorem step_append_where {w : World} {ops : Array Oper} {o : Oper} {a : Act} {K : Act → World → Prop} {Q : Exit → Act → World → Prop} {E : Prop} (hgd : o.guard = none) (s x : Operand) (t : TypeId)
    (ho : o.op = .call { callee := .builtin .append, args := #[s, x], argTypes := #[t, t] })
    (base : Nat) (e : TypeId) (i : TypeInfo) (z : Value) (size bytes : Nat) (ht : P.underlying t = some (.slice e)) (hi : P.info? e = some i) (hz : i.zero = some z)
    (hsize : i.size = size) (hby : i.bytes = bytes) (hzs : z.cells.size = size) (hsz : 0 < size) (v : Value) (n : Nat) (xs : List Value) (hs : a.eval s = v) (hown : w.ownsRow base e size v n xs)
    (ad : Addr) (m c : Nat) (news : List Value) (hx : a.eval x = .slice (some ad) m c) (hl : news.length = m * size) (hm : 0 < m) (hnews : ∀ j u, news[j]? = some u → w.cell? (ad.add j) = some u) (h1 : ∀ u ∈ news, u.oneCell' = true)
    (h63 : n + m ≤ maxLen) (hbytes : (n + m) * bytes ≤ 140737488355328) (hbase : base ≤ w.heap.size)
    (h : ∀ v' w', w'.ownsRow base e size v' (n + m) (xs ++ news) → w.grownBy w' v.ownBlock → (∀ k, v'.ownBlock = some k → v.ownBlock = some k ∨ k = w.heap.size) → K (a.put o.dst v') w') :
    if Region.wanted o (yielded ops a.tmps) = true then Oper.wp P o a w K Q else E := by
  have hw : Region.wanted o (yielded ops a.tmps) = true := by simp [Region.wanted, hgd]
  rw [if_pos hw]
  obtain ⟨v', w', hr, h2, h3, h4⟩ := run_append_where (P := P) w base t o.type e i z size bytes ht hi hz hsize hby hzs hsz v n xs hown ad m c news hl hm hnews h1 h63 hbytes hbase
  unfold Oper.wp execOp
  simp only [ho, resolve, invoke, builtin, Sem.run_bind, Sem.run_pure, Result.andThen_ok, List.map_toArray, List.map_cons, List.map_nil, hs, hx, hr]
  exact h v' w' h2 h3 h4
end

/-- Bytes that the call collects: a row of its own. -/
def Bld (wB wx : World) (u : Value) (l : List UInt8) : Prop := wx.ownsRow wB.heap.size 5 1 u l.length (l.map B) ∧ Ext wB wx
theorem Bld.by {wB wx : World} {u : Value} {l : List UInt8} (h : Bld wB wx u l) : By wx l u := by
  rcases id h.1.2 with ⟨rfl, h1⟩ | ⟨g, cap, cur, rfl, hb, hg, hn, hm, hs, ht⟩
  · have : l = [] := by simpa using h1
    subst this
    exact ⟨none, 0, rfl, Nat.le_refl _, fun hne => absurd rfl hne⟩
  · exact By.of_row (row_of_own h.1) hn
theorem Bld.next {wB wx wa wb : World} {u u' : Value} {l m : List UInt8} (h : Bld wB wx u l) (he : Ext wx wa) (ho : wb.ownsRow wB.heap.size 5 1 u' (l.length + m.length) (l.map B ++ m.map B)) (hg : wa.grownBy wb u.ownBlock) : Bld wB wb u' (l ++ m) := by
  have hE := h.2.trans he
  refine ⟨by rw [List.length_append, List.map_append]; exact ho, below_grown hE hE.size hg (fun k hk => (h.1.lt k hk).1)⟩
theorem Bld.len {wB wx : World} {u : Value} {l : List UInt8} (h : Bld wB wx u l) : ∃ a c, u = .slice a l.length c := by
  obtain ⟨a, c, h1, -⟩ := h.by
  exact ⟨a, c, h1⟩

theorem boxI (k : Int) (bv : Value) (ρ : Operand → Value) (w : World) (o : Oper) (x : Operand) (h : o.op = .box 30 x) (hx : ρ x = .agg #[.int .i64 k, bv]) :
    (execOp ρ o).run Tryz.prog w = .ok (.value (.pointer (some ⟨w.heap.size, 0, none⟩))) (w.alloc (.cells #[.int .i64 k, bv] 30 (0, 0))) := by
  unfold execOp
  simp only [h, hx]
  simp [go_sem]

set_option maxHeartbeats 4000000 in
set_option maxRecDepth 100000 in
theorem component_ok (c : Cmp) (hc : Coded c.p) (h1 : c.p.tc.oneCell' = true) (h0 : c.p.code ≠ 0) (hcode : c.p.code < 2147483648) (hlen : c.val.length ≤ 1000000) (hne : c.val ≠ []) (bv : Value) (w : World) (hv : By w c.val bv) :
    Calls Tryz.prog 36 #[.agg #[.int .i64 (c.p.code : Int), bv]] w fun e w' =>
      ∃ pb gv, e = .returned (.agg #[.string c.str, .pointer (some ⟨pb, 0, none⟩), .int .i64 (c.pre.length : Int)]) ∧ w.heap.size ≤ pb ∧ w.heap.size ≤ gv ∧ PrAt w' c.p pb gv ∧ Ext w w' := by
  obtain ⟨m, hm⟩ : ∃ m, m = c.val.length := ⟨_, rfl⟩
  obtain ⟨L, hL⟩ : ∃ L, L = (Lib.uvarint c.p.code).length := ⟨_, rfl⟩
  obtain ⟨n, hn⟩ : ∃ n, n = c.pre.length := ⟨_, rfl⟩
  obtain ⟨sz, hsz⟩ : ∃ sz, sz = c.p.size := ⟨_, rfl⟩
  have hL1 : 1 ≤ L := by rw [hL]; exact Lib.uvarint_pos _
  have hL9 : L ≤ 10 := by rw [hL]; exact Lib.uvarint_length64 (by omega)
  have hm0 : 0 < m := by rw [hm]; exact List.length_pos_iff.2 hne
  have hn20 : n ≤ 20 := by
    have h2 : (Lib.uvarint c.val.length).length ≤ 10 := Lib.uvarint_length64 (by omega)
    rw [hn]; unfold Cmp.pre; rw [List.length_append]; split <;> simp <;> omega
  obtain ⟨a, cap, hbe, hcap, hrow⟩ := id hv
  obtain ⟨gb, ob, ha, hrow2⟩ := hrow hne
  subst ha
  rw [← hm] at hbe hcap
  subst hbe
  obtain ⟨i0, hi, hz0, hz1, hz2⟩ := info_parts Tryz.info5
  have hc0 : ((c.p.code : Int) == 0) = false := szB (k := 0) h0
  have HWC := Lib.hid (withCode_ok c.p hc h1)
  have HZC := Lib.hid (zzComponent_ok c.p hc h1 h0)
  have HB := Lib.hid (And.intro hv hrow2)
  have HL := Lib.hid hL
  have HM := Lib.hid hm
  have HN := Lib.hid hn
  have HS := Lib.hid hsz
  have H1 := Lib.hid h1
  rw [← hm] at hlen
  clear hc h1 h0 hv hrow hrow2 hL hm hn hsz hne
  go_enter Tryz.func36, Tryz.ntmps36
  go_upto_region 4 with (first
    | (refine wpList_new (w := w) rfl _ _ (boxI _ _ _ _ _ _ rfl rfl) ?_; intro w1 hn1; have k1 := cell_of_row w1 w.heap.size 0 _ _ _ hn1.blk; have k2 := cell_of_row w1 w.heap.size 1 _ _ _ hn1.blk)
    | (refine wpList_new (w := w1) rfl _ _ (allocC _ _ _ rfl) ?_; intro w2 hn2; have k3 : w2.cell? ⟨w.heap.size, 0, none⟩ = some (.int .i64 (c.p.code : Int)) := hn2.ext.cell k1)
    | (go_at_call 69; refine (HWC.out w2).mono ?_; rintro e w3 ⟨rfl, hb3, he3⟩)
    | (refine wpList_new (w := w3) rfl _ _ (allocP _ _ _ rfl) ?_; intro w4 hn4)
    | (refine wpList_put (w := w4) rfl 66 _ _ rfl w3.heap.size (c.p.cells (vc (w2.heap.size + 3) c.p.code)) rfl rfl 66 _ hn4.blk ?c2 ?c3 ?c4 ?_; (case c2 => kernel_rfl); (case c3 => rfl); (case c4 => exact Pr.one _ H1.out _ _); intro w5 hp5; have k5 : w5.cell? ⟨w3.heap.size, 1, none⟩ = some (.int .i64 (c.p.code : Int)) := hp5.cells 1))
  have hF : Ext w w5 ∧ w5.cell? ⟨w.heap.size, 0, none⟩ = some (.int .i64 (c.p.code : Int)) ∧ w5.cell? ⟨w.heap.size, 1, none⟩ = some (.slice (some ⟨gb, ob, none⟩) m cap) ∧
      w5.cell? ⟨w3.heap.size, 2, none⟩ = some (.slice (some ⟨w2.heap.size + 3, 0, none⟩) L L) ∧ w5.cell? ⟨w3.heap.size, 3, none⟩ = some (.int .i64 sz) ∧ Row w5 (w2.heap.size + 3) 0 ((Lib.uvarint c.p.code).map B) ∧
      w5.heap[w1.heap.size]? = some (.cells #[.string ⟨#[]⟩, .pointer none, .int .i64 0] 61 (0, 0)) := by
    have z1 := hn1.size
    have z2 := hn2.size
    have z3 := he3.size
    have z4 := hn4.size
    have e12 := hn1.ext.trans hn2.ext
    have e4 := e12.trans (he3.trans hn4.ext)
    have hbw : ∀ k, k < w3.heap.size → w5.heap[k]? = w4.heap[k]? := fun k hk => hp5.other k (by omega)
    have e35 : Ext w3 w5 := hp5.below (Nat.le_refl _) hn4.ext
    have hr3 := bs_row hb3 (uv_ne _)
    refine ⟨(e12.trans he3).trans e35, e35.cell (he3.cell (hn2.ext.cell k1)), e35.cell (he3.cell (hn2.ext.cell k2)), ?_, ?_, Ext.row e35 hr3, ?_⟩
    · rw [HL.out]; exact hp5.cells 2
    · rw [HS.out]; exact hp5.cells 3
    · exact Ext.block e35 (he3.block hn2.blk)
  have HP2 : Hid (w.heap.size < w1.heap.size) := Lib.hid (by have := hn1.size; omega)
  clear k1 k2 k3 k5 hn1 hn2 hb3 he3 hn4 hp5
  generalize w1.heap.size = p2 at hF HP2
  generalize w2.heap.size + 3 = gv0 at hF
  generalize w3.heap.size = p3 at hF
  obtain ⟨he5, k0, k1, k2, k3, hgv, hp2⟩ := hF
  have HF := Lib.hid (And.intro hgv hp2)
  clear hgv hp2
  have hmade : (w5.alloc (.cells #[] 5)).ownsRow w5.heap.size 5 1 (.slice (some ⟨w5.heap.size, 0, none⟩) 0 0) 0 [] := World.ownsRow_made w5 #[] 0 (Nat.le_refl _) (by unfold maxLen; omega) rfl
  go_cut [4] (fun s4 wx => Bld w5 wx s4 (Lib.uvarint c.p.code))
  case first =>
    as_aux_lemma =>
      have k2a : (w5.alloc (.cells #[] 5)).cell? ⟨p3, 2, none⟩ = some (.slice (some ⟨gv0, 0, none⟩) L L) := (Ext.alloc (Ext.refl w5) _).cell k2
      go_wp2_with (at_builtin; refine wpList_append_where rfl _ _ 22 rfl w5.heap.size 5 i0 _ 1 1 Tryz.underlying22 hi hz0 hz1 hz2 rfl (by decide) _ 0 [] rfl hmade ⟨gv0, 0, none⟩ L L ((Lib.uvarint c.p.code).map B) rfl ?c5 (by omega) ?c6 ?c7 ?c8 ?c9 ?c10 ?_; (case c5 => rw [List.length_map, ← HL.out, Nat.mul_one]); (case c6 => intro j u hj; rw [addr_add]; exact (Ext.alloc (Ext.refl w5) _).row HF.out.1 j u hj); (case c7 => intro v hv; obtain ⟨x, -, rfl⟩ := List.mem_map.1 hv; rfl); (case c8 => unfold maxLen; omega); (case c9 => omega); (case c10 => simp); intro u' w6 hown6 hgr6 hwh6)
      have hb6 : Bld w5 w6 u' (Lib.uvarint c.p.code) := by
        have h := Bld.next (wB := w5) (wx := w5.alloc (.cells #[] 5)) (wa := w5.alloc (.cells #[] 5)) (l := []) (m := Lib.uvarint c.p.code) ⟨hmade, Ext.alloc (Ext.refl w5) _⟩ (Ext.refl _) (by rw [← HL.out]; exact hown6) hgr6
        exact h
      clear hown6 hgr6 hwh6
      go_wp2
      go_meet
      exact hb6
  case rest =>
    have hb6 := hcut
    clear hcut hmade
    have HB6 := Lib.hid hb6
    have k3' : wc.cell? ⟨p3, 3, none⟩ = some (.int .i64 sz) := hb6.2.cell k3
    have k1' : wc.cell? ⟨w.heap.size, 1, none⟩ = some (.slice (some ⟨gb, ob, none⟩) m cap) := hb6.2.cell k1
    clear hb6
    go_upto_if 24 with (fail)
    go_cut [4] (fun s4 wx => Bld w5 wx s4 c.pre)
    case first =>
      as_aux_lemma =>
        by_cases hs : sz < 0
        · have hx : m < 18446744073709551616 := by omega
          obtain ⟨U, hU⟩ : ∃ U, U = (Lib.uvarint m).length := ⟨_, rfl⟩
          have hU1 : 1 ≤ U ∧ U ≤ 10 := by rw [hU]; exact ⟨Lib.uvarint_pos _, Lib.uvarint_length64 (by omega)⟩
          have hpre : Hid (c.pre = Lib.uvarint c.p.code ++ Lib.uvarint m) := Lib.hid (by
            unfold Cmp.pre; rw [if_pos (by rw [← HS.out]; exact hs), ← HM.out])
          have HZ := Lib.hid (fun w => zzUvarint_ok m hx w)
          have HU := Lib.hid hU
          have hown : wc.ownsRow w5.heap.size 5 1 u4 L ((Lib.uvarint c.p.code).map B) := by rw [HL.out]; exact HB6.out.1
          clear hU hx
          go_wp2_with (first
            | (go_at_call 71; refine (HZ.out wc).mono ?_; rintro e w6 ⟨rfl, hr6, he6⟩; rw [show vc wc.heap.size m = .slice (some ⟨wc.heap.size, 0, none⟩) U U by rw [HU.out]])
            | (at_builtin; refine wpList_append_where rfl _ _ 22 rfl w5.heap.size 5 i0 _ 1 1 Tryz.underlying22 hi hz0 hz1 hz2 rfl (by decide) _ L ((Lib.uvarint c.p.code).map B) rfl (Ext.own he6 hown) ⟨wc.heap.size, 0, none⟩ U U ((Lib.uvarint m).map B) rfl ?c5 (by omega) ?c6 ?c7 ?c8 ?c9 ?c10 ?_; (case c5 => rw [List.length_map, ← HU.out, Nat.mul_one]); (case c6 => intro j u hj; rw [addr_add]; exact hr6 j u hj); (case c7 => intro v hv; obtain ⟨x, -, rfl⟩ := List.mem_map.1 hv; rfl); (case c8 => unfold maxLen; omega); (case c9 => omega); (case c10 => exact (HB6.out.2.trans he6).size); intro u' w7 hown7 hgr7 hwh7))
          have hb7 : Bld w5 w7 u' c.pre := by
            rw [hpre.out]
            exact Bld.next HB6.out he6 (by rw [← HL.out, ← HU.out]; exact hown7) hgr7
          clear hown7 hgr7 hwh7
          go_wp2
          go_meet
          exact hb7
        · have hpre : Hid (c.pre = Lib.uvarint c.p.code) := Lib.hid (by
            unfold Cmp.pre; rw [if_neg (by rw [← HS.out]; exact hs)]; simp)
          go_wp2
          go_meet
          rw [hpre.out]
          exact HB6.out
    case rest =>
      have hb7 := hcut
      clear hcut k3' k1' HB6
      obtain ⟨a7, c7, hu7⟩ := hb7.len
      rw [← HN.out] at hu7
      subst hu7
      have k0' : wc.cell? ⟨w.heap.size, 0, none⟩ = some (.int .i64 (c.p.code : Int)) := hb7.2.cell k0
      have k1' : wc.cell? ⟨w.heap.size, 1, none⟩ = some (.slice (some ⟨gb, ob, none⟩) m cap) := hb7.2.cell k1
      have HB7 := Lib.hid hb7
      clear hb7
      go_upto_region 8 with (fail)
      have hA : Hid (wc.drew.ownsRow w5.heap.size 5 1 (.slice a7 n c7) n (c.pre.map B) ∧ (∀ j u, (c.val.map B)[j]? = some u → wc.drew.cell? ((⟨gb, ob, none⟩ : Addr).add j) = some u) ∧ (c.val.map B).length = m * 1 ∧ w5.heap.size ≤ wc.drew.heap.size) := Lib.hid (by
        have h7 := HB7.out
        refine ⟨Ext.own (Ext.drew (Ext.refl wc)) (by have h := h7.1; rw [← HN.out] at h; exact h), fun j u hj => ?_, by rw [List.length_map, ← HM.out, Nat.mul_one], h7.2.size⟩
        rw [addr_add]
        exact ((he5.trans h7.2).trans (Ext.drew (Ext.refl wc))).row HB.out.2 j u hj)
      refine wp_region_noPanic ?_
      refine wp_region_held_drew (S := fun w' => w'.cell? ⟨w.heap.size, 0, none⟩ = some (.int .i64 (c.p.code : Int)) ∧ w'.cell? ⟨w.heap.size, 1, none⟩ = some (.slice (some ⟨gb, ob, none⟩) m cap)) (by kernel_rfl) ?_ (fun hHeld => ?_)
      · exact ⟨(Ext.drew (Ext.refl wc)).cell k0', (Ext.drew (Ext.refl wc)).cell k1'⟩
      refine wpAnyH_take (i := 0) (v := ?_) (by simp only [List.getElem?_toArray, List.getElem?_cons_zero]; rfl) (by kernel_rfl) (by kernel_rfl) (by kernel_rfl) (fun _ _ _ h => h) (Or.inl ⟨by rfl, ?_⟩) hHeld ?_
      rotate_left
      · ((intro wS hSw; (try dsimp only at hSw); go_simp) <;> (try with_reducible rfl))
      (try simp only [Act.put, List.setIfInBounds_toArray, List.set_cons_zero, List.set_cons_succ])
      refine wpAnyH_take (i := 1) (v := ?_) (by simp only [List.getElem?_toArray, List.getElem?_cons_zero, List.getElem?_cons_succ]; rfl) (by kernel_rfl) (by kernel_rfl) (by kernel_rfl) (fun _ _ _ h => h) (Or.inl ⟨by rfl, ?_⟩) hHeld ?_
      rotate_left
      · ((intro wS hSw; (try dsimp only at hSw); go_simp) <;> (try with_reducible rfl))
      (try simp only [Act.put, List.setIfInBounds_toArray, List.set_cons_zero, List.set_cons_succ])
      refine wpAnyH_take (i := 2) (v := ?_) (by simp only [List.getElem?_toArray, List.getElem?_cons_zero, List.getElem?_cons_succ]; rfl) (by kernel_rfl) (by kernel_rfl) (by kernel_rfl) (fun _ _ _ h => h) (Or.inl ⟨by rfl, ?_⟩) hHeld ?_
      rotate_left
      · ((intro wS hSw; (try dsimp only at hSw); go_simp) <;> (try with_reducible rfl))
      (try simp only [Act.put, List.setIfInBounds_toArray, List.set_cons_zero, List.set_cons_succ])
      refine wpAnyH_take (i := 3) (v := ?_) (by simp only [List.getElem?_toArray, List.getElem?_cons_zero, List.getElem?_cons_succ]; rfl) (by kernel_rfl) (by kernel_rfl) (by kernel_rfl) (fun _ _ _ h => h) (Or.inl ⟨by rfl, ?_⟩) hHeld ?_
      rotate_left
      · ((intro wS hSw; (try dsimp only at hSw); go_simp) <;> (try with_reducible rfl))
      (try simp only [Act.put, List.setIfInBounds_toArray, List.set_cons_zero, List.set_cons_succ])
      refine wpAnyH_take (i := 4) (v := ?_) (by simp only [List.getElem?_toArray, List.getElem?_cons_zero, List.getElem?_cons_succ]; rfl) (by kernel_rfl) (by kernel_rfl) (by kernel_rfl) (fun _ _ _ h => h) (Or.inl ⟨by rfl, ?_⟩) hHeld ?_
      rotate_left
      · ((intro wS hSw; (try dsimp only at hSw); go_simp) <;> (try with_reducible rfl))
      (try simp only [Act.put, List.setIfInBounds_toArray, List.set_cons_zero, List.set_cons_succ])
      refine wpAnyH_take (i := 7) (v := ?_) (by simp only [List.getElem?_toArray, List.getElem?_cons_zero, List.getElem?_cons_succ]; rfl) (by kernel_rfl) (by kernel_rfl) (by kernel_rfl) (fun _ _ _ h => h) (Or.inl ⟨by rfl, ?_⟩) hHeld ?_
      rotate_left
      · ((intro wS hSw; (try dsimp only at hSw); go_simp) <;> (try with_reducible rfl))
      (try simp only [Act.put, List.setIfInBounds_toArray, List.set_cons_zero, List.set_cons_succ])
      refine wpAnyH_ready (rs := [5]) (by kernel_rfl) (by simp) ?_
      refine AllReadyH.cons (by simp only [List.getElem?_toArray, List.getElem?_cons_zero, List.getElem?_cons_succ]; rfl) (fun K hK => ?_) AllReadyH.nil
      refine step_append_where rfl (.tmp 36) (.tmp 38) 22 rfl w5.heap.size 5 i0 _ 1 1 Tryz.underlying22 hi hz0 hz1 hz2 rfl (by decide) (.slice a7 n c7) n (c.pre.map B) rfl hA.out.1 ⟨gb, ob, none⟩ m cap (c.val.map B) rfl hA.out.2.2.1 hm0 hA.out.2.1 (by intro v hv; obtain ⟨x, -, rfl⟩ := List.mem_map.1 hv; rfl) (by unfold maxLen; omega) (by omega) hA.out.2.2.2 ?_
      intro u' w6 hown6 hgr6 hwh6
      have hb8 : Bld w5 w6 u' (c.pre ++ c.val) := Bld.next (wx := wc) (wa := wc.drew) HB7.out (Ext.drew (Ext.refl wc)) (by rw [← HN.out, ← HM.out]; exact hown6) hgr6
      have hcs := conv_str hb8.by
      clear hown6 hgr6 hwh6
      refine hK.out _ _ ?_ (fun hHeld2 => ?_)
      · exact ⟨hb8.2.cell k0, hb8.2.cell k1⟩
      clear hK K hHeld
      have hHeld := hHeld2
      clear hHeld2
      (try simp only [Act.put, List.setIfInBounds_toArray, List.set_cons_zero, List.set_cons_succ])
      refine wpAnyH_ready (rs := [6]) (by kernel_rfl) (by simp) ?_
      refine AllReadyH.cons (by simp only [List.getElem?_toArray, List.getElem?_cons_zero, List.getElem?_cons_succ]; rfl) (fun K hK => ?_) AllReadyH.nil
      go_simp
      refine hK.out _ _ ?_ (fun hHeld2 => ?_)
      · exact hHeld
      clear hK K hHeld
      have hHeld := hHeld2
      clear hHeld2
      (try simp only [Act.put, List.setIfInBounds_toArray, List.set_cons_zero, List.set_cons_succ])
      refine wpAnyH_ready (rs := [8]) (by kernel_rfl) (by simp) ?_
      refine AllReadyH.cons (by simp only [List.getElem?_toArray, List.getElem?_cons_zero, List.getElem?_cons_succ]; rfl) (fun K hK => ?_) AllReadyH.nil
      go_simp
      (try go_upon)
      go_at_call 70
      ((with_reducible refine (HZC.out ⟨(c.pre ++ c.val).toArray⟩ n w6).mono ?_); rintro e w7 ⟨pb, gv, rfl, hpb, hgv, hpr, he7⟩)
      refine hK.out _ _ ?_ (fun hHeld2 => ?_)
      · exact ⟨he7.cell hHeld.1, he7.cell hHeld.2⟩
      clear hK K hHeld
      have hHeld := hHeld2
      clear hHeld2
      (try simp only [Act.put, List.setIfInBounds_toArray, List.set_cons_zero, List.set_cons_succ])
      refine wpAnyH_ready (rs := [9]) (by kernel_rfl) (by simp) ?_
      refine AllReadyH.cons (by simp only [List.getElem?_toArray, List.getElem?_cons_zero, List.getElem?_cons_succ]; rfl) (fun K hK => ?_) AllReadyH.nil
      refine step_put rfl 61 (.tmp 2) (.tmp 42) rfl p2 #[.string ⟨(c.pre ++ c.val).toArray⟩, .pointer (some ⟨pb, 0, none⟩), .int .i64 (n : Int)] rfl rfl 61 _ (he7.block (hb8.2.block HF.out.2)) (by kernel_rfl) rfl (by simp [Value.oneCell']) ?_
      intro w8 hp8
      refine hK.out _ _ ?_ (fun hHeld2 => ?_)
      · (rw [World.cell?_of_block (w := w7) (a := ⟨w.heap.size, 0, none⟩) (hp8.other _ (by have := HP2.out; show w.heap.size ≠ p2; omega)), World.cell?_of_block (w := w7) (a := ⟨w.heap.size, 1, none⟩) (hp8.other _ (by have := HP2.out; show w.heap.size ≠ p2; omega))]; exact hHeld)
      clear hK K hHeld
      have hHeld := hHeld2
      clear hHeld2
      (try simp only [Act.put, List.setIfInBounds_toArray, List.set_cons_zero, List.set_cons_succ])
      refine wpAnyH_done (by kernel_rfl) ?_ _
      refine NoPanic.normal ?_
      have hsz := HB7.out.2.size
      have hp5 : p2 < w5.heap.size := (Array.getElem?_eq_some_iff.1 HF.out.2).1
      have h56 := hb8.2.size
      have he0 := he5.size
      clear hHeld
      go_wp2
      refine bodyPost_ret (results_cell_row Tryz.results36 _ _ p2 61 _ (0, 0) _ rfl hp8.blk Tryz.underlying61 rfl (by kernel_rfl)) rfl ⟨pb, gv, by rw [← HN.out]; rfl, by omega, by omega, ⟨?_, fun j v hj => ?_⟩, hp8.below (by have := HP2.out; omega) ((he5.trans hb8.2).trans he7)⟩
      · rw [hp8.other _ (by omega)]; exact hpr.1
      · rw [World.cell?_of_block (w := w7) (a := ⟨gv, 0 + j, none⟩) (hp8.other _ (by show gv ≠ p2; omega))]
        exact hpr.2 j v hj
end Go.Proofs.YtdlmmaolacjnaaaGreatDoor
