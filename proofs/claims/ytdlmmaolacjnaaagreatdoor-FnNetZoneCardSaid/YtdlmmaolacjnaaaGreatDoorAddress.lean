/-
  The contract of the thin package's address.
-/
import Derived.Test.YtdlmmaolacjnaaaGreatDoorBuild
namespace Go.Proofs.YtdlmmaolacjnaaaGreatDoor
set_option linter.unusedVariables false
set_option linter.unusedSimpArgs false
open Go.RowKit Go.Sort

/-- What address asks of each component. -/
def Fit (c : Cmp) : Prop := Coded c.p ∧ c.p.tc.oneCell' = true ∧ c.p.code ≠ 0 ∧ c.p.code < 2147483648 ∧ c.val.length ≤ 1000000 ∧ c.val ≠ []
def flatA (es : List (Cmp × Nat × Nat)) : List Value := es.flatMap fun e => e.1.cells e.2.1
theorem flatA_snoc (es : List (Cmp × Nat × Nat)) (c : Cmp) (b gv : Nat) : flatA (es ++ [(c, b, gv)]) = flatA es ++ c.cells b := by simp [flatA]
theorem flatA_at : ∀ (es : List (Cmp × Nat × Nat)) (i : Nat) (e : Cmp × Nat × Nat), es[i]? = some e → ∀ j v, (e.1.cells e.2.1)[j]? = some v → (flatA es)[3 * i + j]? = some v
  | [], i, e, h => by simp at h
  | x :: r, 0, e, h => by
    have : x = e := by simpa using h
    subst this
    intro j v hj
    have hl : j < (x.1.cells x.2.1).length := (List.getElem?_eq_some_iff.1 hj).1
    show (x.1.cells x.2.1 ++ flatA r)[3 * 0 + j]? = some v
    rw [Nat.mul_zero, Nat.zero_add, List.getElem?_append_left hl]
    exact hj
  | x :: r, i + 1, e, h => by
    intro j v hj
    have ih := flatA_at r i e (by simpa using h) j v hj
    show (x.1.cells x.2.1 ++ flatA r)[3 * (i + 1) + j]? = some v
    have h3 : (x.1.cells x.2.1).length = 3 := rfl
    rw [List.getElem?_append_right (by omega), h3, show 3 * (i + 1) + j - 3 = 3 * i + j by omega]
    exact ih
def OutA (w : World) (cs : List Cmp) (k : Nat) (u : Value) (wx : World) (es : List (Cmp × Nat × Nat)) : Prop :=
  es.length = k ∧ wx.ownsRow w.heap.size 61 3 u k (flatA es) ∧ Ext w wx ∧
    ∀ i c, i < k → cs[i]? = some c → ∃ b gv, es[i]? = some (c, b, gv) ∧ PrAt wx c.p b gv ∧ b < wx.heap.size ∧ gv < wx.heap.size ∧ u.ownBlock ≠ some b ∧ u.ownBlock ≠ some gv
theorem prAt_kept {w w' : World} {p : Pr} {b gv : Nat} {row : Option Nat} (h : PrAt w p b gv) (hg : w.grownBy w' row) (hb : b < w.heap.size) (hv : gv < w.heap.size) (h1 : row ≠ some b) (h2 : row ≠ some gv) : PrAt w' p b gv := by
  refine ⟨by rw [hg.block b hb (fun e => h1 e.symm)]; exact h.1, fun j v hj => ?_⟩
  rw [World.cell?_of_block (w := w) (a := ⟨gv, 0 + j, none⟩) (hg.block gv hv (fun e => h2 e.symm))]
  exact h.2 j v hj
theorem outA_next {w wx wa wb wc : World} {cs : List Cmp} {k : Nat} {u u' : Value} {c : Cmp} {b gv : Nat} {o : Obj} {es : List (Cmp × Nat × Nat)} (h : OutA w cs k u wx es) (hc : cs[k]? = some c) (he : Ext wx wa) (hb : wx.heap.size ≤ b) (hv : wx.heap.size ≤ gv) (hp : PrAt wa c.p b gv) (hwb : wb = wa.alloc o)
    (hown : wc.ownsRow w.heap.size 61 3 u' (k + 1) (flatA es ++ c.cells b)) (hgr : wb.grownBy wc u.ownBlock) (hw : ∀ j, u'.ownBlock = some j → u.ownBlock = some j ∨ j = wb.heap.size) : OutA w cs (k + 1) u' wc (es ++ [(c, b, gv)]) := by
  obtain ⟨hl, ho, hE, hA⟩ := h
  have hlt := ho.lt
  have hb2 : b < wa.heap.size := (Array.getElem?_eq_some_iff.1 hp.1).1
  have hv2 : gv < wa.heap.size := hp.2.lt (by simpa using uv_ne c.p.code)
  have heb : Ext wx wb := by rw [hwb]; exact he.alloc _
  have hab : Ext wa wb := by rw [hwb]; exact Ext.alloc (Ext.refl wa) _
  have hsb : wb.heap.size = wa.heap.size + 1 := by rw [hwb]; simp
  have hbl : Below w.heap.size w wb := hE.trans heb
  have hsz := heb.size
  have hgs := hgr.size
  refine ⟨by simp [hl], by rw [flatA_snoc]; exact hown, below_grown hbl hbl.size hgr (fun j hj => (hlt j hj).1), fun i c' hi hc' => ?_⟩
  by_cases hik : i < k
  · obtain ⟨b', gv', h1, h2, h3, h4, h5, h6⟩ := hA i c' hik hc'
    refine ⟨b', gv', by rw [List.getElem?_append_left (by omega)]; exact h1, prAt_kept (heb.prAt h2) hgr (by omega) (by omega) h5 h6, by omega, by omega, fun hu => ?_, fun hu => ?_⟩
    · rcases hw b' hu with h | h
      · exact h5 h
      · omega
    · rcases hw gv' hu with h | h
      · exact h6 h
      · omega
  · obtain rfl : i = k := by omega
    rw [hc] at hc'
    cases hc'
    have n1 : u.ownBlock ≠ some b := fun e => by have := (hlt b e).2; omega
    have n2 : u.ownBlock ≠ some gv := fun e => by have := (hlt gv e).2; omega
    refine ⟨b, gv, by rw [List.getElem?_append_right (by omega), hl]; simp, prAt_kept (hab.prAt hp) hgr (by omega) (by omega) n1 n2, by omega, by omega, fun hu => ?_, fun hu => ?_⟩
    · rcases hw b hu with h | h
      · exact n1 h
      · omega
    · rcases hw gv hu with h | h
      · exact n2 h
      · omega
theorem outA_done {w wx : World} {cs : List Cmp} {u : Value} {es : List (Cmp × Nat × Nat)} (h : OutA w cs cs.length u wx es) (hne : cs ≠ []) : MaAt wx cs u ∧ Ext w wx := by
  obtain ⟨hl, ho, hE, hA⟩ := h
  refine ⟨?_, hE⟩
  have h0 := List.length_pos_iff.2 hne
  rcases id ho.2 with ⟨-, h1⟩ | ⟨g, cap, cur, rfl, hb, hg, hn, hm, hs, ht⟩
  · omega
  · have hrow := row_of_own ho
    refine ⟨g, 0, cap, rfl, hn, fun i hi => ?_⟩
    obtain ⟨b, gv, h1, h2, -⟩ := hA i cs[i] hi (List.getElem?_eq_getElem hi)
    refine ⟨b, gv, fun j v hj => ?_, h2⟩
    have := hrow _ _ (flatA_at es i _ h1 j v hj)
    rwa [Nat.add_assoc]

theorem info_C : (Tryz.prog.info? 61).map (fun i => (i.zero, i.size, i.bytes)) = some (some (.agg #[.string ⟨#[]⟩, .pointer none, .int .i64 0]), 3, 32) := by kernel_rfl
set_option maxHeartbeats 1000000 in
set_option maxRecDepth 100000 in
theorem address_ok (cs : List Cmp) (hne : cs ≠ []) (h100 : cs.length ≤ 100) (hfit : ∀ c ∈ cs, Fit c) (m : Value) (w : World) (h : IcAt w (cs.map fun c => (c.p.code, c.val)) m) : Calls Tryz.prog 16 #[m] w fun e w' =>
    ∃ u, e = .returned u ∧ MaAt w' cs u ∧ Ext w w' := by
  obtain ⟨g, o, cap, rfl, hcap, hcs⟩ := h
  obtain ⟨i0, hi, hz0, hz1, hz2⟩ := info_parts info_C
  rw [List.length_map] at hcap ⊢
  obtain ⟨n, hn⟩ : ∃ n, n = cs.length := ⟨_, rfl⟩
  rw [← hn] at hcap h100 ⊢
  have HN := Lib.hid hn
  have HCS := Lib.hid hcs
  have HNE := Lib.hid (And.intro hne hfit)
  clear hn hcs hne hfit
  go_enter Tryz.func16, Tryz.ntmps16
  go_wp2
  go_loopg [3, 8] (n + 1) (fun gk s3 s8 wx => ∃ k : Nat, s8 = .int .i64 (k : Int) ∧ k ≤ n ∧ gk = n + 1 - k ∧ ∃ es, OutA w cs k s3 wx es)
  case atStart => exact ⟨0, rfl, by omega, rfl, [], rfl, World.ownsRow_nil _ _ _ _, Ext.refl _, fun i c hi => by omega⟩
  case round =>
    obtain ⟨k, rfl, hk, hgk, es, hout⟩ := hrel
    by_cases hlt : k < n
    · have hkI : (k : Int) < (n : Int) := by omega
      have hkc : k < cs.length := by rw [← HN.out]; exact hlt
      obtain ⟨c, hc⟩ : ∃ c, cs[k]? = some c := ⟨_, List.getElem?_eq_getElem hkc⟩
      have hf : Fit c := HNE.out.2 c (List.mem_of_getElem? hc)
      have hrow : ∃ bv, Row wr g (o + k * 2) [.int .i64 (c.p.code : Int), bv] ∧ By wr c.val bv := by
        obtain ⟨bv, h1, h2, h3⟩ := HCS.out k (by rw [List.length_map]; exact hkc)
        have e : cs[k] = c := by rw [List.getElem?_eq_getElem hkc] at hc; exact Option.some.inj hc
        simp only [List.getElem_map, e] at h1 h3
        have hE := hout.2.2.1
        refine ⟨bv, fun j v hj => ?_, Ext.by hE h3⟩
        match j, hj with
        | 0, hj => cases hj; rw [Nat.mul_comm]; exact Ext.cell hE h1
        | 1, hj => cases hj; rw [Nat.mul_comm, Nat.add_assoc]; exact Ext.cell hE h2
      obtain ⟨bv, hrow, hbv⟩ := hrow
      have hb1 : bv.oneCell' = true := by obtain ⟨a, cc, rfl, -⟩ := hbv; rfl
      have hcomp : ∀ w2, Ext wr w2 → Calls Tryz.prog 36 #[.agg #[.int .i64 (c.p.code : Int), bv]] w2 fun e w' =>
          ∃ pb gv, e = .returned (.agg #[.string c.str, .pointer (some ⟨pb, 0, none⟩), .int .i64 (c.pre.length : Int)]) ∧ w2.heap.size ≤ pb ∧ w2.heap.size ≤ gv ∧ PrAt w' c.p pb gv ∧ Ext w2 w' := fun w2 he =>
        component_ok c hf.1 hf.2.1 hf.2.2.1 hf.2.2.2.1 hf.2.2.2.2.1 hf.2.2.2.2.2 bv w2 (he.by hbv)
      have hown := hout.2.1
      have hbase : w.heap.size ≤ wr.heap.size := hout.2.2.1.size
      have HO := Lib.hid hout
      have HC := Lib.hid hc
      have H1 := Lib.hid hcomp
      have HB1 := Lib.hid hb1
      clear hout hc hf hcomp hkc hbv hb1
      go_wp2_with (first
        | (refine wpList_load_at (w := wr) rfl 30 _ rfl g (o + k * 2) rfl [.int .i64 (c.p.code : Int), bv] hrow _ Tryz.underlying30 rfl ?c1 ?_; (case c1 => kernel_rfl))
        | (refine wpList_new (w := wr) rfl _ _ (allocI _ _ _ rfl) ?_; intro w1 hn1)
        | (refine wpList_put (w := w1) rfl 30 _ _ rfl wr.heap.size #[.int .i64 (c.p.code : Int), bv] rfl rfl 30 _ hn1.blk ?c2 ?c3 ?c4 ?_; (case c2 => kernel_rfl); (case c3 => rfl); (case c4 => have hq := HB1.out; unfold Value.oneCell' at hq; simp [Value.oneCell', hq]); intro w2 hp2; have he2 : Ext wr w2 := hp2.below (Nat.le_refl _) hn1.ext)
        | (refine wpList_load_row (w := w2) rfl 30 _ rfl wr.heap.size rfl 30 #[.int .i64 (c.p.code : Int), bv] (0, 0) _ hp2.blk Tryz.underlying30 rfl ?c1 ?_; (case c1 => kernel_rfl))
        | (go_at_call 36; refine (H1.out w2 he2).mono ?_; rintro e w3 ⟨pb, gv, rfl, hpb, hgv, hpr, he3⟩; have he4 := he2.trans he3; have hown3 := Ext.own he4 hown)
        | (at_builtin; refine wpList_append_where rfl _ _ 39 rfl w.heap.size 61 i0 _ 3 32 Tryz.underlying39 hi hz0 hz1 hz2 rfl (by decide) _ k (flatA es) rfl (hown3.alloc _) ⟨w3.heap.size, 0, none⟩ 1 1 (c.cells pb) rfl rfl (by decide) ?c5 ?c6 ?c7 ?c8 ?c9 ?_; (case c5 => intro j u hj; rw [addr_add]; exact row_new w3 _ _ j u hj); (case c6 => simp [Cmp.cells, Value.oneCell']); (case c7 => unfold maxLen; omega); (case c8 => omega); (case c9 => have := he4.size; simp; omega); intro u' w5 hown5 hgr5 hwh5))
      have hz := he2.size
      have hnext := outA_next (w := w) (cs := cs) HO.out HC.out he4 (by omega) (by omega) hpr rfl hown5 hgr5 hwh5
      go_roundg (n + 1 - (k + 1))
      case measure => omega
      case rel => exact ⟨k + 1, by go_num, by omega, rfl, _, hnext⟩
    · have hkI : ¬ ((k : Int) < (n : Int)) := by omega
      obtain rfl : k = n := by omega
      have HO := Lib.hid hout
      clear hout
      go_wp2
      go_ret
      have hd := outA_done (by rw [← HN.out]; exact HO.out) HNE.out.1
      exact ⟨_, rfl, hd.1, hd.2⟩
end Go.Proofs.YtdlmmaolacjnaaaGreatDoor
