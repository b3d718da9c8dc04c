/-
  Lists of components, in the package and in the thin package: the append of one element, components, one.
-/
import Derived.Test.YtdlmmaolacjnaaaGreatDoorComp
import Derived.Laws.AppendOwn
import Derived.OwnWalk
import Derived.Deep.LoopGhost
import Derived.Deep.DeepCutAuto
namespace Go.Proofs.YtdlmmaolacjnaaaGreatDoor
set_option linter.unusedVariables false
set_option linter.unusedSimpArgs false
open Go.RowKit Go.Sort

section
variable {P : Program}
/-- One append to a row of the call's own: where the new row lies. -/
theorem run_append_where (w : World) (base : Nat) (t ty e : TypeId) (i : TypeInfo) (z : Value) (size bytes : Nat) (ht : P.underlying t = some (.slice e)) (hi : P.info? e = some i) (hz : i.zero = some z)
    (hsize : i.size = size) (hby : i.bytes = bytes) (hzs : z.cells.size = size) (hsz : 0 < size) (v : Value) (n : Nat) (xs : List Value) (hown : w.ownsRow base e size v n xs)
    (ad : Addr) (m c : Nat) (news : List Value) (hl : news.length = m * size) (hm : 0 < m) (hnews : ∀ j u, news[j]? = some u → w.cell? (ad.add j) = some u) (h1 : ∀ u ∈ news, u.oneCell' = true)
    (h63 : n + m ≤ maxLen) (hbytes : (n + m) * bytes ≤ 140737488355328) (hbase : base ≤ w.heap.size) :
    ∃ v' w', (Builtin.append_ #[t, t] ty #[v, .slice (some ad) m c]).run P w = .ok v' w' ∧ w'.ownsRow base e size v' (n + m) (xs ++ news) ∧ w.grownBy w' v.ownBlock ∧ (∀ k, v'.ownBlock = some k → v.ownBlock = some k ∨ k = w.heap.size) := by
  obtain ⟨v', w', hr, h2, h3, -⟩ := run_append_own (P := P) w base t ty e i z size bytes ht hi hz hsize hby hzs hsz v n xs hown ad m c news hl hnews h1 h63 hbytes hbase
  refine ⟨v', w', hr, h2, h3, fun k hk => ?_⟩
  have hn63 : n + m ≤ 9223372036854775807 := by simp only [maxLen] at h63; omega
  subst hsize hby
  rcases hown.2 with ⟨rfl, rfl⟩ | ⟨g, cap, cur, rfl, hbg, hg, hnc, hcm, hcs, htake⟩
  · have hr2 := run_append_nil (P := P) w t ty e i z ht hi hz ad m c news hl hnews hm (by omega) (by simp only [Nat.zero_add] at hbytes; omega)
    rw [hr2] at hr
    injection hr with hr _
    rw [← hr] at hk
    right
    simp [Value.ownBlock] at hk
    exact hk.symm
  · by_cases hroom : n + m ≤ cap
    · have hfit : n * i.size + news.length ≤ cur.size := by rw [hl, hcs, ← Nat.add_mul]; exact Nat.mul_le_mul_right _ hroom
      have hr2 := run_append_room (P := P) w t ty e i ht hi g n cap cur hg ad m c news hl hnews h1 hroom hfit
      rw [hr2] at hr
      injection hr with hr _
      rw [← hr] at hk
      exact .inl hk
    · have holds : ∀ j u, xs[j]? = some u → w.cell? ((⟨g, 0, none⟩ : Addr).add j) = some u := hown.cells (g := g) rfl
      have hr2 := run_append_grow (P := P) w t ty e i z ht hi hz ⟨g, 0, none⟩ n cap xs hown.1 holds ad m c news hl hnews (by omega) (by omega) (growslice_fits (by omega) hbytes)
      rw [hr2] at hr
      injection hr with hr _
      rw [← hr] at hk
      right
      simp [Value.ownBlock] at hk
      exact hk.symm
theorem wpList_append_where {w : World} {ops : Array Oper} {rest : List Oper} {o : Oper} {a : Act} {Q : Exit → Act → World → Prop} (hgd : o.guard = none) (s x : Operand) (t : TypeId)
    (ho : o.op = .call { callee := .builtin .append, args := #[s, x], argTypes := #[t, t] })
    (base : Nat) (e : TypeId) (i : TypeInfo) (z : Value) (size bytes : Nat) (ht : P.underlying t = some (.slice e)) (hi : P.info? e = some i) (hz : i.zero = some z)
    (hsize : i.size = size) (hby : i.bytes = bytes) (hzs : z.cells.size = size) (hsz : 0 < size) (v : Value) (n : Nat) (xs : List Value) (hs : a.eval s = v) (hown : w.ownsRow base e size v n xs)
    (ad : Addr) (m c : Nat) (news : List Value) (hx : a.eval x = .slice (some ad) m c) (hl : news.length = m * size) (hm : 0 < m) (hnews : ∀ j u, news[j]? = some u → w.cell? (ad.add j) = some u) (h1 : ∀ u ∈ news, u.oneCell' = true)
    (h63 : n + m ≤ maxLen) (hbytes : (n + m) * bytes ≤ 140737488355328) (hbase : base ≤ w.heap.size)
    (h : ∀ v' w', w'.ownsRow base e size v' (n + m) (xs ++ news) → w.grownBy w' v.ownBlock → (∀ k, v'.ownBlock = some k → v.ownBlock = some k ∨ k = w.heap.size) → wpList P ops Q rest (a.put o.dst v') w') : wpList P ops Q (o :: rest) a w :=
  wpList_plain hgd fun K hK => by
    obtain ⟨v', w', hr, h2, h3, h4⟩ := run_append_where (P := P) w base t o.type e i z size bytes ht hi hz hsize hby hzs hsz v n xs hown ad m c news hl hm hnews h1 h63 hbytes hbase
    unfold Oper.wp execOp
    simp only [ho, resolve, invoke, builtin, Sem.run_bind, Sem.run_pure, Result.andThen_ok, List.map_toArray, List.map_cons, List.map_nil, hs, hx, hr]
    exact hK _ _ (h v' w' h2 h3 h4)
end

theorem below_grown {B : Nat} {w0 w w' : World} {row : Option Nat} (h : Below B w0 w) (hB : B ≤ w.heap.size) (hg : w.grownBy w' row) (hr : ∀ k, row = some k → B ≤ k) : Below B w0 w' :=
  h.trans ⟨hg.os, hg.tape, hg.output, hg.size, fun k hk => hg.block k (by omega) (by intro he; have := hr k he.symm; omega)⟩

set_option maxRecDepth 100000 in
theorem one_ok (c : Cmp) (g o : Nat) (w : World) (h : CmpAt w c g o) : Calls Tryz.prog 33 #[.pointer (some ⟨g, o, none⟩)] w fun e w' =>
    ∃ g' cap, e = .returned (.agg #[.int .i64 (c.p.code : Int), .slice (some ⟨g', 0, none⟩) c.val.length cap]) ∧ w.heap.size ≤ g' ∧ c.val.length ≤ cap ∧ Row w' g' 0 (c.val.map B) ∧ Ext w w' := by
  have HC := Lib.hid h
  clear h
  go_enter Tryz.func33, Tryz.ntmps33
  go_wp2_with (first
    | (refine wpList_new (w := w) rfl _ _ (allocI _ _ _ rfl) ?_; intro w1 hn1)
    | (go_at_call 41; refine (code_ok c g o w1 (hn1.ext.cmpAt HC.out)).mono ?_; rintro e w' ⟨rfl, rfl⟩)
    | (go_at_call 35; refine (rawValue_ok c g o w1 (hn1.ext.cmpAt HC.out)).mono ?_; rintro e w2 ⟨g', cap, rfl, hg', hcap, hr, he2⟩)
    | (refine wpList_put rfl 30 _ _ rfl w.heap.size #[.int .i64 (c.p.code : Int), .slice (some ⟨g', 0, none⟩) c.val.length cap] rfl rfl 30 _ (he2.block hn1.blk) ?c2 ?c3 ?c4 ?_; (case c2 => kernel_rfl); (case c3 => rfl); (case c4 => simp [Value.oneCell']); intro w3 hp3))
  refine bodyPost_ret (results_cell_row Tryz.results33 _ _ w.heap.size 30 _ (0, 0) _ rfl hp3.blk Tryz.underlying30 rfl (by kernel_rfl)) rfl ⟨g', cap, rfl, by have := hn1.size; omega, hcap, ?_, ?_⟩
  · intro j v hj
    have hne : g' ≠ w.heap.size := by have := hn1.size; omega
    rw [World.cell?_of_block (w := w2) (a := ⟨g', 0 + j, none⟩) (hp3.other _ hne)]
    exact hr j v hj
  · exact hp3.below (Nat.le_refl _) (hn1.ext.trans he2)

/-- A list of the thin package's components: codes and values. -/
def IcAt (w : World) (cs : List (Nat × List UInt8)) (v : Value) : Prop :=
  ∃ g o cap, v = .slice (some ⟨g, o, none⟩) cs.length cap ∧ cs.length ≤ cap ∧ ∀ i, (hi : i < cs.length) → ∃ u, w.cell? ⟨g, o + 2 * i, none⟩ = some (.int .i64 (cs[i].1 : Int)) ∧ w.cell? ⟨g, o + (2 * i + 1), none⟩ = some u ∧ By w cs[i].2 u
theorem Ext.icAt {w w' : World} (h : Ext w w') {cs : List (Nat × List UInt8)} {v : Value} (hi : IcAt w cs v) : IcAt w' cs v := by
  obtain ⟨g, o, cap, h1, h2, h3⟩ := hi
  refine ⟨g, o, cap, h1, h2, fun i hi => ?_⟩
  obtain ⟨u, h4, h5, h6⟩ := h3 i hi
  exact ⟨u, h.cell h4, h.cell h5, h.by h6⟩
def flatI (es : List (Nat × Value)) : List Value := es.flatMap fun e => [.int .i64 (e.1 : Int), e.2]
theorem flatI_snoc (es : List (Nat × Value)) (c : Nat) (v : Value) : flatI (es ++ [(c, v)]) = flatI es ++ [.int .i64 (c : Int), v] := by simp [flatI]
theorem flatI_at : ∀ (es : List (Nat × Value)) (i : Nat) (e : Nat × Value), es[i]? = some e → (flatI es)[2 * i]? = some (.int .i64 (e.1 : Int)) ∧ (flatI es)[2 * i + 1]? = some e.2
  | [], i, e, h => by simp at h
  | x :: r, 0, e, h => by
    have : x = e := by simpa using h
    subst this
    exact ⟨rfl, rfl⟩
  | x :: r, i + 1, e, h => by
    have := flatI_at r i e (by simpa using h)
    rw [show 2 * (i + 1) = 2 * i + 2 by omega, show 2 * i + 2 + 1 = (2 * i + 1) + 2 by omega]
    exact this
/-- What has been collected of components after k of them. -/
def OutE (w : World) (cs : List Cmp) (k : Nat) (u : Value) (wx : World) (es : List (Nat × Value)) : Prop :=
  es.length = k ∧ wx.ownsRow w.heap.size 30 2 u k (flatI es) ∧ Ext w wx ∧
    ∀ i c, i < k → cs[i]? = some c → ∃ g cap, es[i]? = some (c.p.code, .slice (some ⟨g, 0, none⟩) c.val.length cap) ∧ c.val.length ≤ cap ∧ Row wx g 0 (c.val.map B) ∧ g < wx.heap.size ∧ u.ownBlock ≠ some g
def OutI (w : World) (cs : List Cmp) (k : Nat) (u : Value) (wx : World) : Prop := ∃ es, OutE w cs k u wx es
theorem outI_next {w wx wa wb wc : World} {cs : List Cmp} {k : Nat} {u u' : Value} {c : Cmp} {g cap : Nat} {o : Obj} {es : List (Nat × Value)} (h : OutE w cs k u wx es) (hc : cs[k]? = some c) (hne : c.val ≠ []) (he : Ext wx wa) (hg : wx.heap.size ≤ g) (hcap : c.val.length ≤ cap) (hr : Row wa g 0 (c.val.map B)) (hb : wb = wa.alloc o)
    (hown : wc.ownsRow w.heap.size 30 2 u' (k + 1) (flatI es ++ [.int .i64 (c.p.code : Int), .slice (some ⟨g, 0, none⟩) c.val.length cap]))
    (hgr : wb.grownBy wc u.ownBlock) (hw : ∀ j, u'.ownBlock = some j → u.ownBlock = some j ∨ j = wb.heap.size) : OutI w cs (k + 1) u' wc := by
  obtain ⟨hl, ho, hE, hA⟩ := h
  have hlt := ho.lt
  have hgb : g < wa.heap.size := hr.lt (by simpa using hne)
  have heb : Ext wx wb := by rw [hb]; exact he.alloc _
  have hsb : wb.heap.size = wa.heap.size + 1 := by rw [hb]; simp
  have hbl : Below w.heap.size w wb := hE.trans heb
  have hsz := heb.size
  refine ⟨es ++ [(c.p.code, .slice (some ⟨g, 0, none⟩) c.val.length cap)], by simp [hl], by rw [flatI_snoc]; exact hown, below_grown hbl hbl.size hgr (fun j hj => (hlt j hj).1), fun i c' hi hc' => ?_⟩
  by_cases hik : i < k
  · obtain ⟨g', cap', h1, h2, h3, h4, h5⟩ := hA i c' hik hc'
    refine ⟨g', cap', by rw [List.getElem?_append_left (by omega)]; exact h1, h2, fun j v hj => ?_, by have := hgr.size; omega, fun hu => ?_⟩
    · rw [World.cell?_of_block (w := wb) (a := ⟨g', 0 + j, none⟩) (hgr.block g' (by omega) (fun e => h5 e.symm))]
      exact heb.cell (h3 j v hj)
    · rcases hw g' hu with h | h
      · exact h5 h
      · omega
  · obtain rfl : i = k := by omega
    rw [hc] at hc'
    cases hc'
    refine ⟨g, cap, by rw [List.getElem?_append_right (by omega), hl]; simp, hcap, fun j v hj => ?_, by have := hgr.size; omega, fun hu => ?_⟩
    · rw [World.cell?_of_block (w := wb) (a := ⟨g, 0 + j, none⟩) (hgr.block g (by omega) (fun e => by have := (hlt g e.symm).2; omega))]
      rw [hb]
      exact (Ext.alloc (Ext.refl wa) o).cell (hr j v hj)
    · rcases hw g hu with h | h
      · have := (hlt g h).2; omega
      · omega
theorem outI_done {w wx : World} {cs : List Cmp} {u : Value} (h : OutI w cs cs.length u wx) (hne : cs ≠ []) : IcAt wx (cs.map fun c => (c.p.code, c.val)) u ∧ Ext w wx := by
  obtain ⟨es, hl, ho, hE, hA⟩ := h
  refine ⟨?_, hE⟩
  have h0 := List.length_pos_iff.2 hne
  rcases id ho.2 with ⟨-, h1⟩ | ⟨g, cap, cur, rfl, hb, hg, hn, hm, hs, ht⟩
  · omega
  · have hrow := row_of_own ho
    refine ⟨g, 0, cap, by rw [List.length_map], by rw [List.length_map]; exact hn, fun i hi => ?_⟩
    rw [List.length_map] at hi
    obtain ⟨g', cap', h1, h2, h3, -, -⟩ := hA i cs[i] hi (List.getElem?_eq_getElem hi)
    have hf := flatI_at es i _ h1
    refine ⟨_, ?_, hrow _ _ hf.2, ?_⟩
    · have := hrow _ _ hf.1
      simpa using this
    · simp only [List.getElem_map]
      exact By.of_row h3 h2

theorem info_I : (Tryz.prog.info? 30).map (fun i => (i.zero, i.size, i.bytes)) = some (some (.agg #[.int .i64 0, .slice none 0 0]), 2, 32) := by kernel_rfl
set_option maxHeartbeats 1000000 in
set_option maxRecDepth 100000 in
theorem components_ok (cs : List Cmp) (hne : cs ≠ []) (h100 : cs.length ≤ 100) (hv : ∀ c ∈ cs, c.val ≠ []) (m : Value) (w : World) (h : MaAt w cs m) : Calls Tryz.prog 14 #[m] w fun e w' =>
    ∃ u, e = .returned u ∧ IcAt w' (cs.map fun c => (c.p.code, c.val)) u ∧ Ext w w' := by
  obtain ⟨g, o, cap, rfl, hcap, hcs⟩ := h
  obtain ⟨i0, hi, hz0, hz1, hz2⟩ := info_parts info_I
  obtain ⟨n, hn⟩ : ∃ n, n = cs.length := ⟨_, rfl⟩
  rw [← hn] at hcap h100 ⊢
  have HN := Lib.hid hn
  have HCS := Lib.hid hcs
  have HNE := Lib.hid (And.intro hne hv)
  clear hn hcs hne hv
  go_enter Tryz.func14, Tryz.ntmps14
  go_wp2
  go_loopg [3, 8] (n + 1) (fun gk s3 s8 wx => ∃ k : Nat, s8 = .int .i64 (k : Int) ∧ k ≤ n ∧ gk = n + 1 - k ∧ OutI w cs k s3 wx)
  case atStart => exact ⟨0, rfl, by omega, rfl, ⟨[], rfl, World.ownsRow_nil _ _ _ _, Ext.refl _, fun i c hi => by omega⟩⟩
  case round =>
    obtain ⟨k, rfl, hk, hgk, hout⟩ := hrel
    by_cases hlt : k < n
    · have hkI : (k : Int) < (n : Int) := by omega
      obtain ⟨es, hout⟩ := hout
      have hkc : k < cs.length := by rw [← HN.out]; exact hlt
      obtain ⟨c, hc⟩ : ∃ c, cs[k]? = some c := ⟨_, List.getElem?_eq_getElem hkc⟩
      have hcv : c.val ≠ [] := HNE.out.2 c (List.mem_of_getElem? hc)
      have hcm : CmpAt wr c g (o + k * 3) := by
        have h1 := HCS.out k hkc
        have e : cs[k] = c := by rw [List.getElem?_eq_getElem hkc] at hc; exact Option.some.inj hc
        rw [e, Nat.mul_comm] at h1
        exact Ext.cmpAt hout.2.2.1 h1
      obtain ⟨pb, gv, hrow, hpr⟩ := hcm
      have hone : ∀ w1 w2, New wr w1 #[.string ⟨#[]⟩, .pointer none, .int .i64 0] 61 → Put w1 w2 wr.heap.size #[.string c.str, .pointer (some ⟨pb, 0, none⟩), .int .i64 (c.pre.length : Int)] 61 →
          Ext wr w2 ∧ CmpAt w2 c wr.heap.size 0 := by
        intro w1 w2 h1 h2
        have he : Ext wr w2 := h2.below (Nat.le_refl _) h1.ext
        refine ⟨he, ⟨pb, gv, fun j v hj => ?_, he.prAt hpr⟩⟩
        rw [Nat.zero_add, h2.cells j]
        unfold Cmp.cells at hj
        simpa using hj
      have hown := hout.2.1
      have hbase : w.heap.size ≤ wr.heap.size := hout.2.2.1.size
      have HO := Lib.hid hout
      have HC := Lib.hid (And.intro hc hcv)
      have H1 := Lib.hid hone
      clear hout hc hcv hone hpr hkc
      go_wp2_with (first
        | (refine wpList_load_at (w := wr) rfl 61 _ rfl g (o + k * 3) rfl [.string c.str, .pointer (some ⟨pb, 0, none⟩), .int .i64 (c.pre.length : Int)] hrow _ Tryz.underlying61 rfl ?c1 ?_; (case c1 => kernel_rfl))
        | (refine wpList_new (w := wr) rfl _ _ (allocC _ _ _ rfl) ?_; intro w1 hn1)
        | (refine wpList_put (w := w1) rfl 61 _ _ rfl wr.heap.size #[.string c.str, .pointer (some ⟨pb, 0, none⟩), .int .i64 (c.pre.length : Int)] rfl rfl 61 _ hn1.blk ?c2 ?c3 ?c4 ?_; (case c2 => kernel_rfl); (case c3 => rfl); (case c4 => simp [Value.oneCell']); intro w2 hp2; have h2 := H1.out w1 w2 hn1 hp2)
        | (go_at_call 33; refine (one_ok c wr.heap.size 0 w2 h2.2).mono ?_; rintro e w3 ⟨g', cap', rfl, hg', hcap', hr3, he3⟩; have he4 := h2.1.trans he3; have hown3 := Ext.own he4 hown)
        | (at_builtin; refine wpList_append_where rfl _ _ 26 rfl w.heap.size 30 i0 _ 2 32 Tryz.underlying26 hi hz0 hz1 hz2 rfl (by decide) _ k (flatI es) rfl (hown3.alloc _) ⟨w3.heap.size, 0, none⟩ 1 1 [.int .i64 (c.p.code : Int), .slice (some ⟨g', 0, none⟩) c.val.length cap'] rfl rfl (by decide) ?c5 ?c6 ?c7 ?c8 ?c9 ?_; (case c5 => intro j u hj; rw [addr_add]; exact row_new w3 _ _ j u hj); (case c6 => simp [Value.oneCell']); (case c7 => unfold maxLen; omega); (case c8 => omega); (case c9 => have := he4.size; simp; omega); intro u' w5 hown5 hgr5 hwh5))
      have hnext := outI_next (w := w) (cs := cs) HO.out HC.out.1 HC.out.2 he4 (by have := h2.1.size; omega) hcap' hr3 rfl hown5 hgr5 hwh5
      go_roundg (n + 1 - (k + 1))
      case measure => omega
      case rel => exact ⟨k + 1, by go_num, by omega, rfl, hnext⟩
    · have hkI : ¬ ((k : Int) < (n : Int)) := by omega
      obtain rfl : k = n := by omega
      have HO := Lib.hid hout
      clear hout
      go_wp2
      go_ret
      have hd := outI_done (by rw [← HN.out]; exact HO.out) HNE.out.1
      exact ⟨_, rfl, hd.1, hd.2⟩
end Go.Proofs.YtdlmmaolacjnaaaGreatDoor
