/-
  Components in memory, and the contracts of their small methods: Code, RawValue, Protocol, Multiaddr.
-/
import Derived.Test.YtdlmmaolacjnaaaGreatDoorTwrp
import Derived.Deep.RegionHeld3
import Derived.StillTailTactics
namespace Go.Proofs.YtdlmmaolacjnaaaGreatDoor
set_option linter.unusedVariables false
set_option linter.unusedSimpArgs false
open Go.RowKit Go.Sort

/-- The protocol p lies in block b, the varint of its code in block gv. -/
def PrAt (w : World) (p : Pr) (b gv : Nat) : Prop := w.heap[b]? = some (.cells (p.cells (vc gv p.code)) 66 (0, 0)) ∧ Row w gv 0 ((Lib.uvarint p.code).map B)
/-- A component: its protocol and its value. -/
structure Cmp where
  p : Pr
  val : List UInt8
def Cmp.pre (c : Cmp) : List UInt8 := Lib.uvarint c.p.code ++ (if c.p.size < 0 then Lib.uvarint c.val.length else [])
def Cmp.str (c : Cmp) : ByteArray := ⟨(c.pre ++ c.val).toArray⟩
def Cmp.cells (c : Cmp) (b : Nat) : List Value := [.string c.str, .pointer (some ⟨b, 0, none⟩), .int .i64 (c.pre.length : Int)]
/-- The component c lies in block g from cell o on. -/
def CmpAt (w : World) (c : Cmp) (g o : Nat) : Prop := ∃ b gv, Row w g o (c.cells b) ∧ PrAt w c.p b gv

theorem Ext.prAt {w w' : World} (h : Ext w w') {p : Pr} {b gv : Nat} (hp : PrAt w p b gv) : PrAt w' p b gv := ⟨h.block hp.1, h.row hp.2⟩
theorem Ext.cmpAt {w w' : World} (h : Ext w w') {c : Cmp} {g o : Nat} (hc : CmpAt w c g o) : CmpAt w' c g o := by
  obtain ⟨b, gv, h1, h2⟩ := hc
  exact ⟨b, gv, h.row h1, h.prAt h2⟩
theorem PrAt.cell {w : World} {p : Pr} {b gv : Nat} (h : PrAt w p b gv) (j : Nat) : w.cell? ⟨b, j, none⟩ = (p.cells (vc gv p.code))[j]? := cell_of_row w b j _ _ _ h.1
theorem PrAt.by {w : World} {p : Pr} {b gv : Nat} (h : PrAt w p b gv) : By w (Lib.uvarint p.code) (vc gv p.code) := By.of_row h.2 (Nat.le_refl _)
theorem cmp_str (c : Cmp) : c.str.data.toList = c.pre ++ c.val := rfl
theorem cmp_size (c : Cmp) : c.str.size = c.pre.length + c.val.length := by rw [str_len (cmp_str c), List.length_append]
theorem cmp_val (c : Cmp) : (c.str.extract c.pre.length c.str.size).data.toList = c.val := str_tail (cmp_str c) _ rfl

theorem code_ok (c : Cmp) (g o : Nat) (w : World) (h : CmpAt w c g o) : Calls Tryz.prog 41 #[.pointer (some ⟨g, o, none⟩)] w fun e w' => e = .returned (.int .i64 (c.p.code : Int)) ∧ w = w' := by
  obtain ⟨b, gv, hr, hb⟩ := h
  have k1 : w.cell? ⟨g, o + 1, none⟩ = some (.pointer (some ⟨b, 0, none⟩)) := hr 1 _ rfl
  have k2 : w.cell? ⟨b, 1, none⟩ = some (.int .i64 (c.p.code : Int)) := hb.cell 1
  clear hr hb
  go_enter Tryz.func41, Tryz.ntmps41
  go_wp2
  go_ret
  exact ⟨rfl, rfl⟩

theorem by_bytesWorld (w : World) (s : ByteArray) (l : List UInt8) (h : s.data.toList = l) : By (Lib.bytesWorld w 5 s) l (.slice (some ⟨w.heap.size, 0, none⟩) s.size (grownCap w s.size 0 5)) := by
  have := row_bytesWorld w 5 s
  rw [h] at this
  rw [str_len h]
  exact By.of_row this (grownCap_ge w l.length 0 5)

theorem slice_from (s : ByteArray) (n : Nat) (h : n ≤ s.size) (w : World) : (Instr.slice 9 (.string s) (some (.int .i64 (n : Int))) none none).run Tryz.prog w = .ok (.string (s.extract n s.size)) w := by
  have h' : (n : Int) ≤ (s.size : Int) := by omega
  have := Tryz.underlying9
  simp [go_sem, h', this]
set_option maxRecDepth 100000 in
theorem rawValue_ok (c : Cmp) (g o : Nat) (w : World) (h : CmpAt w c g o) : Calls Tryz.prog 35 #[.pointer (some ⟨g, o, none⟩)] w fun e w' => ∃ g' cap, e = .returned (.slice (some ⟨g', 0, none⟩) c.val.length cap) ∧ w.heap.size ≤ g' ∧ c.val.length ≤ cap ∧ Row w' g' 0 (c.val.map B) ∧ Ext w w' := by
  obtain ⟨b, gv, hr, -⟩ := h
  have k0 : w.cell? ⟨g, o, none⟩ = some (.string c.str) := hr 0 _ rfl
  have k2 : w.cell? ⟨g, o + 2, none⟩ = some (.int .i64 (c.pre.length : Int)) := hr 2 _ rfl
  have hv := Lib.hid (cmp_val c)
  have hs := cmp_size c
  generalize c.str = s at k0 hv hs
  generalize c.pre.length = n at k2 hv hs
  have hns : n ≤ s.size := by omega
  obtain ⟨t, ht⟩ : ∃ t, t = s.extract n s.size := ⟨_, rfl⟩
  have Ht := Lib.hid (show t.data.toList = c.val by rw [ht]; exact hv.out)
  have hsl : ∀ w, (Instr.slice 9 (.string s) (some (.int .i64 (n : Int))) none none).run Tryz.prog w = .ok (.string t) w := by
    intro w
    rw [ht]
    exact slice_from s n hns w
  clear ht hr hs hv
  go_enter Tryz.func35, Tryz.ntmps35
  go_wp2
  go_still_tail 9, (by kernel_rfl)
  change wpList _ _ _ _ _ w.drew
  have he := Ext.drew (Ext.refl w)
  generalize w.drew = w2 at he
  go_wp2_with (refine wpList_bytes rfl _ rfl t rfl ?_; intro cc w3 hc3 hr3 he3 _hsz3)
  go_ret
  rw [Ht.out] at hr3
  have hl := str_len Ht.out
  rw [hl] at hc3
  exact ⟨w2.heap.size, cc, by rw [← hl]; rfl, he.size, hc3, hr3, he.trans he3⟩

section
variable {P : Program}
/-- A struct (or array) is loaded that lies somewhere in a block. -/
theorem run_loadVar_at (w : World) (g o : Nat) (cs : List Value) (hr : Row w g o cs) (ty : TypeId) (d : TypeDesc)
    (hu : P.underlying ty = some d) (hd : (match d with | .struct _ | .array _ _ => true | _ => false) = true) (hi : (P.info? ty).map (·.size) = some cs.length) :
    (loadVar ty ⟨g, o, none⟩).run P w = .ok (.agg cs.toArray) w := by
  have hl : (loadCells ⟨g, o, none⟩ cs.length).run P w = .ok cs.toArray w :=
    run_loadCells_list (P := P) w ⟨g, o, none⟩ cs (fun j v hv => by rw [addr_add]; exact hr j v hv)
  cases hq : P.info? ty with
  | none => simp [hq] at hi
  | some i =>
    have hs : i.size = cs.length := by simpa [hq] using hi
    have hagg : (isAgg ty).run P w = .ok true w := by
      unfold isAgg
      rw [Sem.run_bind, run_underlying hu w]
      cases d <;> simp_all
    simp [loadVar, Sem.run_bind, hagg, sizeOf, typeInfo, hq, hs, hl]
theorem wpList_load_at {ops : Array Oper} {rest : List Oper} {o : Oper} {a : Act} {w : World} {Q : Exit → Act → World → Prop} (hgd : o.guard = none) (ty : TypeId) (x : Operand) (ho : o.op = .load ty x)
    (g off : Nat) (hx : a.eval x = .pointer (some ⟨g, off, none⟩)) (cs : List Value) (hr : Row w g off cs) (d : TypeDesc)
    (hu : P.underlying ty = some d) (hd : (match d with | .struct _ | .array _ _ => true | _ => false) = true) (hi : (P.info? ty).map (·.size) = some cs.length)
    (h : wpList P ops Q rest (a.put o.dst (.agg cs.toArray)) w) : wpList P ops Q (o :: rest) a w :=
  wpList_plain hgd fun K hK => by
    unfold Oper.wp execOp
    simp only [ho, hx, Instr.loadAt, Instr.sureAddr, Sem.run_bind, Sem.run_pure, Result.andThen_ok, run_loadVar_at w g off cs hr ty d hu hd hi]
    exact hK _ _ h
end

theorem allocP (ρ : Operand → Value) (w : World) (o : Oper) (h : o.op = .alloc 66) : (execOp ρ o).run Tryz.prog w = .ok (.value (.pointer (some ⟨w.heap.size, 0, none⟩))) (w.alloc (.cells #[.string ⟨#[]⟩, .int .i64 0, .slice none 0 0, .int .i64 0, .bool false, .nilIface] 66 (0, 0))) := by
  unfold execOp
  simp only [h]
  simp [go_sem]
theorem allocC (ρ : Operand → Value) (w : World) (o : Oper) (h : o.op = .alloc 61) : (execOp ρ o).run Tryz.prog w = .ok (.value (.pointer (some ⟨w.heap.size, 0, none⟩))) (w.alloc (.cells #[.string ⟨#[]⟩, .pointer none, .int .i64 0] 61 (0, 0))) := by
  unfold execOp
  simp only [h]
  simp [go_sem]
theorem allocI (ρ : Operand → Value) (w : World) (o : Oper) (h : o.op = .alloc 30) : (execOp ρ o).run Tryz.prog w = .ok (.value (.pointer (some ⟨w.heap.size, 0, none⟩))) (w.alloc (.cells #[.int .i64 0, .slice none 0 0] 30 (0, 0))) := by
  unfold execOp
  simp only [h]
  simp [go_sem]

set_option maxRecDepth 100000 in
theorem protocol_ok (c : Cmp) (h1 : c.p.tc.oneCell' = true) (g o : Nat) (w : World) (h : CmpAt w c g o) : Calls Tryz.prog 34 #[.pointer (some ⟨g, o, none⟩)] w fun e w' => ∃ gv, e = .returned (c.p.val (vc gv c.p.code)) ∧ Row w' gv 0 ((Lib.uvarint c.p.code).map B) ∧ Ext w w' := by
  obtain ⟨b, gv, hr, hb⟩ := h
  have k1 : w.cell? ⟨g, o + 1, none⟩ = some (.pointer (some ⟨b, 0, none⟩)) := hr 1 _ rfl
  have H1 := Lib.hid h1
  clear hr h1
  go_enter Tryz.func34, Tryz.ntmps34
  go_wp2_with (first
    | (refine wpList_new (w := w) rfl _ _ (allocP _ _ _ rfl) ?_; intro w1 hn; have k1' := hn.ext.cell k1)
    | (refine wpList_load_row rfl 66 _ rfl b rfl 66 (c.p.cells (vc gv c.p.code)) (0, 0) _ (hn.ext.block hb.1) Tryz.underlying66 rfl ?c1 ?_; (case c1 => kernel_rfl))
    | (refine wpList_put rfl 66 _ _ rfl w.heap.size (c.p.cells (vc gv c.p.code)) rfl rfl 66 _ hn.blk ?c2 ?c3 ?c4 ?_; (case c2 => kernel_rfl); (case c3 => rfl); (case c4 => exact Pr.one _ H1.out _ _); intro w2 hp2))
  refine bodyPost_ret (results_cell_row Tryz.results34 _ _ w.heap.size 66 _ (0, 0) _ rfl hp2.blk Tryz.underlying66 rfl (by kernel_rfl)) rfl ⟨gv, rfl, ?_, hp2.below (Nat.le_refl _) hn.ext⟩
  exact Ext.row (hp2.below (Nat.le_refl _) hn.ext) hb.2

/-- A list of components. -/
def MaAt (w : World) (cs : List Cmp) (v : Value) : Prop :=
  ∃ g o cap, v = .slice (some ⟨g, o, none⟩) cs.length cap ∧ cs.length ≤ cap ∧ ∀ i, (hi : i < cs.length) → CmpAt w cs[i] g (o + 3 * i)
theorem Ext.maAt {w w' : World} (h : Ext w w') {cs : List Cmp} {v : Value} (hm : MaAt w cs v) : MaAt w' cs v := by
  obtain ⟨g, o, cap, h1, h2, h3⟩ := hm
  exact ⟨g, o, cap, h1, h2, fun i hi => h.cmpAt (h3 i hi)⟩

set_option maxRecDepth 100000 in
theorem multiaddr_ok (c : Cmp) (g o : Nat) (w : World) (h : CmpAt w c g o) : Calls Tryz.prog 30 #[.pointer (some ⟨g, o, none⟩)] w fun e w' => ∃ v, e = .returned v ∧ MaAt w' [c] v ∧ Ext w w' := by
  obtain ⟨b, gv, hr, hb⟩ := h
  go_enter Tryz.func30, Tryz.ntmps30
  go_wp2_with (refine wpList_load_at rfl 61 _ rfl g o rfl [.string c.str, .pointer (some ⟨b, 0, none⟩), .int .i64 (c.pre.length : Int)] hr _ Tryz.underlying61 rfl ?c1 ?_; (case c1 => kernel_rfl))
  go_ret
  refine ⟨_, rfl, ⟨w.heap.size, 0, 1, rfl, Nat.le_refl _, fun i hi => ?_⟩, Ext.alloc (Ext.refl w) _⟩
  obtain rfl : i = 0 := by simp at hi; omega
  exact ⟨b, gv, row_new w _ _, (Ext.alloc (Ext.refl w) _).prAt hb⟩
end Go.Proofs.YtdlmmaolacjnaaaGreatDoor
