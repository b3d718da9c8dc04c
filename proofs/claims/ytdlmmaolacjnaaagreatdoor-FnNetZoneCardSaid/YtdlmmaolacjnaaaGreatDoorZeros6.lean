/-
  The contract of the reader of an IP address of sixteen bytes, at a text of groups with or without a run of zeros.
-/
import Derived.Test.YtdlmmaolacjnaaaGreatDoorFields
import Derived.Test.YtdlmmaolacjnaaaGreatDoorShift
namespace Go.Proofs.YtdlmmaolacjnaaaGreatDoor
set_option linter.unusedVariables false
set_option linter.unusedSimpArgs false
open Go.RowKit Go.Sort

theorem colon_digv : digv 58 = -1 := by decide
theorem digv_nonneg {d : Nat} (h : d < 16) : 0 ≤ digv (hexc d) := by rw [digv_hex h]; omega
/-- The cells of bytes. -/
abbrev cellsB (a : List UInt8) : Array Value := (a.map B).toArray
theorem cellsB_set (a : List UInt8) (j : Nat) (x : UInt8) : (cellsB a).setIfInBounds j (B x) = cellsB (a.set j x) := by
  simp [cellsB, List.map_set]
theorem Put.setB {w w2 : World} {g : Nat} {a : List UInt8} {t : TypeId} (h : Put w w2 g (cellsB a) t) (j : Nat) (x : UInt8) : Put w (w2.setCell ⟨g, j, none⟩ (.int .u8 (x.toNat : Int))) g (cellsB (a.set j x)) t := by
  rw [← cellsB_set]; exact h.set j _
theorem Put.getB {w w2 : World} {g : Nat} {a : List UInt8} {t : TypeId} (h : Put w w2 g (cellsB a) t) {j : Nat} (hj : j < a.length) : w2.cell? ⟨g, j, none⟩ = some (.int .u8 ((a.getD j 0).toNat : Int)) := by
  rw [h.cells j, Array.getElem?_eq_getElem (by simpa using hj), getD_lt _ _ hj]; simp

theorem join_len_ge (r : List Nat) : r.length ≤ (join r).length := by
  induction r with
  | nil => simp
  | cons g r ih =>
    have := List.length_pos_iff.2 (hexs_pos g)
    rw [join_cons, List.length_append, List.length_cons]
    split
    · rename_i h; subst h; simp; omega
    · simp; omega
theorem str_size (l : List UInt8) : (⟨l.toArray⟩ : ByteArray).size = l.length := by simp [ByteArray.size]
theorem str_at (l : List UInt8) {i : Nat} (h : i < (⟨l.toArray⟩ : ByteArray).size) (h' : i < l.length) : (⟨l.toArray⟩ : ByteArray)[i]'h = l[i] := by
  have := Lib.data_getElem? (⟨l.toArray⟩ : ByteArray) i h
  simp only [List.getElem?_eq_getElem h'] at this
  exact (Option.some.inj this).symm
theorem str_from (l : List UInt8) (k n : Nat) (hn : n = l.length) : (⟨l.toArray⟩ : ByteArray).extract k n = ⟨(l.drop k).toArray⟩ := by
  subst hn
  rw [Lib.extract_eq]
  congr 2
  rw [List.take_of_length_le (by simp)]

theorem results_cell2_row {P : Program} {fn : Func} {p u : Tmp} {ty : TypeId} (h : fn.results = #[.cell p ty, .tmp u]) (tmps : Array Value) (w : World) (g : Nat) (t : TypeId) (cs : Array Value) (fr : Nat × Nat) (d : TypeDesc)
    (hp : tmps.getD p undef = .pointer (some ⟨g, 0, none⟩)) (hg : w.heap[g]? = some (.cells cs t fr))
    (hu : P.underlying ty = some d) (hd : (match d with | .struct _ | .array _ _ => true | _ => false) = true) (hi : (P.info? ty).map (·.size) = some cs.size) :
    (results fn tmps).run P w = .ok (.tuple #[.agg cs, tmps.getD u undef]) w := by
  rw [results_cell_tmp h, hp]
  simp [asAddr, run_loadVar_row w g t ty cs fr d hg hu hd hi]

/-- Eight groups, or at most seven around a run of zeros. -/
def Fits (pre : List Nat) : Option (List Nat) → Prop
  | none => pre.length = 8
  | some q => pre.length + q.length ≤ 7
/-- The bytes of such an address. -/
def out6 (pre : List Nat) : Option (List Nat) → List UInt8
  | none => gbs pre
  | some q => gbs pre ++ List.replicate (16 - 2 * (pre.length + q.length)) 0 ++ gbs q

/-- sixteen zeros -/
abbrev z16 : Array Value := cellsB (List.replicate 16 0)
theorem z16_eq : z16 = #[.int .u8 0, .int .u8 0, .int .u8 0, .int .u8 0, .int .u8 0, .int .u8 0, .int .u8 0, .int .u8 0, .int .u8 0, .int .u8 0, .int .u8 0, .int .u8 0, .int .u8 0, .int .u8 0, .int .u8 0, .int .u8 0] := rfl
theorem cellsB_one (a : List UInt8) : (cellsB a).all (·.oneCell') = true := by
  simp [cellsB, Value.oneCell']
theorem info16 (a : List UInt8) (h : a.length = 16) : (Tryz.prog.info? 183).map (·.size) = some (cellsB a).size := by
  rw [show (cellsB a).size = 16 by simp [h]]
  kernel_rfl

theorem alloc16 (ρ : Operand → Value) (w : World) (o : Oper) (h : o.op = .alloc 183) : (execOp ρ o).run Tryz.prog w = .ok (.value (.pointer (some ⟨w.heap.size, 0, none⟩))) (w.alloc (.cells z16 183 (0, 0))) := by
  unfold execOp
  simp only [h]
  simp [go_sem]
  rfl
/-- the end of the reader: the worlds that it went through keep all that was there -/
theorem fin6 {w wA wB wx w2 : World} {t : TypeId} {c1 c2 cs cs' : Array Value} (hA : New w wA c1 t) (hB : New wA wB c2 t) (hput : Put wB wx wA.heap.size cs t) (hp : Put wx w2 w.heap.size cs' t) : Ext w w2 :=
  hp.below (Nat.le_refl _) (hput.below (by have := hA.size; omega) (hA.ext.trans hB.ext))
theorem old6 {w wA wB wx : World} {t : TypeId} {c1 c2 cs : Array Value} (hA : New w wA c1 t) (hB : New wA wB c2 t) (hput : Put wB wx wA.heap.size cs t) : wx.heap[w.heap.size]? = some (.cells c1 t (0, 0)) := by
  rw [hput.other _ (by have := hA.size; omega)]
  exact hB.ext.block hA.blk

/-- A byte is stored into the call's own array: the world behind it under a name of its own. -/
theorem runStore (ρ : Operand → Value) (w : World) (o : Oper) (x y : Operand) (ho : o.op = .store 5 x y) (g j : Nat) (b : Int) (hx : ρ x = .pointer (some ⟨g, j, none⟩)) (hy : ρ y = .int .u8 b) (v : Value) (hc : w.cell? ⟨g, j, none⟩ = some v) (hf : w.frozen? ⟨g, j, none⟩ = false) :
    (execOp ρ o).run Tryz.prog w = .ok .skip (w.setCell ⟨g, j, none⟩ (.int .u8 b)) := by
  unfold execOp
  simp only [ho, hx, hy]
  simp [go_sem, hc, hf]
theorem wpList_setB {ops : Array Oper} {rest : List Oper} {o : Oper} {a : Act} {w0 w : World} {Q : Exit → Act → World → Prop} (hgd : o.guard = none) (x y : Operand) (ho : o.op = .store 5 x y) (g j : Nat) (l : List UInt8) (t : TypeId)
    (hput : Put w0 w g (cellsB l) t) (b : Int) (hx : a.eval x = .pointer (some ⟨g, j, none⟩)) (hy : a.eval y = .int .u8 b) (hj : j < l.length) (c : UInt8) (hb : b = (c.toNat : Int))
    (h : ∀ w2, Put w0 w2 g (cellsB (l.set j c)) t → wpList Tryz.prog ops Q rest (a.put o.dst undef) w2) : wpList Tryz.prog ops Q (o :: rest) a w :=
  wpList_plain hgd fun K hK => by
    unfold Oper.wp
    rw [runStore a.eval w o x y ho g j b hx hy _ (hput.getB hj) (hput.free j)]
    subst hb
    exact hK _ _ (h _ (hput.setB j c))

set_option maxHeartbeats 4000000 in
set_option maxRecDepth 100000 in
/-- the text of nothing but zeros -/
theorem parse6_zeros (w : World) :
    Calls Tryz.prog 291 #[.string ⟨#[58, 58]⟩] w fun e w' => e = .returned (.tuple #[.agg z16, .bool true]) ∧ Ext w w' := by
  obtain ⟨s, hl⟩ : ∃ s : ByteArray, s = ⟨#[58, 58]⟩ := ⟨_, rfl⟩
  rw [← hl]
  have hsz : s.size = 2 := by rw [hl]; rfl
  have h0 : s[0]'(by omega) = 58 := by subst hl; rfl
  have h1 : s[1]'(by omega) = 58 := by subst hl; rfl
  have hx : s.extract 2 s.size = ⟨#[]⟩ := by subst hl; rfl
  have hx2 : s.extract 2 2 = ⟨#[]⟩ := by subst hl; rfl
  clear hl
  go_enter Tryz.func291, Tryz.ntmps291
  go_wp2_with (first
    | (refine wpList_new rfl z16 183 (alloc16 _ _ _ rfl) ?_; intro w1 hn)
    | (refine wpList_load_row rfl 183 _ rfl _ rfl 183 z16 (0, 0) _ hn.blk Tryz.underlying183 rfl (info16 _ (by simp)) ?_)
    | (refine wpList_put rfl 183 _ _ rfl w.heap.size z16 rfl rfl 183 z16 (old6 (by assumption) hn (Put.start hn.blk)) (info16 _ (by simp)) rfl (cellsB_one _) ?_; intro w2 hp))
  refine bodyPost_ret (results_cell2_row Tryz.results291 _ _ w.heap.size 183 _ (0, 0) _ rfl hp.blk Tryz.underlying183 rfl (info16 _ (by simp))) rfl ⟨rfl, ?_⟩
  exact fin6 (by assumption) hn (Put.start hn.blk) hp
end Go.Proofs.YtdlmmaolacjnaaaGreatDoor
