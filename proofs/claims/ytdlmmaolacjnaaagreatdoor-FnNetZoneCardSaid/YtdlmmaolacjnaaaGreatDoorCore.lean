/-
  The words in which the contracts of this place speak of memory: rows of cells, slices of bytes, lists of components. No program in it.
-/
import Derived.WalkKit
import Derived.Below
import Derived.Handy
import Derived.Lib.Hide
import Derived.Great.Walk
namespace Go.Proofs.YtdlmmaolacjnaaaGreatDoor
set_option linter.unusedVariables false
set_option linter.unusedSimpArgs false
open Go.RowKit

/-- A byte as a value. -/
abbrev B (x : UInt8) : Value := .int .u8 (x.toNat : Int)

/-- From cell o of block g on lie the values cs. -/
def Row (w : World) (g o : Nat) (cs : List Value) : Prop := ∀ j v, cs[j]? = some v → w.cell? ⟨g, o + j, none⟩ = some v

/-- A slice that begins with the cells cs (n elements, if they are of one cell). -/
def SlC (w : World) (n : Nat) (cs : List Value) (v : Value) : Prop :=
  ∃ a c, v = .slice a n c ∧ n ≤ c ∧ c ≤ 140737488351232 ∧ (cs ≠ [] → ∃ g o, a = some ⟨g, o, none⟩ ∧ Row w g o cs)

/-- A slice of bytes. -/
def Bs (w : World) (l : List UInt8) (v : Value) : Prop := SlC w l.length (l.map B) v

/-- The world w' keeps all that w holds. -/
abbrev Ext (w w' : World) : Prop := Below w.heap.size w w'

theorem Ext.refl (w : World) : Ext w w := Below.refl _ _
theorem Ext.trans {a b c : World} (h : Ext a b) (k : Ext b c) : Ext a c := Below.trans h (Below.mono k h.size)
theorem Ext.cell {w w' : World} (h : Ext w w') {p : Addr} {v : Value} (hv : w.cell? p = some v) : w'.cell? p = some v := by
  rw [Below.cell h (block_lt_of_cell hv)]; exact hv
theorem Ext.block {w w' : World} (h : Ext w w') {g : Nat} {o : Obj} (hv : w.heap[g]? = some o) : w'.heap[g]? = some o := by
  rw [Below.block h g (Array.getElem?_eq_some_iff.1 hv).1]; exact hv
theorem Ext.row {w w' : World} (h : Ext w w') {g o : Nat} {cs : List Value} (hr : Row w g o cs) : Row w' g o cs := fun j v hj => h.cell (hr j v hj)
theorem Ext.slc {w w' : World} (h : Ext w w') {n : Nat} {cs : List Value} {v : Value} (hs : SlC w n cs v) : SlC w' n cs v := by
  obtain ⟨a, c, h1, h2, h3, h4⟩ := hs
  exact ⟨a, c, h1, h2, h3, fun hne => by obtain ⟨g, o, ha, hr⟩ := h4 hne; exact ⟨g, o, ha, h.row hr⟩⟩
theorem Ext.bs {w w' : World} (h : Ext w w') {l : List UInt8} {v : Value} (hs : Bs w l v) : Bs w' l v := h.slc hs

theorem Row.lt {w : World} {g o : Nat} {cs : List Value} (h : Row w g o cs) (hne : cs ≠ []) : g < w.heap.size := by
  cases cs with
  | nil => exact absurd rfl hne
  | cons x xs => exact block_lt_of_cell (h 0 x rfl)

theorem Row.at {w : World} {g o : Nat} {cs : List Value} (h : Row w g o cs) {j : Nat} (hj : j < cs.length) : w.cell? ⟨g, o + j, none⟩ = some cs[j] := h j _ (List.getElem?_eq_getElem hj)
theorem Row.nil (w : World) (g o : Nat) : Row w g o [] := fun j v hj => by simp at hj
theorem Row.drop {w : World} {g o : Nat} {cs : List Value} (h : Row w g o cs) (k : Nat) : Row w g (o + k) (cs.drop k) := fun j v hj => by
  rw [List.getElem?_drop] at hj; rw [Nat.add_assoc]; exact h _ _ hj
theorem Row.take {w : World} {g o : Nat} {cs : List Value} (h : Row w g o cs) (k : Nat) : Row w g o (cs.take k) := fun j v hj => by
  rw [List.getElem?_take] at hj
  split at hj
  · exact h _ _ hj
  · cases hj

/-- What a call owns reads as its cells. -/
theorem row_of_own {w : World} {base : Nat} {e : TypeId} {size n : Nat} {xs : List Value} {g c : Nat} (h : w.ownsRow base e size (.slice (some ⟨g, 0, none⟩) n c) n xs) : Row w g 0 xs := fun j v hj => by
  have := h.cells (g := g) rfl j v hj
  have e : (⟨g, 0, none⟩ : Addr).add j = ⟨g, 0 + j, none⟩ := by unfold Addr.add; split <;> simp_all
  rwa [e] at this

theorem slc_of_own {w : World} {base : Nat} {e : TypeId} {size n : Nat} {xs : List Value} {v : Value} (h : w.ownsRow base e size v n xs) (hc : ∀ a m c, v = .slice a m c → c ≤ 140737488351232) : SlC w n xs v := by
  obtain ⟨hl, h2⟩ := h
  rcases h2 with ⟨rfl, rfl⟩ | ⟨g, cap, cur, rfl, hb, hg, hn, hm, hs, ht⟩
  · refine ⟨none, 0, rfl, Nat.le_refl _, by omega, fun hne => ?_⟩
    simp at hl; exact absurd hl hne
  · refine ⟨_, cap, rfl, hn, hc _ _ _ rfl, fun _ => ⟨g, 0, rfl, ?_⟩⟩
    exact row_of_own (base := base) (e := e) (size := size) (n := n) (c := cap) ⟨hl, .inr ⟨g, cap, cur, rfl, hb, hg, hn, hm, hs, ht⟩⟩

/-- an owned row stays one in a world that keeps all. -/
theorem Ext.own {w w' : World} (h : Ext w w') {base : Nat} {e : TypeId} {size n : Nat} {xs : List Value} {v : Value} (ho : w.ownsRow base e size v n xs) : w'.ownsRow base e size v n xs := by
  obtain ⟨hl, h2⟩ := ho
  refine ⟨hl, ?_⟩
  rcases h2 with h2 | ⟨g, cap, cur, hv, hb, hg, r⟩
  · exact .inl h2
  · exact .inr ⟨g, cap, cur, hv, hb, h.block hg, r⟩

theorem Ext.drew {a w : World} (h : Ext a w) : Ext a w.drew := Below.drew h
theorem Ext.alloc {a w : World} (h : Ext a w) (o : Obj) : Ext a (w.alloc o) := Below.alloc h h.size o

/-- written cells -/
theorem setCells_heap (g : Nat) : ∀ (vs : List Value) (o : Nat) (w : World) (k : Nat), k ≠ g → (w.setCells g o vs).heap[k]? = w.heap[k]?
  | [], _, _, _, _ => rfl
  | v :: r, o, w, k, h => by
    rw [World.setCells, setCells_heap g r (o + 1) _ k h, Below.heap_setCell _ _ _ _ h]
theorem setCells_size (g : Nat) : ∀ (vs : List Value) (o : Nat) (w : World), (w.setCells g o vs).heap.size = w.heap.size
  | [], _, _ => rfl
  | v :: r, o, w => by rw [World.setCells, setCells_size g r (o + 1)]; simp [World.setCell]
theorem setCells_os (g : Nat) : ∀ (vs : List Value) (o : Nat) (w : World), (w.setCells g o vs).os = w.os ∧ (w.setCells g o vs).tape = w.tape ∧ (w.setCells g o vs).output = w.output
  | [], _, _ => ⟨rfl, rfl, rfl⟩
  | v :: r, o, w => by rw [World.setCells]; exact setCells_os g r (o + 1) (w.setCell ⟨g, o, none⟩ v)
theorem below_setCells' {B g : Nat} {a w : World} (h : Below B a w) (hg : B ≤ g) (o : Nat) (vs : List Value) : Below B a (w.setCells g o vs) :=
  h.trans ⟨(setCells_os g vs o w).1, (setCells_os g vs o w).2.1, (setCells_os g vs o w).2.2, by rw [setCells_size]; exact Nat.le_refl _, fun k hk => setCells_heap g vs o w k (by omega)⟩
theorem below_of_grown {w w' : World} (h : w.grownBy w' none) : Ext w w' := ⟨h.os, h.tape, h.output, h.size, fun k hk => h.block k hk (by simp)⟩
theorem row_setCells {w : World} {g o : Nat} {vs : List Value} (h : ∀ j, j < vs.length → (w.cell? ⟨g, o + j, none⟩).isSome = true) : Row (w.setCells g o vs) g o vs := fun j v hj => by
  have hl : j < vs.length := (List.getElem?_eq_some_iff.1 hj).1
  rw [World.cell?_setCells_in g vs o w h j hl]
  rw [List.getElem?_eq_getElem hl] at hj
  exact hj
/-- what lay there reads as it did: the walk takes the two rules by itself -/
theorem bcell {W w1 : World} (hb : Below W.heap.size W w1) : (∀ b o, b < W.heap.size → w1.cell? ⟨b, o, none⟩ = W.cell? ⟨b, o, none⟩) ∧ (∀ b o, b < W.heap.size → w1.frozen? ⟨b, o, none⟩ = W.frozen? ⟨b, o, none⟩) :=
  ⟨fun b o h => hb.cell (p := ⟨b, o, none⟩) h, fun b o h => hb.frozen (p := ⟨b, o, none⟩) h⟩
theorem SlC.block {w w' : World} {n c g o : Nat} {cs : List Value} (h : SlC w n cs (.slice (some ⟨g, o, none⟩) n c)) (hb : w'.heap[g]? = w.heap[g]?) : SlC w' n cs (.slice (some ⟨g, o, none⟩) n c) := by
  obtain ⟨a, c', he, h2, h3, h4⟩ := h
  obtain ⟨rfl, -, rfl⟩ : a = some ⟨g, o, none⟩ ∧ n = n ∧ c' = c := by injection he with h5 h6 h7; exact ⟨h5.symm, rfl, h7.symm⟩
  refine ⟨_, c', rfl, h2, h3, fun hne => ?_⟩
  obtain ⟨g', o', hg, hr⟩ := h4 hne
  injection hg with hg
  injection hg with hg1 hg2
  subst hg1; subst hg2
  exact ⟨_, _, rfl, fun j v hj => by rw [World.cell?_of_block (w := w) (a := ⟨g, o + j, none⟩) hb]; exact hr j v hj⟩
theorem Bs.block {w w' : World} {l : List UInt8} {n c g o : Nat} (h : Bs w l (.slice (some ⟨g, o, none⟩) n c)) (hb : w'.heap[g]? = w.heap[g]?) : Bs w' l (.slice (some ⟨g, o, none⟩) n c) := by
  have hn : n = l.length := by obtain ⟨a, c', he, -⟩ := h; injection he
  subst hn
  exact SlC.block h hb
theorem below_setRow' {B g : Nat} {w0 w : World} (hb : Below B w0 w) (hBg : B ≤ g) (cs : Array Value) : Below B w0 (w.setRow g cs) :=
  hb.trans ⟨rfl, rfl, rfl, by simp, fun k hk => setRow_other w g k cs (by omega)⟩
/-- w2 is w with block g written anew. -/
structure Put (w w2 : World) (g : Nat) (cells : Array Value) (t : TypeId) : Prop where
  os : w2.os = w.os
  tape : w2.tape = w.tape
  output : w2.output = w.output
  size : w2.heap.size = w.heap.size
  blk : w2.heap[g]? = some (.cells cells t (0, 0))
  other : ∀ k, k ≠ g → w2.heap[k]? = w.heap[k]?

theorem Put.below {w w2 : World} {g B : Nat} {cells : Array Value} {t : TypeId} (h : Put w w2 g cells t) (hB : B ≤ g) {a : World} (ha : Below B a w) : Below B a w2 :=
  ha.trans ⟨h.os, h.tape, h.output, by rw [h.size]; exact Nat.le_refl _, fun k hk => h.other k (by omega)⟩
theorem Put.cells {w w2 : World} {g : Nat} {cells : Array Value} {t : TypeId} (h : Put w w2 g cells t) (j : Nat) : w2.cell? ⟨g, j, none⟩ = cells[j]? := cell_of_row w2 g j cells t (0, 0) h.blk
theorem Put.free {w w2 : World} {g : Nat} {cells : Array Value} {t : TypeId} (h : Put w w2 g cells t) (j : Nat) : w2.frozen? ⟨g, j, none⟩ = false := frozen_of_row w2 g j cells t h.blk
theorem Put.of_setRow {w : World} {g : Nat} {old cells : Array Value} {t : TypeId} (hg : w.heap[g]? = some (.cells old t (0, 0))) : Put w (w.setRow g cells) g cells t :=
  ⟨rfl, rfl, rfl, by simp, setRow_heap _ _ _ _ _ _ hg, fun k hk => setRow_other _ _ _ _ hk⟩

section
variable {P : Program}
/-- A whole variable of the call's own is stored into: the world behind it under a name of its own. -/
theorem wpList_put {ops : Array Oper} {rest : List Oper} {o : Oper} {a : Act} {w : World} {Q : Exit → Act → World → Prop} (hgd : o.guard = none) (ty : TypeId) (x y : Operand) (ho : o.op = .store ty x y)
    (g : Nat) (cells : Array Value) (hx : a.eval x = .pointer (some ⟨g, 0, none⟩)) (hy : a.eval y = .agg cells)
    (t : TypeId) (old : Array Value) (hg : w.heap[g]? = some (.cells old t (0, 0))) (hi : (P.info? ty).map (·.size) = some cells.size)
    (hold : old.size = cells.size) (h1 : cells.all (·.oneCell') = true)
    (h : ∀ w2, Put w w2 g cells t → wpList P ops Q rest (a.put o.dst undef) w2) : wpList P ops Q (o :: rest) a w :=
  wpList_store_row hgd ty x y ho g cells hx hy t old hg hi hold h1 (h _ (Put.of_setRow hg))
end
/-- w1 is w with one new block. -/
structure New (w w1 : World) (cs : Array Value) (t : TypeId) : Prop where
  ext : Ext w w1
  size : w1.heap.size = w.heap.size + 1
  blk : w1.heap[w.heap.size]? = some (.cells cs t (0, 0))
theorem New.of_alloc (w : World) (cs : Array Value) (t : TypeId) : New w (w.alloc (.cells cs t (0, 0))) cs t :=
  ⟨Ext.alloc (Ext.refl w) _, by simp, heap_alloc_new w _⟩
section
variable {P : Program}
/-- A new variable: the world behind it under a name of its own. -/
theorem wpList_new {ops : Array Oper} {rest : List Oper} {o : Oper} {a : Act} {w : World} {Q : Exit → Act → World → Prop} (hg : o.guard = none) (cs : Array Value) (t : TypeId)
    (hrun : (execOp a.eval o).run P w = .ok (.value (.pointer (some ⟨w.heap.size, 0, none⟩))) (w.alloc (.cells cs t (0, 0))))
    (h : ∀ w1, New w w1 cs t → wpList P ops Q rest (a.put o.dst (.pointer (some ⟨w.heap.size, 0, none⟩))) w1) : wpList P ops Q (o :: rest) a w :=
  Great.wpList_runTo hg _ rfl _ _ hrun (h _ (New.of_alloc w cs t))
end
theorem ret_int {k : IntKind} {a b : Int} (h : a = b) : Ending.returned (.int k a) = .returned (.int k b) := by rw [h]
theorem ret_bool {a b : Bool} (h : a = b) : Ending.returned (.bool a) = .returned (.bool b) := by rw [h]
theorem ret_str {a b : ByteArray} (h : a = b) : Ending.returned (.string a) = .returned (.string b) := by rw [h]
end Go.Proofs.YtdlmmaolacjnaaaGreatDoor
