/-
  The words in which the contracts of this place speak of memory: rows of cells, slices of bytes, lists of components. No program in it.
-/
import Derived.WalkKit
import Derived.Below
import Derived.Handy
import Derived.Lib.Hide
import Derived.Great.Walk
import Derived.Lib.ItoaNum
import Derived.Test.YtchlkclpikdbjaaGreatDoorProg
import Derived.WalkLawsBesides
import Derived.WalkSpells
import Derived.Deep.LoopGhost
import Derived.Outline
import Derived.BigGuardPart
import Derived.Laws.BitsAllLaws
import Derived.Lib.Strings
namespace Go.Proofs.YtchlkclpikdbjaaGreatDoor
set_option linter.unusedVariables false
set_option linter.unusedSimpArgs false
open Go.RowKit

/-- A byte as a value. -/
abbrev B (x : UInt8) : Value := .int .u8 (x.toNat : Int)

/-- From cell o of block g on lie the values cs. -/
def Row (w : World) (g o : Nat) (cs : List Value) : Prop := ∀ j v, cs[j]? = some v → w.cell? ⟨g, o + j, none⟩ = some v

/-- A slice that begins with the cells cs (n elements, if they are of one cell). -/
def SlC (w : World) (n : Nat) (cs : List Value) (v : Value) : Prop :=
  ∃ a c, v = .slice a n c ∧ n ≤ c ∧ c ≤ 140737488351232 ∧ (cs ≠ [] → ∃ g o, a = some ⟨g, o, none⟩ ∧ Row w g o cs)

/-- A slice of bytes. -/
def Bs (w : World) (l : List UInt8) (v : Value) : Prop := SlC w l.length (l.map B) v

/-- The world w' keeps all that w holds. -/
abbrev Ext (w w' : World) : Prop := Below w.heap.size w w'

theorem Ext.refl (w : World) : Ext w w := Below.refl _ _
theorem Ext.trans {a b c : World} (h : Ext a b) (k : Ext b c) : Ext a c := Below.trans h (Below.mono k h.size)
theorem Ext.cell {w w' : World} (h : Ext w w') {p : Addr} {v : Value} (hv : w.cell? p = some v) : w'.cell? p = some v := by
  rw [Below.cell h (block_lt_of_cell hv)]; exact hv
theorem Ext.block {w w' : World} (h : Ext w w') {g : Nat} {o : Obj} (hv : w.heap[g]? = some o) : w'.heap[g]? = some o := by
  rw [Below.block h g (Array.getElem?_eq_some_iff.1 hv).1]; exact hv
theorem Ext.row {w w' : World} (h : Ext w w') {g o : Nat} {cs : List Value} (hr : Row w g o cs) : Row w' g o cs := fun j v hj => h.cell (hr j v hj)
theorem Ext.slc {w w' : World} (h : Ext w w') {n : Nat} {cs : List Value} {v : Value} (hs : SlC w n cs v) : SlC w' n cs v := by
  obtain ⟨a, c, h1, h2, h3, h4⟩ := hs
  exact ⟨a, c, h1, h2, h3, fun hne => by obtain ⟨g, o, ha, hr⟩ := h4 hne; exact ⟨g, o, ha, h.row hr⟩⟩
theorem Ext.bs {w w' : World} (h : Ext w w') {l : List UInt8} {v : Value} (hs : Bs w l v) : Bs w' l v := h.slc hs

theorem Row.lt {w : World} {g o : Nat} {cs : List Value} (h : Row w g o cs) (hne : cs ≠ []) : g < w.heap.size := by
  cases cs with
  | nil => exact absurd rfl hne
  | cons x xs => exact block_lt_of_cell (h 0 x rfl)

theorem Row.at {w : World} {g o : Nat} {cs : List Value} (h : Row w g o cs) {j : Nat} (hj : j < cs.length) : w.cell? ⟨g, o + j, none⟩ = some cs[j] := h j _ (List.getElem?_eq_getElem hj)
theorem Row.nil (w : World) (g o : Nat) : Row w g o [] := fun j v hj => by simp at hj
theorem Row.drop {w : World} {g o : Nat} {cs : List Value} (h : Row w g o cs) (k : Nat) : Row w g (o + k) (cs.drop k) := fun j v hj => by
  rw [List.getElem?_drop] at hj; rw [Nat.add_assoc]; exact h _ _ hj
theorem Row.take {w : World} {g o : Nat} {cs : List Value} (h : Row w g o cs) (k : Nat) : Row w g o (cs.take k) := fun j v hj => by
  rw [List.getElem?_take] at hj
  split at hj
  · exact h _ _ hj
  · cases hj

/-- What a call owns reads as its cells. -/
theorem row_of_own {w : World} {base : Nat} {e : TypeId} {size n : Nat} {xs : List Value} {g c : Nat} (h : w.ownsRow base e size (.slice (some ⟨g, 0, none⟩) n c) n xs) : Row w g 0 xs := fun j v hj => by
  have := h.cells (g := g) rfl j v hj
  have e : (⟨g, 0, none⟩ : Addr).add j = ⟨g, 0 + j, none⟩ := by unfold Addr.add; split <;> simp_all
  rwa [e] at this

theorem slc_of_own {w : World} {base : Nat} {e : TypeId} {size n : Nat} {xs : List Value} {v : Value} (h : w.ownsRow base e size v n xs) (hc : ∀ a m c, v = .slice a m c → c ≤ 140737488351232) : SlC w n xs v := by
  obtain ⟨hl, h2⟩ := h
  rcases h2 with ⟨rfl, rfl⟩ | ⟨g, cap, cur, rfl, hb, hg, hn, hm, hs, ht⟩
  · refine ⟨none, 0, rfl, Nat.le_refl _, by omega, fun hne => ?_⟩
    simp at hl; exact absurd hl hne
  · refine ⟨_, cap, rfl, hn, hc _ _ _ rfl, fun _ => ⟨g, 0, rfl, ?_⟩⟩
    exact row_of_own (base := base) (e := e) (size := size) (n := n) (c := cap) ⟨hl, .inr ⟨g, cap, cur, rfl, hb, hg, hn, hm, hs, ht⟩⟩

/-- an owned row stays one in a world that keeps all. -/
theorem Ext.own {w w' : World} (h : Ext w w') {base : Nat} {e : TypeId} {size n : Nat} {xs : List Value} {v : Value} (ho : w.ownsRow base e size v n xs) : w'.ownsRow base e size v n xs := by
  obtain ⟨hl, h2⟩ := ho
  refine ⟨hl, ?_⟩
  rcases h2 with h2 | ⟨g, cap, cur, hv, hb, hg, r⟩
  · exact .inl h2
  · exact .inr ⟨g, cap, cur, hv, hb, h.block hg, r⟩

theorem Ext.drew {a w : World} (h : Ext a w) : Ext a w.drew := Below.drew h
theorem Ext.alloc {a w : World} (h : Ext a w) (o : Obj) : Ext a (w.alloc o) := Below.alloc h h.size o

/-- written cells -/
theorem setCells_heap (g : Nat) : ∀ (vs : List Value) (o : Nat) (w : World) (k : Nat), k ≠ g → (w.setCells g o vs).heap[k]? = w.heap[k]?
  | [], _, _, _, _ => rfl
  | v :: r, o, w, k, h => by
    rw [World.setCells, setCells_heap g r (o + 1) _ k h, Below.heap_setCell _ _ _ _ h]
theorem setCells_size (g : Nat) : ∀ (vs : List Value) (o : Nat) (w : World), (w.setCells g o vs).heap.size = w.heap.size
  | [], _, _ => rfl
  | v :: r, o, w => by rw [World.setCells, setCells_size g r (o + 1)]; simp [World.setCell]
theorem setCells_os (g : Nat) : ∀ (vs : List Value) (o : Nat) (w : World), (w.setCells g o vs).os = w.os ∧ (w.setCells g o vs).tape = w.tape ∧ (w.setCells g o vs).output = w.output
  | [], _, _ => ⟨rfl, rfl, rfl⟩
  | v :: r, o, w => by rw [World.setCells]; exact setCells_os g r (o + 1) (w.setCell ⟨g, o, none⟩ v)
theorem below_setCells' {B g : Nat} {a w : World} (h : Below B a w) (hg : B ≤ g) (o : Nat) (vs : List Value) : Below B a (w.setCells g o vs) :=
  h.trans ⟨(setCells_os g vs o w).1, (setCells_os g vs o w).2.1, (setCells_os g vs o w).2.2, by rw [setCells_size]; exact Nat.le_refl _, fun k hk => setCells_heap g vs o w k (by omega)⟩
theorem below_of_grown {w w' : World} (h : w.grownBy w' none) : Ext w w' := ⟨h.os, h.tape, h.output, h.size, fun k hk => h.block k hk (by simp)⟩
theorem row_setCells {w : World} {g o : Nat} {vs : List Value} (h : ∀ j, j < vs.length → (w.cell? ⟨g, o + j, none⟩).isSome = true) : Row (w.setCells g o vs) g o vs := fun j v hj => by
  have hl : j < vs.length := (List.getElem?_eq_some_iff.1 hj).1
  rw [World.cell?_setCells_in g vs o w h j hl]
  rw [List.getElem?_eq_getElem hl] at hj
  exact hj
/-- what lay there reads as it did: the walk takes the two rules by itself -/
theorem bcell {W w1 : World} (hb : Below W.heap.size W w1) : (∀ b o, b < W.heap.size → w1.cell? ⟨b, o, none⟩ = W.cell? ⟨b, o, none⟩) ∧ (∀ b o, b < W.heap.size → w1.frozen? ⟨b, o, none⟩ = W.frozen? ⟨b, o, none⟩) :=
  ⟨fun b o h => hb.cell (p := ⟨b, o, none⟩) h, fun b o h => hb.frozen (p := ⟨b, o, none⟩) h⟩
theorem SlC.block {w w' : World} {n c g o : Nat} {cs : List Value} (h : SlC w n cs (.slice (some ⟨g, o, none⟩) n c)) (hb : w'.heap[g]? = w.heap[g]?) : SlC w' n cs (.slice (some ⟨g, o, none⟩) n c) := by
  obtain ⟨a, c', he, h2, h3, h4⟩ := h
  obtain ⟨rfl, -, rfl⟩ : a = some ⟨g, o, none⟩ ∧ n = n ∧ c' = c := by injection he with h5 h6 h7; exact ⟨h5.symm, rfl, h7.symm⟩
  refine ⟨_, c', rfl, h2, h3, fun hne => ?_⟩
  obtain ⟨g', o', hg, hr⟩ := h4 hne
  injection hg with hg
  injection hg with hg1 hg2
  subst hg1; subst hg2
  exact ⟨_, _, rfl, fun j v hj => by rw [World.cell?_of_block (w := w) (a := ⟨g, o + j, none⟩) hb]; exact hr j v hj⟩
theorem Bs.block {w w' : World} {l : List UInt8} {n c g o : Nat} (h : Bs w l (.slice (some ⟨g, o, none⟩) n c)) (hb : w'.heap[g]? = w.heap[g]?) : Bs w' l (.slice (some ⟨g, o, none⟩) n c) := by
  have hn : n = l.length := by obtain ⟨a, c', he, -⟩ := h; injection he
  subst hn
  exact SlC.block h hb
theorem below_setRow' {B g : Nat} {w0 w : World} (hb : Below B w0 w) (hBg : B ≤ g) (cs : Array Value) : Below B w0 (w.setRow g cs) :=
  hb.trans ⟨rfl, rfl, rfl, by simp, fun k hk => setRow_other w g k cs (by omega)⟩
/-- w2 is w with block g written anew. -/
structure Put (w w2 : World) (g : Nat) (cells : Array Value) (t : TypeId) : Prop where
  os : w2.os = w.os
  tape : w2.tape = w.tape
  output : w2.output = w.output
  size : w2.heap.size = w.heap.size
  blk : w2.heap[g]? = some (.cells cells t (0, 0))
  other : ∀ k, k ≠ g → w2.heap[k]? = w.heap[k]?

theorem Put.below {w w2 : World} {g B : Nat} {cells : Array Value} {t : TypeId} (h : Put w w2 g cells t) (hB : B ≤ g) {a : World} (ha : Below B a w) : Below B a w2 :=
  ha.trans ⟨h.os, h.tape, h.output, by rw [h.size]; exact Nat.le_refl _, fun k hk => h.other k (by omega)⟩
theorem Put.cells {w w2 : World} {g : Nat} {cells : Array Value} {t : TypeId} (h : Put w w2 g cells t) (j : Nat) : w2.cell? ⟨g, j, none⟩ = cells[j]? := cell_of_row w2 g j cells t (0, 0) h.blk
theorem Put.free {w w2 : World} {g : Nat} {cells : Array Value} {t : TypeId} (h : Put w w2 g cells t) (j : Nat) : w2.frozen? ⟨g, j, none⟩ = false := frozen_of_row w2 g j cells t h.blk
theorem Put.of_setRow {w : World} {g : Nat} {old cells : Array Value} {t : TypeId} (hg : w.heap[g]? = some (.cells old t (0, 0))) : Put w (w.setRow g cells) g cells t :=
  ⟨rfl, rfl, rfl, by simp, setRow_heap _ _ _ _ _ _ hg, fun k hk => setRow_other _ _ _ _ hk⟩

section
variable {P : Program}
/-- A whole variable of the call's own is stored into: the world behind it under a name of its own. -/
theorem wpList_put {ops : Array Oper} {rest : List Oper} {o : Oper} {a : Act} {w : World} {Q : Exit → Act → World → Prop} (hgd : o.guard = none) (ty : TypeId) (x y : Operand) (ho : o.op = .store ty x y)
    (g : Nat) (cells : Array Value) (hx : a.eval x = .pointer (some ⟨g, 0, none⟩)) (hy : a.eval y = .agg cells)
    (t : TypeId) (old : Array Value) (hg : w.heap[g]? = some (.cells old t (0, 0))) (hi : (P.info? ty).map (·.size) = some cells.size)
    (hold : old.size = cells.size) (h1 : cells.all (·.oneCell') = true)
    (h : ∀ w2, Put w w2 g cells t → wpList P ops Q rest (a.put o.dst undef) w2) : wpList P ops Q (o :: rest) a w :=
  wpList_store_row hgd ty x y ho g cells hx hy t old hg hi hold h1 (h _ (Put.of_setRow hg))
end
/-- w1 is w with one new block. -/
structure New (w w1 : World) (cs : Array Value) (t : TypeId) : Prop where
  ext : Ext w w1
  size : w1.heap.size = w.heap.size + 1
  blk : w1.heap[w.heap.size]? = some (.cells cs t (0, 0))
theorem New.of_alloc (w : World) (cs : Array Value) (t : TypeId) : New w (w.alloc (.cells cs t (0, 0))) cs t :=
  ⟨Ext.alloc (Ext.refl w) _, by simp, heap_alloc_new w _⟩
section
variable {P : Program}
/-- A new variable: the world behind it under a name of its own. -/
theorem wpList_new {ops : Array Oper} {rest : List Oper} {o : Oper} {a : Act} {w : World} {Q : Exit → Act → World → Prop} (hg : o.guard = none) (cs : Array Value) (t : TypeId)
    (hrun : (execOp a.eval o).run P w = .ok (.value (.pointer (some ⟨w.heap.size, 0, none⟩))) (w.alloc (.cells cs t (0, 0))))
    (h : ∀ w1, New w w1 cs t → wpList P ops Q rest (a.put o.dst (.pointer (some ⟨w.heap.size, 0, none⟩))) w1) : wpList P ops Q (o :: rest) a w :=
  Great.wpList_runTo hg _ rfl _ _ hrun (h _ (New.of_alloc w cs t))
end
theorem ret_int {k : IntKind} {a b : Int} (h : a = b) : Ending.returned (.int k a) = .returned (.int k b) := by rw [h]
theorem ret_bool {a b : Bool} (h : a = b) : Ending.returned (.bool a) = .returned (.bool b) := by rw [h]
theorem ret_str {a b : ByteArray} (h : a = b) : Ending.returned (.string a) = .returned (.string b) := by rw [h]
end Go.Proofs.YtchlkclpikdbjaaGreatDoor
namespace Go.Proofs.YtchlkclpikdbjaaGreatDoor
set_option linter.unusedVariables false
set_option linter.unusedSimpArgs false

theorem mk_append (a b : List UInt8) : (⟨a.toArray⟩ : ByteArray) ++ ⟨b.toArray⟩ = ⟨(a ++ b).toArray⟩ := by
  apply ByteArray.ext; simp
/-- A hexadecimal digit. -/
def hexc (n : Nat) : UInt8 := if n < 10 then UInt8.ofNat (48 + n) else UInt8.ofNat (87 + n)
/-- A number in hexadecimal digits. -/
def hexs (n : Nat) : List UInt8 := if n < 16 then [hexc n] else hexs (n / 16) ++ [hexc (n % 16)]
  termination_by n
  decreasing_by omega
/-- The value of a hexadecimal digit, -1 for none. -/
def digv (c : UInt8) : Int :=
  if 48 ≤ c.toNat ∧ c.toNat ≤ 57 then (c.toNat : Int) - 48
  else if 97 ≤ c.toNat ∧ c.toNat ≤ 102 then (c.toNat : Int) - 87
  else if 65 ≤ c.toNat ∧ c.toNat ≤ 70 then (c.toNat : Int) - 55 else -1

theorem digv_hexc : ∀ n : Fin 16, digv (hexc n) = (n.val : Int) := by decide
theorem hexc_not : ∀ n : Fin 16, hexc n ≠ 58 ∧ hexc n ≠ 46 ∧ hexc n ≠ 37 := by decide
theorem digv_hex {n : Nat} (h : n < 16) : digv (hexc n) = (n : Int) := digv_hexc ⟨n, h⟩

/-- The value of digits behind a value. -/
def hexval (l : List UInt8) (a : Nat) : Nat := l.foldl (fun a c => a * 16 + (digv c).toNat) a

theorem hexs_small {n : Nat} (h : n < 16) : hexs n = [hexc n] := by rw [hexs, if_pos h]
theorem hexs_big {n : Nat} (h : ¬ n < 16) : hexs n = hexs (n / 16) ++ [hexc (n % 16)] := by rw [hexs, if_neg h]

theorem hexs_val (n : Nat) : hexval (hexs n) 0 = n := by
  induction n using Nat.strongRecOn with
  | _ n ih =>
    by_cases h : n < 16
    · rw [hexs_small h]; simp [hexval, digv_hex h]
    · rw [hexs_big h, hexval, List.foldl_append]
      have := ih (n / 16) (by omega)
      unfold hexval at this
      rw [this]
      simp [digv_hex (show n % 16 < 16 by omega)]
      omega

theorem hexs_pos (n : Nat) : hexs n ≠ [] := by
  by_cases h : n < 16
  · rw [hexs_small h]; simp
  · rw [hexs_big h]; simp

theorem hexs_len (k : Nat) : ∀ n, n < 16 ^ (k + 1) → (hexs n).length ≤ k + 1 := by
  induction k with
  | zero => intro n h; rw [hexs_small (by simpa using h)]; simp
  | succ k ih =>
    intro n h
    by_cases h16 : n < 16
    · rw [hexs_small h16]; simp
    · rw [hexs_big h16]
      have : (hexs (n / 16)).length ≤ k + 1 := ih _ (by rw [Nat.pow_succ] at h; omega)
      simp; omega
theorem hexs_len4 {n : Nat} (h : n < 65536) : (hexs n).length ≤ 4 := hexs_len 3 n h

theorem hexs_mem (n : Nat) : ∀ c ∈ hexs n, ∃ d, d < 16 ∧ c = hexc d := by
  induction n using Nat.strongRecOn with
  | _ n ih =>
    intro c hc
    by_cases h : n < 16
    · rw [hexs_small h] at hc; exact ⟨n, h, by simpa using hc⟩
    · rw [hexs_big h, List.mem_append] at hc
      rcases hc with hc | hc
      · exact ih _ (by omega) c hc
      · exact ⟨n % 16, by omega, by simpa using hc⟩

theorem hexval_lt (l : List UInt8) : (∀ c ∈ l, ∃ d, d < 16 ∧ c = hexc d) → ∀ a, hexval l a < (a + 1) * 16 ^ l.length := by
  induction l with
  | nil => intro _ a; simp [hexval]
  | cons x r ih =>
    intro h a
    obtain ⟨d, hd, rfl⟩ := h x (by simp)
    have := ih (fun c hc => h c (by simp [hc])) (a * 16 + d)
    have e : hexval (hexc d :: r) a = hexval r (a * 16 + d) := by simp [hexval, digv_hex hd]
    rw [e, List.length_cons, Nat.pow_succ]
    calc hexval r (a * 16 + d) < (a * 16 + d + 1) * 16 ^ r.length := this
      _ ≤ ((a + 1) * 16) * 16 ^ r.length := Nat.mul_le_mul_right _ (by omega)
      _ = (a + 1) * (16 ^ r.length * 16) := by rw [Nat.mul_assoc, Nat.mul_comm 16]

/-- The digits that were read, k of them. -/
theorem hexval_take {n : Nat} (h : n < 65536) (k : Nat) : hexval ((hexs n).take k) 0 < 65536 := by
  have h4 := hexs_len4 h
  have hl := hexval_lt ((hexs n).take k) (fun c hc => hexs_mem n c (List.mem_of_mem_take hc)) 0
  have : ((hexs n).take k).length ≤ 4 := by rw [List.length_take]; omega
  have h2 : 16 ^ ((hexs n).take k).length ≤ 16 ^ 4 := Nat.pow_le_pow_right (by decide) this
  have h3 : (16 : Nat) ^ 4 = 65536 := by decide
  omega
theorem hexval_succ (l : List UInt8) (k : Nat) (h : k < l.length) : hexval (l.take (k + 1)) 0 = hexval (l.take k) 0 * 16 + (digv l[k]).toNat := by
  unfold hexval
  rw [List.take_add_one, List.getElem?_eq_getElem h, Option.toList_some, List.foldl_append]
  rfl

/-- Groups behind one another, a colon between. -/
def join : List Nat → List UInt8
  | [] => []
  | [g] => hexs g
  | g :: h :: r => hexs g ++ 58 :: join (h :: r)
/-- What stands behind the first part of an address's text: nothing, or two colons and the second part. -/
def tl : Option (List Nat) → List UInt8
  | none => []
  | some q => 58 :: 58 :: join q

theorem join_cons (g : Nat) (r : List Nat) : join (g :: r) = hexs g ++ (if r = [] then [] else 58 :: join r) := by
  cases r <;> simp [join]
theorem join_ne {r : List Nat} (h : r ≠ []) : join r ≠ [] := by
  cases r with
  | nil => exact absurd rfl h
  | cons g r => rw [join_cons]; simp [hexs_pos]
theorem join_snoc (l : List Nat) (g : Nat) : join (l ++ [g]) = if l = [] then hexs g else join l ++ 58 :: hexs g := by
  induction l with
  | nil => simp [join]
  | cons x r ih =>
    rw [List.cons_append, join_cons, ih, join_cons]
    cases r <;> simp
/-- the first sign of a text of groups is a digit -/
theorem join_head {r : List Nat} (h : r ≠ []) : ∃ d t, d < 16 ∧ join r = hexc d :: t := by
  cases r with
  | nil => exact absurd rfl h
  | cons g r =>
    cases hg : hexs g with
    | nil => exact absurd hg (hexs_pos g)
    | cons c t =>
      obtain ⟨d, hd, rfl⟩ := hexs_mem g c (by rw [hg]; simp)
      exact ⟨d, t ++ (if r = [] then [] else 58 :: join r), hd, by rw [join_cons, hg]; rfl⟩
theorem join_mem (r : List Nat) : ∀ c ∈ join r, c = 58 ∨ ∃ d, d < 16 ∧ c = hexc d := by
  induction r with
  | nil => intro c hc; simp [join] at hc
  | cons g r ih =>
    intro c hc
    rw [join_cons, List.mem_append] at hc
    rcases hc with hc | hc
    · exact .inr (hexs_mem g c hc)
    · split at hc
      · simp at hc
      · rcases List.mem_cons.1 hc with rfl | hc
        · exact .inl rfl
        · exact ih c hc

/-- The two bytes of a group. -/
def gb (g : Nat) : List UInt8 := [UInt8.ofNat (g / 256), UInt8.ofNat g]
def gbs (r : List Nat) : List UInt8 := r.flatMap gb
theorem gbs_length (r : List Nat) : (gbs r).length = 2 * r.length := by
  induction r with
  | nil => rfl
  | cons g r ih => simp only [gbs, List.flatMap_cons, List.length_append, List.length_cons] at ih ⊢; rw [ih]; simp [gb]; omega
theorem gbs_append (a b : List Nat) : gbs (a ++ b) = gbs a ++ gbs b := by simp [gbs]
theorem gbs_zeros (n : Nat) : gbs (List.replicate n 0) = List.replicate (2 * n) 0 := by
  induction n with
  | zero => rfl
  | succ n ih => rw [List.replicate_succ, gbs, List.flatMap_cons, show (List.replicate n 0).flatMap gb = gbs (List.replicate n 0) from rfl, ih]; rfl

/-- The groups of bytes. -/
def groups : List UInt8 → List Nat
  | a :: b :: r => (a.toNat * 256 + b.toNat) :: groups r
  | _ => []
theorem groups_length : ∀ (n : Nat) (l : List UInt8), l.length = 2 * n → (groups l).length = n
  | 0, l, h => by have : l = [] := by simpa using h
                  subst this; rfl
  | n + 1, [], h => by simp at h
  | n + 1, [a], h => by simp at h; omega
  | n + 1, a :: b :: r, h => by simp only [groups, List.length_cons]; rw [groups_length n r (by simp at h; omega)]
theorem groups_lt : ∀ (l : List UInt8), ∀ g ∈ groups l, g < 65536
  | [], g, h => by simp [groups] at h
  | [a], g, h => by simp [groups] at h
  | a :: b :: r, g, h => by
    simp only [groups, List.mem_cons] at h
    rcases h with rfl | h
    · have := a.toNat_lt; have := b.toNat_lt; omega
    · exact groups_lt r g h
theorem gb_of (a b : UInt8) : gb (a.toNat * 256 + b.toNat) = [a, b] := by
  have ha := a.toNat_lt; have hb := b.toNat_lt
  unfold gb
  have e1 : (a.toNat * 256 + b.toNat) / 256 = a.toNat := by omega
  rw [e1]
  congr 1
  · exact UInt8.ofNat_toNat
  · congr 1
    apply UInt8.toNat.inj
    simp
theorem gbs_groups : ∀ (n : Nat) (l : List UInt8), l.length = 2 * n → gbs (groups l) = l
  | 0, l, h => by have : l = [] := by simpa using h
                  subst this; rfl
  | n + 1, [], h => by simp at h
  | n + 1, [a], h => by simp at h; omega
  | n + 1, a :: b :: r, h => by
    have ih := gbs_groups n r (by simp at h; omega)
    simp only [groups, gbs, List.flatMap_cons] at ih ⊢
    rw [ih, gb_of]; rfl

/-- The text of an address of sixteen bytes whose run of zeros stands from p to q (255: none). -/
def text6 (G : List Nat) (p q : Nat) : List UInt8 := if p = 255 then join G else join (G.take p) ++ 58 :: 58 :: join (G.drop q)

theorem join_len (r : List Nat) : (∀ g ∈ r, g < 65536) → (join r).length ≤ 5 * r.length := by
  induction r with
  | nil => intro _; simp [join]
  | cons g r ih =>
    intro h
    have h4 := hexs_len4 (h g (by simp))
    have := ih (fun x hx => h x (by simp [hx]))
    rw [join_cons, List.length_append, List.length_cons]
    split <;> simp <;> omega

/-- A run of two or more zeros from p to q, or none (255, 255). -/
def IsRun (G : List Nat) (p q : Nat) : Prop := (p = 255 ∧ q = 255) ∨ (p + 2 ≤ q ∧ q ≤ 8 ∧ ∀ k, p ≤ k → k < q → G.getD k 0 = 0)
/-- What has been written when the groups below i are done. -/
def textAt (G : List Nat) (p q i : Nat) : List UInt8 := if p = 255 ∨ i ≤ p then join (G.take i) else join (G.take p) ++ 58 :: 58 :: join ((G.take i).drop q)
theorem textAt_len (G : List Nat) (h : ∀ g ∈ G, g < 65536) (h8 : G.length = 8) (p q i : Nat) : (textAt G p q i).length ≤ 200 := by
  have h1 : ∀ k, (join (G.take k)).length ≤ 40 := fun k => by
    have := join_len (G.take k) (fun g hg => h g (List.mem_of_mem_take hg))
    rw [List.length_take] at this; omega
  have h2 : (join ((G.take i).drop q)).length ≤ 40 := by
    have := join_len ((G.take i).drop q) (fun g hg => h g (List.mem_of_mem_take (List.mem_of_mem_drop hg)))
    rw [List.length_drop, List.length_take] at this; omega
  unfold textAt
  split
  · have := h1 i; omega
  · have := h1 p; simp; omega
theorem take_snoc (G : List Nat) {i : Nat} (h : i < G.length) : G.take (i + 1) = G.take i ++ [G.getD i 0] := by
  rw [List.take_add_one, List.getElem?_eq_getElem h, List.getD_eq_getElem?_getD, List.getElem?_eq_getElem h]; rfl
/-- a group ahead of the run -/
theorem textAt_first (G : List Nat) (p q : Nat) (h : 0 < G.length) (hp : p ≠ 0) : textAt G p q 1 = textAt G p q 0 ++ hexs (G.getD 0 0) := by
  unfold textAt
  rw [if_pos (by omega), if_pos (by omega), take_snoc G h]
  simp [join]
theorem textAt_more (G : List Nat) (p q i : Nat) (h : i < G.length) (hi : 0 < i) (hp : p = 255 ∨ i < p) : textAt G p q (i + 1) = textAt G p q i ++ 58 :: hexs (G.getD i 0) := by
  unfold textAt
  rw [if_pos (by omega), if_pos (by omega), take_snoc G h, join_snoc, if_neg]
  intro he
  have := congrArg List.length he
  rw [List.length_take, List.length_nil] at this; omega
/-- the run, and the first group behind it -/
theorem textAt_run (G : List Nat) (p q : Nat) (h : q < G.length) (hpq : p < q) (h255 : p ≠ 255) : textAt G p q (q + 1) = textAt G p q p ++ 58 :: 58 :: hexs (G.getD q 0) := by
  unfold textAt
  rw [if_neg (by omega), if_pos (by omega), take_snoc G h, List.drop_append_of_le_length (by rw [List.length_take]; omega), List.drop_of_length_le (by rw [List.length_take]; omega)]
  simp [join]
/-- a group behind the run -/
theorem textAt_behind (G : List Nat) (p q i : Nat) (h : i < G.length) (hpq : p < q) (hqi : q < i) (h255 : p ≠ 255) : textAt G p q (i + 1) = textAt G p q i ++ 58 :: hexs (G.getD i 0) := by
  unfold textAt
  rw [if_neg (by omega), if_neg (by omega), take_snoc G h, List.drop_append_of_le_length (by rw [List.length_take]; omega), join_snoc, if_neg]
  · simp
  · intro he
    have := congrArg List.length he
    rw [List.length_drop, List.length_take, List.length_nil] at this; omega
theorem textAt_all (G : List Nat) (p q : Nat) (h8 : G.length = 8) (hr : IsRun G p q) : textAt G p q 8 = text6 G p q := by
  unfold textAt text6
  rcases hr with ⟨rfl, rfl⟩ | ⟨h1, h2, -⟩
  · rw [if_pos (by omega), if_pos rfl, List.take_of_length_le (by omega)]
  · rw [if_neg (by omega), if_neg (by omega), show G.take 8 = G from List.take_of_length_le (by omega)]
theorem textAt_end (G : List Nat) (p : Nat) (h8 : G.length = 8) (hp : p < 8) : textAt G p 8 p ++ [58, 58] = text6 G p 8 := by
  unfold textAt text6
  rw [if_pos (by omega), if_neg (by omega), List.drop_of_length_le (by omega)]
  simp [join]

/-- The numeral of a byte, and the text of four bytes. -/
abbrev dec (x : UInt8) : List UInt8 := Lib.decDigits x.toNat
def text4 (a b c d : UInt8) : List UInt8 := dec a ++ 46 :: (dec b ++ 46 :: (dec c ++ 46 :: dec d))
/-- The value of decimal digits. -/
def decval (l : List UInt8) : Nat := l.foldl (fun a c => a * 10 + (c.toNat - 48)) 0
theorem decval_succ (l : List UInt8) (k : Nat) (h : k < l.length) : decval (l.take (k + 1)) = decval (l.take k) * 10 + (l[k].toNat - 48) := by
  unfold decval
  rw [List.take_add_one, List.getElem?_eq_getElem h, Option.toList_some, List.foldl_append]
  rfl

theorem decDigits_small (n : Nat) (h : n < 10) : Lib.decDigits n = [UInt8.ofNat (48 + n)] := by rw [Lib.decDigits, dif_pos h]
theorem decDigits_big (n : Nat) (h : ¬ n < 10) : Lib.decDigits n = Lib.decDigits (n / 10) ++ [UInt8.ofNat (48 + n % 10)] := by rw [Lib.decDigits, dif_neg h]
/-- the numeral of a byte, by its digits -/
def dig3 (n : Nat) : List UInt8 := if n < 10 then [UInt8.ofNat (48 + n)] else if n < 100 then [UInt8.ofNat (48 + n / 10), UInt8.ofNat (48 + n % 10)] else [UInt8.ofNat (48 + n / 100), UInt8.ofNat (48 + n / 10 % 10), UInt8.ofNat (48 + n % 10)]
theorem dec_eq (n : Nat) (h : n < 1000) : Lib.decDigits n = dig3 n := by
  unfold dig3
  by_cases h1 : n < 10
  · rw [decDigits_small n h1, if_pos h1]
  · rw [if_neg h1, decDigits_big n h1]
    by_cases h2 : n < 100
    · rw [if_pos h2, decDigits_small (n / 10) (by omega)]; rfl
    · rw [if_neg h2, decDigits_big (n / 10) (by omega), decDigits_small (n / 10 / 10) (by omega), show n / 10 / 10 = n / 100 by omega]; rfl
/-- What the reader of numerals asks at each digit of a byte's numeral. -/
theorem dig3_reads : ∀ n : Fin 256, (dig3 n).length ≤ 3 ∧ 1 ≤ (dig3 n).length ∧ decval (dig3 n) = n.val ∧
    ∀ k : Fin 3, (hk : k.val < (dig3 n).length) → 48 ≤ ((dig3 n)[k.val]).toNat ∧ ((dig3 n)[k.val]).toNat ≤ 57 ∧ decval ((dig3 n).take (k.val + 1)) ≤ 255 ∧ ¬ (k.val = 1 ∧ decval ((dig3 n).take k.val) = 0) := by
  decide +kernel
theorem dec_reads (x : UInt8) : (dec x).length ≤ 3 ∧ 1 ≤ (dec x).length ∧ decval (dec x) = x.toNat ∧
    ∀ k, (hk : k < (dec x).length) → 48 ≤ ((dec x)[k]).toNat ∧ ((dec x)[k]).toNat ≤ 57 ∧ decval ((dec x).take (k + 1)) ≤ 255 ∧ ¬ (k = 1 ∧ decval ((dec x).take k) = 0) := by
  have h := dig3_reads ⟨x.toNat, x.toNat_lt⟩
  have e : dec x = dig3 x.toNat := dec_eq _ (by have := x.toNat_lt; omega)
  rw [e]
  exact ⟨h.1, h.2.1, h.2.2.1, fun k hk => h.2.2.2 ⟨k, by have := h.1; simp at this hk ⊢; omega⟩ hk⟩
end Go.Proofs.YtchlkclpikdbjaaGreatDoor
namespace Go.Proofs.YtchlkclpikdbjaaGreatDoor
set_option linter.unusedVariables false
set_option linter.unusedSimpArgs false
open Go.RowKit

theorem zzDigit_ok (c : UInt8) (w : World) : Calls Tryz.prog 309 #[.int .u8 (c.toNat : Int)] w fun e w' => e = .returned (.int .i64 (digv c)) ∧ w = w' := by
  have hc := c.toNat_lt
  unfold digv
  generalize c.toNat = n at hc ⊢
  go_enter Tryz.func309, Tryz.ntmps309
  go_wp2
  all_goals
    go_ret
    refine ⟨ret_int ?_, rfl⟩
    repeat' split
    all_goals omega

theorem i64_and15 (k : Nat) (h : k < 65536) : bits .and .i64 (k : Int) 15 = ((k % 16 : Nat) : Int) := by
  have := bits_mask .i64 63 (by decide) (fun n h0 h1 => by rw [IntKind.wrap_i64]; omega) 4 (by decide) (k : Int) (by omega) (by omega)
  simpa using this

theorem digit_at : ∀ d : Fin 16, (ByteArray.mk #[48, 49, 50, 51, 52, 53, 54, 55, 56, 57, 97, 98, 99, 100, 101, 102]).extract d.val (d.val + 1) = ⟨[hexc d].toArray⟩ := by decide

theorem zzHex_ok (n : Nat) (hn : n < 65536) (w : World) : Calls Tryz.prog 198 #[.int .i64 n] w fun e w' => e = .returned (.string ⟨(hexs n).toArray⟩) ∧ w = w' := by
  go_enter Tryz.func198, Tryz.ntmps198
  go_wp2
  go_loopg [0, 3, 4] (n + 2) (fun g s0 s3 s4 wx => w = wx ∧ ∃ (k : Nat) (t : List UInt8) (b : Bool), s0 = .int .i64 k ∧ s3 = .string ⟨t.toArray⟩ ∧ s4 = .bool b ∧ k ≤ n ∧ g = (if b then k + 2 else 1) ∧ Aside ((if b then hexs k ++ t else t) = hexs n))
  case atStart => exact ⟨rfl, n, [], true, rfl, rfl, rfl, Nat.le_refl _, rfl, by simp [Aside]⟩
  case round =>
    obtain ⟨rfl, k, t, b, rfl, rfl, rfl, hk, hg, HA⟩ := hrel
    cases b with
    | true =>
      have hA : hexs k ++ t = hexs n := by simpa using HA.out
      have ht : t.length ≤ 4 := by
        have h1 := congrArg List.length hA
        have h2 := hexs_len4 hn
        rw [List.length_append] at h1
        omega
      have HB : Aside (hexs k ++ t = hexs n) := hA
      have hand := i64_and15 k (by omega)
      have hd : (ByteArray.mk #[48, 49, 50, 51, 52, 53, 54, 55, 56, 57, 97, 98, 99, 100, 101, 102]).extract (k % 16) (k % 16 + 1) ++ ⟨t.toArray⟩ = ⟨(hexc (k % 16) :: t).toArray⟩ := by
        rw [digit_at ⟨k % 16, by omega⟩]; apply ByteArray.ext; simp
      clear HA hA
      have Hd := Lib.hid hd
      clear hd
      by_cases h16 : k < 16
      · have hq : ¬ (0 < (k : Int) / 16) := by omega
        go_wp2
        · go_roundg 1
          case measure => omega
          case rel =>
            refine ⟨rfl, k / 16, hexc (k % 16) :: t, false, by go_num, by rw [← Hd.out], rfl, by omega, rfl, ?_⟩
            have := HB.out
            rw [hexs_small h16] at this
            rw [show k % 16 = k by omega]
            exact this
      · have hq : 0 < (k : Int) / 16 := by omega
        go_wp2
        · go_roundg (k / 16 + 2)
          case measure => omega
          case rel =>
            refine ⟨rfl, k / 16, hexc (k % 16) :: t, true, by go_num, by rw [← Hd.out], rfl, by omega, rfl, ?_⟩
            have := HB.out
            rw [hexs_big h16] at this
            unfold Aside; simpa using this
    | false =>
      have hA : t = hexs n := by simpa using HA.out
      have HB : Aside (t = hexs n) := hA
      clear HA hA hg
      go_wp2
      go_ret
      have e : t = hexs n := HB.out
      subst e
      exact ⟨rfl, rfl⟩

/-- all bits alike, all alike -/
theorem bits_alike : ∀ z : Fin 256, (∀ j : Fin 8, (z.val / 2 ^ (7 - j.val)) % 2 = 0) → z.val = 0 := by decide +kernel
theorem byte_alike (x y : UInt8) (h : ∀ j, j < 8 → ((x.toNat ^^^ y.toNat) / 2 ^ (7 - j)) % 2 = 0) : x = y := by
  have hz : x.toNat ^^^ y.toNat < 256 := Nat.xor_lt_two_pow (n := 8) x.toNat_lt y.toNat_lt
  have h0 : x.toNat ^^^ y.toNat = 0 := bits_alike ⟨_, hz⟩ (fun j => h j.val j.isLt)
  apply UInt8.toNat.inj
  have : x.toNat ^^^ y.toNat ^^^ y.toNat = y.toNat := by rw [h0, Nat.zero_xor]
  rw [Nat.xor_assoc, Nat.xor_self, Nat.xor_zero] at this
  exact this

theorem getD_lt {α : Type} (l : List α) (d : α) {k : Nat} (h : k < l.length) : l.getD k d = l[k] := by
  rw [List.getD_eq_getElem?_getD, List.getElem?_eq_getElem h]; rfl
theorem map_at (l : List UInt8) {k : Nat} (h : k < l.length) : (l.map B)[k]? = some (.int .u8 ((l.getD k 0).toNat : Int)) := by
  rw [List.getElem?_map, List.getElem?_eq_getElem h, getD_lt _ _ h]; rfl

/-- the bit k of bytes -/
def bitAt (l p : List UInt8) (k : Nat) : Nat := (((l.getD (k / 8) 0).toNat ^^^ (p.getD (k / 8) 0).toNat) / 2 ^ (7 - k % 8)) % 2
theorem bits_prefix (l p : List UInt8) (hl : p.length ≤ l.length) (h : ∀ k, k < 8 * p.length → bitAt l p k = 0) : l.take p.length = p := by
  apply List.ext_getElem
  · rw [List.length_take]; omega
  · intro i h1 h2
    rw [List.getElem_take]
    apply byte_alike
    intro j hj
    have := h (8 * i + j) (by omega)
    unfold bitAt at this
    have e1 : (8 * i + j) / 8 = i := by omega
    have e2 : (8 * i + j) % 8 = j := by omega
    rw [e1, e2, getD_lt _ _ (show i < l.length by omega), getD_lt _ _ h2] at this
    exact this
theorem bit_differs (l p : List UInt8) (k : Nat) (hk : k < 8 * p.length) (h : bitAt l p k ≠ 0) : l.take p.length ≠ p := by
  intro e
  apply h
  unfold bitAt
  have : l.getD (k / 8) 0 = p.getD (k / 8) 0 := by
    conv => rhs; rw [← e]
    rw [List.getD_eq_getElem?_getD, List.getD_eq_getElem?_getD, List.getElem?_take_of_lt (by omega)]
  rw [this, Nat.xor_self]; simp
theorem u8_and1 (q : Nat) (h : q < 256) : bits .and .u8 (q : Int) 1 = ((q % 2 : Nat) : Int) := by
  have := bits_mask .u8 8 (by decide) wraps_u8 1 (by decide) (q : Int) (by omega) (by omega)
  simpa using this
end Go.Proofs.YtchlkclpikdbjaaGreatDoor
namespace Go.Proofs.YtchlkclpikdbjaaGreatDoor
set_option linter.unusedVariables false
set_option linter.unusedSimpArgs false
open Go.RowKit

theorem isZeros_ok (l : List UInt8) (c g o : Nat) (w : World) (hl : Row w g o (l.map B)) (hm : l.length ≤ 140737488351232) :
    Calls Tryz.prog 197 #[.slice (some ⟨g, o, none⟩) l.length c] w fun e w' => e = .returned (.bool (l.all (· == 0))) ∧ w = w' := by
  go_enter Tryz.func197, Tryz.ntmps197
  go_wp2
  go_loopg [3] (l.length + 1) (fun gk s3 wx => w = wx ∧ ∃ i : Nat, s3 = .int .i64 i ∧ i ≤ l.length ∧ gk = l.length + 1 - i ∧ Aside (∀ x ∈ l.take i, x = 0))
  case atStart => exact ⟨rfl, 0, rfl, by omega, rfl, fun k hk => by simp at hk⟩
  case round =>
    obtain ⟨rfl, i, rfl, hi, hg, HA⟩ := hrel
    by_cases hlt : i < l.length
    · have c1 : w.cell? ⟨g, o + i, none⟩ = some (.int .u8 ((l.getD i 0).toNat : Int)) := hl i _ (map_at l (by omega))
      have hx : l.getD i 0 = l[i] := getD_lt _ _ hlt
      generalize l.getD i 0 = x at c1 hx
      have Hx := Lib.hid hx
      clear hx
      go_wp2
      · go_ret
        have h1 : ((x.toNat : Int) != 0) = true := by assumption
        refine ⟨ret_bool ?_, rfl⟩
        symm
        rw [List.all_eq_false]
        refine ⟨l[i], List.getElem_mem hlt, ?_⟩
        rw [← Hx.out]
        intro h2
        have h3 : x = 0 := by simpa using h2
        rw [h3] at h1
        simp at h1
      · have h1 : ((x.toNat : Int) != 0) = false := by assumption
        go_roundg (l.length + 1 - (i + 1))
        case measure => omega
        case rel =>
          refine ⟨rfl, i + 1, by go_num, by omega, rfl, fun y hy => ?_⟩
          rw [List.take_add_one, List.getElem?_eq_getElem hlt] at hy
          rcases List.mem_append.1 hy with hy | hy
          · exact HA y hy
          · have h2 : y = x := by rw [Hx.out]; simpa using hy
            rw [h2]
            apply UInt8.toNat.inj
            simp at h1
            simpa using h1
    · have hle : ¬ ((i : Int) < (l.length : Int)) := by omega
      have HE : Hid (l.all (· == 0) = true) := Lib.hid (by
        rw [List.all_eq_true]
        intro x hx
        have := HA x (by rw [List.take_of_length_le (by omega)]; exact hx)
        simp [this])
      go_wp2
      go_ret
      exact ⟨ret_bool HE.out.symm, rfl⟩

/-- what stands ahead of four bytes in sixteen -/
abbrev pre12 : List UInt8 := [0, 0, 0, 0, 0, 0, 0, 0, 0, 0, 255, 255]
theorem mapped_iff (l : List UInt8) (h : l.length = 16) : ((l.take 10).all (· == 0) && (l.getD 10 0 == 255) && (l.getD 11 0 == 255)) = decide (l.take 12 = pre12) := by
  match l, h with
  | [a, b, c, d, e, f, g, i, j, k, m, n, p, q, r, s], _ =>
    rw [Bool.eq_iff_iff]
    simp [and_assoc]

theorem to4_four (a : Option Addr) (c : Nat) (w : World) : Calls Tryz.prog 157 #[.slice a 4 c] w fun e w' => e = .returned (.slice a 4 c) ∧ w = w' := by
  go_enter Tryz.func157, Tryz.ntmps157
  go_wp2
  go_ret
  exact ⟨rfl, rfl⟩

theorem row_take {w : World} {g o : Nat} {l : List UInt8} (hl : Row w g o (l.map B)) (k : Nat) : Row w g o ((l.take k).map B) := by
  rw [List.map_take]; exact hl.take k

theorem to4_plain (l : List UInt8) (h : l.length = 16) (hne : l.take 12 ≠ pre12) (c g o : Nat) (hc : 16 ≤ c) (w : World) (hl : Row w g o (l.map B)) :
    Calls Tryz.prog 157 #[.slice (some ⟨g, o, none⟩) 16 c] w fun e w' => e = .returned (.slice none 0 0) ∧ w = w' := by
  have hm := mapped_iff l h
  rw [decide_eq_false hne] at hm
  have c1 : w.cell? ⟨g, o + 10, none⟩ = some (.int .u8 ((l.getD 10 0).toNat : Int)) := hl 10 _ (map_at l (by omega))
  have c2 : w.cell? ⟨g, o + 11, none⟩ = some (.int .u8 ((l.getD 11 0).toNat : Int)) := hl 11 _ (map_at l (by omega))
  have hz := isZeros_ok (l.take 10) c g o w (row_take hl 10) (by rw [List.length_take]; omega)
  rw [List.length_take, h, show min 10 16 = 10 from rfl] at hz
  generalize (l.take 10).all (· == 0) = z at hm hz
  generalize l.getD 10 0 = x at hm c1
  generalize l.getD 11 0 = y at hm c2
  have Hm := Lib.hid hm
  have Hz := Lib.hid hz
  clear hm hz
  go_enter Tryz.func157, Tryz.ntmps157
  go_wp2_with (go_at_call 197; refine Hz.out.mono ?_; rintro e w' ⟨rfl, rfl⟩)
  all_goals
    go_ret
    first
    | exact ⟨rfl, rfl⟩
    | (exfalso
       have h1 : (x.toNat : Int) = 255 := by assumption
       have h2 : ((y.toNat : Int) == 255) = true := by assumption
       have h3 : z = true := by assumption
       have e1 : x = 255 := by apply UInt8.toNat.inj; simp; omega
       have e2 : y = 255 := by apply UInt8.toNat.inj; simp at h2 ⊢; omega
       have := Hm.out
       rw [e1, e2, h3] at this
       simp at this)

theorem to4_mapped (l : List UInt8) (h : l.length = 16) (he : l.take 12 = pre12) (c g o : Nat) (hc : 16 ≤ c) (w : World) (hl : Row w g o (l.map B)) :
    Calls Tryz.prog 157 #[.slice (some ⟨g, o, none⟩) 16 c] w fun e w' => e = .returned (.slice (some ⟨g, o + 12, none⟩) 4 (c - 12)) ∧ w = w' := by
  have hm := mapped_iff l h
  rw [decide_eq_true he] at hm
  have c1 : w.cell? ⟨g, o + 10, none⟩ = some (.int .u8 ((l.getD 10 0).toNat : Int)) := hl 10 _ (map_at l (by omega))
  have c2 : w.cell? ⟨g, o + 11, none⟩ = some (.int .u8 ((l.getD 11 0).toNat : Int)) := hl 11 _ (map_at l (by omega))
  have hz := isZeros_ok (l.take 10) c g o w (row_take hl 10) (by rw [List.length_take]; omega)
  rw [List.length_take, h, show min 10 16 = 10 from rfl] at hz
  simp only [Bool.and_eq_true, beq_iff_eq] at hm
  obtain ⟨⟨h1, h2⟩, h3⟩ := hm
  rw [h2] at c1
  rw [h3] at c2
  rw [h1] at hz
  have Hz := Lib.hid hz
  clear h1 h2 h3 hz
  go_enter Tryz.func157, Tryz.ntmps157
  go_wp2_with (go_at_call 197; refine Hz.out.mono ?_; rintro e w' ⟨rfl, rfl⟩)
  go_ret
  exact ⟨rfl, rfl⟩

theorem to16_ok (a : Option Addr) (c : Nat) (w : World) : Calls Tryz.prog 164 #[.slice a 16 c] w fun e w' => e = .returned (.slice a 16 c) ∧ w = w' := by
  go_enter Tryz.func164, Tryz.ntmps164
  go_wp2
  go_ret
  exact ⟨rfl, rfl⟩
end Go.Proofs.YtchlkclpikdbjaaGreatDoor
