/-
  More words on memory: appends out of a slice that may be empty, lists of components with whatever codes, and the blocks on which a fact rests. No program in it but its form.
-/
import Derived.Test.YtchlkclpikdbjaaGreatDoorText
import Derived.Test.YtchlkclpikdbjaaGreatDoorProto
import Derived.Deep.RegionHeld3
import Derived.StillTailTactics
import Derived.Laws.AppendOwn
import Derived.OwnWalk
import Derived.Deep.LoopGhost
import Derived.Deep.DeepCutAuto
import Derived.Deep.Upon
import Derived.Deep.QuietTactic
import Derived.BigQuiet
namespace Go.Proofs.YtchlkclpikdbjaaGreatDoor
set_option linter.unusedVariables false
set_option linter.unusedSimpArgs false
open Go.RowKit Go.Sort

theorem ext_drewN (w : World) (k : Nat) : Ext w (w.drewN k) := ⟨rfl, rfl, rfl, Nat.le_refl _, fun _ _ => rfl⟩
theorem szB {n k : Nat} (h : n ≠ k) : ((n : Int) == (k : Int)) = false := by
  simp only [beq_eq_false_iff_ne, ne_eq]
  omega
theorem str_tail {s : ByteArray} {a b : List UInt8} (h : s.data.toList = a ++ b) (k : Nat) (hk : k = a.length) : (s.extract k s.size).data.toList = b := by
  subst hk
  have hs : s.size = a.length + b.length := by rw [Lib.size_eq, h, List.length_append]
  simp only [ByteArray.data_extract, Array.toList_extract, h, List.extract_eq_take_drop]
  simp [hs]
theorem str_len {s : ByteArray} {l : List UInt8} (h : s.data.toList = l) : s.size = l.length := by rw [Lib.size_eq, h]
theorem keep5 {w0 w w' : World} {p0 p1 p2 p3 : Addr} {v0 v1 v2 v3 : Value} (he : Ext w w') (h : w.cell? p0 = some v0 ∧ w.cell? p1 = some v1 ∧ w.cell? p2 = some v2 ∧ w.cell? p3 = some v3 ∧ Ext w0 w) :
    w'.cell? p0 = some v0 ∧ w'.cell? p1 = some v1 ∧ w'.cell? p2 = some v2 ∧ w'.cell? p3 = some v3 ∧ Ext w0 w' :=
  ⟨he.cell h.1, he.cell h.2.1, he.cell h.2.2.1, he.cell h.2.2.2.1, h.2.2.2.2.trans he⟩
theorem below_grown {B : Nat} {w0 w w' : World} {row : Option Nat} (h : Below B w0 w) (hB : B ≤ w.heap.size) (hg : w.grownBy w' row) (hr : ∀ k, row = some k → B ≤ k) : Below B w0 w' :=
  h.trans ⟨hg.os, hg.tape, hg.output, hg.size, fun k hk => hg.block k (by omega) (by intro he; have := hr k he.symm; omega)⟩

/-- A slice of m elements that holds the cells news; of nothing, it may be any. -/
def SrcC (w : World) (size : Nat) (v : Value) (m : Nat) (news : List Value) : Prop :=
  ∃ a c, v = .slice a m c ∧ news.length = m * size ∧ (m ≠ 0 → ∃ ad, a = some ad ∧ ∀ j u, news[j]? = some u → w.cell? (ad.add j) = some u)
theorem Ext.srcC {w w' : World} (h : Ext w w') {size m : Nat} {v : Value} {news : List Value} (hs : SrcC w size v m news) : SrcC w' size v m news := by
  obtain ⟨a, c, h1, h2, h3⟩ := hs
  exact ⟨a, c, h1, h2, fun hm => by obtain ⟨ad, ha, hc⟩ := h3 hm; exact ⟨ad, ha, fun j u hj => h.cell (hc j u hj)⟩⟩
theorem By.src {w : World} {l : List UInt8} {v : Value} (h : By w l v) : SrcC w 1 v l.length (l.map B) := by
  obtain ⟨a, c, h1, h2, h3⟩ := h
  refine ⟨a, c, h1, by simp, fun hm => ?_⟩
  obtain ⟨g, o, ha, hr⟩ := h3 (by intro hn; exact hm (by simp [hn]))
  exact ⟨_, ha, fun j u hj => by rw [addr_add]; exact hr j u hj⟩
section
variable {P : Program}
theorem run_append_where (w : World) (base : Nat) (t ty e : TypeId) (i : TypeInfo) (z : Value) (size bytes : Nat) (ht : P.underlying t = some (.slice e)) (hi : P.info? e = some i) (hz : i.zero = some z)
    (hsize : i.size = size) (hby : i.bytes = bytes) (hzs : z.cells.size = size) (hsz : 0 < size) (v : Value) (n : Nat) (xs : List Value) (hown : w.ownsRow base e size v n xs)
    (ad : Addr) (m c : Nat) (news : List Value) (hl : news.length = m * size) (hm : 0 < m) (hnews : ∀ j u, news[j]? = some u → w.cell? (ad.add j) = some u) (h1 : ∀ u ∈ news, u.oneCell' = true)
    (h63 : n + m ≤ maxLen) (hbytes : (n + m) * bytes ≤ 140737488355328) (hbase : base ≤ w.heap.size) :
    ∃ v' w', (Builtin.append_ #[t, t] ty #[v, .slice (some ad) m c]).run P w = .ok v' w' ∧ w'.ownsRow base e size v' (n + m) (xs ++ news) ∧ w.grownBy w' v.ownBlock ∧ (∀ k, v'.ownBlock = some k → v.ownBlock = some k ∨ k = w.heap.size) := by
  obtain ⟨v', w', hr, h2, h3, -⟩ := run_append_own (P := P) w base t ty e i z size bytes ht hi hz hsize hby hzs hsz v n xs hown ad m c news hl hnews h1 h63 hbytes hbase
  refine ⟨v', w', hr, h2, h3, fun k hk => ?_⟩
  have hn63 : n + m ≤ 9223372036854775807 := by simp only [maxLen] at h63; omega
  subst hsize hby
  rcases hown.2 with ⟨rfl, rfl⟩ | ⟨g, cap, cur, rfl, hbg, hg, hnc, hcm, hcs, htake⟩
  · have hr2 := run_append_nil (P := P) w t ty e i z ht hi hz ad m c news hl hnews hm (by omega) (by simp only [Nat.zero_add] at hbytes; omega)
    rw [hr2] at hr
    injection hr with hr _
    rw [← hr] at hk
    right
    simp [Value.ownBlock] at hk
    exact hk.symm
  · by_cases hroom : n + m ≤ cap
    · have hfit : n * i.size + news.length ≤ cur.size := by rw [hl, hcs, ← Nat.add_mul]; exact Nat.mul_le_mul_right _ hroom
      have hr2 := run_append_room (P := P) w t ty e i ht hi g n cap cur hg ad m c news hl hnews h1 hroom hfit
      rw [hr2] at hr
      injection hr with hr _
      rw [← hr] at hk
      exact .inl hk
    · have holds : ∀ j u, xs[j]? = some u → w.cell? ((⟨g, 0, none⟩ : Addr).add j) = some u := hown.cells (g := g) rfl
      have hr2 := run_append_grow (P := P) w t ty e i z ht hi hz ⟨g, 0, none⟩ n cap xs hown.1 holds ad m c news hl hnews (by omega) (by omega) (growslice_fits (by omega) hbytes)
      rw [hr2] at hr
      injection hr with hr _
      rw [← hr] at hk
      right
      simp [Value.ownBlock] at hk
      exact hk.symm
theorem wpList_append_where {w : World} {ops : Array Oper} {rest : List Oper} {o : Oper} {a : Act} {Q : Exit → Act → World → Prop} (hgd : o.guard = none) (s x : Operand) (t : TypeId)
    (ho : o.op = .call { callee := .builtin .append, args := #[s, x], argTypes := #[t, t] })
    (base : Nat) (e : TypeId) (i : TypeInfo) (z : Value) (size bytes : Nat) (ht : P.underlying t = some (.slice e)) (hi : P.info? e = some i) (hz : i.zero = some z)
    (hsize : i.size = size) (hby : i.bytes = bytes) (hzs : z.cells.size = size) (hsz : 0 < size) (v : Value) (n : Nat) (xs : List Value) (hs : a.eval s = v) (hown : w.ownsRow base e size v n xs)
    (ad : Addr) (m c : Nat) (news : List Value) (hx : a.eval x = .slice (some ad) m c) (hl : news.length = m * size) (hm : 0 < m) (hnews : ∀ j u, news[j]? = some u → w.cell? (ad.add j) = some u) (h1 : ∀ u ∈ news, u.oneCell' = true)
    (h63 : n + m ≤ maxLen) (hbytes : (n + m) * bytes ≤ 140737488355328) (hbase : base ≤ w.heap.size)
    (h : ∀ v' w', w'.ownsRow base e size v' (n + m) (xs ++ news) → w.grownBy w' v.ownBlock → (∀ k, v'.ownBlock = some k → v.ownBlock = some k ∨ k = w.heap.size) → wpList P ops Q rest (a.put o.dst v') w') : wpList P ops Q (o :: rest) a w :=
  wpList_plain hgd fun K hK => by
    obtain ⟨v', w', hr, h2, h3, h4⟩ := run_append_where (P := P) w base t o.type e i z size bytes ht hi hz hsize hby hzs hsz v n xs hown ad m c news hl hm hnews h1 h63 hbytes hbase
    unfold Oper.wp execOp
    simp only [ho, resolve, invoke, builtin, Sem.run_bind, Sem.run_pure, Result.andThen_ok, List.map_toArray, List.map_cons, List.map_nil, hs, hx, hr]
    exact hK _ _ (h v' w' h2 h3 h4)
/-- the append of one step of a region that draws its order -/
theorem step_append_where {w : World} {ops : Array Oper} {o : Oper} {a : Act} {K : Act → World → Prop} {Q : Exit → Act → World → Prop} {E : Prop} (hgd : o.guard = none) (s x : Operand) (t : TypeId)
    (ho : o.op = .call { callee := .builtin .append, args := #[s, x], argTypes := #[t, t] })
    (base : Nat) (e : TypeId) (i : TypeInfo) (z : Value) (size bytes : Nat) (ht : P.underlying t = some (.slice e)) (hi : P.info? e = some i) (hz : i.zero = some z)
    (hsize : i.size = size) (hby : i.bytes = bytes) (hzs : z.cells.size = size) (hsz : 0 < size) (v : Value) (n : Nat) (xs : List Value) (hs : a.eval s = v) (hown : w.ownsRow base e size v n xs)
    (ad : Addr) (m c : Nat) (news : List Value) (hx : a.eval x = .slice (some ad) m c) (hl : news.length = m * size) (hm : 0 < m) (hnews : ∀ j u, news[j]? = some u → w.cell? (ad.add j) = some u) (h1 : ∀ u ∈ news, u.oneCell' = true)
    (h63 : n + m ≤ maxLen) (hbytes : (n + m) * bytes ≤ 140737488355328) (hbase : base ≤ w.heap.size)
    (h : ∀ v' w', w'.ownsRow base e size v' (n + m) (xs ++ news) → w.grownBy w' v.ownBlock → (∀ k, v'.ownBlock = some k → v.ownBlock = some k ∨ k = w.heap.size) → K (a.put o.dst v') w') :
    if Region.wanted o (yielded ops a.tmps) = true then Oper.wp P o a w K Q else E := by
  have hw : Region.wanted o (yielded ops a.tmps) = true := by simp [Region.wanted, hgd]
  rw [if_pos hw]
  obtain ⟨v', w', hr, h2, h3, h4⟩ := run_append_where (P := P) w base t o.type e i z size bytes ht hi hz hsize hby hzs hsz v n xs hown ad m c news hl hm hnews h1 h63 hbytes hbase
  unfold Oper.wp execOp
  simp only [ho, resolve, invoke, builtin, Sem.run_bind, Sem.run_pure, Result.andThen_ok, List.map_toArray, List.map_cons, List.map_nil, hs, hx, hr]
  exact h v' w' h2 h3 h4
/-- One append to a row of the call's own, out of a slice that may be empty. -/
theorem run_append_any (w : World) (base : Nat) (t ty e : TypeId) (i : TypeInfo) (z : Value) (size bytes : Nat) (ht : P.underlying t = some (.slice e)) (hi : P.info? e = some i) (hz : i.zero = some z)
    (hsize : i.size = size) (hby : i.bytes = bytes) (hzs : z.cells.size = size) (hsz : 0 < size) (v : Value) (n : Nat) (xs : List Value) (hown : w.ownsRow base e size v n xs)
    (x : Value) (m : Nat) (news : List Value) (hx : SrcC w size x m news) (h1 : ∀ u ∈ news, u.oneCell' = true)
    (h63 : n + m ≤ maxLen) (hbytes : (n + m) * bytes ≤ 140737488355328) (hbase : base ≤ w.heap.size) :
    ∃ v' w', (Builtin.append_ #[t, t] ty #[v, x]).run P w = .ok v' w' ∧ w'.ownsRow base e size v' (n + m) (xs ++ news) ∧ w.grownBy w' v.ownBlock ∧ (∀ k, v'.ownBlock = some k → v.ownBlock = some k ∨ k = w.heap.size) := by
  obtain ⟨a, c, rfl, hl, hc⟩ := hx
  rcases Nat.eq_zero_or_pos m with rfl | hm
  · obtain rfl : news = [] := by simpa using hl
    have hsrc : Src P i.size t (.slice a 0 c) 0 [] w := by
      cases a with
      | none => exact Src.ofNil w ht c
      | some ad => exact Src.ofSlice w ht ad 0 c [] (by simp) (fun j u hj => by simp at hj) (fun u hu => by simp at hu)
    have hv : ∃ a' c', v = .slice a' n c' ∧ n ≤ c' := by
      rcases hown.2 with ⟨rfl, rfl⟩ | ⟨g, cap, cur, rfl, hbg, hg, hnc, hcm, hcs, htake⟩
      · exact ⟨none, 0, rfl, Nat.le_refl _⟩
      · exact ⟨_, cap, rfl, hnc⟩
    obtain ⟨a', c', rfl, hle⟩ := hv
    refine ⟨_, w, run_append_nothing w t t ty e i ht hi a' n c' hle _ hsrc, by simpa using hown, ⟨rfl, rfl, rfl, Nat.le_refl _, fun _ _ _ => rfl⟩, fun k hk => .inl hk⟩
  · obtain ⟨ad, rfl, hcell⟩ := hc (by omega)
    exact run_append_where w base t ty e i z size bytes ht hi hz hsize hby hzs hsz v n xs hown ad m c news hl hm hcell h1 h63 hbytes hbase
theorem wpList_append_any {w : World} {ops : Array Oper} {rest : List Oper} {o : Oper} {a : Act} {Q : Exit → Act → World → Prop} (hgd : o.guard = none) (s x : Operand) (t : TypeId)
    (ho : o.op = .call { callee := .builtin .append, args := #[s, x], argTypes := #[t, t] })
    (base : Nat) (e : TypeId) (i : TypeInfo) (z : Value) (size bytes : Nat) (ht : P.underlying t = some (.slice e)) (hi : P.info? e = some i) (hz : i.zero = some z)
    (hsize : i.size = size) (hby : i.bytes = bytes) (hzs : z.cells.size = size) (hsz : 0 < size) (v : Value) (n : Nat) (xs : List Value) (hs : a.eval s = v) (hown : w.ownsRow base e size v n xs)
    (y : Value) (m : Nat) (news : List Value) (hx : a.eval x = y) (hy : SrcC w size y m news) (h1 : ∀ u ∈ news, u.oneCell' = true)
    (h63 : n + m ≤ maxLen) (hbytes : (n + m) * bytes ≤ 140737488355328) (hbase : base ≤ w.heap.size)
    (h : ∀ v' w', w'.ownsRow base e size v' (n + m) (xs ++ news) → w.grownBy w' v.ownBlock → (∀ k, v'.ownBlock = some k → v.ownBlock = some k ∨ k = w.heap.size) → wpList P ops Q rest (a.put o.dst v') w') : wpList P ops Q (o :: rest) a w :=
  wpList_plain hgd fun K hK => by
    obtain ⟨v', w', hr, h2, h3, h4⟩ := run_append_any (P := P) w base t o.type e i z size bytes ht hi hz hsize hby hzs hsz v n xs hown y m news hy h1 h63 hbytes hbase
    unfold Oper.wp execOp
    simp only [ho, resolve, invoke, builtin, Sem.run_bind, Sem.run_pure, Result.andThen_ok, List.map_toArray, List.map_cons, List.map_nil, hs, hx, hr]
    exact hK _ _ (h v' w' h2 h3 h4)
theorem step_append_any {w : World} {ops : Array Oper} {o : Oper} {a : Act} {K : Act → World → Prop} {Q : Exit → Act → World → Prop} {E : Prop} (hgd : o.guard = none) (s x : Operand) (t : TypeId)
    (ho : o.op = .call { callee := .builtin .append, args := #[s, x], argTypes := #[t, t] })
    (base : Nat) (e : TypeId) (i : TypeInfo) (z : Value) (size bytes : Nat) (ht : P.underlying t = some (.slice e)) (hi : P.info? e = some i) (hz : i.zero = some z)
    (hsize : i.size = size) (hby : i.bytes = bytes) (hzs : z.cells.size = size) (hsz : 0 < size) (v : Value) (n : Nat) (xs : List Value) (hs : a.eval s = v) (hown : w.ownsRow base e size v n xs)
    (y : Value) (m : Nat) (news : List Value) (hx : a.eval x = y) (hy : SrcC w size y m news) (h1 : ∀ u ∈ news, u.oneCell' = true)
    (h63 : n + m ≤ maxLen) (hbytes : (n + m) * bytes ≤ 140737488355328) (hbase : base ≤ w.heap.size)
    (h : ∀ v' w', w'.ownsRow base e size v' (n + m) (xs ++ news) → w.grownBy w' v.ownBlock → (∀ k, v'.ownBlock = some k → v.ownBlock = some k ∨ k = w.heap.size) → K (a.put o.dst v') w') :
    if Region.wanted o (yielded ops a.tmps) = true then Oper.wp P o a w K Q else E := by
  have hw : Region.wanted o (yielded ops a.tmps) = true := by simp [Region.wanted, hgd]
  rw [if_pos hw]
  obtain ⟨v', w', hr, h2, h3, h4⟩ := run_append_any (P := P) w base t o.type e i z size bytes ht hi hz hsize hby hzs hsz v n xs hown y m news hy h1 h63 hbytes hbase
  unfold Oper.wp execOp
  simp only [ho, resolve, invoke, builtin, Sem.run_bind, Sem.run_pure, Result.andThen_ok, List.map_toArray, List.map_cons, List.map_nil, hs, hx, hr]
  exact h v' w' h2 h3 h4
end

theorem own_shape {w : World} {base k : Nat} {e : TypeId} {size : Nat} {u : Value} {xs : List Value} (h : w.ownsRow base e size u k xs) (hk : 0 < k) : ∃ g cap, u = .slice (some ⟨g, 0, none⟩) k cap := by
  rcases h.2 with ⟨-, h1⟩ | ⟨g, cap, cur, rfl, -⟩
  · omega
  · exact ⟨g, cap, rfl⟩
/-- A call answers yes or no; of a yes, F is known. -/
def Tells (w : World) (F : Prop) (e : Ending) (w' : World) : Prop := ∃ b, e = .returned (.bool b) ∧ Ext w w' ∧ (b = true → F)
theorem Tells.no {w w' : World} {F : Prop} (h : Ext w w') : Tells w F (.returned (.bool false)) w' := ⟨false, rfl, h, fun h => by cases h⟩
theorem Tells.yes {w w' : World} {F : Prop} (h : Ext w w') (hf : F) : Tells w F (.returned (.bool true)) w' := ⟨true, rfl, h, fun _ => hf⟩
/-- w' holds the blocks of S as w does. -/
def SameOn (S : Nat → Prop) (w w' : World) : Prop := ∀ k, S k → k < w.heap.size → w'.heap[k]? = w.heap[k]?
theorem SameOn.cell {S : Nat → Prop} {w w' : World} (h : SameOn S w w') {p : Addr} {v : Value} (hs : S p.block) (hv : w.cell? p = some v) : w'.cell? p = some v := by
  rw [World.cell?_of_block (h p.block hs (block_lt_of_cell hv))]; exact hv
theorem SameOn.row {S : Nat → Prop} {w w' : World} (h : SameOn S w w') {g o : Nat} {cs : List Value} (hs : S g) (hr : Row w g o cs) : Row w' g o cs := fun j v hj => h.cell (p := ⟨g, o + j, none⟩) hs (hr j v hj)
theorem SameOn.of_ext {w w' : World} (h : Ext w w') (S : Nat → Prop) : SameOn S w w' := fun k _ hk => Below.block h k hk
theorem SameOn.of_grown {w w' : World} {row : Option Nat} (h : w.grownBy w' row) : SameOn (fun k => row ≠ some k) w w' := fun k hs hk => h.block k hk (fun e => hs e.symm)
theorem SameOn.mono {S T : Nat → Prop} {w w' : World} (h : SameOn S w w') (hST : ∀ k, T k → S k) : SameOn T w w' := fun k hk => h k (hST k hk)
theorem SameOn.trans {S : Nat → Prop} {a b c : World} (h : SameOn S a b) (k : SameOn S b c) (hz : a.heap.size ≤ b.heap.size) : SameOn S a c := fun j hj hl => (k j hj (by omega)).trans (h j hj hl)

/-- A slice of the bytes l, in blocks of S. -/
def ByS (S : Nat → Prop) (w : World) (l : List UInt8) (v : Value) : Prop :=
  ∃ a c, v = .slice a l.length c ∧ l.length ≤ c ∧ (l ≠ [] → ∃ g o, a = some ⟨g, o, none⟩ ∧ S g ∧ Row w g o (l.map B))
theorem ByS.by {S : Nat → Prop} {w : World} {l : List UInt8} {v : Value} (h : ByS S w l v) : By w l v := by
  obtain ⟨a, c, h1, h2, h3⟩ := h
  exact ⟨a, c, h1, h2, fun hne => by obtain ⟨g, o, ha, -, hr⟩ := h3 hne; exact ⟨g, o, ha, hr⟩⟩
theorem ByS.same {S : Nat → Prop} {w w' : World} {l : List UInt8} {v : Value} (h : ByS S w l v) (hs : SameOn S w w') : ByS S w' l v := by
  obtain ⟨a, c, h1, h2, h3⟩ := h
  exact ⟨a, c, h1, h2, fun hne => by obtain ⟨g, o, ha, hg, hr⟩ := h3 hne; exact ⟨g, o, ha, hg, hs.row hg hr⟩⟩
theorem ByS.mono {S T : Nat → Prop} {w : World} {l : List UInt8} {v : Value} (h : ByS S w l v) (hst : ∀ k, k < w.heap.size → S k → T k) : ByS T w l v := by
  obtain ⟨a, c, h1, h2, h3⟩ := h
  exact ⟨a, c, h1, h2, fun hne => by obtain ⟨g, o, ha, hg, hr⟩ := h3 hne; exact ⟨g, o, ha, hst g (hr.lt (by simpa using hne)) hg, hr⟩⟩
theorem By.s {w : World} {l : List UInt8} {v : Value} (h : By w l v) : ByS (fun k => k < w.heap.size) w l v := by
  obtain ⟨a, c, h1, h2, h3⟩ := h
  exact ⟨a, c, h1, h2, fun hne => by obtain ⟨g, o, ha, hr⟩ := h3 hne; exact ⟨g, o, ha, hr.lt (by simpa using hne), hr⟩⟩

/-- A list of the thin package's components, codes and values, in blocks of S; of none, any slice of none. -/
def IzS (S : Nat → Prop) (w : World) (cs : List (Int × List UInt8)) (v : Value) : Prop :=
  ∃ a cap, v = .slice a cs.length cap ∧ cs.length ≤ cap ∧ (cs ≠ [] → ∃ g o, a = some ⟨g, o, none⟩ ∧ S g ∧ ∀ i, (hi : i < cs.length) → ∃ u, w.cell? ⟨g, o + 2 * i, none⟩ = some (.int .i64 cs[i].1) ∧ w.cell? ⟨g, o + (2 * i + 1), none⟩ = some u ∧ ByS S w cs[i].2 u)
abbrev IzAt (w : World) (cs : List (Int × List UInt8)) (v : Value) : Prop := IzS (fun _ => True) w cs v
theorem IzS.same {S : Nat → Prop} {w w' : World} {cs : List (Int × List UInt8)} {v : Value} (h : IzS S w cs v) (hs : SameOn S w w') : IzS S w' cs v := by
  obtain ⟨a, cap, h1, h2, h3⟩ := h
  refine ⟨a, cap, h1, h2, fun hne => ?_⟩
  obtain ⟨g, o, ha, hg, hc⟩ := h3 hne
  refine ⟨g, o, ha, hg, fun i hi => ?_⟩
  obtain ⟨u, k1, k2, k3⟩ := hc i hi
  exact ⟨u, hs.cell hg k1, hs.cell hg k2, k3.same hs⟩
theorem IzS.mono {S T : Nat → Prop} {w : World} {cs : List (Int × List UInt8)} {v : Value} (h : IzS S w cs v) (hst : ∀ k, k < w.heap.size → S k → T k) : IzS T w cs v := by
  obtain ⟨a, cap, h1, h2, h3⟩ := h
  refine ⟨a, cap, h1, h2, fun hne => ?_⟩
  obtain ⟨g, o, ha, hg, hc⟩ := h3 hne
  refine ⟨g, o, ha, hst g ?_ hg, fun i hi => ?_⟩
  · obtain ⟨u, k1, -⟩ := hc 0 (List.length_pos_iff.2 hne)
    exact block_lt_of_cell k1
  · obtain ⟨u, k1, k2, k3⟩ := hc i hi
    exact ⟨u, k1, k2, k3.mono hst⟩
theorem IzS.ext {S : Nat → Prop} {w w' : World} {cs : List (Int × List UInt8)} {v : Value} (h : IzS S w cs v) (he : Ext w w') : IzS S w' cs v := h.same (SameOn.of_ext he S)
theorem IzS.at {S : Nat → Prop} {w : World} {cs : List (Int × List UInt8)} {v : Value} (h : IzS S w cs v) : IzAt w cs v := h.mono fun _ _ _ => trivial

/-- A list of such lists. -/
def LzS (S : Nat → Prop) (w : World) (ls : List (List (Int × List UInt8))) (v : Value) : Prop :=
  ∃ a cap, v = .slice a ls.length cap ∧ ls.length ≤ cap ∧ (ls ≠ [] → ∃ g o, a = some ⟨g, o, none⟩ ∧ S g ∧ ∀ i, (hi : i < ls.length) → ∃ u, w.cell? ⟨g, o + i, none⟩ = some u ∧ IzS S w ls[i] u)
abbrev LzAt (w : World) (ls : List (List (Int × List UInt8))) (v : Value) : Prop := LzS (fun _ => True) w ls v
theorem LzS.same {S : Nat → Prop} {w w' : World} {ls : List (List (Int × List UInt8))} {v : Value} (h : LzS S w ls v) (hs : SameOn S w w') : LzS S w' ls v := by
  obtain ⟨a, cap, h1, h2, h3⟩ := h
  refine ⟨a, cap, h1, h2, fun hne => ?_⟩
  obtain ⟨g, o, ha, hg, hc⟩ := h3 hne
  refine ⟨g, o, ha, hg, fun i hi => ?_⟩
  obtain ⟨u, k1, k2⟩ := hc i hi
  exact ⟨u, hs.cell hg k1, k2.same hs⟩
theorem LzS.ext {S : Nat → Prop} {w w' : World} {ls : List (List (Int × List UInt8))} {v : Value} (h : LzS S w ls v) (he : Ext w w') : LzS S w' ls v := h.same (SameOn.of_ext he S)
end Go.Proofs.YtchlkclpikdbjaaGreatDoor
namespace Go.Proofs.YtchlkclpikdbjaaGreatDoor
set_option linter.unusedVariables false
set_option linter.unusedSimpArgs false
open Go.RowKit



def lowerL : List UInt8 := [97, 98, 99, 100, 101, 102, 103, 104, 105, 106, 107, 108, 109, 110, 111, 112, 113, 114, 115, 116, 117, 118, 119, 120, 121, 122]
def upperL : List UInt8 := [65, 66, 67, 68, 69, 70, 71, 72, 73, 74, 75, 76, 77, 78, 79, 80, 81, 82, 83, 84, 85, 86, 87, 88, 89, 90]
def digitsL : List UInt8 := [48, 49, 50, 51, 52, 53, 54, 55, 56, 57]
/-- The characters of a base. -/
def charsL (b : Nat) : List UInt8 :=
  if b = 48 then [48, 49]
  else if b = 102 then digitsL ++ lowerL.take 6
  else if b = 70 then digitsL ++ upperL.take 6
  else if b = 98 ∨ b = 99 then lowerL ++ (digitsL.take 8).drop 2
  else if b = 66 ∨ b = 67 then upperL ++ (digitsL.take 8).drop 2
  else if b = 118 ∨ b = 116 then digitsL ++ lowerL.take 22
  else if b = 86 ∨ b = 84 then digitsL ++ upperL.take 22
  else if b = 107 then digitsL ++ lowerL
  else if b = 75 then digitsL ++ upperL
  else if b = 122 then digitsL.drop 1 ++ upperL.take 8 ++ (upperL.take 14).drop 9 ++ upperL.drop 15 ++ lowerL.take 11 ++ lowerL.drop 12
  else if b = 90 then digitsL.drop 1 ++ lowerL.take 11 ++ lowerL.drop 12 ++ upperL.take 8 ++ (upperL.take 14).drop 9 ++ upperL.drop 15
  else if b = 109 ∨ b = 77 then upperL ++ lowerL ++ digitsL ++ [43, 47]
  else if b = 117 ∨ b = 85 then upperL ++ lowerL ++ digitsL ++ [45, 95]
  else []
/-- The bases but identity. -/
def basesL : List Nat := [48, 102, 70, 98, 66, 99, 67, 118, 86, 116, 84, 107, 75, 122, 90, 109, 77, 117, 85]

set_option maxRecDepth 100000 in
theorem BaseChars_ok (b : Nat) (hb : b ∈ basesL) (w : World) : Calls Tryz.prog 14 #[.int .i64 (b : Int)] w fun e w' => e = .returned (.string ⟨(charsL b).toArray⟩) ∧ Ext w w' := by
  unfold basesL at hb
  simp only [List.mem_cons, List.mem_nil_iff, or_false] at hb
  rcases hb with rfl | rfl | rfl | rfl | rfl | rfl | rfl | rfl | rfl | rfl | rfl | rfl | rfl | rfl | rfl | rfl | rfl | rfl | rfl
  all_goals
    go_enter Tryz.func14, Tryz.ntmps14
    go_wp2
    try (go_quiet (fail); go_wp2)
    go_ret
    exact ⟨rfl, by first | exact Ext.refl _ | exact Ext.drew (Ext.refl _) | exact ext_drewN _ _⟩

/-- How many bits a character stands for. -/
def bitsL (b : Nat) : Nat :=
  if b = 48 then 1 else if b = 102 ∨ b = 70 then 4
  else if b = 98 ∨ b = 99 ∨ b = 66 ∨ b = 67 ∨ b = 118 ∨ b = 116 ∨ b = 86 ∨ b = 84 then 5
  else if b = 109 ∨ b = 77 ∨ b = 117 ∨ b = 85 then 6 else 0
def padsB (b : Nat) : Bool := b == 99 || b == 67 || b == 116 || b == 84 || b == 77 || b == 85

set_option maxRecDepth 100000 in
theorem BaseBits_ok (b : Nat) (hb : b ∈ basesL) (w : World) : Calls Tryz.prog 15 #[.int .i64 (b : Int)] w fun e w' => e = .returned (.int .i64 (bitsL b : Int)) ∧ Ext w w' := by
  have HC := Lib.hid (fun w => BaseChars_ok b hb w)
  unfold basesL at hb
  simp only [List.mem_cons, List.mem_nil_iff, or_false] at hb
  rcases hb with rfl | rfl | rfl | rfl | rfl | rfl | rfl | rfl | rfl | rfl | rfl | rfl | rfl | rfl | rfl | rfl | rfl | rfl | rfl
  all_goals
    go_enter Tryz.func15, Tryz.ntmps15
    go_wp2_with (go_at_call 14; refine (HC.out _).mono ?_; rintro e w1 ⟨rfl, he⟩)
    go_ret
    exact ⟨rfl, he⟩

theorem basePads_ok (b : Nat) (hb : b ∈ basesL) (w : World) : Calls Tryz.prog 17 #[.int .i64 (b : Int)] w fun e w' => e = .returned (.bool (padsB b)) ∧ w = w' := by
  unfold basesL at hb
  simp only [List.mem_cons, List.mem_nil_iff, or_false] at hb
  rcases hb with rfl | rfl | rfl | rfl | rfl | rfl | rfl | rfl | rfl | rfl | rfl | rfl | rfl | rfl | rfl | rfl | rfl | rfl | rfl
  all_goals
    go_enter Tryz.func17, Tryz.ntmps17
    go_wp2
    go_ret
    exact ⟨rfl, rfl⟩

/-- The base that a number chooses; 0 is identity. -/
def baseAt (k : Nat) : Nat := (0 :: basesL).getD (k % 20) 0
theorem Bases_ok (w : World) : Calls Tryz.prog 11 #[] w fun e w' => e = .returned (.slice (some ⟨w.heap.size, 0, none⟩) 20 20) ∧ Row w' w.heap.size 0 ((0 :: basesL).map fun n : Nat => (.int .i64 (n : Int) : Value)) ∧ Ext w w' := by
  go_enter Tryz.func11, Tryz.ntmps11
  go_wp2
  go_ret
  refine ⟨rfl, ?_, Ext.alloc (Ext.refl w) _⟩
  intro j v hj
  rw [Nat.zero_add, cell_of_row _ _ j _ _ _ (heap_alloc_new w _)]
  rw [← hj]
  simp [basesL]
theorem baseOf_ok (k : Nat) (hk : k < 256) (w : World) : Calls Tryz.prog 4 #[.int .u8 (k : Int)] w fun e w' => e = .returned (.int .i64 (baseAt k : Int)) ∧ Ext w w' := by
  go_enter Tryz.func4, Tryz.ntmps4
  go_wp2_with (fail)
  refine (Bases_ok _).mono ?_
  rintro e w1 ⟨rfl, hr, he⟩
  have hc : w1.cell? ⟨w.heap.size, 0 + k % 20, none⟩ = some (.int .i64 (baseAt k : Int)) := hr (k % 20) _ (by
    rw [List.getElem?_map]
    unfold baseAt
    have : k % 20 < (0 :: basesL).length := by have := Nat.mod_lt k (show 0 < 20 by decide); exact this
    rw [List.getElem?_eq_getElem this, getD_lt _ _ this]; rfl)
  rw [Nat.zero_add] at hc
  go_wp2
  go_ret
  exact ⟨rfl, he⟩
theorem baseAt_mem (k : Nat) : baseAt k = 0 ∨ baseAt k ∈ basesL := by
  have : ∀ j : Fin 20, (0 :: basesL).getD j.val 0 = 0 ∨ (0 :: basesL).getD j.val 0 ∈ basesL := by decide
  exact this ⟨k % 20, by omega⟩
end Go.Proofs.YtchlkclpikdbjaaGreatDoor
namespace Go.Proofs.YtchlkclpikdbjaaGreatDoor
set_option linter.unusedVariables false
set_option linter.unusedSimpArgs false
open Go.RowKit Go.Sort

/-- the bit i of bytes, zeros behind them -/
def bitv (bs : List UInt8) (i : Nat) : Nat := if i < 8 * bs.length then (bs.getD (i / 8) 0).toNat / 2 ^ (7 - i % 8) % 2 else 0
theorem bitv_lt (bs : List UInt8) (i : Nat) : bitv bs i < 2 := by unfold bitv; split <;> omega
/-- t bits from a place on -/
def digk (bs : List UInt8) (p : Nat) : Nat → Nat
  | 0 => 0
  | t + 1 => 2 * digk bs p t + bitv bs (p + t)
theorem digk_lt (bs : List UInt8) (p : Nat) : ∀ t, digk bs p t < 2 ^ t
  | 0 => by simp [digk]
  | t + 1 => by have := digk_lt bs p t; have := bitv_lt bs (p + t); rw [digk, Nat.pow_succ]; omega
theorem digk_64 (bs : List UInt8) (p t : Nat) (h : t ≤ 6) : digk bs p t < 64 := Nat.lt_of_lt_of_le (digk_lt bs p t) (by have := Nat.pow_le_pow_right (show 0 < 2 by decide) h; simpa using this)
/-- the first k characters -/
def bitText (cs : List UInt8) (n : Nat) (bs : List UInt8) (k : Nat) : List UInt8 := (List.range k).map fun j => cs.getD (digk bs (n * j) n) 0
theorem bitText_zero (cs : List UInt8) (n : Nat) (bs : List UInt8) : bitText cs n bs 0 = [] := rfl
theorem bitText_len (cs : List UInt8) (n : Nat) (bs : List UInt8) (k : Nat) : (bitText cs n bs k).length = k := by simp [bitText]
theorem bitText_succ (cs : List UInt8) (n : Nat) (bs : List UInt8) (k : Nat) : bitText cs n bs (k + 1) = bitText cs n bs k ++ [cs.getD (digk bs (n * k) n) 0] := by
  unfold bitText; rw [List.range_succ, List.map_append]; rfl
/-- how many characters -/
def charCount (n len : Nat) : Nat := (8 * len + n - 1) / n
theorem charCount_of {n len k : Nat} (hn : 1 ≤ n) (h6 : n ≤ 6) (h1 : 8 * len ≤ n * k) (h2 : n * k < 8 * len + n) : k = charCount n len := by
  unfold charCount
  have : n = 1 ∨ n = 2 ∨ n = 3 ∨ n = 4 ∨ n = 5 ∨ n = 6 := by omega
  rcases this with rfl | rfl | rfl | rfl | rfl | rfl <;> omega
theorem i64_and1 (q : Nat) (h : q < 65536) : bits .and .i64 (q : Int) 1 = ((q % 2 : Nat) : Int) := by
  have := bits_mask .i64 63 (by decide) (fun n h0 h1 => by rw [IntKind.wrap_i64]; omega) 1 (by decide) (q : Int) (by omega) (by omega)
  simpa using this
theorem info_u8 : (Tryz.prog.info? 5).map (fun i => (i.zero, i.size, i.bytes)) = some (some (.int .u8 0), 1, 1) := by kernel_rfl
theorem own_by {w : World} {base : Nat} {e : TypeId} {v : Value} {l : List UInt8} (h : w.ownsRow base e 1 v l.length (l.map B)) : By w l v := by
  obtain ⟨hl, h2⟩ := id h
  rcases h2 with ⟨rfl, h0⟩ | ⟨g, cap, cur, rfl, hb, hg, hn, hm, hs, ht⟩
  · exact ⟨none, 0, by rw [h0], by omega, fun hne => absurd (List.eq_nil_of_length_eq_zero h0) hne⟩
  · exact ⟨_, cap, rfl, hn, fun _ => ⟨g, 0, rfl, row_of_own h⟩⟩
theorem own_one (w : World) (base : Nat) (e : TypeId) (v : Value) (hb : base ≤ w.heap.size) : (w.alloc (.cells #[v] e (0, 0))).ownsRow base e 1 (.slice (some ⟨w.heap.size, 0, none⟩) 1 1) 1 [v] :=
  ⟨rfl, .inr ⟨w.heap.size, 1, #[v], rfl, hb, heap_alloc_new w _, Nat.le_refl _, by decide, rfl, rfl⟩⟩
theorem char_at (cs : List UInt8) (k : Nat) (h : k < cs.length) : (⟨cs.toArray⟩ : ByteArray).data.toList[k]? = some (cs.getD k 0) := by
  rw [getD_lt _ _ h]
  simp [List.getElem?_eq_getElem h]
theorem row_new (w : World) (cs : Array Value) (t : TypeId) : Row (w.alloc (.cells cs t (0, 0))) w.heap.size 0 cs.toList := fun j v hj => by
  rw [Nat.zero_add, cell_of_row _ _ j _ _ _ (heap_alloc_new w _)]
  simpa using hj
theorem src_one1 (w : World) (t : TypeId) (v : Value) : SrcC (w.alloc (.cells #[v] t (0, 0))) 1 (.slice (some ⟨w.heap.size, 0, none⟩) 1 1) 1 [v] :=
  ⟨_, 1, rfl, rfl, fun _ => ⟨_, rfl, fun j u hj => by rw [addr_add]; exact row_new w #[v] t j u hj⟩⟩
theorem getElem_eq {S : ByteArray} {cs : List UInt8} (h : S = ⟨cs.toArray⟩) {d : Nat} (hd : d < S.size) : S[d] = cs.getD d 0 := by
  subst h
  have h1 := Lib.data_getElem? (⟨cs.toArray⟩ : ByteArray) d hd
  rw [char_at cs d (by simpa [ByteArray.size] using hd)] at h1
  exact (Option.some.inj h1).symm
def padN (pads : Bool) (n m : Nat) : Nat := if pads then (if n = 6 then (4 - m % 4) % 4 else (8 - m % 8) % 8) else 0
/-- the text of bytes in a base of bits -/
def bitsText (b : Nat) (bs : List UInt8) : List UInt8 :=
  UInt8.ofNat b :: (bitText (charsL b) (bitsL b) bs (charCount (bitsL b) bs.length) ++ List.replicate (padN (padsB b) (bitsL b) (charCount (bitsL b) bs.length)) 61)

theorem bit_facts : ∀ b ∈ basesL, bitsL b ≠ 0 → 1 ≤ bitsL b ∧ bitsL b ≤ 6 ∧ (charsL b).length = 2 ^ bitsL b ∧ b < 256 := by decide

set_option maxHeartbeats 4000000 in
set_option maxRecDepth 100000 in
theorem BaseText_bits (b : Nat) (hb : b ∈ basesL) (hn0 : bitsL b ≠ 0) (bs : List UInt8) (hlen : bs.length ≤ 1000) (v : Value) (w : World) (hv : By w bs v) :
    Calls Tryz.prog 7 #[.int .i64 (b : Int), v] w fun e w' => e = .returned (.string ⟨(bitsText b bs).toArray⟩) ∧ Ext w w' := by
  obtain ⟨h1, h6, hcs, h256⟩ := bit_facts b hb hn0
  obtain ⟨a, c, rfl, hc, hcell⟩ := hv
  obtain ⟨i0, hi, hz0, hz1, hz2⟩ := info_parts info_u8
  have HC := Lib.hid (fun w => BaseChars_ok b hb w)
  have HB := Lib.hid (fun w => BaseBits_ok b hb w)
  have HP := Lib.hid (fun w => basePads_ok b hb w)
  have hb0 : ((b : Int) == 0) = false := szB (k := 0) (by intro h; subst h; revert hb; decide)
  have hbx : IntKind.u8.wrap (b : Int) = (b : Int) := by rw [IntKind.wrap_u8]; omega
  have hbB : Value.int .u8 (b : Int) = B (UInt8.ofNat b) := by simp [B]; omega
  obtain ⟨n, hn⟩ : ∃ n, n = bitsL b := ⟨_, rfl⟩
  have HN := Lib.hid hn
  rw [← hn] at h1 h6 hcs hn0
  have hnz : ((n : Int) == 0) = false := szB (k := 0) hn0
  obtain ⟨cs, hcse⟩ : ∃ cs, cs = charsL b := ⟨_, rfl⟩
  have HCE := Lib.hid hcse
  rw [← hcse] at hcs
  obtain ⟨S, hS⟩ : ∃ S : ByteArray, S = ⟨cs.toArray⟩ := ⟨_, rfl⟩
  have HS := Lib.hid hS
  have hSz : S.size = 2 ^ n := by rw [Lib.size_eq, hS]; simpa using hcs
  have HSZ := Lib.hid hSz
  have HCS := Lib.hid hcs
  have HCELL := Lib.hid hcell
  have HBB := Lib.hid hbB
  obtain ⟨len, hl⟩ : ∃ len, len = bs.length := ⟨_, rfl⟩
  rw [← hl] at hlen hc ⊢
  have HL := Lib.hid hl
  clear hn hcse hS hSz hcs hcell hbB hl hn0
  go_enter Tryz.func7, Tryz.ntmps7
  go_wp2_with (fail)
  refine (HC.out _).mono ?_
  rintro e w1 ⟨rfl, he1⟩
  rw [← HCE.out, ← HS.out]
  go_wp2_with (fail)
  refine (HB.out _).mono ?_
  rintro e w2 ⟨rfl, he2⟩
  rw [← HN.out]
  have hown0 := Ext.own he2 (own_one w1 w.heap.size 5 (.int .u8 (b : Int)) he1.size)
  have hE2 : Ext w w2 := (Ext.alloc he1 _).trans he2
  rw [HBB.out] at hown0
  have HE1 := Lib.hid hE2
  have HO := Lib.hid hown0
  clear he1 he2 hE2 hown0
  go_wp2
  go_loopg [6, 8] (8 * len + n + 1) (fun gk s6 s8 wx => ∃ (k p : Nat), s8 = .int .i64 (p : Int) ∧ p < 8 * len + n ∧ gk = 8 * len + n + 1 - p ∧ Hid (p = n * k) ∧ Hid (wx.ownsRow w.heap.size 5 1 s6 (k + 1) ((UInt8.ofNat b :: bitText cs n bs k).map B)) ∧ Hid (Ext w wx))
  case atStart => exact ⟨0, 0, rfl, by omega, rfl, Lib.hid rfl, Lib.hid HO.out, Lib.hid HE1.out⟩
  case round =>
    obtain ⟨k, p, rfl, hp, hgk, HPK, hown, hE⟩ := hrel
    by_cases hlt : p < 8 * len
    · have hltI : (p : Int) < 8 * (len : Int) := by omega
      go_wp2
      go_loopg [9, 10] (n + 1) (fun gk s9 s10 wx => wr = wx ∧ ∃ t d : Nat, s9 = .int .i64 (d : Int) ∧ s10 = .int .i64 ((p + t : Nat) : Int) ∧ t ≤ n ∧ gk = n + 1 - t ∧ d < 64 ∧ Hid (d = digk bs p t))
      case atStart => exact ⟨rfl, 0, 0, rfl, rfl, by omega, rfl, by omega, Lib.hid rfl⟩
      case round =>
        obtain ⟨rfl, t, d, rfl, rfl, ht, hgk2, hd64, hd⟩ := hrel
        by_cases htn : t < n
        · have hI1 : ((p + t : Nat) : Int) < (p : Int) + (n : Int) := by omega
          obtain ⟨i, hip⟩ : ∃ i, i = p + t := ⟨_, rfl⟩
          rw [← hip] at hI1 ⊢
          have HIP := Lib.hid hip
          by_cases hin : i < 8 * len
          · have hI2 : (i : Int) < 8 * (len : Int) := by omega
            have hne : bs ≠ [] := by intro h; have := HL.out; rw [h] at this; simp at this; omega
            obtain ⟨g, o, rfl, hr⟩ := HCELL.out hne
            have c1 : wr.cell? ⟨g, o + i / 8, none⟩ = some (.int .u8 ((bs.getD (i / 8) 0).toNat : Int)) := hE.out.cell (hr (i / 8) _ (map_at bs (by have := HL.out; omega)))
            have b1 : i / 8 < len := by omega
            have hx := (bs.getD (i / 8) 0).toNat_lt
            have hbit : bitv bs i = (bs.getD (i / 8) 0).toNat / 2 ^ (7 - i % 8) % 2 := by unfold bitv; rw [if_pos (by have := HL.out; omega)]
            generalize bs.getD (i / 8) 0 = x at c1 hbit hx
            have hand : bits .and .i64 ((x.toNat : Int) / 2 ^ (7 - i % 8)) 1 = ((x.toNat / 2 ^ (7 - i % 8) % 2 : Nat) : Int) := by
              rw [← i64_and1 _ (Nat.lt_of_le_of_lt (Nat.div_le_self _ _) (by omega))]; simp
            have hq : x.toNat / 2 ^ (7 - i % 8) < 256 := Nat.lt_of_le_of_lt (Nat.div_le_self _ _) hx
            have hwr : wrap64 ((x.toNat : Int) / 2 ^ (7 - i % 8)) = (x.toNat : Int) / 2 ^ (7 - i % 8) := by
              have e : (x.toNat : Int) / 2 ^ (7 - i % 8) = ((x.toNat / 2 ^ (7 - i % 8) : Nat) : Int) := by simp
              rw [e]; generalize x.toNat / 2 ^ (7 - i % 8) = z at hq; unfold wrap64; omega
            generalize hqe : x.toNat / 2 ^ (7 - i % 8) % 2 = q at hand hbit
            have hq2 : q < 2 := by omega
            have HB2 := Lib.hid hbit
            clear hbit hqe hip hr hne
            go_wp2
            go_roundg (n + 1 - (t + 1))
            case measure => omega
            case rel =>
              have hdn : 2 * d + q = digk bs p (t + 1) := by rw [digk, ← hd.out, ← HIP.out, HB2.out]
              refine ⟨rfl, t + 1, 2 * d + q, by go_num, by have := HIP.out; go_num, by omega, rfl, by rw [hdn]; exact digk_64 bs p (t + 1) (by omega), Lib.hid hdn⟩
          · have hI2 : ¬ ((i : Int) < 8 * (len : Int)) := by omega
            have HB2 := Lib.hid (show bitv bs i = 0 by unfold bitv; rw [if_neg (by have := HL.out; omega)])
            clear hip
            go_wp2
            go_roundg (n + 1 - (t + 1))
            case measure => omega
            case rel =>
              have hdn : 2 * d = digk bs p (t + 1) := by rw [digk, ← hd.out, ← HIP.out, HB2.out, Nat.add_zero]
              refine ⟨rfl, t + 1, 2 * d, by go_num, by have := HIP.out; go_num, by omega, rfl, by rw [hdn]; exact digk_64 bs p (t + 1) (by omega), Lib.hid hdn⟩
        · obtain rfl : n = t := by omega
          have hI1 : ¬ (((p + n : Nat) : Int) < (p : Int) + (n : Int)) := by omega
          have hpow : d < S.size := by rw [HSZ.out, hd.out]; exact digk_lt bs p n
          have hdI : (d : Int) < (S.size : Int) := by omega
          have HD := Lib.hid hd.out
          have hwE := hE.out.size
          have hk : k ≤ p := by rw [HPK.out]; exact Nat.le_mul_of_pos_left k h1
          clear hd
          go_wp2_with (at_builtin; refine wpList_append_any rfl _ _ 22 rfl w.heap.size 5 i0 _ 1 1 Tryz.underlying22 hi hz0 hz1 hz2 rfl (by decide) _ (k + 1) ((UInt8.ofNat b :: bitText cs n bs k).map B) rfl (Ext.own (Ext.alloc (Ext.refl _) _) hown.out) _ 1 [.int .u8 (S[d].toNat : Int)] rfl (src_one1 _ _ _) (by simp [Value.oneCell']) (by unfold maxLen; omega) (by omega) (by simp; omega) ?_; intro u' w5 hown5 hgr5 hwh5)
          have hS := getElem_eq HS.out hpow
          have hown6 : w5.ownsRow w.heap.size 5 1 u' (k + 1 + 1) ((UInt8.ofNat b :: bitText cs n bs (k + 1)).map B) := by
            rw [bitText_succ, ← HPK.out, ← HD.out, ← hS]
            simpa using hown5
          have hlt5 := hown.out.lt
          have hE5 : Ext w w5 := below_grown (Ext.alloc hE.out _) (Ext.alloc hE.out _).size hgr5 (fun j hj => (hlt5 j hj).1)
          have H6 := Lib.hid hown6
          have H5 := Lib.hid hE5
          clear hown6 hE5 hown5 hgr5 hwh5 hlt5 hS
          go_roundg (8 * len + n + 1 - (p + n))
          case measure => omega
          case rel => exact ⟨k + 1, p + n, by go_num, by omega, rfl, Lib.hid (by rw [HPK.out, Nat.mul_succ]), Lib.hid H6.out, Lib.hid H5.out⟩
    · have hltI : ¬ ((p : Int) < 8 * (len : Int)) := by omega
      have hm : k = charCount n len := charCount_of h1 h6 (by rw [← HPK.out]; omega) (by rw [← HPK.out]; omega)
      obtain ⟨hl8, HM⟩ : k ≤ 8006 ∧ Hid (k = charCount n len) := ⟨by have := Nat.le_mul_of_pos_left k h1; rw [← HPK.out] at this; omega, Lib.hid hm⟩
      have hown1 := hown.out
      have HO1 := Lib.hid hown1
      clear hm hown1 hgk
      obtain ⟨wh, hwh⟩ : ∃ wh : Nat, wh = if n = 6 then 4 else 8 := ⟨_, rfl⟩
      have HW := Lib.hid hwh
      clear hwh
      have hfin : ∀ r, r = (if padsB b then (wh - k % wh) % wh else 0) → UInt8.ofNat b :: (bitText cs n bs k ++ List.replicate r 61) = bitsText b bs := by
        intro r hr
        unfold bitsText
        rw [← HN.out, ← HCE.out, ← HL.out, ← HM.out, hr, HW.out]
        unfold padN
        congr 3
        cases padsB b
        · simp
        · by_cases h : n = 6 <;> simp [h]
      have HF := Lib.hid hfin
      clear hfin
      by_cases h66 : n = 6
      · obtain rfl : wh = 4 := by rw [HW.out, if_pos h66]
        have h66I : ((n : Int) == 6) = true := by simp [h66]
        clear h66
        go_wp2
        go_loopg [6] 20 (fun gk s6 wx => ∃ r : Nat, r ≤ 4 ∧ gk = 20 - r ∧ Hid (r ≤ (if padsB b then (4 - k % 4) % 4 else 0)) ∧ Hid (wx.ownsRow w.heap.size 5 1 s6 (k + 1 + r) ((UInt8.ofNat b :: (bitText cs n bs k ++ List.replicate r 61)).map B)) ∧ Hid (Ext w wx))
        case atStart => exact ⟨0, by omega, by omega, Lib.hid (Nat.zero_le _), Lib.hid (by simpa using HO1.out), Lib.hid hE.out⟩
        case round =>
          obtain ⟨r, hr, hgk3, hR, hown3, hE3⟩ := hrel
          obtain ⟨a6, c6, rfl⟩ := own_shape hown3.out (by omega)
          go_wp2_with (fail)
          refine (HP.out _).mono ?_
          rintro e w3 ⟨rfl, rfl⟩
          by_cases hpd : padsB b = true
          · rw [hpd]
            have hR1 := hR.out
            rw [hpd, if_pos rfl] at hR1
            by_cases hmod : (k + r) % 4 = 0
            · have hmI : (((k + 1 + r : Nat) : Int) - 1) % 4 = 0 := by omega
              have hmI2 : ((((k + 1 + r : Nat) : Int) - 1) % 4 == 0) = true := by rw [hmI]; rfl
              have hmI3 : ((((k + 1 + r : Nat) : Int) - 1) % 4 != 0) = false := by rw [hmI]; rfl
              have hpos : 0 ≤ ((k + 1 + r : Nat) : Int) - 1 := by omega
              have hl := HF.out r (by rw [hpd, if_pos rfl]; omega)
              have hby : By wr (UInt8.ofNat b :: (bitText cs n bs k ++ List.replicate r 61)) (.slice (some ⟨a6, 0, none⟩) (k + 1 + r) c6) := by
                have hle : (UInt8.ofNat b :: (bitText cs n bs k ++ List.replicate r 61)).length = k + 1 + r := by simp [bitText_len]; omega
                have := hown3.out
                rw [← hle] at this ⊢
                exact own_by this
              rw [hl] at hby
              have HBY := Lib.hid hby
              clear hby hl hmI
              go_wp2_with (refine wpList_str rfl _ rfl _ HBY.out ?_)
              go_ret
              exact ⟨rfl, hE3.out⟩
            · have hmI2 : ((((k + 1 + r : Nat) : Int) - 1) % 4 == 0) = false := by simp only [beq_eq_false_iff_ne, ne_eq]; omega
              have hmI3 : ((((k + 1 + r : Nat) : Int) - 1) % 4 != 0) = true := by simp only [bne_iff_ne, ne_eq]; omega
              have hpos : 0 ≤ ((k + 1 + r : Nat) : Int) - 1 := by omega
              have hwE := hE3.out.size
              go_wp2_with (at_builtin; refine wpList_append_any rfl _ _ 22 rfl w.heap.size 5 i0 _ 1 1 Tryz.underlying22 hi hz0 hz1 hz2 rfl (by decide) _ (k + 1 + r) ((UInt8.ofNat b :: (bitText cs n bs k ++ List.replicate r 61)).map B) rfl (Ext.own (Ext.alloc (Ext.refl _) _) hown3.out) _ 1 [.int .u8 61] rfl (src_one1 _ _ _) (by simp [Value.oneCell']) (by unfold maxLen; omega) (by omega) (by simp; omega) ?_; intro u' w5 hown5 hgr5 hwh5)
              have hown6 : w5.ownsRow w.heap.size 5 1 u' (k + 1 + (r + 1)) ((UInt8.ofNat b :: (bitText cs n bs k ++ List.replicate (r + 1) 61)).map B) := by
                rw [List.replicate_succ', ← List.append_assoc, ← List.cons_append, List.map_append]
                exact hown5
              have hlt5 := hown3.out.lt
              have hE5 : Ext w w5 := below_grown (Ext.alloc hE3.out _) (Ext.alloc hE3.out _).size hgr5 (fun j hj => (hlt5 j hj).1)
              have H6 := Lib.hid hown6
              have H5 := Lib.hid hE5
              have HPD := Lib.hid hpd
              clear hown6 hE5 hown5 hgr5 hwh5 hlt5 hpd
              go_roundg (20 - (r + 1))
              case measure => omega
              case rel => exact ⟨r + 1, by omega, rfl, Lib.hid (by rw [HPD.out, if_pos rfl]; omega), Lib.hid H6.out, Lib.hid H5.out⟩
          · have hpf : padsB b = false := by simpa using hpd
            rw [hpf]
            have hR1 := hR.out
            rw [hpf] at hR1
            obtain rfl : r = 0 := by simpa using hR1
            have hl := HF.out 0 (by rw [hpf]; rfl)
            have hby : By wr (UInt8.ofNat b :: (bitText cs n bs k ++ List.replicate 0 61)) (.slice (some ⟨a6, 0, none⟩) (k + 1 + 0) c6) := by
              have hle : (UInt8.ofNat b :: (bitText cs n bs k ++ List.replicate 0 61)).length = k + 1 + 0 := by simp [bitText_len]
              have := hown3.out
              rw [← hle] at this ⊢
              exact own_by this
            rw [hl] at hby
            have HBY := Lib.hid hby
            clear hby hl hR1 hpf hpd
            go_wp2_with (refine wpList_str rfl _ rfl _ HBY.out ?_)
            go_ret
            exact ⟨rfl, hE3.out⟩
      · obtain rfl : wh = 8 := by rw [HW.out, if_neg h66]
        have h66I : ((n : Int) == 6) = false := szB (k := 6) h66
        clear h66
        go_wp2
        go_loopg [6] 20 (fun gk s6 wx => ∃ r : Nat, r ≤ 8 ∧ gk = 20 - r ∧ Hid (r ≤ (if padsB b then (8 - k % 8) % 8 else 0)) ∧ Hid (wx.ownsRow w.heap.size 5 1 s6 (k + 1 + r) ((UInt8.ofNat b :: (bitText cs n bs k ++ List.replicate r 61)).map B)) ∧ Hid (Ext w wx))
        case atStart => exact ⟨0, by omega, by omega, Lib.hid (Nat.zero_le _), Lib.hid (by simpa using HO1.out), Lib.hid hE.out⟩
        case round =>
          obtain ⟨r, hr, hgk3, hR, hown3, hE3⟩ := hrel
          obtain ⟨a6, c6, rfl⟩ := own_shape hown3.out (by omega)
          go_wp2_with (fail)
          refine (HP.out _).mono ?_
          rintro e w3 ⟨rfl, rfl⟩
          by_cases hpd : padsB b = true
          · rw [hpd]
            have hR1 := hR.out
            rw [hpd, if_pos rfl] at hR1
            by_cases hmod : (k + r) % 8 = 0
            · have hmI : (((k + 1 + r : Nat) : Int) - 1) % 8 = 0 := by omega
              have hmI2 : ((((k + 1 + r : Nat) : Int) - 1) % 8 == 0) = true := by rw [hmI]; rfl
              have hmI3 : ((((k + 1 + r : Nat) : Int) - 1) % 8 != 0) = false := by rw [hmI]; rfl
              have hpos : 0 ≤ ((k + 1 + r : Nat) : Int) - 1 := by omega
              have hl := HF.out r (by rw [hpd, if_pos rfl]; omega)
              have hby : By wr (UInt8.ofNat b :: (bitText cs n bs k ++ List.replicate r 61)) (.slice (some ⟨a6, 0, none⟩) (k + 1 + r) c6) := by
                have hle : (UInt8.ofNat b :: (bitText cs n bs k ++ List.replicate r 61)).length = k + 1 + r := by simp [bitText_len]; omega
                have := hown3.out
                rw [← hle] at this ⊢
                exact own_by this
              rw [hl] at hby
              have HBY := Lib.hid hby
              clear hby hl hmI
              go_wp2_with (refine wpList_str rfl _ rfl _ HBY.out ?_)
              go_ret
              exact ⟨rfl, hE3.out⟩
            · have hmI2 : ((((k + 1 + r : Nat) : Int) - 1) % 8 == 0) = false := by simp only [beq_eq_false_iff_ne, ne_eq]; omega
              have hmI3 : ((((k + 1 + r : Nat) : Int) - 1) % 8 != 0) = true := by simp only [bne_iff_ne, ne_eq]; omega
              have hpos : 0 ≤ ((k + 1 + r : Nat) : Int) - 1 := by omega
              have hwE := hE3.out.size
              go_wp2_with (at_builtin; refine wpList_append_any rfl _ _ 22 rfl w.heap.size 5 i0 _ 1 1 Tryz.underlying22 hi hz0 hz1 hz2 rfl (by decide) _ (k + 1 + r) ((UInt8.ofNat b :: (bitText cs n bs k ++ List.replicate r 61)).map B) rfl (Ext.own (Ext.alloc (Ext.refl _) _) hown3.out) _ 1 [.int .u8 61] rfl (src_one1 _ _ _) (by simp [Value.oneCell']) (by unfold maxLen; omega) (by omega) (by simp; omega) ?_; intro u' w5 hown5 hgr5 hwh5)
              have hown6 : w5.ownsRow w.heap.size 5 1 u' (k + 1 + (r + 1)) ((UInt8.ofNat b :: (bitText cs n bs k ++ List.replicate (r + 1) 61)).map B) := by
                rw [List.replicate_succ', ← List.append_assoc, ← List.cons_append, List.map_append]
                exact hown5
              have hlt5 := hown3.out.lt
              have hE5 : Ext w w5 := below_grown (Ext.alloc hE3.out _) (Ext.alloc hE3.out _).size hgr5 (fun j hj => (hlt5 j hj).1)
              have H6 := Lib.hid hown6
              have H5 := Lib.hid hE5
              have HPD := Lib.hid hpd
              clear hown6 hE5 hown5 hgr5 hwh5 hlt5 hpd
              go_roundg (20 - (r + 1))
              case measure => omega
              case rel => exact ⟨r + 1, by omega, rfl, Lib.hid (by rw [HPD.out, if_pos rfl]; omega), Lib.hid H6.out, Lib.hid H5.out⟩
          · have hpf : padsB b = false := by simpa using hpd
            rw [hpf]
            have hR1 := hR.out
            rw [hpf] at hR1
            obtain rfl : r = 0 := by simpa using hR1
            have hl := HF.out 0 (by rw [hpf]; rfl)
            have hby : By wr (UInt8.ofNat b :: (bitText cs n bs k ++ List.replicate 0 61)) (.slice (some ⟨a6, 0, none⟩) (k + 1 + 0) c6) := by
              have hle : (UInt8.ofNat b :: (bitText cs n bs k ++ List.replicate 0 61)).length = k + 1 + 0 := by simp [bitText_len]
              have := hown3.out
              rw [← hle] at this ⊢
              exact own_by this
            rw [hl] at hby
            have HBY := Lib.hid hby
            clear hby hl hR1 hpf hpd
            go_wp2_with (refine wpList_str rfl _ rfl _ HBY.out ?_)
            go_ret
            exact ⟨rfl, hE3.out⟩
end Go.Proofs.YtchlkclpikdbjaaGreatDoor
