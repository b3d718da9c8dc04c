/-
  readMultiaddr at the bytes of maAwake, and the bytes of the two components.
-/
import Derived.Test.YtchlkclpikdbjaaGreatDoorRc
import Derived.Test.YtchlkclpikdbjaaGreatDoorPort
import Derived.Test.YtchlkclpikdbjaaGreatDoorMore
import Derived.Test.YtchlkclpikdbjaaGreatDoorNum
namespace Go.Proofs.YtchlkclpikdbjaaGreatDoor
set_option linter.unusedVariables false
set_option linter.unusedSimpArgs false
open Go.RowKit Go.Sort

/-- /ip4/1.2.3.4 and /tcp/5 -/
def c4 : Cmp := ⟨pIP4, [1, 2, 3, 4]⟩
def c6 : Cmp := ⟨pTCP, [0, 5]⟩
theorem pre4c : c4.pre = [4] := by unfold Cmp.pre; rw [if_neg (by decide)]; show Lib.uvarint 4 ++ [] = [4]; rw [Lib.uvarint_small (by decide)]; rfl
theorem pre6c : c6.pre = [6] := by unfold Cmp.pre; rw [if_neg (by decide)]; show Lib.uvarint 6 ++ [] = [6]; rw [Lib.uvarint_small (by decide)]; rfl
theorem good4 : Good c4 := {
  b2s := ⟨106, fnV 105, .nilFunc, rfl, enters_ip4BtS, b2s_ip4 1 2 3 4 (by decide) (by decide) (by decide) (by decide)⟩,
  val := ⟨fnV 105, fnV 106, .nilFunc, rfl, .inl rfl⟩,
  one := rfl,
  code0 := by decide,
  code := by decide,
  len := by decide,
  size := .inr (by decide) }
theorem good6 : Good c6 := {
  b2s := ⟨108, fnV 107, .nilFunc, rfl, enters_portBtS, b2s_port⟩,
  val := ⟨fnV 107, fnV 108, .nilFunc, rfl, .inl rfl⟩,
  one := rfl,
  code0 := by decide,
  code := by decide,
  len := by decide,
  size := .inr (by decide) }

theorem rc4 (v : Value) (w : World) (hv : By w [4, 1, 2, 3, 4, 6, 0, 5] v) : Calls Tryz.prog 103 #[v] w fun e w' => ∃ g, e = .returned (.tuple #[.int .i64 5, .pointer (some ⟨g, 0, none⟩), .nilIface]) ∧ CmpAt w' c4 g 0 ∧ Ext w w' := by
  refine (readComp_ok c4 good4 coded_4 (by decide) (by decide) (by decide) (by decide) [6, 0, 5] (by decide) v w (by rw [pre4c]; exact hv)).mono ?_
  rintro e w' ⟨g, rfl, h⟩
  exact ⟨g, rfl, h⟩
theorem rc6 (v : Value) (w : World) (hv : By w [6, 0, 5] v) : Calls Tryz.prog 103 #[v] w fun e w' => ∃ g, e = .returned (.tuple #[.int .i64 3, .pointer (some ⟨g, 0, none⟩), .nilIface]) ∧ CmpAt w' c6 g 0 ∧ Ext w w' := by
  refine (readComp_ok c6 good6 coded_6 (by decide) (by decide) (by decide) (by decide) [] (by decide) v w (by rw [pre6c]; exact hv)).mono ?_
  rintro e w' ⟨g, rfl, h⟩
  exact ⟨g, rfl, h⟩

section
variable {P : Program}
theorem wpList_load_cmp {ops : Array Oper} {rest : List Oper} {o : Oper} {a : Act} {w : World} {Q : Exit → Act → World → Prop} (hgd : o.guard = none) (ty : TypeId) (x : Operand) (ho : o.op = .load ty x)
    (g off : Nat) (hx : a.eval x = .pointer (some ⟨g, off, none⟩)) (cs : List Value) (hr : Row w g off cs) (d : TypeDesc)
    (hu : P.underlying ty = some d) (hd : (match d with | .struct _ | .array _ _ => true | _ => false) = true) (hi : (P.info? ty).map (·.size) = some cs.length)
    (h : wpList P ops Q rest (a.put o.dst (.agg cs.toArray)) w) : wpList P ops Q (o :: rest) a w :=
  wpList_plain hgd fun K hK => by
    unfold Oper.wp execOp
    simp only [ho, hx, Instr.loadAt, Instr.sureAddr, Sem.run_bind, Sem.run_pure, Result.andThen_ok, run_loadVar_at w g off cs hr ty d hu hd hi]
    exact hK _ _ h
end
theorem info_C : (Tryz.prog.info? 67).map (fun i => (i.zero, i.size, i.bytes)) = some (some (.agg #[.string ⟨#[]⟩, .pointer none, .int .i64 0]), 3, 32) := by kernel_rfl

theorem ma_of {w : World} {base : Nat} {v : Value} {p g q h : Nat} (ho : w.ownsRow base 67 3 v 2 (c4.cells p ++ c6.cells q)) (h4 : PrAt w c4.p p g) (h6 : PrAt w c6.p q h) : MaAt w [c4, c6] v := by
  obtain ⟨-, ⟨-, h0⟩ | ⟨b, cap, cur, rfl, -, hk, hn, -, hs, ht⟩⟩ := ho
  · exact absurd h0 (by decide)
  have hc : ∀ j, j < 6 → w.cell? ⟨b, j, none⟩ = (c4.cells p ++ c6.cells q)[j]? := by
    intro j hj
    rw [cell_of_row w b j _ _ _ hk, ← ht, List.getElem?_take_of_lt (by omega)]
    simp
  refine ⟨b, 0, cap, rfl, hn, fun i hi => ?_⟩
  have hi2 : i < 2 := hi
  have : i = 0 ∨ i = 1 := by omega
  rcases this with rfl | rfl
  · refine ⟨p, g, fun j u hj => ?_, h4⟩
    have hj3 : j < 3 := by have := (List.getElem?_eq_some_iff.1 hj).1; simpa [Cmp.cells] using this
    rw [show 0 + 3 * 0 + j = j by omega, hc j (by omega), List.getElem?_append_left (by simpa [Cmp.cells] using hj3)]
    exact hj
  · refine ⟨q, h, fun j u hj => ?_, h6⟩
    have hj3 : j < 3 := by have := (List.getElem?_eq_some_iff.1 hj).1; simpa [Cmp.cells] using this
    rw [show 0 + 3 * 1 + j = 3 + j by omega, hc (3 + j) (by omega), List.getElem?_append_right (by simp [Cmp.cells])]
    rw [show 3 + j - (c4.cells p).length = j by simp [Cmp.cells]]
    exact hj

theorem src_three (w : World) (t : TypeId) (xs : List Value) (hl : xs.length = 3) : SrcC (w.alloc (.cells xs.toArray t (0, 0))) 3 (.slice (some ⟨w.heap.size, 0, none⟩) 1 1) 1 xs :=
  ⟨_, _, rfl, by simp [hl], fun _ => ⟨_, rfl, fun j u hj => by rw [addr_add]; exact row_new w _ _ j u (by simpa using hj)⟩⟩
theorem prAt_grown {w w' : World} {p : Pr} {b gv : Nat} {row : Option Nat} (h : PrAt w p b gv) (hg : w.grownBy w' row) (h1 : some b ≠ row) (h2 : some gv ≠ row) : PrAt w' p b gv := by
  have hb := block_lt_of_cell (h.cell 1)
  refine ⟨?_, fun j u hj => ?_⟩
  · rw [hg.block b hb h1]; exact h.1
  · have hc := h.2 j u hj
    have hl := block_lt_of_cell hc
    simp only [World.cell?] at hc ⊢
    rw [hg.block gv hl h2]
    exact hc
theorem own_ne_pr {w : World} {base : Nat} {v : Value} {n q : Nat} {p : Pr} {b gv : Nat} (ho : w.ownsRow base 67 3 v n (c4.cells q)) (hp : PrAt w p b gv) : some b ≠ v.ownBlock ∧ some gv ≠ v.ownBlock := by
  obtain ⟨-, ⟨rfl, -⟩ | ⟨g, cap, cur, rfl, -, hk, hn, -, hs, ht⟩⟩ := ho
  · simp [Value.ownBlock]
  · constructor
    · intro h
      have hg : b = g := by injection h
      subst hg
      have h1 := hp.1
      rw [hk] at h1
      injection h1 with h1
      injection h1 with _ h1 _
      exact absurd h1 (by decide)
    · intro h
      have hg : gv = g := by injection h
      subst hg
      obtain ⟨x, r, hx⟩ : ∃ x r, Lib.uvarint p.code = x :: r := by
        have := Lib.uvarint_pos p.code
        cases hu : Lib.uvarint p.code with
        | nil => rw [hu] at this; simp at this
        | cons x r => exact ⟨x, r, rfl⟩
      have hc := hp.2 0 (B x) (by rw [hx]; rfl)
      rw [cell_of_row w gv (0 + 0) _ _ _ hk] at hc
      have h3 : cur.toList[0]? = some (.string c4.str) := by
        have h4 : (cur.toList.take (n * 3))[0]? = some (.string c4.str) := by rw [ht]; rfl
        rw [List.getElem?_take] at h4
        split at h4
        · exact h4
        · simp at h4
      rw [← Array.getElem?_toList] at hc
      rw [show 0 + 0 = 0 from rfl, h3] at hc
      simp [B] at hc

/-- what holds behind a component -/
def RmI (w : World) (k : Nat) (s5 : Value) (wx : World) : Prop :=
  Ext w wx ∧ ((k = 0 ∧ s5 = .slice none 0 0) ∨
    (k = 1 ∧ ∃ p g, wx.ownsRow w.heap.size 67 3 s5 1 (c4.cells p) ∧ PrAt wx c4.p p g) ∨
    (k = 2 ∧ ∃ p g q h, wx.ownsRow w.heap.size 67 3 s5 2 (c4.cells p ++ c6.cells q) ∧ PrAt wx c4.p p g ∧ PrAt wx c6.p q h))

set_option maxHeartbeats 2000000 in
set_option maxRecDepth 100000 in
theorem rdM_ok (v : Value) (w : World) (hv : By w [4, 1, 2, 3, 4, 6, 0, 5] v) :
    Calls Tryz.prog 77 #[v] w fun e w' => ∃ m, e = .returned (.tuple #[.int .i64 8, m, .nilIface]) ∧ MaAt w' [c4, c6] m ∧ Ext w w' := by
  obtain ⟨i0, hi, hz0, hz1, hz2⟩ := info_parts info_C
  obtain ⟨a, cap, rfl, hcap, h4⟩ := id hv
  obtain ⟨g, o, rfl, hrow⟩ := h4 (by simp)
  have hb2 : ∀ c, 3 ≤ c → By w [6, 0, 5] (.slice (some ⟨g, o + 5, none⟩) 3 c) := by
    intro c hc
    refine ⟨_, _, rfl, hc, fun _ => ⟨g, o + 5, rfl, fun j u hj => ?_⟩⟩
    have := hrow (5 + j) u (by simpa [List.getElem?_map, Nat.add_comm] using hj)
    rw [Nat.add_assoc]; exact this
  have H4 := Lib.hid (fun w1 (he : Ext w w1) => rc4 (.slice (some ⟨g, o, none⟩) 8 cap) w1 (he.by hv))
  have H6 := Lib.hid (fun c (hc : 3 ≤ c) w1 (he : Ext w w1) => rc6 (.slice (some ⟨g, o + 5, none⟩) 3 c) w1 (he.by (hb2 c hc)))
  have hcap8 : 8 ≤ cap := hcap
  have hc5 : 5 < cap := by omega
  show Calls _ _ #[.slice (some ⟨g, o, none⟩) 8 cap] _ _
  have hc3 : 3 ≤ cap - 5 := by omega
  clear hb2 hrow h4 hcap hv
  go_enter Tryz.func77, Tryz.ntmps77
  go_wp2_with (fail)
  go_loopg [0, 5, 6, 7] 3 (fun gk s0 s5 s6 s7 wx => s7 = .bool false ∧ ((gk = 3 ∧ s0 = .slice (some ⟨g, o, none⟩) 8 cap ∧ s6 = .int .i64 0 ∧ Hid (RmI w 0 s5 wx)) ∨ (gk = 2 ∧ (∃ c2, 3 ≤ c2 ∧ s0 = .slice (some ⟨g, o + 5, none⟩) 3 c2) ∧ s6 = .int .i64 5 ∧ Hid (RmI w 1 s5 wx)) ∨ (gk = 1 ∧ (∃ p c, s0 = .slice p 0 c) ∧ s6 = .int .i64 8 ∧ Hid (RmI w 2 s5 wx))))
  case atStart => exact ⟨rfl, .inl ⟨rfl, rfl, rfl, Lib.hid ⟨Ext.refl _, .inl ⟨rfl, rfl⟩⟩⟩⟩
  case round =>
    obtain ⟨rfl, ⟨hgk, rfl, rfl, hI⟩ | ⟨hgk, ⟨c2, hc2, rfl⟩, rfl, hI⟩ | ⟨hgk, ⟨p, c, rfl⟩, rfl, hI⟩⟩ := hrel
    · obtain ⟨hE, ⟨-, rfl⟩ | ⟨h, -⟩ | ⟨h, -⟩⟩ := hI.out
      rotate_left
      · exact absurd h (by decide)
      · exact absurd h (by decide)
      have HE := Lib.hid hE
      have hbs : w.heap.size ≤ wr.heap.size := hE.size
      clear hI hE
      go_wp2_with (first
        | (go_at_call 103; refine (H4.out wr HE.out).mono ?_; rintro e w2 ⟨gc, rfl, ⟨pb, gv, hrow, hpr⟩, he2⟩; have kp : w2.cell? ⟨gc, 0 + 1, none⟩ = some (.pointer (some ⟨pb, 0, none⟩)) := hrow 1 _ rfl; have k4 : w2.cell? ⟨pb, 4, none⟩ = some (.bool false) := hpr.cell 4; have HR2 := Lib.hid hrow; have HP2 := Lib.hid hpr; have HE2 := Lib.hid (HE.out.trans he2); have hbs2 : w.heap.size ≤ w2.heap.size := (HE.out.trans he2).size; clear hrow hpr he2)
        | (refine wpList_load_cmp (w := w2) rfl 67 _ rfl gc 0 rfl [.string c4.str, .pointer (some ⟨pb, 0, none⟩), .int .i64 (c4.pre.length : Int)] HR2.out _ Tryz.underlying67 rfl ?_ ?_; (· kernel_rfl))
        | (at_builtin; refine wpList_append_any rfl _ _ 58 rfl w.heap.size 67 i0 _ 3 32 Tryz.underlying58 hi hz0 hz1 hz2 rfl (by decide) (Value.slice none 0 0) 0 [] rfl (World.ownsRow_nil _ _ _ _) _ 1 (c4.cells pb) rfl (src_three w2 _ [.string c4.str, .pointer (some ⟨pb, 0, none⟩), .int .i64 (c4.pre.length : Int)] rfl) (by simp [Cmp.cells, Value.oneCell']) (by unfold maxLen; omega) (by omega) (by simp; omega) ?_; intro u' w5 hown5 hgr5 hwh5; have hE5 : Ext w w5 := below_grown (Ext.alloc HE2.out _) (Ext.alloc HE2.out _).size hgr5 (fun k hk => by simp [Value.ownBlock] at hk); have hP5 : PrAt w5 c4.p pb gv := prAt_grown (Ext.prAt (Ext.alloc (Ext.refl w2) _) HP2.out) hgr5 (by simp [Value.ownBlock]) (by simp [Value.ownBlock]))
        | fail)
      go_roundg 2
      case measure => omega
      case rel => exact ⟨rfl, .inr (.inl ⟨rfl, ⟨_, hc3, rfl⟩, rfl, Lib.hid ⟨hE5, .inr (.inl ⟨rfl, pb, gv, hown5, hP5⟩)⟩⟩)⟩
    · obtain ⟨hE, ⟨h, -⟩ | ⟨-, p4, g4, hown, hp4⟩ | ⟨h, -⟩⟩ := hI.out
      · exact absurd h (by decide)
      rotate_left
      · exact absurd h (by decide)
      have HE := Lib.hid hE
      have HO := Lib.hid hown
      have HP4 := Lib.hid hp4
      have hlt4 := hown.lt
      clear hown hp4
      have hbs : w.heap.size ≤ wr.heap.size := hE.size
      clear hI hE
      go_wp2_with (first
        | (go_at_call 103; refine (H6.out c2 hc2 wr HE.out).mono ?_; rintro e w2 ⟨gc, rfl, ⟨pb, gv, hrow, hpr⟩, he2⟩; have kp : w2.cell? ⟨gc, 0 + 1, none⟩ = some (.pointer (some ⟨pb, 0, none⟩)) := hrow 1 _ rfl; have k4 : w2.cell? ⟨pb, 4, none⟩ = some (.bool false) := hpr.cell 4; have HR2 := Lib.hid hrow; have HP2 := Lib.hid hpr; have HE2 := Lib.hid (HE.out.trans he2); have HF2 := Lib.hid he2; have hbs2 : w.heap.size ≤ w2.heap.size := (HE.out.trans he2).size; clear hrow hpr he2)
        | (refine wpList_load_cmp (w := w2) rfl 67 _ rfl gc 0 rfl [.string c6.str, .pointer (some ⟨pb, 0, none⟩), .int .i64 (c6.pre.length : Int)] HR2.out _ Tryz.underlying67 rfl ?_ ?_; (· kernel_rfl))
        | (at_builtin; have hOa := Ext.own (Ext.alloc HF2.out (.cells #[.string c6.str, .pointer (some ⟨pb, 0, none⟩), .int .i64 (c6.pre.length : Int)] 67)) HO.out; refine wpList_append_any rfl _ _ 58 rfl w.heap.size 67 i0 _ 3 32 Tryz.underlying58 hi hz0 hz1 hz2 rfl (by decide) u5 1 (c4.cells p4) rfl hOa _ 1 (c6.cells pb) rfl (src_three w2 _ [.string c6.str, .pointer (some ⟨pb, 0, none⟩), .int .i64 (c6.pre.length : Int)] rfl) (by simp [Cmp.cells, Value.oneCell']) (by unfold maxLen; omega) (by omega) (by simp; omega) ?_; intro u' w5 hown5 hgr5 hwh5; have hE5 : Ext w w5 := below_grown (Ext.alloc HE2.out _) (Ext.alloc HE2.out _).size hgr5 (fun k hk => (hlt4 k hk).1); have hPa := Ext.prAt (Ext.alloc (Ext.refl w2) (.cells #[.string c6.str, .pointer (some ⟨pb, 0, none⟩), .int .i64 (c6.pre.length : Int)] 67)) HP2.out; have hPb := Ext.prAt (Ext.alloc HF2.out (.cells #[.string c6.str, .pointer (some ⟨pb, 0, none⟩), .int .i64 (c6.pre.length : Int)] 67)) HP4.out; have hP5 := prAt_grown hPa hgr5 (own_ne_pr hOa hPa).1 (own_ne_pr hOa hPa).2; have hP6 := prAt_grown hPb hgr5 (own_ne_pr hOa hPb).1 (own_ne_pr hOa hPb).2)
        | fail)
      all_goals
        go_roundg 1
        case measure => omega
        case rel => exact ⟨rfl, .inr (.inr ⟨rfl, ⟨_, _, rfl⟩, rfl, Lib.hid ⟨hE5, .inr (.inr ⟨rfl, p4, g4, pb, gv, hown5, hP6, hP5⟩)⟩⟩)⟩
    · obtain ⟨hE, ⟨h, -⟩ | ⟨h, -⟩ | ⟨-, p4, g4, p6, g6, hown, hp4, hp6⟩⟩ := hI.out
      · exact absurd h (by decide)
      · exact absurd h (by decide)
      have hma := ma_of hown hp4 hp6
      have HMA := Lib.hid hma
      have HE := Lib.hid hE
      clear hI hE hown hp4 hp6 hma
      go_wp2_with (fail)
      go_ret3
      exact ⟨_, rfl, HMA.out, HE.out⟩
end Go.Proofs.YtchlkclpikdbjaaGreatDoor
namespace Go.Proofs.YtchlkclpikdbjaaGreatDoor
set_option linter.unusedVariables false
set_option linter.unusedSimpArgs false
open Go.RowKit Go.Sort

theorem str4c : c4.str = ⟨#[4, 1, 2, 3, 4]⟩ := by unfold Cmp.str; rw [pre4c]; rfl
theorem str6c : c6.str = ⟨#[6, 0, 5]⟩ := by unfold Cmp.str; rw [pre6c]; rfl
theorem zero_128 : (Tryz.prog.info? 68).map (fun i => (i.zero.map (·.cells))) = some (some ((Array.range 128).map fun _ => .int .u8 0)) := by kernel_rfl

set_option maxHeartbeats 1000000 in
set_option maxRecDepth 100000 in
theorem maBytes_ok (m : Value) (w : World) (h : MaAt w [c4, c6] m) :
    Calls Tryz.prog 24 #[m] w fun e w' => ∃ v, e = .returned v ∧ By w' [4, 1, 2, 3, 4, 6, 0, 5] v ∧ Ext w w' := by
  obtain ⟨g, o, cap, rfl, hcap, hcs⟩ := h
  obtain ⟨p4, g4, h4, -⟩ := hcs 0 (by decide)
  obtain ⟨p6, g6, h6, -⟩ := hcs 1 (by decide)
  have h4' : Row w g o [.string ⟨#[4, 1, 2, 3, 4]⟩, .pointer (some ⟨p4, 0, none⟩), .int .i64 1] := by
    have h : Row w g (o + 3 * 0) (c4.cells p4) := h4
    unfold Cmp.cells at h
    rw [str4c, pre4c] at h
    exact h
  have h6' : Row w g (o + 3) [.string ⟨#[6, 0, 5]⟩, .pointer (some ⟨p6, 0, none⟩), .int .i64 1] := by
    have h : Row w g (o + 3 * 1) (c6.cells p6) := h6
    unfold Cmp.cells at h
    rw [str6c, pre6c] at h
    exact h
  have H4 := Lib.hid h4'
  have H6 := Lib.hid h6'
  obtain ⟨S4, hS4⟩ : ∃ S : ByteArray, S = ⟨#[4, 1, 2, 3, 4]⟩ := ⟨_, rfl⟩
  obtain ⟨S6, hS6⟩ : ∃ S : ByteArray, S = ⟨#[6, 0, 5]⟩ := ⟨_, rfl⟩
  rw [← hS4] at H4
  rw [← hS6] at H6
  have hz4 : S4.size = 5 := by rw [hS4]; rfl
  have hz6 : S6.size = 3 := by rw [hS6]; rfl
  have HS4 := Lib.hid hS4
  have HS6 := Lib.hid hS6
  clear h4 h6 h4' h6' hcs hS4 hS6
  rw [show [c4, c6].length = 2 from rfl] at hcap ⊢
  go_enter Tryz.func24, Tryz.ntmps24
  go_wp2_with (fail)
  go_loopg [3, 12] 3 (fun gk s3 s12 wx => Hid (Ext w wx) ∧ ((gk = 3 ∧ s3 = .int .i64 0 ∧ s12 = .int .i64 0) ∨ (gk = 2 ∧ s3 = .int .i64 5 ∧ s12 = .int .i64 1) ∨ (gk = 1 ∧ s3 = .int .i64 8 ∧ s12 = .int .i64 2)))
  case atStart => exact ⟨Lib.hid (Ext.refl _), .inl ⟨rfl, rfl, rfl⟩⟩
  case round =>
    obtain ⟨HE, ⟨hgk, rfl, rfl⟩ | ⟨hgk, rfl, rfl⟩ | ⟨hgk, rfl, rfl⟩⟩ := hrel
    · have hr := HE.out.row H4.out
      have c0 : wr.cell? ⟨g, o, none⟩ = some (.string S4) := hr 0 _ rfl
      have c1 : wr.cell? ⟨g, o + 1, none⟩ = some (.pointer (some ⟨p4, 0, none⟩)) := hr 1 _ rfl
      have c2 : wr.cell? ⟨g, o + 2, none⟩ = some (.int .i64 1) := hr 2 _ rfl
      clear hr
      go_wp2_with (fail)
      go_roundg 2
      case measure => omega
      case rel => exact ⟨Lib.hid (HE.out.alloc _), .inr (.inl ⟨rfl, rfl, rfl⟩)⟩
    · have hr := HE.out.row H6.out
      have c0 : wr.cell? ⟨g, o + 3, none⟩ = some (.string S6) := hr 0 _ rfl
      have c1 : wr.cell? ⟨g, o + 3 + 1, none⟩ = some (.pointer (some ⟨p6, 0, none⟩)) := hr 1 _ rfl
      have c2 : wr.cell? ⟨g, o + 3 + 2, none⟩ = some (.int .i64 1) := hr 2 _ rfl
      clear hr
      go_wp2_with (fail)
      go_roundg 1
      case measure => omega
      case rel => exact ⟨Lib.hid (HE.out.alloc _), .inr (.inr ⟨rfl, rfl, rfl⟩)⟩
    · go_wp2_with (first
        | (refine wpList_newrow (w := wr) rfl 68 rfl 128 _ zero_128 ?_; intro w1 hr1 he1 hs1; have HR1 := Lib.hid (Wr.of_row hr1); have HE1 := Lib.hid (HE.out.trans he1); clear hr1 he1)
        | fail)
      have hS4 := HS4.out
      have hS6 := HS6.out
      obtain ⟨b, hb⟩ : ∃ b, b = wr.heap.size := ⟨_, rfl⟩
      rw [← hb] at HR1 ⊢
      have HBB := Lib.hid (show w.heap.size ≤ b from hb ▸ HE.out.size)
      clear hb hs1
      go_loopg [6, 29] 3 (fun gk s6 s29 wx => Hid (Ext w wx) ∧ ((gk = 3 ∧ s6 = .slice (some ⟨b, 0, none⟩) 0 128 ∧ s29 = .int .i64 0 ∧ Hid (Wr wx b 128 fun _ => .int .u8 0)) ∨ (gk = 2 ∧ s6 = .slice (some ⟨b, 0, none⟩) 5 128 ∧ s29 = .int .i64 1 ∧ Hid (Wr wx b 128 (fun j => if j = 4 then .int .u8 4 else if j = 3 then .int .u8 3 else if j = 2 then .int .u8 2 else if j = 1 then .int .u8 1 else if j = 0 then .int .u8 4 else .int .u8 0))) ∨ (gk = 1 ∧ s6 = .slice (some ⟨b, 0, none⟩) 8 128 ∧ s29 = .int .i64 2 ∧ Hid (By wx [4, 1, 2, 3, 4, 6, 0, 5] (.slice (some ⟨b, 0, none⟩) 8 128)))))
      case atStart => exact ⟨HE1, .inl ⟨rfl, rfl, rfl, HR1⟩⟩
      case round =>
        obtain ⟨HE, ⟨hgk, rfl, rfl, HW⟩ | ⟨hgk, rfl, rfl, HW⟩ | ⟨hgk, rfl, rfl, HW⟩⟩ := hrel
        · have hr := HE.out.row H4.out
          have c0 : wr.cell? ⟨g, o, none⟩ = some (.string S4) := hr 0 _ rfl
          have c1 : wr.cell? ⟨g, o + 1, none⟩ = some (.pointer (some ⟨p4, 0, none⟩)) := hr 1 _ rfl
          have c2 : wr.cell? ⟨g, o + 2, none⟩ = some (.int .i64 1) := hr 2 _ rfl
          clear hr
          have hbl : b < wr.heap.size := HW.out.lt (by decide)
          have hn1 : ¬ b = wr.heap.size := by omega
          have hn2 : ¬ wr.heap.size = b := by omega
          have d0 : wr.cell? ⟨b, 0, none⟩ = some (.int .u8 0) := (HW.out 0 (by decide)).1
          have z0 : wr.frozen? ⟨b, 0, none⟩ = false := (HW.out 0 (by decide)).2
          have d1 : wr.cell? ⟨b, 1, none⟩ = some (.int .u8 0) := (HW.out 1 (by decide)).1
          have z1 : wr.frozen? ⟨b, 1, none⟩ = false := (HW.out 1 (by decide)).2
          have d2 : wr.cell? ⟨b, 2, none⟩ = some (.int .u8 0) := (HW.out 2 (by decide)).1
          have z2 : wr.frozen? ⟨b, 2, none⟩ = false := (HW.out 2 (by decide)).2
          have d3 : wr.cell? ⟨b, 3, none⟩ = some (.int .u8 0) := (HW.out 3 (by decide)).1
          have z3 : wr.frozen? ⟨b, 3, none⟩ = false := (HW.out 3 (by decide)).2
          have d4 : wr.cell? ⟨b, 4, none⟩ = some (.int .u8 0) := (HW.out 4 (by decide)).1
          have z4 : wr.frozen? ⟨b, 4, none⟩ = false := (HW.out 4 (by decide)).2
          have HE2 : Ext w (((((wr.setCell ⟨b, 0, none⟩ (.int .u8 4)).setCell ⟨b, 1, none⟩ (.int .u8 1)).setCell ⟨b, 2, none⟩ (.int .u8 2)).setCell ⟨b, 3, none⟩ (.int .u8 3)).setCell ⟨b, 4, none⟩ (.int .u8 4)) :=
            Below.setCell (Below.setCell (Below.setCell (Below.setCell (Below.setCell HE.out HBB.out _) HBB.out _) HBB.out _) HBB.out _) HBB.out _
          have W5 := ((((HW.out.set 0 (.int .u8 4)).set 1 (.int .u8 1)).set 2 (.int .u8 2)).set 3 (.int .u8 3)).set 4 (.int .u8 4)
          have HE2' := Lib.hid HE2
          have W5' := Lib.hid W5
          clear HE2 W5
          go_wp2_with (fail)
          go_roundg 2
          case measure => omega
          case rel => exact ⟨Lib.hid (HE2'.out.alloc _), .inr (.inl ⟨rfl, rfl, rfl, Lib.hid (W5'.out.of_block (Below.block (Ext.alloc (Ext.refl _) _) b (by simpa using hbl)))⟩)⟩
        · have hr := HE.out.row H6.out
          have c0 : wr.cell? ⟨g, o + 3, none⟩ = some (.string S6) := hr 0 _ rfl
          have c1 : wr.cell? ⟨g, o + 3 + 1, none⟩ = some (.pointer (some ⟨p6, 0, none⟩)) := hr 1 _ rfl
          have c2 : wr.cell? ⟨g, o + 3 + 2, none⟩ = some (.int .i64 1) := hr 2 _ rfl
          clear hr
          have hbl : b < wr.heap.size := HW.out.lt (by decide)
          have hn1 : ¬ b = wr.heap.size := by omega
          have hn2 : ¬ wr.heap.size = b := by omega
          have d5 : wr.cell? ⟨b, 5, none⟩ = some (.int .u8 0) := (HW.out 5 (by decide)).1
          have z5 : wr.frozen? ⟨b, 5, none⟩ = false := (HW.out 5 (by decide)).2
          have d6 : wr.cell? ⟨b, 6, none⟩ = some (.int .u8 0) := (HW.out 6 (by decide)).1
          have z6 : wr.frozen? ⟨b, 6, none⟩ = false := (HW.out 6 (by decide)).2
          have d7 : wr.cell? ⟨b, 7, none⟩ = some (.int .u8 0) := (HW.out 7 (by decide)).1
          have z7 : wr.frozen? ⟨b, 7, none⟩ = false := (HW.out 7 (by decide)).2
          have HE2' : Hid (Ext w (((wr.setCell ⟨b, 5, none⟩ (.int .u8 6)).setCell ⟨b, 6, none⟩ (.int .u8 0)).setCell ⟨b, 7, none⟩ (.int .u8 5))) :=
            Lib.hid (Below.setCell (Below.setCell (Below.setCell HE.out HBB.out _) HBB.out _) HBB.out _)
          have W5' := Lib.hid (((HW.out.set 5 (.int .u8 6)).set 6 (.int .u8 0)).set 7 (.int .u8 5))
          go_wp2_with (fail)
          go_roundg 1
          case measure => omega
          case rel =>
            refine ⟨Lib.hid (HE2'.out.alloc _), .inr (.inr ⟨rfl, rfl, rfl, Lib.hid ?_⟩)⟩
            refine (W5'.out.of_block (Below.block (Ext.alloc (Ext.refl _) _) b (by simpa using hbl))).by [4, 1, 2, 3, 4, 6, 0, 5] (by decide) 128 (by decide) (fun i hi => ?_)
            have h8 : i = 0 ∨ i = 1 ∨ i = 2 ∨ i = 3 ∨ i = 4 ∨ i = 5 ∨ i = 6 ∨ i = 7 := by simp at hi; omega
            rcases h8 with rfl | rfl | rfl | rfl | rfl | rfl | rfl | rfl <;> rfl
        · go_wp2_with (fail)
          go_ret
          exact ⟨_, rfl, HW.out, HE.out⟩
end Go.Proofs.YtchlkclpikdbjaaGreatDoor
