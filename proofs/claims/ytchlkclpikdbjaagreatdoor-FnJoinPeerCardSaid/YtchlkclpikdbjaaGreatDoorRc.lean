/-
  readComponent of a component of a fixed size.
-/
import Derived.Test.YtchlkclpikdbjaaGreatDoorValid2
namespace Go.Proofs.YtchlkclpikdbjaaGreatDoor
set_option linter.unusedVariables false
set_option linter.unusedSimpArgs false
open Go.RowKit Go.Sort

theorem boxC (s : ByteArray) (pb k : Nat) (ρ : Operand → Value) (w : World) (o : Oper) (x : Operand) (h : o.op = .box 67 x) (hx : ρ x = .agg #[.string s, .pointer (some ⟨pb, 0, none⟩), .int .i64 (k : Int)]) :
    (execOp ρ o).run Tryz.prog w = .ok (.value (.pointer (some ⟨w.heap.size, 0, none⟩))) (w.alloc (.cells #[.string s, .pointer (some ⟨pb, 0, none⟩), .int .i64 (k : Int)] 67 (0, 0))) := by
  unfold execOp
  simp only [h, hx]
  simp [go_sem]

theorem prAt_of_ptr {w : World} {p : Pr} {b gv : Nat} (h : w.heap[b]? = some (.cells (p.cells (vc gv p.code)) 46 (0, 0))) (hb : Bs w (Lib.uvarint p.code) (vc gv p.code)) : PrAt w p b gv := by
  refine ⟨h, ?_⟩
  have hb := hb.by
  obtain ⟨a, c, he, -, h4⟩ := hb
  obtain ⟨g, o, hg, hr⟩ := h4 (by have := Lib.uvarint_pos p.code; intro h; rw [h] at this; simp at this)
  injection he with h5
  rw [← h5] at hg
  injection hg with hg
  injection hg with hg1 hg2
  subst hg1; subst hg2
  exact hr
theorem cmp_of {w w5 : World} {c : Cmp} {pb gv k : Nat} (hpre : c.pre = [UInt8.ofNat k]) (hp : PrAt w c.p pb gv) (h5 : New w w5 #[.string ⟨(c.pre ++ c.val).toArray⟩, .pointer (some ⟨pb, 0, none⟩), .int .i64 ((1 : Nat) : Int)] 67) : CmpAt w5 c w.heap.size 0 := by
  refine ⟨pb, gv, fun j v hj => ?_, h5.ext.prAt hp⟩
  rw [Nat.zero_add, cell_of_row _ _ _ _ _ _ h5.blk]
  unfold Cmp.cells at hj
  have hn : c.pre.length = 1 := by rw [hpre]; rfl
  rw [hn] at hj
  simpa [Cmp.str] using hj

set_option maxHeartbeats 16000000 in
set_option maxRecDepth 100000 in
theorem readComp_ok (c : Cmp) (hg : Good c) (hc : Coded c.p) (hcode : c.p.code < 128) (hsz : c.p.size = 8 * (c.val.length : Int)) (hL : 1 ≤ c.val.length) (hL2 : c.val.length ≤ 1000) (rest : List UInt8) (hrest : rest.length ≤ 1000) (v : Value) (w : World) (hv : By w (c.pre ++ (c.val ++ rest)) v) :
    Calls Tryz.prog 103 #[v] w fun e w' => ∃ g, e = .returned (.tuple #[.int .i64 (1 + c.val.length : Int), .pointer (some ⟨g, 0, none⟩), .nilIface]) ∧ CmpAt w' c g 0 ∧ Ext w w' := by
  have hpre : c.pre = [UInt8.ofNat c.p.code] := by unfold Cmp.pre; rw [if_neg (by omega), Lib.uvarint_small hcode]; rfl
  have hx : (UInt8.ofNat c.p.code).toNat = c.p.code := by rw [UInt8.toNat_ofNat']; omega
  have HR := Lib.hid (readVarint_small (UInt8.ofNat c.p.code) (by omega) (c.val ++ rest) (by rw [List.length_append]; omega) v w (by have := hv; rw [hpre] at this; exact this))
  rw [hx] at HR
  have HW := Lib.hid (fun w => withCode_ok c.p hc hg.one w)
  have HP := Lib.hid (fun w => ptr_ok c.p hc hg.one hg.code0 w)
  obtain ⟨a, cap, rfl, hcap, h4⟩ := hv
  obtain ⟨g, o, rfl, hrow⟩ := h4 (by rw [hpre]; simp)
  obtain ⟨L, hLL⟩ : ∃ L, L = c.val.length := ⟨_, rfl⟩
  obtain ⟨M, hM⟩ : ∃ M, M = rest.length := ⟨_, rfl⟩
  have hN : (c.pre ++ (c.val ++ rest)).length = 1 + (L + M) := by rw [hpre, hLL, hM]; simp; omega
  have hby : ∀ w', Ext w w' → By w' (c.pre ++ c.val) (.slice (some ⟨g, o, none⟩) (1 + L) cap) := by
    intro w' he
    refine ⟨some ⟨g, o, none⟩, cap, ?_, ?_, fun _ => ⟨g, o, rfl, fun j u hj => ?_⟩⟩
    · rw [hpre, hLL]; simp; omega
    · rw [hpre, List.length_append, ← hLL]; simp; omega
    · have := hrow j u (by
        rw [List.getElem?_map] at hj ⊢
        rw [← List.append_assoc, List.getElem?_append_left (by
          rcases Option.map_eq_some_iff.1 hj with ⟨y, hy, -⟩
          exact (List.getElem?_eq_some_iff.1 hy).1)]
        exact hj)
      exact he.cell this
  obtain ⟨N, hNN⟩ : ∃ N, N = 1 + (L + M) := ⟨_, rfl⟩
  rw [hN, ← hNN] at HR hcap ⊢
  rw [← hLL] at hsz hL hL2 ⊢
  rw [← hM] at hrest
  have HBy := Lib.hid hby
  have HG := Lib.hid hg
  have h0 : ((c.p.code : Int) == 0) = false := by have := hg.code0; simp; omega
  obtain ⟨sz, hszv⟩ : ∃ sz : Int, sz = c.p.size := ⟨_, rfl⟩
  have hs0 : (sz == 0) = false := by simp; omega
  have hsn : ¬ sz < 0 := by omega
  have hq : sz.tdiv 8 = (L : Int) := by rw [hszv, hsz]; exact Int.mul_tdiv_cancel_left _ (by decide)
  have hqw : IntKind.i64.wrap (L : Int) = (L : Int) := by rw [IntKind.wrap_i64]; omega
  have hl1 : ¬ ((((N - 1 : Nat)) : Int) < (L : Int)) := by omega
  have hl1' : ¬ ((N : Int) - 1 < (L : Int)) := by omega
  have hL0 : ¬ ((L : Int) ≤ 0) := by omega
  have hLw : IntKind.i64.wrap (1 + (L : Int)) = 1 + (L : Int) := by rw [IntKind.wrap_i64]; omega
  have hLn : (1 : Int) + (L : Int) ≤ (cap : Int) := by omega
  have hN1 : (1 : Int) ≤ (N : Int) := by omega
  have HSZ := Lib.hid hsz
  have HSV := Lib.hid hszv
  have HN := Lib.hid hNN
  have HPRE := Lib.hid hpre
  have HLL := Lib.hid hLL
  have hc1 : 1 < cap := by omega
  clear hby hg hc hpre hx h4 hrow hN hLL hM hsz hszv hNN hL2 hrest
  go_enter Tryz.func103, Tryz.ntmps103
  go_wp2_with (first
    | (go_at_call 153; refine HR.out.mono ?_; rintro e w0 ⟨rfl, rfl⟩)
    | (go_at_call 18; refine (HW.out _).mono ?_; rintro e w1 ⟨rfl, -, he1⟩)
    | (refine wpList_new (w := w1) rfl _ _ (allocP _ _ _ rfl) ?_; intro w2 hn2)
    | (refine wpList_put (w := w2) rfl 46 _ _ rfl w1.heap.size (c.p.cells _) rfl rfl 46 _ hn2.blk ?c1 ?c2 ?c3 ?_; (case c1 => kernel_rfl); (case c2 => rfl); (case c3 => exact Pr.one _ HG.out.one _ _); intro w3 hp3; (have k1 : w3.cell? ⟨w1.heap.size, 1, none⟩ = some (.int .i64 c.p.code) := hp3.cells 1; have k3 : w3.cell? ⟨w1.heap.size, 3, none⟩ = some (.int .i64 sz) := (hp3.cells 3).trans (congrArg (fun z => some (Value.int .i64 z)) HSV.out.symm); generalize c.p.val (vc (w.heap.size + 3) c.p.code) = pv))
    | (go_at_call 154; refine (HP.out _).mono ?_; rintro e w4 ⟨pb, rfl, hpb, hpl, hbs, he4⟩; have j3 := he4.cell k3; have hE3 : Ext w w3 := hp3.below he1.size (he1.trans hn2.ext); have hE4 : Ext w w4 := Ext.trans hE3 he4; have HB4 := Lib.hid (HBy.out w4 hE4); have HE4 := Lib.hid hE4; have HPA := Lib.hid (prAt_of_ptr hpb hbs); have HL4 := Lib.hid hpl; have HP3 := Lib.hid hp3; clear hE3 hE4 hpb hbs hpl hp3 hn2 he1 he4 k1 k3)
    | (refine wpList_str rfl _ rfl (c.pre ++ c.val) HB4.out ?_)
    | (refine wpList_new (w := w4) rfl #[.string ⟨(c.pre ++ c.val).toArray⟩, .pointer (some ⟨pb, 0, none⟩), .int .i64 ((1 : Nat) : Int)] _ (boxC _ pb 1 _ _ _ _ rfl rfl) ?_; intro w5 h5; have hcm := cmp_of HPRE.out HPA.out h5; have hE5 := HE4.out.trans h5.ext)
    | (go_at_call 155; refine (validate_fixed c HG.out (by rw [← HLL.out]; exact HSZ.out) w4.heap.size 0 w5 hcm trivial).mono ?_; rintro e w6 ⟨rfl, he6⟩))
  go_ret3
  exact ⟨_, rfl, he6.cmpAt hcm, hE5.trans he6⟩
end Go.Proofs.YtchlkclpikdbjaaGreatDoor
