/-
  The contracts of Protocols and IsThinWaist at an IP address of four bytes with a port of UDP.
-/
import Derived.Test.YtdlmmaolacjnaaaGreatDoorWaist
namespace Go.Proofs.YtdlmmaolacjnaaaGreatDoor
set_option linter.unusedVariables false
set_option linter.unusedSimpArgs false
open Go.RowKit Go.Sort

theorem protocol_ok2 (c : Cmp) (h1 : c.p.tc.oneCell' = true) (g o : Nat) (w : World) (h : CmpAt w c g o) : Calls Tryz.prog 34 #[.pointer (some ⟨g, o, none⟩)] w fun e w' =>
    ∃ gv, e = .returned (.agg #[.string c.p.name, .int .i64 (c.p.code : Int), vc gv c.p.code, .int .i64 c.p.size, .bool c.p.path, c.p.tc]) ∧ Ext w w' := by
  refine (protocol_ok c h1 g o w h).mono ?_
  rintro e w' ⟨gv, rfl, -, he⟩
  exact ⟨gv, rfl, he⟩
/-- The protocols that were collected of two components. -/
def OutP (w : World) (cs : List Cmp) (k : Nat) (u : Value) (wx : World) : Prop :=
  ∃ xs : List Value, wx.ownsRow w.heap.size 66 6 u k xs ∧ Ext w wx ∧ ∀ i c, i < k → cs[i]? = some c → xs[6 * i + 1]? = some (.int .i64 (c.p.code : Int))
theorem info_P : (Tryz.prog.info? 66).map (fun i => (i.zero, i.size, i.bytes)) = some (some (.agg #[.string ⟨#[]⟩, .int .i64 0, .slice none 0 0, .int .i64 0, .bool false, .nilIface]), 6, 80) := by kernel_rfl
set_option maxHeartbeats 4000000 in
set_option maxRecDepth 100000 in
theorem protocols2_ok (c d : Cmp) (h1 : c.p.tc.oneCell' = true) (h2 : d.p.tc.oneCell' = true) (m : Value) (w : World) (h : MaAt w [c, d] m) : Calls Tryz.prog 39 #[m] w fun e w' =>
    ∃ g cap, e = .returned (.slice (some ⟨g, 0, none⟩) 2 cap) ∧ 2 ≤ cap ∧ w'.cell? ⟨g, 1, none⟩ = some (.int .i64 (c.p.code : Int)) ∧ w'.cell? ⟨g, 7, none⟩ = some (.int .i64 (d.p.code : Int)) ∧ Ext w w' := by
  obtain ⟨g, o, cap, rfl, hcap, hcs⟩ := h
  obtain ⟨i0, hi, hz0, hz1, hz2⟩ := info_parts info_P
  simp only [List.length_cons, List.length_nil] at hcap ⊢
  have hmk : ∀ w, (Instr.makeSlice 71 (.int .i64 0) (.int .i64 2)).run Tryz.prog w = .ok (.slice (some ⟨w.heap.size, 0, none⟩) 0 2) (w.alloc (.cells #[.string ⟨#[]⟩, .int .i64 0, .slice none 0 0, .int .i64 0, .bool false, .nilIface, .string ⟨#[]⟩, .int .i64 0, .slice none 0 0, .int .i64 0, .bool false, .nilIface] 66)) := fun _ => by kernel_rfl
  have hown0 : (w.alloc (.cells #[.string ⟨#[]⟩, .int .i64 0, .slice none 0 0, .int .i64 0, .bool false, .nilIface, .string ⟨#[]⟩, .int .i64 0, .slice none 0 0, .int .i64 0, .bool false, .nilIface] 66)).ownsRow w.heap.size 66 6 (.slice (some ⟨w.heap.size, 0, none⟩) 0 2) 0 [] := World.ownsRow_made w _ 2 (Nat.le_refl _) (by unfold maxLen; omega) rfl
  have HCS := Lib.hid hcs
  have H12 := Lib.hid (show ∀ e ∈ [c, d], e.p.tc.oneCell' = true by intro e he; simp at he; rcases he with rfl | rfl; exact h1; exact h2)
  clear hcs h1 h2
  go_enter Tryz.func39, Tryz.ntmps39
  go_wp2
  clear hmk
  go_loopg [3, 11] 3 (fun gk s3 s11 wx => ∃ k : Nat, s11 = .int .i64 (k : Int) ∧ k ≤ 2 ∧ gk = 3 - k ∧ OutP w [c, d] k s3 wx)
  case atStart => exact ⟨0, rfl, by omega, rfl, [], hown0, Ext.alloc (Ext.refl w) _, fun i c hi => by omega⟩
  case round =>
    obtain ⟨k, rfl, hk, hgk, xs, hown, hE, hA⟩ := hrel
    clear hown0
    by_cases hlt : k < 2
    · have hkI : (k : Int) < 2 := by omega
      obtain ⟨e, hed⟩ : ∃ e, [c, d][k]? = some e := ⟨_, List.getElem?_eq_getElem (by simpa using hlt)⟩
      have hcm : CmpAt wr e g (o + k * 3) := by
        have h1 := HCS.out k (by simpa using hlt)
        have e' : [c, d][k] = e := by rw [List.getElem?_eq_getElem (by simpa using hlt)] at hed; exact Option.some.inj hed
        rw [e', Nat.mul_comm] at h1
        exact Ext.cmpAt hE h1
      obtain ⟨pb, gv, hrow, hpr⟩ := hcm
      have h1c := H12.out e (List.mem_of_getElem? hed)
      have H1 := Lib.hid (fun (w1 w2 : World) (h1 : New wr w1 #[.string ⟨#[]⟩, .pointer none, .int .i64 0] 61) (h2 : Put w1 w2 wr.heap.size #[.string e.str, .pointer (some ⟨pb, 0, none⟩), .int .i64 (e.pre.length : Int)] 61) => cmp_put (c := e) hpr h1 h2)
      have HPr := Lib.hid (fun w2 (h : CmpAt w2 e wr.heap.size 0) => protocol_ok2 e h1c wr.heap.size 0 w2 h)
      have hbase : w.heap.size ≤ wr.heap.size := hE.size
      have HA := Lib.hid (And.intro hE (And.intro hA (And.intro hed h1c)))
      have hxs : Hid (xs.length = k * 6) := Lib.hid hown.1
      clear hE hA hed hpr h1c
      go_wp2_with (first
        | (refine wpList_load_at (w := wr) rfl 61 _ rfl g (o + k * 3) rfl [.string e.str, .pointer (some ⟨pb, 0, none⟩), .int .i64 (e.pre.length : Int)] hrow _ Tryz.underlying61 rfl ?c1 ?_; (case c1 => kernel_rfl))
        | (refine wpList_new (w := wr) rfl _ _ (allocC _ _ _ rfl) ?_; intro w1 hn1)
        | (refine wpList_put (w := w1) rfl 61 _ _ rfl wr.heap.size #[.string e.str, .pointer (some ⟨pb, 0, none⟩), .int .i64 (e.pre.length : Int)] rfl rfl 61 _ hn1.blk ?c2 ?c3 ?c4 ?_; (case c2 => kernel_rfl); (case c3 => rfl); (case c4 => simp [Value.oneCell']); intro w2 hp2; have h2 := H1.out w1 w2 hn1 hp2)
        | (go_at_call 34; refine (HPr.out w2 h2.2).mono ?_; rintro e' w3 ⟨gv', rfl, he3⟩; have he4 := h2.1.trans he3; have hown3 := Ext.own he4 hown)
        | (at_builtin; refine wpList_append_where rfl _ _ 71 rfl w.heap.size 66 i0 _ 6 80 Tryz.underlying71 hi hz0 hz1 hz2 rfl (by decide) _ k xs rfl (hown3.alloc _) ⟨w3.heap.size, 0, none⟩ 1 1 [.string e.p.name, .int .i64 (e.p.code : Int), vc gv' e.p.code, .int .i64 e.p.size, .bool e.p.path, e.p.tc] rfl rfl (by decide) ?c5 ?c6 ?c7 ?c8 ?c9 ?_; (case c5 => intro j u hj; rw [addr_add]; exact row_new w3 _ _ j u hj); (case c6 => have hq := HA.out.2.2.2; unfold Value.oneCell' at hq; simp [Value.oneCell', hq]); (case c7 => unfold maxLen; omega); (case c8 => omega); (case c9 => have := he4.size; simp; omega); intro u' w5 hown5 hgr5 hwh5))
      have hnext : OutP w [c, d] (k + 1) u' w5 := by
        obtain ⟨hE, hA, hed, -⟩ := HA.out
        have hb : Ext w (w3.alloc (.cells #[.string e.p.name, .int .i64 (e.p.code : Int), vc gv' e.p.code, .int .i64 e.p.size, .bool e.p.path, e.p.tc] 66)) := hE.trans (he4.alloc _)
        refine ⟨_, hown5, below_grown hb hb.size hgr5 (fun j hj => (hown.lt j hj).1), fun i c' hi hc' => ?_⟩
        by_cases hik : i < k
        · rw [List.getElem?_append_left (by have := hxs.out; omega)]
          exact hA i c' hik hc'
        · obtain rfl : i = k := by omega
          rw [hed] at hc'
          cases hc'
          rw [List.getElem?_append_right (by have := hxs.out; omega), hxs.out, show 6 * i + 1 - i * 6 = 1 by omega]
          rfl
      go_roundg (3 - (k + 1))
      case measure => omega
      case rel => exact ⟨k + 1, by go_num, by omega, rfl, hnext⟩
    · have hkI : ¬ ((k : Int) < 2) := by omega
      obtain rfl : k = 2 := by omega
      obtain ⟨gp, cap2, hue⟩ := own_shape hown (by decide)
      subst hue
      have hr := row_of_own hown
      have HD : Hid (wr.cell? ⟨gp, 1, none⟩ = some (.int .i64 (c.p.code : Int)) ∧ wr.cell? ⟨gp, 7, none⟩ = some (.int .i64 (d.p.code : Int)) ∧ 2 ≤ cap2) := Lib.hid (by
        have h1 := hr _ _ (hA 0 c (by decide) rfl)
        have h2 := hr _ _ (hA 1 d (by decide) rfl)
        refine ⟨by simpa using h1, by simpa using h2, ?_⟩
        rcases hown.2 with ⟨h3, -⟩ | ⟨g', cap', cur, hv, -, -, hn, -⟩
        · cases h3
        · injection hv with _ _ h7
          omega)
      have HE := Lib.hid hE
      clear hr hown hA hE
      go_wp2
      go_ret
      exact ⟨gp, cap2, rfl, HD.out.2.2, HD.out.1, HD.out.2.1, HE.out⟩

set_option maxHeartbeats 1000000 in
set_option maxRecDepth 100000 in
theorem isThin_ok (g o cap : Nat) (hcap : 2 ≤ cap) (w : World) (h0 : CmpAt w ca g o) (h1 : CmpAt w cu g (o + 3)) : Calls Tryz.prog 20 #[.slice (some ⟨g, o, none⟩) 2 cap] w fun e w' => e = .returned (.bool true) ∧ Ext w w' := by
  have hnil := fun (w : World) (a : Option Addr) (n c : Nat) => Lib.run_eql_slice_nil (P := Tryz.prog) w 39 61 a n c 0 0 Tryz.underlying39
  have hm : MaAt w [ca, cu] (.slice (some ⟨g, o, none⟩) 2 cap) := ⟨g, o, cap, rfl, hcap, fun i hi => by
    match i, hi with
    | 0, _ => exact h0
    | 1, _ => exact h1⟩
  have HC := Lib.hid (And.intro h0 hm)
  clear h0 h1 hm
  go_enter Tryz.func20, Tryz.ntmps20
  go_wp2_with (first
    | (go_at_call 38; refine (zoneless_ok ca (by decide) g o 2 cap (.inr ⟨rfl, hcap⟩) w HC.out.1).mono ?_; rintro e w1 ⟨rfl, he1⟩)
    | (go_at_call 39; refine (protocols2_ok ca cu rfl rfl _ w1 (he1.maAt HC.out.2)).mono ?_; rintro e w2 ⟨gp, cap2, rfl, hcap2, k1, k7, he2⟩; have k1' : w2.cell? ⟨gp, 1, none⟩ = some (.int .i64 4) := k1; have k7' : w2.cell? ⟨gp, 7, none⟩ = some (.int .i64 273) := k7; clear k1 k7))
  go_ret
  exact ⟨rfl, he1.trans he2⟩
end Go.Proofs.YtdlmmaolacjnaaaGreatDoor
