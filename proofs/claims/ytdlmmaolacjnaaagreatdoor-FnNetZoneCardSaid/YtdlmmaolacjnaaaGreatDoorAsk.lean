/-
  The contracts of NetFromZone, ToIP and NetToIP.
-/
import Derived.Test.YtdlmmaolacjnaaaGreatDoorZone
namespace Go.Proofs.YtdlmmaolacjnaaaGreatDoor
set_option linter.unusedVariables false
set_option linter.unusedSimpArgs false
open Go.RowKit Go.Sort

def thin (cs : List Cmp) : List (Nat × List UInt8) := cs.map fun c => (c.p.code, c.val)
set_option maxRecDepth 100000 in
theorem netFromZone_ok (cs : List Cmp) (hne : cs ≠ []) (h100 : cs.length ≤ 100) (hv : ∀ c ∈ cs, c.val ≠ []) (ip z : Value) (w : World)
    (hF : Calls Tryz.prog 13 #[ip, z] w fun e w' => ∃ u, e = .returned (.tuple #[u, .nilIface]) ∧ MaAt w' cs u ∧ Ext w w') :
    Calls Tryz.prog 7 #[ip, z] w fun e w' => ∃ u, e = .returned (.tuple #[u, .bool true]) ∧ IcAt w' (thin cs) u ∧ Ext w w' := by
  have HF := Lib.hid hF
  have HC := Lib.hid (fun m w h => components_ok cs hne h100 hv m w h)
  clear hF hne h100 hv
  go_enter Tryz.func7, Tryz.ntmps7
  go_wp2_with (first
    | (go_at_call 13; refine HF.out.mono ?_; rintro e w1 ⟨u, rfl, hm, he1⟩)
    | (go_at_call 14; refine (HC.out u w1 hm).mono ?_; rintro e w2 ⟨u2, rfl, hi, he2⟩))
  go_ret2
  exact ⟨_, rfl, hi, he1.trans he2⟩

theorem protocol_ok' (c : Cmp) (h1 : c.p.tc.oneCell' = true) (g o : Nat) (w : World) (h : CmpAt w c g o) : Calls Tryz.prog 34 #[.pointer (some ⟨g, o, none⟩)] w fun e w' =>
    ∃ v, e = .returned (.agg #[.string c.p.name, .int .i64 (c.p.code : Int), v, .int .i64 c.p.size, .bool c.p.path, c.p.tc]) ∧ Ext w w' := by
  refine (protocol_ok c h1 g o w h).mono ?_
  rintro e w' ⟨gv, rfl, -, he⟩
  exact ⟨_, rfl, he⟩

theorem field1 (v0 v1 v2 v3 v4 v5 : Value) (w : World) : (Instr.field 66 (.agg #[v0, v1, v2, v3, v4, v5]) 1).run Tryz.prog w = .ok v1 w := by kernel_rfl
/-- a component in a variable of the call's own -/
theorem cmp_put {wr w1 w2 : World} {c : Cmp} {pb gv : Nat} {z : Array Value} {t : TypeId} (hpr : PrAt wr c.p pb gv) (h1 : New wr w1 z t) (h2 : Put w1 w2 wr.heap.size #[.string c.str, .pointer (some ⟨pb, 0, none⟩), .int .i64 (c.pre.length : Int)] t) : Ext wr w2 ∧ CmpAt w2 c wr.heap.size 0 := by
  have he : Ext wr w2 := h2.below (Nat.le_refl _) h1.ext
  refine ⟨he, ⟨pb, gv, fun j v hj => ?_, he.prAt hpr⟩⟩
  rw [Nat.zero_add, h2.cells j]
  unfold Cmp.cells at hj
  simpa using hj

set_option maxHeartbeats 4000000 in
set_option maxRecDepth 100000 in
theorem toIP_ok (cs : List Cmp) (j : Nat) (cj : Cmp) (hj : cs[j]? = some cj) (h100 : cs.length ≤ 100) (hz : ∀ i c, i < j → cs[i]? = some c → c.p.code = 42) (hc : cj.p.code = 4 ∨ cj.p.code = 41) (h1 : ∀ c ∈ cs, c.p.tc.oneCell' = true) (m : Value) (w : World) (h : MaAt w cs m) :
    Calls Tryz.prog 15 #[m] w fun e w' => ∃ g cap, e = .returned (.tuple #[.slice (some ⟨g, 0, none⟩) cj.val.length cap, .nilIface]) ∧ cj.val.length ≤ cap ∧ Row w' g 0 (cj.val.map B) ∧ Ext w w' := by
  obtain ⟨g, o, cap, rfl, hcap, hcs⟩ := h
  obtain ⟨n, hn⟩ : ∃ n, n = cs.length := ⟨_, rfl⟩
  rw [← hn] at hcap h100 ⊢
  have hjn : j < n := by rw [hn]; exact (List.getElem?_eq_some_iff.1 hj).1
  have HN := Lib.hid hn
  have HCS := Lib.hid hcs
  have HX := Lib.hid (And.intro hj (And.intro hz (And.intro hc h1)))
  clear hn hcs hj hz hc h1
  go_enter Tryz.func15, Tryz.ntmps15
  go_wp2
  go_loopg [9] (j + 1) (fun gk s9 wx => ∃ k : Nat, s9 = .int .i64 (k : Int) ∧ k ≤ j ∧ gk = j + 1 - k ∧ Ext w wx)
  case atStart => exact ⟨0, rfl, by omega, rfl, Ext.refl w⟩
  case round =>
    obtain ⟨k, rfl, hk, hgk, hE⟩ := hrel
    have hkI : (k : Int) < (n : Int) := by omega
    have hkc : k < cs.length := by rw [← HN.out]; omega
    obtain ⟨c, hcd⟩ : ∃ c, cs[k]? = some c := ⟨_, List.getElem?_eq_getElem hkc⟩
    have hcm : CmpAt wr c g (o + k * 3) := by
      have h1 := HCS.out k hkc
      have e : cs[k] = c := by rw [List.getElem?_eq_getElem hkc] at hcd; exact Option.some.inj hcd
      rw [e, Nat.mul_comm] at h1
      exact Ext.cmpAt hE h1
    obtain ⟨pb, gv, hrow, hpr⟩ := hcm
    have h1c := HX.out.2.2.2 c (List.mem_of_getElem? hcd)
    have H1 := Lib.hid (fun (w1 w2 : World) (h1 : New wr w1 #[.string ⟨#[]⟩, .pointer none, .int .i64 0] 61) (h2 : Put w1 w2 wr.heap.size #[.string c.str, .pointer (some ⟨pb, 0, none⟩), .int .i64 (c.pre.length : Int)] 61) => cmp_put (c := c) hpr h1 h2)
    have HPr := Lib.hid (fun w2 (h : CmpAt w2 c wr.heap.size 0) => protocol_ok' c h1c wr.heap.size 0 w2 h)
    have HRv := Lib.hid (fun w2 (h : CmpAt w2 c wr.heap.size 0) => rawValue_ok c wr.heap.size 0 w2 h)
    have HE := Lib.hid hE
    have hf1 := field1
    by_cases hlt : k < j
    · have h42 := HX.out.2.1 k c hlt hcd
      rw [h42] at HPr
      clear hcd hpr h1c hE hkc h42
      go_wp2_with (first
        | (refine wpList_load_at (w := wr) rfl 61 _ rfl g (o + k * 3) rfl [.string c.str, .pointer (some ⟨pb, 0, none⟩), .int .i64 (c.pre.length : Int)] hrow _ Tryz.underlying61 rfl ?c1 ?_; (case c1 => kernel_rfl))
        | (refine wpList_new (w := wr) rfl _ _ (allocC _ _ _ rfl) ?_; intro w1 hn1)
        | (refine wpList_put (w := w1) rfl 61 _ _ rfl wr.heap.size #[.string c.str, .pointer (some ⟨pb, 0, none⟩), .int .i64 (c.pre.length : Int)] rfl rfl 61 _ hn1.blk ?c2 ?c3 ?c4 ?_; (case c2 => kernel_rfl); (case c3 => rfl); (case c4 => simp [Value.oneCell']); intro w2 hp2; have h2 := H1.out w1 w2 hn1 hp2)
        | (go_at_call 34; refine (HPr.out w2 h2.2).mono ?_; rintro e w3 ⟨v, rfl, he3⟩))
      have he4 := HE.out.trans (h2.1.trans he3)
      go_roundg (j + 1 - (k + 1))
      case measure => omega
      case rel => exact ⟨k + 1, by go_num, by omega, rfl, he4⟩
    · obtain rfl : k = j := by omega
      obtain rfl : c = cj := by have := HX.out.1; rw [hcd] at this; exact Option.some.inj this
      have hcode := HX.out.2.2.1
      clear hcd hpr h1c hE hkc HX
      rcases hcode with h4 | h4
      all_goals
        rw [h4] at HPr
        clear h4
        go_wp2_with (first
          | (refine wpList_load_at (w := wr) rfl 61 _ rfl g (o + k * 3) rfl [.string c.str, .pointer (some ⟨pb, 0, none⟩), .int .i64 (c.pre.length : Int)] hrow _ Tryz.underlying61 rfl ?c1 ?_; (case c1 => kernel_rfl))
          | (refine wpList_new (w := wr) rfl _ _ (allocC _ _ _ rfl) ?_; intro w1 hn1)
          | (refine wpList_put (w := w1) rfl 61 _ _ rfl wr.heap.size #[.string c.str, .pointer (some ⟨pb, 0, none⟩), .int .i64 (c.pre.length : Int)] rfl rfl 61 _ hn1.blk ?c2 ?c3 ?c4 ?_; (case c2 => kernel_rfl); (case c3 => rfl); (case c4 => simp [Value.oneCell']); intro w2 hp2; have h2 := H1.out w1 w2 hn1 hp2)
          | (go_at_call 34; refine (HPr.out w2 h2.2).mono ?_; rintro e w3 ⟨v, rfl, he3⟩)
          | (go_at_call 35; refine (HRv.out w3 (he3.cmpAt h2.2)).mono ?_; rintro e w4 ⟨g', cap', rfl, hg', hcap', hr4, he4⟩))
        go_ret2
        exact ⟨g', cap', rfl, hcap', hr4, HE.out.trans (h2.1.trans (he3.trans he4))⟩

set_option maxRecDepth 100000 in
theorem netToIP_ok (cs : List Cmp) (hne : cs ≠ []) (hfit : ∀ c ∈ cs, Fit c) (j : Nat) (cj : Cmp) (hj : cs[j]? = some cj) (h100 : cs.length ≤ 100) (hz : ∀ i c, i < j → cs[i]? = some c → c.p.code = 42) (hc : cj.p.code = 4 ∨ cj.p.code = 41) (m : Value) (w : World) (h : IcAt w (thin cs) m) :
    Calls Tryz.prog 8 #[m] w fun e w' => ∃ g cap, e = .returned (.tuple #[.slice (some ⟨g, 0, none⟩) cj.val.length cap, .bool true]) ∧ cj.val.length ≤ cap ∧ Row w' g 0 (cj.val.map B) ∧ Ext w w' := by
  have HA := Lib.hid (address_ok cs hne h100 hfit m w h)
  have HT := Lib.hid (fun u w' h => toIP_ok cs j cj hj h100 hz hc (fun c hc => (hfit c hc).2.1) u w' h)
  clear hne hfit hj hz hc h
  go_enter Tryz.func8, Tryz.ntmps8
  go_wp2_with (first
    | (go_at_call 16; refine HA.out.mono ?_; rintro e w1 ⟨u, rfl, hm, he1⟩)
    | (go_at_call 15; refine (HT.out u w1 hm).mono ?_; rintro e w2 ⟨g, cap, rfl, hcap, hr, he2⟩))
  go_ret2
  exact ⟨g, cap, rfl, hcap, hr, he1.trans he2⟩
end Go.Proofs.YtdlmmaolacjnaaaGreatDoor
