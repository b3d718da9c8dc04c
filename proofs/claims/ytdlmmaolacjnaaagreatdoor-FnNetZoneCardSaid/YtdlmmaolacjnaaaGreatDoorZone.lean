/-
  The contracts of Encapsulate, FromIPAndZone and the thin package's NetFromZone.
-/
import Derived.Test.YtdlmmaolacjnaaaGreatDoorEncap
namespace Go.Proofs.YtdlmmaolacjnaaaGreatDoor
set_option linter.unusedVariables false
set_option linter.unusedSimpArgs false
open Go.RowKit Go.Sort

set_option maxRecDepth 100000 in
theorem maEncap_ok (c d : Cmp) (v1 v2 : Value) (w : World) (h1 : MaAt w [c] v1) (h2 : MaAt w [d] v2) :
    Calls Tryz.prog 68 #[v1, .iface 39 v2] w fun e w' => ∃ u, e = .returned u ∧ MaAt w' [c, d] u ∧ Ext w w' := by
  obtain ⟨g1, o1, cap1, rfl, hb1, hc1⟩ := h1
  obtain ⟨g2, o2, cap2, rfl, hb2, hc2⟩ := h2
  have hc := hc1 0 (by simp)
  have hd := hc2 0 (by simp)
  rw [Nat.mul_zero, Nat.add_zero] at hc hd
  simp only [List.length_singleton] at hb1 hb2 ⊢
  have HC := Lib.hid (And.intro (show CmpAt w c g1 o1 from hc) (show CmpAt w d g2 o2 from hd))
  clear hc1 hc2 hc hd
  go_enter Tryz.func68, Tryz.ntmps68
  go_wp2_with (go_at_call 83; refine (join2_ok c d g1 o1 cap1 g2 o2 cap2 w.heap.size 0 _ ((Ext.alloc (Ext.refl w) _).cmpAt HC.out.1) ((Ext.alloc (Ext.refl w) _).cmpAt HC.out.2) hb1 hb2 (row_new w _ _ 0 _ rfl) (row_new w _ _ 1 _ rfl)).mono ?_; rintro e w' ⟨u, rfl, hm, he⟩)
  go_ret
  exact ⟨_, rfl, hm, (Ext.alloc (Ext.refl w) _).trans he⟩
theorem cEncap_ok (c d : Cmp) (g o : Nat) (v2 : Value) (w : World) (h1 : CmpAt w c g o) (h2 : MaAt w [d] v2) :
    Calls Tryz.prog 32 #[.pointer (some ⟨g, o, none⟩), .iface 39 v2] w fun e w' => ∃ u, e = .returned u ∧ MaAt w' [c, d] u ∧ Ext w w' := by
  have HC := Lib.hid (And.intro h1 h2)
  clear h1 h2
  go_enter Tryz.func32, Tryz.ntmps32
  go_wp2_with (first
    | (go_at_call 30; refine (multiaddr_ok c g o w HC.out.1).mono ?_; rintro e w1 ⟨v1, rfl, hm1, he1⟩)
    | (go_at_call 68; refine (maEncap_ok c d v1 v2 w1 hm1 (he1.maAt HC.out.2)).mono ?_; rintro e w2 ⟨u, rfl, hm2, he2⟩))
  go_ret
  exact ⟨_, rfl, hm2, he1.trans he2⟩

set_option maxHeartbeats 1000000 in
set_option maxRecDepth 100000 in
theorem fromIP4_ok (x0 x1 x2 x3 : UInt8) (g o cap : Nat) (zone : ByteArray) (w : World) (hr : Row w g o ([x0, x1, x2, x3].map B)) (ht : Tab w) :
    Calls Tryz.prog 13 #[.slice (some ⟨g, o, none⟩) 4 cap, .string zone] w fun e w' => ∃ u, e = .returned (.tuple #[u, .nilIface]) ∧ MaAt w' [c4 x0 x1 x2 x3] u ∧ Ext w w' := by
  have HT := Lib.hid (text_four x0 x1 x2 x3 g o cap w hr ht)
  have HN := Lib.hid (fun w' (he : Ext w w') => new4 x0 x1 x2 x3 w' (he.tab ht))
  generalize (⟨(text4 x0 x1 x2 x3).toArray⟩ : ByteArray) = s at HT HN
  clear hr
  go_enter Tryz.func13, Tryz.ntmps13
  go_wp2_with (first
    | (go_at_call 27; refine (to4_four _ _ _).mono ?_; rintro e w' ⟨rfl, rfl⟩)
    | (go_at_call 29; refine HT.out.mono ?_; rintro e w1 ⟨rfl, he1⟩)
    | (go_at_call 28; refine (HN.out w1 he1).mono ?_; rintro e w2 ⟨gc, rfl, hcm, he2⟩)
    | (go_at_call 30; refine (multiaddr_ok _ gc 0 w2 hcm).mono ?_; rintro e w3 ⟨u, rfl, hm, he3⟩))
  go_ret2
  exact ⟨_, rfl, hm, (he1.trans he2).trans he3⟩

set_option maxHeartbeats 1000000 in
set_option maxRecDepth 100000 in
theorem fromIP6_ok (l : List UInt8) (h16 : l.length = 16) (hne : l.take 12 ≠ pre12) (g o cap : Nat) (hc : 16 ≤ cap) (w : World) (hr : Row w g o (l.map B)) (ht : Tab w) :
    Calls Tryz.prog 13 #[.slice (some ⟨g, o, none⟩) 16 cap, .string ⟨#[]⟩] w fun e w' => ∃ u, e = .returned (.tuple #[u, .nilIface]) ∧ MaAt w' [c6 l] u ∧ Ext w w' := by
  have HT := Lib.hid (text_sixteen l h16 hne g o cap hc w hr)
  have H4 := Lib.hid (to4_plain l h16 hne cap g o hc w hr)
  have HN := Lib.hid (fun p q (hr : IsRun (groups l) p q) w' (he : Ext w w') => new6 l h16 hne p q hr w' (he.tab ht))
  clear hr h16 hne
  go_enter Tryz.func13, Tryz.ntmps13
  go_wp2_with (first
    | (go_at_call 27; refine H4.out.mono ?_; rintro e w' ⟨rfl, rfl⟩)
    | (go_at_call 31; refine (to16_ok _ _ _).mono ?_; rintro e w' ⟨rfl, rfl⟩)
    | (go_at_call 29; refine HT.out.mono ?_; rintro e w1 ⟨⟨p, q, hpq, rfl⟩, he1⟩; have HPQ := Lib.hid hpq; clear hpq)
    | (go_at_call 28; refine (HN.out p q HPQ.out w1 he1).mono ?_; rintro e w2 ⟨gc, rfl, hcm, he2⟩)
    | (go_at_call 30; refine (multiaddr_ok _ gc 0 w2 hcm).mono ?_; rintro e w3 ⟨u, rfl, hm, he3⟩))
  go_ret2
  exact ⟨_, rfl, hm, (he1.trans he2).trans he3⟩

set_option maxHeartbeats 1000000 in
set_option maxRecDepth 100000 in
theorem fromIP6z_ok (l : List UInt8) (h16 : l.length = 16) (hne : l.take 12 ≠ pre12) (z : List UInt8) (hz : z ≠ []) (h60 : z.length ≤ 60) (h47 : (47 : UInt8) ∉ z) (g o cap : Nat) (hc : 16 ≤ cap) (w : World) (hr : Row w g o (l.map B)) (ht : Tab w) :
    Calls Tryz.prog 13 #[.slice (some ⟨g, o, none⟩) 16 cap, .string ⟨z.toArray⟩] w fun e w' => ∃ u, e = .returned (.tuple #[u, .nilIface]) ∧ MaAt w' [cz z, c6 l] u ∧ Ext w w' := by
  have HT := Lib.hid (text_sixteen l h16 hne g o cap hc w hr)
  have H4 := Lib.hid (to4_plain l h16 hne cap g o hc w hr)
  have HN := Lib.hid (fun p q (hr : IsRun (groups l) p q) w' (he : Ext w w') => new6 l h16 hne p q hr w' (he.tab ht))
  have HZ := Lib.hid (fun w' (he : Ext w w') => newz z hz h60 h47 w' (he.tab ht))
  have hzl : ((⟨z.toArray⟩ : ByteArray)).toList.isEmpty = false := by
    rw [ByteArray.toList_eq]
    cases z with
    | nil => exact absurd rfl hz
    | cons a r => rfl
  generalize (⟨z.toArray⟩ : ByteArray) = zs at HZ hzl
  clear hr h16 hne hz h60 h47
  go_enter Tryz.func13, Tryz.ntmps13
  go_wp2_with (first
    | (go_at_call 27; refine H4.out.mono ?_; rintro e w' ⟨rfl, rfl⟩)
    | (go_at_call 31; refine (to16_ok _ _ _).mono ?_; rintro e w' ⟨rfl, rfl⟩)
    | (go_at_call 29; refine HT.out.mono ?_; rintro e w1 ⟨⟨p, q, hpq, rfl⟩, he1⟩; have HPQ := Lib.hid hpq; clear hpq)
    | (go_at_call 28; (with_reducible refine (HN.out p q HPQ.out w1 he1).mono ?_); rintro e w2 ⟨gc, rfl, hcm, he2⟩)
    | (go_at_call 30; refine (multiaddr_ok _ gc 0 w2 hcm).mono ?_; rintro e w3 ⟨u, rfl, hm, he3⟩)
    | (go_at_call 28; (with_reducible refine (HZ.out w3 ((he1.trans he2).trans he3)).mono ?_); rintro e w4 ⟨gz, rfl, hcz, he4⟩)
    | (go_at_call 32; refine (cEncap_ok (cz z) (c6 l) gz 0 u w4 hcz (he4.maAt hm)).mono ?_; rintro e w5 ⟨u2, rfl, hm2, he5⟩))
  go_ret2
  exact ⟨_, rfl, hm2, (((he1.trans he2).trans he3).trans he4).trans he5⟩
end Go.Proofs.YtdlmmaolacjnaaaGreatDoor
