/-
  The contract of NewComponent; the components of IP addresses and zones, in order; FromIPAndZone's parts.
-/
import Derived.Test.YtdlmmaolacjnaaaGreatDoorNew
import Derived.Test.YtdlmmaolacjnaaaGreatDoorAddress
namespace Go.Proofs.YtdlmmaolacjnaaaGreatDoor
set_option linter.unusedVariables false
set_option linter.unusedSimpArgs false
open Go.RowKit Go.Sort

set_option maxHeartbeats 1000000 in
set_option maxRecDepth 100000 in
theorem newComponentN_ok (c : Cmp) (hg : Good c) (hc : Coded c.p) (hn : Named c.p) (hne : c.val ≠ []) (f : Nat) (b cc : Value) (htc : c.p.tc = tcV (fnV f) b cc) (hen : Enters f) (s : ByteArray) (hs : S2B f s c.val) (w : World) (ht : Tab w) :
    Calls Tryz.prog 28 #[.string c.p.name, .string s] w fun e w' => ∃ g, e = .returned (.tuple #[.pointer (some ⟨g, 0, none⟩), .nilIface]) ∧ CmpAt w' c g 0 ∧ Ext w w' := by
  have hc0 : ((c.p.code : Int) == 0) = false := szB (k := 0) hg.code0
  have H := Lib.hid (withName_ok c.p hn hg.one)
  have H1 := Lib.hid hg.one
  have HT := Lib.hid htc
  have HS := Lib.hid (fun w' (he : Ext w w') => twrp_s2b f hen b cc s c.val hs w' (he.tab ht))
  have HNC := Lib.hid (fun gv0 bv w' hv0 hbv (he : Ext w w') => newComponent_ok c hg hc hne gv0 bv w' hv0 hbv (he.tab ht))
  clear hg hc hn hne htc hen hs
  go_enter Tryz.func28, Tryz.ntmps28
  go_wp2_with (first
    | (go_at_call 61; refine (H.out _).mono ?_; rintro e w1 ⟨rfl, hb, he1⟩)
    | (refine wpList_new (w := w1) rfl _ _ (allocP _ _ _ rfl) ?_; intro w2 hn2)
    | (refine wpList_put (w := w2) rfl 66 _ _ rfl w1.heap.size (c.p.cells (vc (w.heap.size + 3) c.p.code)) rfl rfl 66 _ hn2.blk ?c2 ?c3 ?c4 ?_; (case c2 => kernel_rfl); (case c3 => rfl); (case c4 => exact Pr.one _ H1.out _ _); intro w3 hp3; have k1 : w3.cell? ⟨w1.heap.size, 1, none⟩ = some (.int .i64 (c.p.code : Int)) := hp3.cells 1; have k5 : w3.cell? ⟨w1.heap.size, 5, none⟩ = some (tcV (fnV f) b cc) := (hp3.cells 5).trans (congrArg some HT.out); have he13 : Ext w1 w3 := hp3.below (Nat.le_refl _) hn2.ext)
    | (go_at_call 383; refine (HS.out w3 (he1.trans he13)).mono ?_; rintro e w4 ⟨v, rfl, hbv, he4⟩; have hrow : Row w4 (w.heap.size + 3) 0 ((Lib.uvarint c.p.code).map B) := (he13.trans he4).row (bs_row hb (uv_ne _)))
    | (refine wpList_load_row (w := w4) rfl 66 _ rfl w1.heap.size rfl 66 (c.p.cells (vc (w.heap.size + 3) c.p.code)) (0, 0) _ (he4.block hp3.blk) Tryz.underlying66 rfl ?c1 ?_; (case c1 => kernel_rfl))
    | (go_at_call 63; refine (HNC.out (w.heap.size + 3) v w4 hrow hbv (he1.trans (he13.trans he4))).mono ?_; rintro e w5 ⟨g, rfl, hcm, he5⟩))
  go_ret2
  exact ⟨_, rfl, hcm, (he1.trans (he13.trans he4)).trans he5⟩

/-- The components. -/
def c4 (x0 x1 x2 x3 : UInt8) : Cmp := ⟨pIP4, [x0, x1, x2, x3]⟩
def c6 (l : List UInt8) : Cmp := ⟨pIP6, l⟩
def cz (z : List UInt8) : Cmp := ⟨pIP6ZONE, z⟩
theorem good4 (x0 x1 x2 x3 : UInt8) : Good (c4 x0 x1 x2 x3) := {
  b2s := ⟨_, _, _, rfl, enters_ip4BtS, b2s_ip4 x0 x1 x2 x3⟩,
  val := ⟨_, _, _, rfl, .inl rfl⟩,
  one := rfl,
  code0 := by show (4 : Nat) ≠ 0; decide,
  code := by show (4 : Nat) < 2147483648; decide,
  len := by show 4 ≤ _; decide,
  size := .inr rfl }
theorem good6 (l : List UInt8) (h16 : l.length = 16) (hne : l.take 12 ≠ pre12) : Good (c6 l) := {
  b2s := ⟨_, _, _, rfl, enters_ip6BtS, b2s_ip6 l h16 hne⟩,
  val := ⟨_, _, _, rfl, .inl rfl⟩,
  one := rfl,
  code0 := by show (41 : Nat) ≠ 0; decide,
  code := by show (41 : Nat) < 2147483648; decide,
  len := by show l.length ≤ _; omega,
  size := .inr (by show (128 : Int) = 8 * (l.length : Int); omega) }
theorem goodz (z : List UInt8) (hz : z ≠ []) (h60 : z.length ≤ 60) (h : (47 : UInt8) ∉ z) : Good (cz z) := {
  b2s := ⟨_, _, _, rfl, enters_zoneBtS, b2s_zone z hz⟩,
  val := ⟨_, _, _, rfl, .inr ⟨_, rfl, enters_zoneVal, val_zone z hz h⟩⟩,
  one := rfl,
  code0 := by show (42 : Nat) ≠ 0; decide,
  code := by show (42 : Nat) < 2147483648; decide,
  len := by show z.length ≤ _; omega,
  size := .inl ⟨by show (-1 : Int) < 0; decide, by show z.length < 128; omega⟩ }
theorem new4 (x0 x1 x2 x3 : UInt8) (w : World) (ht : Tab w) : Calls Tryz.prog 28 #[.string ⟨#[105, 112, 52]⟩, .string ⟨(text4 x0 x1 x2 x3).toArray⟩] w fun e w' => ∃ g, e = .returned (.tuple #[.pointer (some ⟨g, 0, none⟩), .nilIface]) ∧ CmpAt w' (c4 x0 x1 x2 x3) g 0 ∧ Ext w w' :=
  newComponentN_ok (c4 x0 x1 x2 x3) (good4 x0 x1 x2 x3) coded_4 named_4 (by simp [c4]) _ _ _ rfl enters_ip4StB _ (s2b_ip4 x0 x1 x2 x3) w ht
theorem new6 (l : List UInt8) (h16 : l.length = 16) (hne : l.take 12 ≠ pre12) (p q : Nat) (hr : IsRun (groups l) p q) (w : World) (ht : Tab w) : Calls Tryz.prog 28 #[.string ⟨#[105, 112, 54]⟩, .string ⟨(text6 (groups l) p q).toArray⟩] w fun e w' => ∃ g, e = .returned (.tuple #[.pointer (some ⟨g, 0, none⟩), .nilIface]) ∧ CmpAt w' (c6 l) g 0 ∧ Ext w w' :=
  newComponentN_ok (c6 l) (good6 l h16 hne) coded_41 named_41 (by intro h; have h' : l = [] := h; rw [h'] at h16; simp at h16) _ _ _ rfl enters_ip6StB _ (s2b_ip6 l h16 p q hr) w ht
theorem newz (z : List UInt8) (hz : z ≠ []) (h60 : z.length ≤ 60) (h : (47 : UInt8) ∉ z) (w : World) (ht : Tab w) : Calls Tryz.prog 28 #[.string ⟨#[105, 112, 54, 122, 111, 110, 101]⟩, .string ⟨z.toArray⟩] w fun e w' => ∃ g, e = .returned (.tuple #[.pointer (some ⟨g, 0, none⟩), .nilIface]) ∧ CmpAt w' (cz z) g 0 ∧ Ext w w' :=
  newComponentN_ok (cz z) (goodz z hz h60 h) coded_42 named_42 hz _ _ _ rfl enters_zoneStB _ (s2b_zone z hz (by omega) h) w ht
end Go.Proofs.YtdlmmaolacjnaaaGreatDoor
