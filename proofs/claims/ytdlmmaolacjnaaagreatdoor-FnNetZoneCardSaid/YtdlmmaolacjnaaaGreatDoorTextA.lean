/-
  The contract of the text of an IP address of four bytes.
-/
import Derived.Test.YtdlmmaolacjnaaaGreatDoorText
namespace Go.Proofs.YtdlmmaolacjnaaaGreatDoor
set_option linter.unusedVariables false
set_option linter.unusedSimpArgs false
open Go.RowKit Go.Sort

theorem keep4 {w0 w w' : World} {p0 p1 p2 p3 : Addr} {v0 v1 v2 v3 : Value} (he : Ext w w') (h : w.cell? p0 = some v0 ∧ w.cell? p1 = some v1 ∧ w.cell? p2 = some v2 ∧ w.cell? p3 = some v3 ∧ Ext w0 w) :
    w'.cell? p0 = some v0 ∧ w'.cell? p1 = some v1 ∧ w'.cell? p2 = some v2 ∧ w'.cell? p3 = some v3 ∧ Ext w0 w' :=
  ⟨he.cell h.1, he.cell h.2.1, he.cell h.2.2.1, he.cell h.2.2.2.1, h.2.2.2.2.trans he⟩

theorem tab4 {w0 w : World} {c0 c1 c2 c3 : Prop} (h : c0 ∧ c1 ∧ c2 ∧ c3 ∧ Ext w0 w) (ht : Tab w0) : Tab w := h.2.2.2.2.tab ht

theorem ext4 {w0 w : World} {c0 c1 c2 c3 : Prop} (h : c0 ∧ c1 ∧ c2 ∧ c3 ∧ Ext w0 w) : Ext w0 w := h.2.2.2.2

theorem add_lists (x y : List UInt8) (h : x.length + y.length ≤ 1000) (w : World) : (Op.stringOp .add (⟨x.toArray⟩ : ByteArray) ⟨y.toArray⟩).run Tryz.prog w = .ok (.string ⟨(x ++ y).toArray⟩) w := by
  rw [run_string_add_sum w _ _ (by simp [ByteArray.size]; omega), mk_append]

set_option maxHeartbeats 4000000 in
set_option maxRecDepth 100000 in
theorem text_four (x0 x1 x2 x3 : UInt8) (g o c : Nat) (w : World) (hl : Row w g o ([x0, x1, x2, x3].map B)) (ht : Tab w) :
    Calls Tryz.prog 29 #[.slice (some ⟨g, o, none⟩) 4 c] w fun e w' => e = .returned (.string ⟨(text4 x0 x1 x2 x3).toArray⟩) ∧ Ext w w' := by
  have l0 := (dec_reads x0).1
  have l1 := (dec_reads x1).1
  have l2 := (dec_reads x2).1
  have l3 := (dec_reads x3).1
  have r0 := add_lists (dec x0) [46] (by simp; omega)
  have r1 := add_lists (dec x0 ++ [46]) (dec x1) (by simp; omega)
  have r2 := add_lists (dec x0 ++ [46] ++ dec x1) [46] (by simp; omega)
  have r3 := add_lists (dec x0 ++ [46] ++ dec x1 ++ [46]) (dec x2) (by simp; omega)
  have r4 := add_lists (dec x0 ++ [46] ++ dec x1 ++ [46] ++ dec x2) [46] (by simp; omega)
  have r5 := add_lists (dec x0 ++ [46] ++ dec x1 ++ [46] ++ dec x2 ++ [46]) (dec x3) (by simp; omega)
  have i0 := fun w => itoa_ok x0 w
  have i1 := fun w => itoa_ok x1 w
  have i2 := fun w => itoa_ok x2 w
  have i3 := fun w => itoa_ok x3 w
  have hT : text4 x0 x1 x2 x3 = dec x0 ++ [46] ++ dec x1 ++ [46] ++ dec x2 ++ [46] ++ dec x3 := by simp [text4]
  rw [hT]
  clear hT l0 l1 l2 l3
  rw [show ([46] : List UInt8).toArray = #[46] from rfl] at r0 r2 r4
  generalize (⟨(dec x0 ++ [46] ++ dec x1 ++ [46] ++ dec x2 ++ [46] ++ dec x3).toArray⟩ : ByteArray) = t5 at r5 ⊢
  generalize (⟨(dec x0 ++ [46] ++ dec x1 ++ [46] ++ dec x2 ++ [46]).toArray⟩ : ByteArray) = t4 at r4 r5
  generalize (⟨(dec x0 ++ [46] ++ dec x1 ++ [46] ++ dec x2).toArray⟩ : ByteArray) = t3 at r3 r4
  generalize (⟨(dec x0 ++ [46] ++ dec x1 ++ [46]).toArray⟩ : ByteArray) = t2 at r2 r3
  generalize (⟨(dec x0 ++ [46] ++ dec x1).toArray⟩ : ByteArray) = t1 at r1 r2
  generalize (⟨(dec x0 ++ [46]).toArray⟩ : ByteArray) = t0 at r0 r1
  generalize (⟨(dec x0).toArray⟩ : ByteArray) = s0 at r0 i0
  generalize (⟨(dec x1).toArray⟩ : ByteArray) = s1 at r1 i1
  generalize (⟨(dec x2).toArray⟩ : ByteArray) = s2 at r3 i2
  generalize (⟨(dec x3).toArray⟩ : ByteArray) = s3 at r5 i3
  have I0 := Lib.hid i0
  have I1 := Lib.hid i1
  have I2 := Lib.hid i2
  have I3 := Lib.hid i3
  clear i0 i1 i2 i3
  go_enter Tryz.func29, Tryz.ntmps29
  go_wp2_with (go_at_call 27; refine (to4_four _ _ _).mono ?_; rintro e w1 ⟨rfl, rfl⟩)
  rename_i hK1 _ hK2
  clear hK1
  have k0 : w.cell? ⟨g, o, none⟩ = some (.int .u8 (x0.toNat : Int)) := hl 0 _ rfl
  have k1 : w.cell? ⟨g, o + 1, none⟩ = some (.int .u8 (x1.toNat : Int)) := hl 1 _ rfl
  have k2 : w.cell? ⟨g, o + 2, none⟩ = some (.int .u8 (x2.toNat : Int)) := hl 2 _ rfl
  have k3 : w.cell? ⟨g, o + 3, none⟩ = some (.int .u8 (x3.toNat : Int)) := hl 3 _ rfl
  have hw : ∀ x : UInt8, IntKind.i64.wrap (x.toNat : Int) = (x.toNat : Int) := fun x => by have := x.toNat_lt; rw [IntKind.wrap_i64]; omega
  have w0 := hw x0
  have w1 := hw x1
  have w2 := hw x2
  have w3 := hw x3
  clear hw
  have kS := And.intro k0 (And.intro k1 (And.intro k2 (And.intro k3 (Ext.refl w))))
  go_region_held3 (fun w' => w'.cell? ⟨g, o, none⟩ = some (.int .u8 (x0.toNat : Int)) ∧ w'.cell? ⟨g, o + 1, none⟩ = some (.int .u8 (x1.toNat : Int)) ∧ w'.cell? ⟨g, o + 2, none⟩ = some (.int .u8 (x2.toNat : Int)) ∧ w'.cell? ⟨g, o + 3, none⟩ = some (.int .u8 (x3.toNat : Int)) ∧ Ext w w')
    (first | exact keep4 he (by with_reducible assumption) | exact keep4 (Ext.drew (Ext.alloc (Ext.refl _) _)) kS)
    (first | (go_simp; go_at_call 65; refine (I0.out _ (tab4 (by with_reducible assumption) ht)).mono ?_; rintro e w' ⟨rfl, he⟩) | (go_simp; go_at_call 65; refine (I1.out _ (tab4 (by with_reducible assumption) ht)).mono ?_; rintro e w' ⟨rfl, he⟩) | (go_simp; go_at_call 65; refine (I2.out _ (tab4 (by with_reducible assumption) ht)).mono ?_; rintro e w' ⟨rfl, he⟩) | (go_simp; go_at_call 65; refine (I3.out _ (tab4 (by with_reducible assumption) ht)).mono ?_; rintro e w' ⟨rfl, he⟩))
  have hE := ext4 (w0 := w) (w := w') (by with_reducible assumption)
  go_wp2
  go_ret
  exact ⟨rfl, hE⟩
end Go.Proofs.YtdlmmaolacjnaaaGreatDoor
