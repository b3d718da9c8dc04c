/-
  The contract of the text of an IP address of four bytes.
-/
import Derived.Test.YtchlkclpikdbjaaGreatDoorText
import Derived.Test.YtchlkclpikdbjaaGreatDoorCore
import Derived.Test.YtchlkclpikdbjaaGreatDoorMore
import Derived.OwnWalk
import Derived.Deep.DeepCutAuto
import Derived.Deep.CutBlock
import Derived.Test.YtchlkclpikdbjaaGreatDoorProto
namespace Go.Proofs.YtchlkclpikdbjaaGreatDoor
set_option linter.unusedVariables false
set_option linter.unusedSimpArgs false
open Go.RowKit Go.Sort

theorem keep4 {w0 w w' : World} {p0 p1 p2 p3 : Addr} {v0 v1 v2 v3 : Value} (he : Ext w w') (h : w.cell? p0 = some v0 ∧ w.cell? p1 = some v1 ∧ w.cell? p2 = some v2 ∧ w.cell? p3 = some v3 ∧ Ext w0 w) :
    w'.cell? p0 = some v0 ∧ w'.cell? p1 = some v1 ∧ w'.cell? p2 = some v2 ∧ w'.cell? p3 = some v3 ∧ Ext w0 w' :=
  ⟨he.cell h.1, he.cell h.2.1, he.cell h.2.2.1, he.cell h.2.2.2.1, h.2.2.2.2.trans he⟩

theorem tab4 {w0 w : World} {c0 c1 c2 c3 : Prop} (h : c0 ∧ c1 ∧ c2 ∧ c3 ∧ Ext w0 w) (ht : Tab w0) : Tab w := h.2.2.2.2.tab ht

theorem ext4 {w0 w : World} {c0 c1 c2 c3 : Prop} (h : c0 ∧ c1 ∧ c2 ∧ c3 ∧ Ext w0 w) : Ext w0 w := h.2.2.2.2

theorem add_lists (x y : List UInt8) (h : x.length + y.length ≤ 1000) (w : World) : (Op.stringOp .add (⟨x.toArray⟩ : ByteArray) ⟨y.toArray⟩).run Tryz.prog w = .ok (.string ⟨(x ++ y).toArray⟩) w := by
  rw [run_string_add_sum w _ _ (by simp [ByteArray.size]; omega), mk_append]

set_option maxHeartbeats 4000000 in
set_option maxRecDepth 100000 in
theorem text_four (x0 x1 x2 x3 : UInt8) (h0 : x0.toNat < 100) (h1 : x1.toNat < 100) (h2 : x2.toNat < 100) (h3 : x3.toNat < 100) (g o c : Nat) (w : World) (hl : Row w g o ([x0, x1, x2, x3].map B)) (ht : Tab w) :
    Calls Tryz.prog 158 #[.slice (some ⟨g, o, none⟩) 4 c] w fun e w' => e = .returned (.string ⟨(text4 x0 x1 x2 x3).toArray⟩) ∧ Ext w w' := by
  have l0 := (dec_reads x0).1
  have l1 := (dec_reads x1).1
  have l2 := (dec_reads x2).1
  have l3 := (dec_reads x3).1
  have r0 := add_lists (dec x0) [46] (by simp; omega)
  have r1 := add_lists (dec x0 ++ [46]) (dec x1) (by simp; omega)
  have r2 := add_lists (dec x0 ++ [46] ++ dec x1) [46] (by simp; omega)
  have r3 := add_lists (dec x0 ++ [46] ++ dec x1 ++ [46]) (dec x2) (by simp; omega)
  have r4 := add_lists (dec x0 ++ [46] ++ dec x1 ++ [46] ++ dec x2) [46] (by simp; omega)
  have r5 := add_lists (dec x0 ++ [46] ++ dec x1 ++ [46] ++ dec x2 ++ [46]) (dec x3) (by simp; omega)
  have i0 := fun w (_ : Tab w) => itoa_ok x0 h0 w
  have i1 := fun w (_ : Tab w) => itoa_ok x1 h1 w
  have i2 := fun w (_ : Tab w) => itoa_ok x2 h2 w
  have i3 := fun w (_ : Tab w) => itoa_ok x3 h3 w
  clear h0 h1 h2 h3
  have hT : text4 x0 x1 x2 x3 = dec x0 ++ [46] ++ dec x1 ++ [46] ++ dec x2 ++ [46] ++ dec x3 := by simp [text4]
  rw [hT]
  clear hT l0 l1 l2 l3
  rw [show ([46] : List UInt8).toArray = #[46] from rfl] at r0 r2 r4
  generalize (⟨(dec x0 ++ [46] ++ dec x1 ++ [46] ++ dec x2 ++ [46] ++ dec x3).toArray⟩ : ByteArray) = t5 at r5 ⊢
  generalize (⟨(dec x0 ++ [46] ++ dec x1 ++ [46] ++ dec x2 ++ [46]).toArray⟩ : ByteArray) = t4 at r4 r5
  generalize (⟨(dec x0 ++ [46] ++ dec x1 ++ [46] ++ dec x2).toArray⟩ : ByteArray) = t3 at r3 r4
  generalize (⟨(dec x0 ++ [46] ++ dec x1 ++ [46]).toArray⟩ : ByteArray) = t2 at r2 r3
  generalize (⟨(dec x0 ++ [46] ++ dec x1).toArray⟩ : ByteArray) = t1 at r1 r2
  generalize (⟨(dec x0 ++ [46]).toArray⟩ : ByteArray) = t0 at r0 r1
  generalize (⟨(dec x0).toArray⟩ : ByteArray) = s0 at r0 i0
  generalize (⟨(dec x1).toArray⟩ : ByteArray) = s1 at r1 i1
  generalize (⟨(dec x2).toArray⟩ : ByteArray) = s2 at r3 i2
  generalize (⟨(dec x3).toArray⟩ : ByteArray) = s3 at r5 i3
  have I0 := Lib.hid i0
  have I1 := Lib.hid i1
  have I2 := Lib.hid i2
  have I3 := Lib.hid i3
  clear i0 i1 i2 i3
  go_enter Tryz.func158, Tryz.ntmps158
  go_wp2_with (go_at_call 157; refine (to4_four _ _ _).mono ?_; rintro e w1 ⟨rfl, rfl⟩)
  rename_i hK1 _ hK2
  clear hK1
  have k0 : w.cell? ⟨g, o, none⟩ = some (.int .u8 (x0.toNat : Int)) := hl 0 _ rfl
  have k1 : w.cell? ⟨g, o + 1, none⟩ = some (.int .u8 (x1.toNat : Int)) := hl 1 _ rfl
  have k2 : w.cell? ⟨g, o + 2, none⟩ = some (.int .u8 (x2.toNat : Int)) := hl 2 _ rfl
  have k3 : w.cell? ⟨g, o + 3, none⟩ = some (.int .u8 (x3.toNat : Int)) := hl 3 _ rfl
  have hw : ∀ x : UInt8, IntKind.i64.wrap (x.toNat : Int) = (x.toNat : Int) := fun x => by have := x.toNat_lt; rw [IntKind.wrap_i64]; omega
  have w0 := hw x0
  have w1 := hw x1
  have w2 := hw x2
  have w3 := hw x3
  clear hw
  have kS := And.intro k0 (And.intro k1 (And.intro k2 (And.intro k3 (Ext.refl w))))
  go_region_held3 (fun w' => w'.cell? ⟨g, o, none⟩ = some (.int .u8 (x0.toNat : Int)) ∧ w'.cell? ⟨g, o + 1, none⟩ = some (.int .u8 (x1.toNat : Int)) ∧ w'.cell? ⟨g, o + 2, none⟩ = some (.int .u8 (x2.toNat : Int)) ∧ w'.cell? ⟨g, o + 3, none⟩ = some (.int .u8 (x3.toNat : Int)) ∧ Ext w w')
    (first | exact keep4 he (by with_reducible assumption) | exact keep4 (Ext.drew (Ext.alloc (Ext.refl _) _)) kS)
    (first | (go_simp; go_at_call 166; refine (I0.out _ (tab4 (by with_reducible assumption) ht)).mono ?_; rintro e w' ⟨rfl, he⟩) | (go_simp; go_at_call 166; refine (I1.out _ (tab4 (by with_reducible assumption) ht)).mono ?_; rintro e w' ⟨rfl, he⟩) | (go_simp; go_at_call 166; refine (I2.out _ (tab4 (by with_reducible assumption) ht)).mono ?_; rintro e w' ⟨rfl, he⟩) | (go_simp; go_at_call 166; refine (I3.out _ (tab4 (by with_reducible assumption) ht)).mono ?_; rintro e w' ⟨rfl, he⟩))
  have hE := ext4 (w0 := w) (w := w') (by with_reducible assumption)
  go_wp2
  go_ret
  exact ⟨rfl, hE⟩
end Go.Proofs.YtchlkclpikdbjaaGreatDoor
namespace Go.Proofs.YtchlkclpikdbjaaGreatDoor
set_option linter.unusedVariables false
set_option linter.unusedSimpArgs false
open Go.RowKit Go.Sort

theorem Put.start {w : World} {g : Nat} {cs : Array Value} {t : TypeId} (h : w.heap[g]? = some (.cells cs t (0, 0))) : Put w w g cs t := ⟨rfl, rfl, rfl, rfl, h, fun _ _ => rfl⟩
theorem Put.set {w w2 : World} {g : Nat} {cs : Array Value} {t : TypeId} (h : Put w w2 g cs t) (j : Nat) (v : Value) : Put w (w2.setCell ⟨g, j, none⟩ v) g (cs.setIfInBounds j v) t := by
  refine ⟨h.os, h.tape, h.output, by simp [World.setCell, h.size], ?_, fun k hk => ?_⟩
  · have hb := h.blk
    simp only [World.setCell, Array.getElem?_modify]
    rw [if_pos trivial, hb]
    rfl
  · rw [Below.heap_setCell _ _ _ _ hk]; exact h.other k hk

section
variable (x0 x1 x2 x3 : UInt8)
def num4 : Nat → UInt8
  | 0 => x0 | 1 => x1 | 2 => x2 | _ => x3
def pre4 : Nat → List UInt8
  | 0 => [] | 1 => dec x0 ++ [46] | 2 => dec x0 ++ 46 :: (dec x1 ++ [46]) | _ => dec x0 ++ 46 :: (dec x1 ++ 46 :: (dec x2 ++ [46]))
def rest4 : Nat → List UInt8
  | 0 => 46 :: (dec x1 ++ 46 :: (dec x2 ++ 46 :: dec x3)) | 1 => 46 :: (dec x2 ++ 46 :: dec x3) | 2 => 46 :: dec x3 | _ => []
def put4 (cs : Array Value) : Nat → Array Value
  | 0 => cs | p + 1 => (put4 cs p).setIfInBounds (12 + p) (B (num4 x0 x1 x2 x3 p))
theorem put4_size (cs : Array Value) (p : Nat) : (put4 x0 x1 x2 x3 cs p).size = cs.size := by
  induction p with
  | zero => rfl
  | succ p ih => simp [put4, ih]

theorem split4 (p : Nat) : text4 x0 x1 x2 x3 = pre4 x0 x1 x2 p ++ (dec (num4 x0 x1 x2 x3 p) ++ rest4 x1 x2 x3 p) := by
  match p with
  | 0 => simp [pre4, num4, rest4, text4]
  | 1 => simp [pre4, num4, rest4, text4]
  | 2 => simp [pre4, num4, rest4, text4]
  | n + 3 => simp [pre4, num4, rest4, text4]
theorem pre4_next (p : Nat) (h : p < 3) : (pre4 x0 x1 x2 (p + 1)).length = (pre4 x0 x1 x2 p).length + (dec (num4 x0 x1 x2 x3 p)).length + 1 := by
  match p, h with
  | 0, _ => simp [pre4, num4]
  | 1, _ => simp [pre4, num4]; omega
  | 2, _ => simp [pre4, num4]; omega
theorem rest4_some (p : Nat) (h : p < 3) : ∃ r, r ≠ [] ∧ rest4 x1 x2 x3 p = 46 :: r := by
  match p, h with
  | 0, _ => exact ⟨_, by simp, rfl⟩
  | 1, _ => exact ⟨_, by simp, rfl⟩
  | 2, _ => exact ⟨_, by intro h; have := (dec_reads x3).2.1; rw [h] at this; simp at this, rfl⟩
end

theorem fields4_ok (x0 x1 x2 x3 : UInt8) (g : Nat) (cs : Array Value) (t : TypeId) (h16 : cs.size = 16) (w : World) (hg : w.heap[g]? = some (.cells cs t (0, 0))) :
    Calls Tryz.prog 257 #[.string ⟨(text4 x0 x1 x2 x3).toArray⟩, .slice (some ⟨g, 12, none⟩) 4 4] w fun e w' => e = .returned (.bool true) ∧ Put w w' g (put4 x0 x1 x2 x3 cs 4) t := by
  obtain ⟨s, hs⟩ : ∃ s : ByteArray, s = ⟨(text4 x0 x1 x2 x3).toArray⟩ := ⟨_, rfl⟩
  have hl : s.data.toList = text4 x0 x1 x2 x3 := by rw [hs]
  rw [← hs]
  clear hs
  have Hl := Lib.hid hl
  have hsz : s.size = (text4 x0 x1 x2 x3).length := by rw [Lib.size_eq, hl]
  have hsmall : s.size ≤ 15 := by
    rw [hsz]; have := (dec_reads x0).1; have := (dec_reads x1).1; have := (dec_reads x2).1; have := (dec_reads x3).1
    simp [text4]; omega
  have Hsz := Lib.hid hsz
  clear hl hsz
  go_enter Tryz.func257, Tryz.ntmps257
  go_wp2
  go_loopg [5, 6, 7, 8] (s.size + 1) (fun gk s5 s6 s7 s8 wx => ∃ p k i v : Nat, p ≤ 3 ∧ k ≤ (dec (num4 x0 x1 x2 x3 p)).length ∧ i = (pre4 x0 x1 x2 p).length + k ∧ v = decval ((dec (num4 x0 x1 x2 x3 p)).take k) ∧
    s5 = .int .i64 v ∧ s6 = .int .i64 p ∧ s7 = .int .i64 k ∧ s8 = .int .i64 i ∧ gk = s.size + 1 - i ∧ Put w wx g (put4 x0 x1 x2 x3 cs p) t)
  case atStart => exact ⟨0, 0, 0, 0, by omega, by omega, rfl, rfl, rfl, rfl, rfl, rfl, rfl, Put.start hg⟩
  case round =>
    obtain ⟨p, k, i, v, hp, hk, hi, hv, rfl, rfl, rfl, rfl, hgk, hput⟩ := hrel
    have hsp := split4 x0 x1 x2 x3 p
    have hD := dec_reads (num4 x0 x1 x2 x3 p)
    have hL : s.size = (pre4 x0 x1 x2 p).length + ((dec (num4 x0 x1 x2 x3 p)).length + (rest4 x1 x2 x3 p).length) := by
      rw [Hsz.out, hsp]; simp
    have hat : ∀ j, s.data.toList[(pre4 x0 x1 x2 p).length + j]? = (dec (num4 x0 x1 x2 x3 p) ++ rest4 x1 x2 x3 p)[j]? := fun j => by
      rw [Hl.out, hsp, List.getElem?_append_right (by omega)]; congr 1; omega
    have hsz4 := put4_size x0 x1 x2 x3 cs p
    have hnx := pre4_next x0 x1 x2 x3 p
    have hput' : ∀ (v : Value), Put w (wr.setCell ⟨g, 12 + p, none⟩ v) g ((put4 x0 x1 x2 x3 cs p).setIfInBounds (12 + p) v) t := fun v => hput.set _ v
    have hcell : (wr.cell? ⟨g, 12 + p, none⟩).isSome = true := by
      rw [hput.cells (12 + p), Array.getElem?_eq_getElem (by omega)]; rfl
    obtain ⟨u, hcell⟩ := Option.isSome_iff_exists.1 hcell
    have hfree := hput.free (12 + p)
    generalize hnum : num4 x0 x1 x2 x3 p = x at hk hv hD hL hat hnx
    have Hnum := Lib.hid hnum
    clear hnum
    by_cases hkl : k < (dec x).length
    · have hil : i < s.size := by omega
      obtain ⟨c, hc⟩ : ∃ c, s[i]'hil = c := ⟨_, rfl⟩
      have hck : (dec x)[k] = c := by
        have h1 := Lib.data_getElem? s i hil
        rw [hc, hi, hat k, List.getElem?_append_left hkl, List.getElem?_eq_getElem hkl] at h1
        exact Option.some.inj h1
      have hd := hD.2.2.2 k hkl
      rw [decval_succ _ _ hkl, ← hv, hck] at hd
      obtain ⟨d1, d2, d3, d4⟩ := hd
      have hw2 : decval ((dec x).take (k + 1)) = v * 10 + (c.toNat - 48) := by rw [decval_succ _ _ hkl, ← hv, hck]
      have hlt : (i : Int) < (s.size : Int) := by omega
      have hk3 : k ≤ 3 := by have := hD.1; omega
      have HH := Lib.hid (And.intro hi (And.intro hw2 hput))
      clear hi hv hsp hD hL hat hsz4 hnx hput' hcell hfree hck hw2 hput
      by_cases hk1 : k = 1
      · have hv0 : ((v : Int) == 0) = false := by simp; omega
        have hk1' : ((k : Int) == 1) = true := by simp; omega
        go_wp2
        go_roundg (s.size + 1 - (i + 1))
        case measure => omega
        case rel =>
          obtain ⟨hi, hw2, hput⟩ := HH.out
          refine ⟨p, k + 1, i + 1, v * 10 + (c.toNat - 48), hp, by rw [Hnum.out]; omega, by omega, by rw [Hnum.out]; exact hw2.symm, by go_num, rfl, by go_num, by go_num, rfl, hput⟩
      · have hk1' : ((k : Int) == 1) = false := by simp; omega
        go_wp2
        go_roundg (s.size + 1 - (i + 1))
        case measure => omega
        case rel =>
          obtain ⟨hi, hw2, hput⟩ := HH.out
          refine ⟨p, k + 1, i + 1, v * 10 + (c.toNat - 48), hp, by rw [Hnum.out]; omega, by omega, by rw [Hnum.out]; exact hw2.symm, by go_num, rfl, by go_num, by go_num, rfl, hput⟩
    · have hke : k = (dec x).length := by omega
      have hd := hD.2.2.2 (k - 1) (by have := hD.2.1; omega)
      have hk0 : 1 ≤ k := by have := hD.2.1; omega
      have hi1 : i - 1 < s.size := by omega
      obtain ⟨b, hb⟩ : ∃ b, s[i - 1]'hi1 = b := ⟨_, rfl⟩
      have hkm : k - 1 < (dec x).length := by omega
      have hbk : (dec x)[k - 1]'hkm = b := by
        have h1 := Lib.data_getElem? s (i - 1) hi1
        have h2 := hat (k - 1)
        rw [show (pre4 x0 x1 x2 p).length + (k - 1) = i - 1 by omega, List.getElem?_append_left hkm, List.getElem?_eq_getElem hkm] at h2
        rw [hb, h2] at h1
        exact Option.some.inj h1
      have hb46 : ((b.toNat : Int) == 46) = false := by rw [← hbk]; simp; omega
      have hvx : v = x.toNat := by rw [hv, hke, List.take_length]; exact hD.2.2.1
      have hv255 := x.toNat_lt
      by_cases hp3 : p < 3
      · obtain ⟨r, hr, hrest⟩ := rest4_some x1 x2 x3 p hp3
        rw [hrest] at hL hat
        have hil : i < s.size := by simp at hL; omega
        have hcl : s[i]'hil = 46 := by
          have h1 := Lib.data_getElem? s i hil
          have h2 := hat k
          rw [← hi, List.getElem?_append_right (by omega), show k - (dec x).length = 0 by omega] at h2
          rw [h2] at h1
          exact (Option.some.inj h1).symm
        have hlt : (i : Int) < (s.size : Int) := by omega
        have hrl : 0 < r.length := List.length_pos_iff.2 hr
        have hlast : ((i : Int) == (s.size : Int) - 1) = false := by simp at hL ⊢; omega
        have hi0 : ((i : Int) == 0) = false := by simp; omega
        have hp3' : ((p : Int) == 3) = false := by simp; omega
        have hw8 : IntKind.u8.wrap (v : Int) = (v : Int) := by rw [IntKind.wrap_u8]; omega
        have hii : ((i : Int) - 1).toNat = i - 1 := by omega
        have hib : (0 : Int) ≤ (i : Int) - 1 ∧ (i : Int) - 1 < (s.size : Int) := by omega
        have HH := Lib.hid (And.intro hi (And.intro hnx (hput' (.int .u8 (x.toNat : Int)))))
        subst hvx
        clear hi hv hsp hbk hd hD hL hat hsz4 hnx hput' hput hke hrest hr
        go_wp2
        go_roundg (s.size + 1 - (i + 1))
        case measure => omega
        case rel =>
          obtain ⟨hi, hnx, hput⟩ := HH.out
          refine ⟨p + 1, 0, i + 1, 0, by omega, by omega, by rw [hnx hp3]; omega, rfl, rfl, by go_num, rfl, by go_num, rfl, ?_⟩
          unfold put4
          rw [Hnum.out]
          exact hput
      · obtain rfl : p = 3 := by omega
        have hile : ¬ ((i : Int) < (s.size : Int)) := by
          have : (rest4 x1 x2 x3 3).length = 0 := rfl
          omega
        have hw8 : IntKind.u8.wrap (v : Int) = (v : Int) := by rw [IntKind.wrap_u8]; omega
        have HH := Lib.hid (hput' (.int .u8 (x.toNat : Int)))
        subst hvx
        clear hi hv hsp hbk hd hD hL hat hsz4 hnx hput' hput hke
        go_wp2
        go_ret
        refine ⟨rfl, ?_⟩
        unfold put4
        rw [Hnum.out]
        exact HH.out
end Go.Proofs.YtchlkclpikdbjaaGreatDoor
namespace Go.Proofs.YtchlkclpikdbjaaGreatDoor
set_option linter.unusedVariables false
set_option linter.unusedSimpArgs false

theorem set_mid {α : Type} (A J : List α) (x v : α) (p : Nat) (h : A.length = p) : (A ++ x :: J).set p v = A ++ v :: J := by
  subst h; simp
theorem set_take {α : Type} (X Y : List α) (v : α) (p : Nat) (h : p < X.length) : (X.take (p + 1) ++ Y).set p v = X.take p ++ v :: Y := by
  rw [List.take_add_one, List.getElem?_eq_getElem h]
  simp only [Option.toList_some, List.append_assoc, List.singleton_append]
  exact set_mid _ _ _ _ _ (by rw [List.length_take]; omega)
/-- two bytes are written behind those that are done -/
theorem store_two (d : List UInt8) (x y : UInt8) (n : Nat) : ((d ++ List.replicate (n + 2) 0).set d.length x).set (d.length + 1) y = d ++ [x, y] ++ List.replicate n 0 := by
  rw [List.replicate_succ, List.replicate_succ, set_mid _ _ _ _ _ rfl]
  rw [show d ++ x :: 0 :: List.replicate n 0 = (d ++ [x]) ++ 0 :: List.replicate n 0 by simp, set_mid _ _ _ _ _ (by simp)]
  simp

/-- The bytes A, Q and n zeros, m of them moved to the end. -/
def moved (A Q : List UInt8) (n m : Nat) : List UInt8 := (A ++ Q ++ List.replicate n 0).take (A.length + Q.length + n - m) ++ Q.drop (Q.length - m)
theorem moved_zero (A Q : List UInt8) (n : Nat) : moved A Q n 0 = A ++ Q ++ List.replicate n 0 := by
  unfold moved
  rw [List.take_of_length_le (by simp; omega), List.drop_of_length_le (by omega)]; simp
theorem moved_length (A Q : List UInt8) (n m : Nat) (h : m ≤ Q.length) : (moved A Q n m).length = A.length + Q.length + n := by
  unfold moved; simp; omega
theorem moved_get (A Q : List UInt8) (n m : Nat) (h : m < Q.length) (hn : 0 < n) : (moved A Q n m).getD (A.length + Q.length - 1 - m) 0 = Q[Q.length - 1 - m] := by
  unfold moved
  rw [List.getD_eq_getElem?_getD, List.getElem?_append_left (by simp; omega), List.getElem?_take_of_lt (by omega), List.getElem?_append_left (by simp; omega), List.getElem?_append_right (by omega), List.getElem?_eq_getElem (by omega)]
  simp only [Option.getD_some]
  congr 1; omega
theorem moved_succ (A Q : List UInt8) (n m : Nat) (h : m < Q.length) (_hn : 0 < n) : (moved A Q n m).set (A.length + Q.length - 1 - m + n) (Q[Q.length - 1 - m]) = moved A Q n (m + 1) := by
  unfold moved
  rw [show A.length + Q.length + n - m = (A.length + Q.length - 1 - m + n) + 1 by omega, set_take _ _ _ _ (by simp; omega)]
  rw [show A.length + Q.length + n - (m + 1) = A.length + Q.length - 1 - m + n by omega]
  congr 1
  have e := List.drop_eq_getElem_cons (l := Q) (i := Q.length - (m + 1)) (by omega)
  rw [e]
  congr 1
  · congr 1; omega
  · congr 1; omega
/-- Behind the moving: zeros are written from A's end on. -/
def zeroed (A Q : List UInt8) (n m : Nat) : List UInt8 := A ++ List.replicate m 0 ++ ((Q ++ List.replicate n 0).take n).drop m ++ Q
theorem zeroed_zero (A Q : List UInt8) (n : Nat) : zeroed A Q n 0 = moved A Q n Q.length := by
  have e : (A ++ (Q ++ List.replicate n 0)).take (A.length + n) = A ++ (Q ++ List.replicate n 0).take n := by
    rw [List.take_append, List.take_of_length_le (show A.length ≤ A.length + n by omega), show A.length + n - A.length = n by omega]
  unfold zeroed moved
  rw [show A.length + Q.length + n - Q.length = A.length + n by omega, List.append_assoc A Q, e]
  simp
theorem zeroed_length (A Q : List UInt8) (n m : Nat) (h : m ≤ n) : (zeroed A Q n m).length = A.length + Q.length + n := by
  unfold zeroed; simp; omega
theorem zeroed_succ (A Q : List UInt8) (n m : Nat) (h : m < n) : (zeroed A Q n m).set (A.length + m) 0 = zeroed A Q n (m + 1) := by
  unfold zeroed
  generalize hJ : (Q ++ List.replicate n (0 : UInt8)).take n = J
  have hl : m < J.length := by rw [← hJ]; simp; omega
  rw [List.drop_eq_getElem_cons hl]
  generalize J.drop (m + 1) = R
  generalize J[m] = x
  rw [show A ++ List.replicate m 0 ++ (x :: R) ++ Q = (A ++ List.replicate m 0) ++ x :: (R ++ Q) by simp, set_mid _ _ _ _ _ (by simp), List.replicate_succ']
  simp
theorem zeroed_all (A Q : List UInt8) (n : Nat) : zeroed A Q n n = A ++ List.replicate n 0 ++ Q := by
  unfold zeroed
  rw [List.drop_of_length_le (by simp)]; simp
end Go.Proofs.YtchlkclpikdbjaaGreatDoor
namespace Go.Proofs.YtchlkclpikdbjaaGreatDoor
set_option linter.unusedVariables false
set_option linter.unusedSimpArgs false
open Go.RowKit Go.Sort

theorem colon_digv : digv 58 = -1 := by decide
theorem digv_nonneg {d : Nat} (h : d < 16) : 0 ≤ digv (hexc d) := by rw [digv_hex h]; omega
/-- The cells of bytes. -/
abbrev cellsB (a : List UInt8) : Array Value := (a.map B).toArray
theorem cellsB_set (a : List UInt8) (j : Nat) (x : UInt8) : (cellsB a).setIfInBounds j (B x) = cellsB (a.set j x) := by
  simp [cellsB, List.map_set]
theorem Put.setB {w w2 : World} {g : Nat} {a : List UInt8} {t : TypeId} (h : Put w w2 g (cellsB a) t) (j : Nat) (x : UInt8) : Put w (w2.setCell ⟨g, j, none⟩ (.int .u8 (x.toNat : Int))) g (cellsB (a.set j x)) t := by
  rw [← cellsB_set]; exact h.set j _
theorem Put.getB {w w2 : World} {g : Nat} {a : List UInt8} {t : TypeId} (h : Put w w2 g (cellsB a) t) {j : Nat} (hj : j < a.length) : w2.cell? ⟨g, j, none⟩ = some (.int .u8 ((a.getD j 0).toNat : Int)) := by
  rw [h.cells j, Array.getElem?_eq_getElem (by simpa using hj), getD_lt _ _ hj]; simp

theorem join_len_ge (r : List Nat) : r.length ≤ (join r).length := by
  induction r with
  | nil => simp
  | cons g r ih =>
    have := List.length_pos_iff.2 (hexs_pos g)
    rw [join_cons, List.length_append, List.length_cons]
    split
    · rename_i h; subst h; simp; omega
    · simp; omega
theorem str_size (l : List UInt8) : (⟨l.toArray⟩ : ByteArray).size = l.length := by simp [ByteArray.size]
theorem str_at (l : List UInt8) {i : Nat} (h : i < (⟨l.toArray⟩ : ByteArray).size) (h' : i < l.length) : (⟨l.toArray⟩ : ByteArray)[i]'h = l[i] := by
  have := Lib.data_getElem? (⟨l.toArray⟩ : ByteArray) i h
  simp only [List.getElem?_eq_getElem h'] at this
  exact (Option.some.inj this).symm
theorem str_from (l : List UInt8) (k n : Nat) (hn : n = l.length) : (⟨l.toArray⟩ : ByteArray).extract k n = ⟨(l.drop k).toArray⟩ := by
  subst hn
  rw [Lib.extract_eq]
  congr 2
  rw [List.take_of_length_le (by simp)]

theorem results_cell2_row {P : Program} {fn : Func} {p u : Tmp} {ty : TypeId} (h : fn.results = #[.cell p ty, .tmp u]) (tmps : Array Value) (w : World) (g : Nat) (t : TypeId) (cs : Array Value) (fr : Nat × Nat) (d : TypeDesc)
    (hp : tmps.getD p undef = .pointer (some ⟨g, 0, none⟩)) (hg : w.heap[g]? = some (.cells cs t fr))
    (hu : P.underlying ty = some d) (hd : (match d with | .struct _ | .array _ _ => true | _ => false) = true) (hi : (P.info? ty).map (·.size) = some cs.size) :
    (results fn tmps).run P w = .ok (.tuple #[.agg cs, tmps.getD u undef]) w := by
  rw [results_cell_tmp h, hp]
  simp [asAddr, run_loadVar_row w g t ty cs fr d hg hu hd hi]

/-- Eight groups, or at most seven around a run of zeros. -/
def Fits (pre : List Nat) : Option (List Nat) → Prop
  | none => pre.length = 8
  | some q => pre.length + q.length ≤ 7
/-- The bytes of such an address. -/
def out6 (pre : List Nat) : Option (List Nat) → List UInt8
  | none => gbs pre
  | some q => gbs pre ++ List.replicate (16 - 2 * (pre.length + q.length)) 0 ++ gbs q

/-- sixteen zeros -/
abbrev z16 : Array Value := cellsB (List.replicate 16 0)
theorem z16_eq : z16 = #[.int .u8 0, .int .u8 0, .int .u8 0, .int .u8 0, .int .u8 0, .int .u8 0, .int .u8 0, .int .u8 0, .int .u8 0, .int .u8 0, .int .u8 0, .int .u8 0, .int .u8 0, .int .u8 0, .int .u8 0, .int .u8 0] := rfl
theorem cellsB_one (a : List UInt8) : (cellsB a).all (·.oneCell') = true := by
  simp [cellsB, Value.oneCell']
theorem info16 (a : List UInt8) (h : a.length = 16) : (Tryz.prog.info? 162).map (·.size) = some (cellsB a).size := by
  rw [show (cellsB a).size = 16 by simp [h]]
  kernel_rfl

theorem alloc16 (ρ : Operand → Value) (w : World) (o : Oper) (h : o.op = .alloc 162) : (execOp ρ o).run Tryz.prog w = .ok (.value (.pointer (some ⟨w.heap.size, 0, none⟩))) (w.alloc (.cells z16 162 (0, 0))) := by
  unfold execOp
  simp only [h]
  simp [go_sem]
  rfl
/-- the end of the reader: the worlds that it went through keep all that was there -/
theorem fin6 {w wA wB wx w2 : World} {t : TypeId} {c1 c2 cs cs' : Array Value} (hA : New w wA c1 t) (hB : New wA wB c2 t) (hput : Put wB wx wA.heap.size cs t) (hp : Put wx w2 w.heap.size cs' t) : Ext w w2 :=
  hp.below (Nat.le_refl _) (hput.below (by have := hA.size; omega) (hA.ext.trans hB.ext))
theorem old6 {w wA wB wx : World} {t : TypeId} {c1 c2 cs : Array Value} (hA : New w wA c1 t) (hB : New wA wB c2 t) (hput : Put wB wx wA.heap.size cs t) : wx.heap[w.heap.size]? = some (.cells c1 t (0, 0)) := by
  rw [hput.other _ (by have := hA.size; omega)]
  exact hB.ext.block hA.blk

/-- A byte is stored into the call's own array: the world behind it under a name of its own. -/
theorem runStore (ρ : Operand → Value) (w : World) (o : Oper) (x y : Operand) (ho : o.op = .store 5 x y) (g j : Nat) (b : Int) (hx : ρ x = .pointer (some ⟨g, j, none⟩)) (hy : ρ y = .int .u8 b) (v : Value) (hc : w.cell? ⟨g, j, none⟩ = some v) (hf : w.frozen? ⟨g, j, none⟩ = false) :
    (execOp ρ o).run Tryz.prog w = .ok .skip (w.setCell ⟨g, j, none⟩ (.int .u8 b)) := by
  unfold execOp
  simp only [ho, hx, hy]
  simp [go_sem, hc, hf]
theorem wpList_setB {ops : Array Oper} {rest : List Oper} {o : Oper} {a : Act} {w0 w : World} {Q : Exit → Act → World → Prop} (hgd : o.guard = none) (x y : Operand) (ho : o.op = .store 5 x y) (g j : Nat) (l : List UInt8) (t : TypeId)
    (hput : Put w0 w g (cellsB l) t) (b : Int) (hx : a.eval x = .pointer (some ⟨g, j, none⟩)) (hy : a.eval y = .int .u8 b) (hj : j < l.length) (c : UInt8) (hb : b = (c.toNat : Int))
    (h : ∀ w2, Put w0 w2 g (cellsB (l.set j c)) t → wpList Tryz.prog ops Q rest (a.put o.dst undef) w2) : wpList Tryz.prog ops Q (o :: rest) a w :=
  wpList_plain hgd fun K hK => by
    unfold Oper.wp
    rw [runStore a.eval w o x y ho g j b hx hy _ (hput.getB hj) (hput.free j)]
    subst hb
    exact hK _ _ (h _ (hput.setB j c))

set_option maxHeartbeats 4000000 in
set_option maxRecDepth 100000 in
/-- the text of nothing but zeros -/
theorem parse6_zeros (w : World) :
    Calls Tryz.prog 258 #[.string ⟨#[58, 58]⟩] w fun e w' => e = .returned (.tuple #[.agg z16, .bool true]) ∧ Ext w w' := by
  obtain ⟨s, hl⟩ : ∃ s : ByteArray, s = ⟨#[58, 58]⟩ := ⟨_, rfl⟩
  rw [← hl]
  have hsz : s.size = 2 := by rw [hl]; rfl
  have h0 : s[0]'(by omega) = 58 := by subst hl; rfl
  have h1 : s[1]'(by omega) = 58 := by subst hl; rfl
  have hx : s.extract 2 s.size = ⟨#[]⟩ := by subst hl; rfl
  have hx2 : s.extract 2 2 = ⟨#[]⟩ := by subst hl; rfl
  clear hl
  go_enter Tryz.func258, Tryz.ntmps258
  go_wp2_with (first
    | (refine wpList_new rfl z16 162 (alloc16 _ _ _ rfl) ?_; intro w1 hn)
    | (refine wpList_load_row rfl 162 _ rfl _ rfl 162 z16 (0, 0) _ hn.blk Tryz.underlying162 rfl (info16 _ (by simp)) ?_)
    | (refine wpList_put rfl 162 _ _ rfl w.heap.size z16 rfl rfl 162 z16 (old6 (by assumption) hn (Put.start hn.blk)) (info16 _ (by simp)) rfl (cellsB_one _) ?_; intro w2 hp))
  refine bodyPost_ret (results_cell2_row Tryz.results258 _ _ w.heap.size 162 _ (0, 0) _ rfl hp.blk Tryz.underlying162 rfl (info16 _ (by simp))) rfl ⟨rfl, ?_⟩
  exact fin6 (by assumption) hn (Put.start hn.blk) hp
end Go.Proofs.YtchlkclpikdbjaaGreatDoor
namespace Go.Proofs.YtchlkclpikdbjaaGreatDoor
set_option linter.unusedVariables false
set_option linter.unusedSimpArgs false
open Go.RowKit Go.Sort

theorem str_get {s : ByteArray} {l : List UInt8} (h : s.data.toList = l) {i : Nat} (hi : i < s.size) (hl : i < l.length) : s[i]'hi = l[i] := by
  have := Lib.data_getElem? s i hi
  rw [h, List.getElem?_eq_getElem hl] at this
  exact (Option.some.inj this).symm
theorem str_cons {s : ByteArray} {c : UInt8} {l : List UInt8} (h : s.data.toList = c :: l) : ∃ hi : 0 < s.size, s[0]'hi = c := by
  have hi : 0 < s.size := by rw [Lib.size_eq, h]; simp
  exact ⟨hi, by rw [str_get h hi (by simp)]; rfl⟩

theorem neB {c : UInt8} {k : Nat} (hk : k < 256) (h : c ≠ UInt8.ofNat k) : ((c.toNat : Int) == (k : Int)) = false := by
  simp only [beq_eq_false_iff_ne, ne_eq]
  intro h3
  exact h (by apply UInt8.toNat.inj; simp; omega)

theorem results_cell3_row {P : Program} {fn : Func} {p u v : Tmp} {ty : TypeId} (h : fn.results = #[.cell p ty, .tmp u, .tmp v]) (tmps : Array Value) (w : World) (g : Nat) (t : TypeId) (cs : Array Value) (fr : Nat × Nat) (d : TypeDesc)
    (hp : tmps.getD p undef = .pointer (some ⟨g, 0, none⟩)) (hg : w.heap[g]? = some (.cells cs t fr))
    (hu : P.underlying ty = some d) (hd : (match d with | .struct _ | .array _ _ => true | _ => false) = true) (hi : (P.info? ty).map (·.size) = some cs.size) :
    (results fn tmps).run P w = .ok (.tuple #[.agg cs, tmps.getD u undef, tmps.getD v undef]) w := by
  have hp' : tmps[p]?.getD undef = .pointer (some ⟨g, 0, none⟩) := by simpa using hp
  simp only [results, h]
  simp [Result.andThen, hp', asAddr, run_loadVar_row w g t ty cs fr d hg hu hd hi]

set_option maxHeartbeats 4000000 in
set_option maxRecDepth 100000 in

theorem four_cells (x0 x1 x2 x3 : UInt8) : put4 x0 x1 x2 x3 (cellsB (((List.replicate 16 (0 : UInt8)).set 10 255).set 11 255)) 4 = cellsB (pre12 ++ [x0, x1, x2, x3]) := by
  simp [put4, num4, cellsB, List.replicate]

set_option maxHeartbeats 4000000 in
set_option maxRecDepth 100000 in
theorem parseAddr_four (x0 x1 x2 x3 : UInt8) (w : World) :
    Calls Tryz.prog 196 #[.string ⟨(text4 x0 x1 x2 x3).toArray⟩] w fun e w' => e = .returned (.tuple #[.agg (cellsB (pre12 ++ [x0, x1, x2, x3])), .bool true, .bool true]) ∧ Ext w w' := by
  have hF := fun (g : Nat) (cs : Array Value) (h16 : cs.size = 16) (w : World) => fields4_ok x0 x1 x2 x3 g cs 162 h16 w
  obtain ⟨s, hs⟩ : ∃ s : ByteArray, s = ⟨(text4 x0 x1 x2 x3).toArray⟩ := ⟨_, rfl⟩
  have hl : s.data.toList = dec x0 ++ 46 :: (dec x1 ++ 46 :: (dec x2 ++ 46 :: dec x3)) := by rw [hs]; rfl
  rw [← hs] at hF ⊢
  have hd0 := dec_reads x0
  have hsm : s.size ≤ 15 := by
    have h1 := (dec_reads x1).1; have h2 := (dec_reads x2).1; have h3 := (dec_reads x3).1
    rw [str_len hl]; simp; omega
  obtain ⟨i0, hi0⟩ : ∃ i0, i0 = (dec x0).length := ⟨_, rfl⟩
  have hlt0 : i0 < s.size := by rw [str_len hl, hi0]; simp
  have hc0 : s[i0]'hlt0 = 46 := by
    rw [str_get hl hlt0 (by simp; omega), List.getElem_append_right (by omega)]
    simp [hi0]
  have hb : ∀ j, (hj : j < i0) → 48 ≤ (s[j]'(by omega)).toNat ∧ (s[j]'(by omega)).toNat ≤ 57 := by
    intro j hj
    rw [str_get hl (by omega) (by simp; omega), List.getElem_append_left (by omega)]
    have := hd0.2.2.2 j (by omega)
    exact ⟨this.1, this.2.1⟩
  have HF := Lib.hid hF
  have HB := Lib.hid hb
  clear hF hs hl hd0 hi0 hb
  obtain ⟨out, hout⟩ : ∃ out, out = pre12 ++ [x0, x1, x2, x3] := ⟨_, rfl⟩
  have hcl := four_cells x0 x1 x2 x3
  rw [← hout] at hcl ⊢
  have H16 : Hid (out.length = 16) := Lib.hid (by rw [hout]; rfl)
  have HCL := Lib.hid hcl
  clear hcl hout
  go_enter Tryz.func196, Tryz.ntmps196
  go_wp2_with (refine wpList_new (w := w) rfl z16 162 (alloc16 _ _ _ rfl) ?_; intro wA hnA)
  go_loopg [5] (i0 + 1) (fun gk s5 wx => wA = wx ∧ ∃ i : Nat, s5 = .int .i64 (i : Int) ∧ i ≤ i0 ∧ gk = i0 + 1 - i)
  case atStart => exact ⟨rfl, 0, rfl, by omega, rfl⟩
  case round =>
    obtain ⟨rfl, i, rfl, hi, hgk⟩ := hrel
    have his : i < s.size := by omega
    have hisI : (i : Int) < (s.size : Int) := by omega
    by_cases hlt : i < i0
    · obtain ⟨c, hc⟩ : ∃ c, s[i]'his = c := ⟨_, rfl⟩
      have hx := HB.out i hlt
      rw [hc] at hx
      have n1 : ((c.toNat : Int) == 46) = false := szB (k := 46) (by omega)
      have n2 : ((c.toNat : Int) == 58) = false := szB (k := 58) (by omega)
      have n3 : ((c.toNat : Int) == 37) = false := szB (k := 37) (by omega)
      clear hx hc0
      go_wp2
      go_roundg (i0 + 1 - (i + 1))
      case measure => omega
      case rel => exact ⟨rfl, i + 1, by go_num, by omega, rfl⟩
    · obtain rfl : i = i0 := by omega
      clear hlt hi hgk
      go_wp2_with (first
        | (refine wpList_setB (w0 := wA) (w := wA) rfl _ _ rfl w.heap.size 10 (List.replicate 16 0) _ (Put.start hnA.blk) _ rfl rfl (by simp) 255 rfl ?_; intro wS1 hS1)
        | (refine wpList_setB (w0 := wA) (w := wS1) rfl _ _ rfl w.heap.size 11 _ _ hS1 _ rfl rfl (by simp) 255 rfl ?_; intro wS hS)
        | (go_at_call 257; refine (HF.out _ _ (by simp) _ hS.blk).mono ?_; rintro e w2 ⟨rfl, hput⟩; rw [HCL.out] at hput)
        | (refine wpList_load_row (w := w2) rfl 162 _ rfl _ rfl 162 (cellsB out) (0, 0) _ hput.blk Tryz.underlying162 rfl (info16 _ H16.out) ?_)
        | (refine wpList_put (w := w2) rfl 162 _ _ rfl w.heap.size (cellsB out) rfl rfl 162 (cellsB out) hput.blk (info16 _ H16.out) rfl (cellsB_one _) ?_; intro w4 hp4))
      refine bodyPost_ret (results_cell3_row Tryz.results196 _ _ w.heap.size 162 _ (0, 0) _ rfl hp4.blk Tryz.underlying162 rfl (info16 _ H16.out)) rfl ⟨rfl, ?_⟩
      exact hp4.below (Nat.le_refl _) (hput.below (Nat.le_refl _) (hS.below (Nat.le_refl _) hnA.ext))

set_option maxRecDepth 100000 in
/-- zzParseIP, whatever sixteen bytes are read. -/
theorem parseIP_ok (s : ByteArray) (out : List UInt8) (h16 : out.length = 16) (b : Bool)
    (hp : ∀ w, Calls Tryz.prog 196 #[.string s] w fun e w' => e = .returned (.tuple #[.agg (cellsB out), .bool b, .bool true]) ∧ Ext w w') (w : World) :
    Calls Tryz.prog 156 #[.string s] w fun e w' => ∃ g, e = .returned (.slice (some ⟨g, 0, none⟩) 16 16) ∧ Row w' g 0 (out.map B) ∧ Ext w w' := by
  have HP := Lib.hid hp
  have H16 := Lib.hid h16
  clear hp h16
  go_enter Tryz.func156, Tryz.ntmps156
  go_wp2_with (first
    | (go_at_call 196; refine (HP.out _).mono ?_; rintro e w1 ⟨rfl, he⟩)
    | (refine wpList_new (w := w1) rfl z16 162 (alloc16 _ _ _ rfl) ?_; intro w2 hn)
    | (refine wpList_put (w := w2) rfl 162 _ _ rfl w1.heap.size (cellsB out) rfl rfl 162 z16 hn.blk (info16 _ H16.out) (by simp [H16.out]) (cellsB_one _) ?_; intro w3 hp3))
  go_ret
  refine ⟨_, rfl, fun j v hj => ?_, hp3.below (by have := he.size; exact this) (he.trans hn.ext)⟩
  rw [Nat.zero_add, hp3.cells j]
  simpa using hj
end Go.Proofs.YtchlkclpikdbjaaGreatDoor
namespace Go.Proofs.YtchlkclpikdbjaaGreatDoor
set_option linter.unusedVariables false
set_option linter.unusedSimpArgs false
open Go.RowKit Go.Sort

theorem str_one (s : ByteArray) (i : Nat) (hi : i < s.size) : s.extract i (i + 1) = ⟨#[s[i]]⟩ := by
  rw [Lib.extract_eq, show i + 1 - i = 1 by omega]
  have h := Lib.data_getElem? s i hi
  have hl : i < s.data.toList.length := by rw [← Lib.size_eq]; exact hi
  rw [List.drop_eq_getElem_cons hl]
  rw [List.getElem?_eq_getElem hl] at h
  simp only [List.take_succ_cons, List.take_zero]
  rw [Option.some.inj h]

set_option maxRecDepth 100000 in
theorem zzIndex_none (s : ByteArray) (hs : s.size ≤ 140737488351232) (h : (47 : UInt8) ∉ s.data.toList) (w : World) :
    Calls Tryz.prog 94 #[.string s, .string ⟨#[47]⟩] w fun e w' => e = .returned (.int .i64 (-1)) ∧ w = w' := by
  have H := Lib.hid h
  clear h
  obtain ⟨sub, hsub⟩ : ∃ sub : ByteArray, sub = ⟨#[47]⟩ := ⟨_, rfl⟩
  rw [← hsub]
  have h1 : sub.size = 1 := by rw [hsub]; rfl
  have Hs := Lib.hid hsub
  clear hsub
  go_enter Tryz.func94, Tryz.ntmps94
  go_wp2
  go_loopg [5] (s.size + 1) (fun gk s5 wx => w = wx ∧ ∃ i : Nat, s5 = .int .i64 (i : Int) ∧ i ≤ s.size ∧ gk = s.size + 1 - i)
  case atStart => exact ⟨rfl, 0, rfl, by omega, rfl⟩
  case round =>
    obtain ⟨rfl, i, rfl, hi, hgk⟩ := hrel
    by_cases hlt : i < s.size
    · have hl1 : (i : Int) + 1 ≤ (s.size : Int) := by omega
      have hne : ((s.extract i (i + 1)).toList == sub.toList) = false := by
        rw [str_one s i hlt, Hs.out, ByteArray.toList_eq, ByteArray.toList_eq]
        simp only [beq_eq_false_iff_ne, ne_eq]
        intro he
        apply H.out
        have h2 : s[i] = 47 := by simpa using he
        rw [← h2]
        have h3 := Lib.data_getElem? s i hlt
        exact List.mem_of_getElem? h3
      go_wp2
      go_roundg (s.size + 1 - (i + 1))
      case measure => omega
      case rel => exact ⟨rfl, i + 1, by go_num, by omega, rfl⟩
    · have hl1 : ¬ ((i : Int) + 1 ≤ (s.size : Int)) := by omega
      go_wp2
      go_ret
      exact ⟨rfl, rfl⟩

theorem zzContains_none (s : ByteArray) (hs : s.size ≤ 140737488351232) (h : (47 : UInt8) ∉ s.data.toList) (w : World) :
    Calls Tryz.prog 165 #[.string s, .string ⟨#[47]⟩] w fun e w' => e = .returned (.bool false) ∧ w = w' := by
  have H := Lib.hid h
  clear h
  go_enter Tryz.func165, Tryz.ntmps165
  go_wp2_with (go_at_call 94; refine (zzIndex_none s hs H.out _).mono ?_; rintro e w' ⟨rfl, rfl⟩)
  go_ret
  exact ⟨rfl, rfl⟩

/-- A transcoder's function from text to bytes, at one text. -/
def S2B (f : Nat) (s : ByteArray) (l : List UInt8) : Prop := ∀ w, Tab w → Calls Tryz.prog f #[.string s] w fun e w' => ∃ v, e = .returned (.tuple #[v, .nilIface]) ∧ By w' l v ∧ Ext w w'
/-- A transcoder's function from bytes to text, at these bytes: no error. -/
def B2S (f : Nat) (l : List UInt8) : Prop := ∀ w v, Tab w → By w l v → Calls Tryz.prog f #[v] w fun e w' => ∃ s, e = .returned (.tuple #[.string s, .nilIface]) ∧ Ext w w'
/-- A transcoder's look at bytes: no error. -/
def VBs (f : Nat) (l : List UInt8) : Prop := ∀ w v, By w l v → Calls Tryz.prog f #[v] w fun e w' => e = .returned .nilIface ∧ Ext w w'

theorem text4_str (x0 x1 x2 x3 : UInt8) (s : ByteArray) (hs : s.data.toList = text4 x0 x1 x2 x3) : s = ⟨(text4 x0 x1 x2 x3).toArray⟩ := by
  apply ByteArray.ext; apply Array.toList_inj.1; rw [hs]

theorem b2s_ip4 (x0 x1 x2 x3 : UInt8) (h0 : x0.toNat < 100) (h1 : x1.toNat < 100) (h2 : x2.toNat < 100) (h3 : x3.toNat < 100) : B2S 106 [x0, x1, x2, x3] := by
  intro w v ht hv
  obtain ⟨a, c, rfl, hc, h4⟩ := hv
  obtain ⟨g, o, rfl, hr⟩ := h4 (by simp)
  have HT := Lib.hid (text_four x0 x1 x2 x3 h0 h1 h2 h3 g o c w hr ht)
  show Calls _ _ #[.slice (some ⟨g, o, none⟩) 4 c] _ _
  clear hr
  go_enter Tryz.func106, Tryz.ntmps106
  go_wp2_with (go_at_call 158; refine HT.out.mono ?_; rintro e w' ⟨rfl, he⟩)
  go_ret2
  exact ⟨_, rfl, he⟩

set_option maxRecDepth 100000 in
theorem s2b_ip4 (x0 x1 x2 x3 : UInt8) : S2B 105 ⟨(text4 x0 x1 x2 x3).toArray⟩ [x0, x1, x2, x3] := by
  intro w _
  have HP := Lib.hid (fun w => parseIP_ok ⟨(text4 x0 x1 x2 x3).toArray⟩ (pre12 ++ [x0, x1, x2, x3]) rfl true (parseAddr_four x0 x1 x2 x3) w)
  generalize (⟨(text4 x0 x1 x2 x3).toArray⟩ : ByteArray) = s at HP
  have hnil := fun (w : World) (a : Option Addr) (n c : Nat) => Lib.run_eql_slice_nil (P := Tryz.prog) w 114 5 a n c 0 0 Tryz.underlying114
  go_enter Tryz.func105, Tryz.ntmps105
  go_wp2_with (first
    | (go_at_call 156; refine (HP.out _).mono ?_; rintro e w1 ⟨g, rfl, hr, he⟩)
    | (go_at_call 157; refine (to4_mapped _ rfl rfl 16 g 0 (Nat.le_refl _) _ hr).mono ?_; rintro e w' ⟨rfl, rfl⟩))
  go_ret2
  refine ⟨_, rfl, ⟨_, _, rfl, by simp, fun _ => ⟨g, 12, rfl, ?_⟩⟩, he⟩
  have := hr.drop 12
  simpa using this

end Go.Proofs.YtchlkclpikdbjaaGreatDoor
namespace Go.Proofs.YtchlkclpikdbjaaGreatDoor
set_option linter.unusedVariables false
set_option linter.unusedSimpArgs false
open Go.RowKit Go.Sort

/-- A call of the function f enters it. -/
def Enters (f : Nat) : Prop := ∀ (args : Array Value) (w : World), (callFunc f args).run Tryz.prog w = .ok (.enter f args) w
theorem enters_of {f : Nat} {fn : Func} {c : Code} (hf : Tryz.prog.funcs[f]? = some fn) (hname : (fn.name == "runtime.NumGoroutine") = false) (hb : fn.body = some c) : Enters f := by
  intro args w
  have h1 : fn.name ≠ "runtime.NumGoroutine" := by simpa using hname
  simp [callFunc, hf, h1, hb]
theorem enters_ip4StB : Enters 105 := enters_of Tryz.func105 (by kernel_rfl) rfl
theorem enters_ip4BtS : Enters 106 := enters_of Tryz.func106 (by kernel_rfl) rfl

theorem S2B.call {f : Nat} {s : ByteArray} {l : List UInt8} (h : S2B f s l) {w0 w : World} (ht : Tab w0) (he : Ext w0 w) : Calls Tryz.prog f #[.string s] w fun e w' => ∃ v, e = .returned (.tuple #[v, .nilIface]) ∧ By w' l v ∧ Ext w0 w' := by
  refine (h w (he.tab ht)).mono ?_
  rintro e w' ⟨v, rfl, hb, h2⟩
  exact ⟨v, rfl, hb, he.trans h2⟩
theorem B2S.call {f : Nat} {l : List UInt8} (h : B2S f l) {w0 w : World} (ht : Tab w0) (he : Ext w0 w) {v : Value} (hv : By w0 l v) : Calls Tryz.prog f #[v] w fun e w' => ∃ s, e = .returned (.tuple #[.string s, .nilIface]) ∧ Ext w0 w' := by
  refine (h w v (he.tab ht) (he.by hv)).mono ?_
  rintro e w' ⟨s, rfl, h2⟩
  exact ⟨s, rfl, he.trans h2⟩
theorem VBs.call {f : Nat} {l : List UInt8} (h : VBs f l) {w0 w : World} (he : Ext w0 w) {v : Value} (hv : By w0 l v) : Calls Tryz.prog f #[v] w fun e w' => e = .returned .nilIface ∧ Ext w0 w' := by
  refine (h w v (he.by hv)).mono ?_
  rintro e w' ⟨rfl, h2⟩
  exact ⟨rfl, he.trans h2⟩
set_option maxRecDepth 100000 in
/-- The methods of a transcoder out of three functions. -/
theorem twrp_s2b (f : Nat) (hf : Enters f) (b c : Value) (s : ByteArray) (l : List UInt8) (h : S2B f s l) (w : World) (ht : Tab w) :
    Calls Tryz.prog 351 #[.agg #[fnV f, b, c], .string s] w fun e w' => ∃ v, e = .returned (.tuple #[v, .nilIface]) ∧ By w' l v ∧ Ext w w' := by
  have H := Lib.hid h
  clear h
  unfold Enters at hf
  go_enter Tryz.func351, Tryz.ntmps351
  go_wp2_with (refine (H.out.call ht (Ext.alloc (Ext.refl w) _)).mono ?_; rintro e w' ⟨v, rfl, hb, he⟩)
  go_ret2
  exact ⟨_, rfl, hb, he⟩
set_option maxRecDepth 100000 in
theorem twrp_b2s (f : Nat) (hf : Enters f) (a c : Value) (l : List UInt8) (h : B2S f l) (w : World) (ht : Tab w) (v : Value) (hv : By w l v) :
    Calls Tryz.prog 350 #[.agg #[a, fnV f, c], v] w fun e w' => ∃ s, e = .returned (.tuple #[.string s, .nilIface]) ∧ Ext w w' := by
  have H := Lib.hid h
  clear h
  unfold Enters at hf
  go_enter Tryz.func350, Tryz.ntmps350
  go_wp2_with (refine (H.out.call ht (Ext.alloc (Ext.refl w) _) hv).mono ?_; rintro e w' ⟨s, rfl, he⟩)
  go_ret2
  exact ⟨_, rfl, he⟩
theorem eqlFn (f : Nat) (w : World) : (binOp .eql 84 (fnV f) .nilFunc).run Tryz.prog w = .ok (.bool false) w := by kernel_rfl
theorem eqlNilFn (w : World) : (binOp .eql 84 .nilFunc .nilFunc).run Tryz.prog w = .ok (.bool true) w := by kernel_rfl
set_option maxRecDepth 100000 in
theorem twrp_val (f : Nat) (hf : Enters f) (a b : Value) (l : List UInt8) (h : VBs f l) (w : World) (v : Value) (hv : By w l v) :
    Calls Tryz.prog 352 #[.agg #[a, b, fnV f], v] w fun e w' => e = .returned .nilIface ∧ Ext w w' := by
  have H := Lib.hid h
  clear h
  unfold Enters at hf
  have he1 := fun w => eqlFn f w
  go_enter Tryz.func352, Tryz.ntmps352
  go_wp2_with (refine (H.out.call (Ext.alloc (Ext.refl w) _) hv).mono ?_; rintro e w' ⟨rfl, he⟩)
  go_ret
  exact ⟨rfl, he⟩
set_option maxRecDepth 100000 in
theorem twrp_valnil (a b : Value) (w : World) (v : Value) :
    Calls Tryz.prog 352 #[.agg #[a, b, .nilFunc], v] w fun e w' => e = .returned .nilIface ∧ Ext w w' := by
  have he1 := eqlNilFn
  go_enter Tryz.func352, Tryz.ntmps352
  go_wp2
  go_ret
  exact ⟨rfl, Ext.alloc (Ext.refl w) _⟩
end Go.Proofs.YtchlkclpikdbjaaGreatDoor
