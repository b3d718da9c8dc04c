/-
  The contract of the reader of four decimal numbers, at the text of four bytes.
-/
import Derived.Test.YtdlmmaolacjnaaaGreatDoorText
namespace Go.Proofs.YtdlmmaolacjnaaaGreatDoor
set_option linter.unusedVariables false
set_option linter.unusedSimpArgs false
open Go.RowKit Go.Sort

theorem Put.start {w : World} {g : Nat} {cs : Array Value} {t : TypeId} (h : w.heap[g]? = some (.cells cs t (0, 0))) : Put w w g cs t := ⟨rfl, rfl, rfl, rfl, h, fun _ _ => rfl⟩
theorem Put.set {w w2 : World} {g : Nat} {cs : Array Value} {t : TypeId} (h : Put w w2 g cs t) (j : Nat) (v : Value) : Put w (w2.setCell ⟨g, j, none⟩ v) g (cs.setIfInBounds j v) t := by
  refine ⟨h.os, h.tape, h.output, by simp [World.setCell, h.size], ?_, fun k hk => ?_⟩
  · have hb := h.blk
    simp only [World.setCell, Array.getElem?_modify]
    rw [if_pos trivial, hb]
    rfl
  · rw [Below.heap_setCell _ _ _ _ hk]; exact h.other k hk

section
variable (x0 x1 x2 x3 : UInt8)
def num4 : Nat → UInt8
  | 0 => x0 | 1 => x1 | 2 => x2 | _ => x3
def pre4 : Nat → List UInt8
  | 0 => [] | 1 => dec x0 ++ [46] | 2 => dec x0 ++ 46 :: (dec x1 ++ [46]) | _ => dec x0 ++ 46 :: (dec x1 ++ 46 :: (dec x2 ++ [46]))
def rest4 : Nat → List UInt8
  | 0 => 46 :: (dec x1 ++ 46 :: (dec x2 ++ 46 :: dec x3)) | 1 => 46 :: (dec x2 ++ 46 :: dec x3) | 2 => 46 :: dec x3 | _ => []
def put4 (cs : Array Value) : Nat → Array Value
  | 0 => cs | p + 1 => (put4 cs p).setIfInBounds (12 + p) (B (num4 x0 x1 x2 x3 p))
theorem put4_size (cs : Array Value) (p : Nat) : (put4 x0 x1 x2 x3 cs p).size = cs.size := by
  induction p with
  | zero => rfl
  | succ p ih => simp [put4, ih]

theorem split4 (p : Nat) : text4 x0 x1 x2 x3 = pre4 x0 x1 x2 p ++ (dec (num4 x0 x1 x2 x3 p) ++ rest4 x1 x2 x3 p) := by
  match p with
  | 0 => simp [pre4, num4, rest4, text4]
  | 1 => simp [pre4, num4, rest4, text4]
  | 2 => simp [pre4, num4, rest4, text4]
  | n + 3 => simp [pre4, num4, rest4, text4]
theorem pre4_next (p : Nat) (h : p < 3) : (pre4 x0 x1 x2 (p + 1)).length = (pre4 x0 x1 x2 p).length + (dec (num4 x0 x1 x2 x3 p)).length + 1 := by
  match p, h with
  | 0, _ => simp [pre4, num4]
  | 1, _ => simp [pre4, num4]; omega
  | 2, _ => simp [pre4, num4]; omega
theorem rest4_some (p : Nat) (h : p < 3) : ∃ r, r ≠ [] ∧ rest4 x1 x2 x3 p = 46 :: r := by
  match p, h with
  | 0, _ => exact ⟨_, by simp, rfl⟩
  | 1, _ => exact ⟨_, by simp, rfl⟩
  | 2, _ => exact ⟨_, by intro h; have := (dec_reads x3).2.1; rw [h] at this; simp at this, rfl⟩
end

theorem fields4_ok (x0 x1 x2 x3 : UInt8) (g : Nat) (cs : Array Value) (t : TypeId) (h16 : cs.size = 16) (w : World) (hg : w.heap[g]? = some (.cells cs t (0, 0))) :
    Calls Tryz.prog 290 #[.string ⟨(text4 x0 x1 x2 x3).toArray⟩, .slice (some ⟨g, 12, none⟩) 4 4] w fun e w' => e = .returned (.bool true) ∧ Put w w' g (put4 x0 x1 x2 x3 cs 4) t := by
  obtain ⟨s, hs⟩ : ∃ s : ByteArray, s = ⟨(text4 x0 x1 x2 x3).toArray⟩ := ⟨_, rfl⟩
  have hl : s.data.toList = text4 x0 x1 x2 x3 := by rw [hs]
  rw [← hs]
  clear hs
  have Hl := Lib.hid hl
  have hsz : s.size = (text4 x0 x1 x2 x3).length := by rw [Lib.size_eq, hl]
  have hsmall : s.size ≤ 15 := by
    rw [hsz]; have := (dec_reads x0).1; have := (dec_reads x1).1; have := (dec_reads x2).1; have := (dec_reads x3).1
    simp [text4]; omega
  have Hsz := Lib.hid hsz
  clear hl hsz
  go_enter Tryz.func290, Tryz.ntmps290
  go_wp2
  go_loopg [5, 6, 7, 8] (s.size + 1) (fun gk s5 s6 s7 s8 wx => ∃ p k i v : Nat, p ≤ 3 ∧ k ≤ (dec (num4 x0 x1 x2 x3 p)).length ∧ i = (pre4 x0 x1 x2 p).length + k ∧ v = decval ((dec (num4 x0 x1 x2 x3 p)).take k) ∧
    s5 = .int .i64 v ∧ s6 = .int .i64 p ∧ s7 = .int .i64 k ∧ s8 = .int .i64 i ∧ gk = s.size + 1 - i ∧ Put w wx g (put4 x0 x1 x2 x3 cs p) t)
  case atStart => exact ⟨0, 0, 0, 0, by omega, by omega, rfl, rfl, rfl, rfl, rfl, rfl, rfl, Put.start hg⟩
  case round =>
    obtain ⟨p, k, i, v, hp, hk, hi, hv, rfl, rfl, rfl, rfl, hgk, hput⟩ := hrel
    have hsp := split4 x0 x1 x2 x3 p
    have hD := dec_reads (num4 x0 x1 x2 x3 p)
    have hL : s.size = (pre4 x0 x1 x2 p).length + ((dec (num4 x0 x1 x2 x3 p)).length + (rest4 x1 x2 x3 p).length) := by
      rw [Hsz.out, hsp]; simp
    have hat : ∀ j, s.data.toList[(pre4 x0 x1 x2 p).length + j]? = (dec (num4 x0 x1 x2 x3 p) ++ rest4 x1 x2 x3 p)[j]? := fun j => by
      rw [Hl.out, hsp, List.getElem?_append_right (by omega)]; congr 1; omega
    have hsz4 := put4_size x0 x1 x2 x3 cs p
    have hnx := pre4_next x0 x1 x2 x3 p
    have hput' : ∀ (v : Value), Put w (wr.setCell ⟨g, 12 + p, none⟩ v) g ((put4 x0 x1 x2 x3 cs p).setIfInBounds (12 + p) v) t := fun v => hput.set _ v
    have hcell : (wr.cell? ⟨g, 12 + p, none⟩).isSome = true := by
      rw [hput.cells (12 + p), Array.getElem?_eq_getElem (by omega)]; rfl
    obtain ⟨u, hcell⟩ := Option.isSome_iff_exists.1 hcell
    have hfree := hput.free (12 + p)
    generalize hnum : num4 x0 x1 x2 x3 p = x at hk hv hD hL hat hnx
    have Hnum := Lib.hid hnum
    clear hnum
    by_cases hkl : k < (dec x).length
    · have hil : i < s.size := by omega
      obtain ⟨c, hc⟩ : ∃ c, s[i]'hil = c := ⟨_, rfl⟩
      have hck : (dec x)[k] = c := by
        have h1 := Lib.data_getElem? s i hil
        rw [hc, hi, hat k, List.getElem?_append_left hkl, List.getElem?_eq_getElem hkl] at h1
        exact Option.some.inj h1
      have hd := hD.2.2.2 k hkl
      rw [decval_succ _ _ hkl, ← hv, hck] at hd
      obtain ⟨d1, d2, d3, d4⟩ := hd
      have hw2 : decval ((dec x).take (k + 1)) = v * 10 + (c.toNat - 48) := by rw [decval_succ _ _ hkl, ← hv, hck]
      have hlt : (i : Int) < (s.size : Int) := by omega
      have hk3 : k ≤ 3 := by have := hD.1; omega
      have HH := Lib.hid (And.intro hi (And.intro hw2 hput))
      clear hi hv hsp hD hL hat hsz4 hnx hput' hcell hfree hck hw2 hput
      by_cases hk1 : k = 1
      · have hv0 : ((v : Int) == 0) = false := by simp; omega
        have hk1' : ((k : Int) == 1) = true := by simp; omega
        go_wp2
        go_roundg (s.size + 1 - (i + 1))
        case measure => omega
        case rel =>
          obtain ⟨hi, hw2, hput⟩ := HH.out
          refine ⟨p, k + 1, i + 1, v * 10 + (c.toNat - 48), hp, by rw [Hnum.out]; omega, by omega, by rw [Hnum.out]; exact hw2.symm, by go_num, rfl, by go_num, by go_num, rfl, hput⟩
      · have hk1' : ((k : Int) == 1) = false := by simp; omega
        go_wp2
        go_roundg (s.size + 1 - (i + 1))
        case measure => omega
        case rel =>
          obtain ⟨hi, hw2, hput⟩ := HH.out
          refine ⟨p, k + 1, i + 1, v * 10 + (c.toNat - 48), hp, by rw [Hnum.out]; omega, by omega, by rw [Hnum.out]; exact hw2.symm, by go_num, rfl, by go_num, by go_num, rfl, hput⟩
    · have hke : k = (dec x).length := by omega
      have hd := hD.2.2.2 (k - 1) (by have := hD.2.1; omega)
      have hk0 : 1 ≤ k := by have := hD.2.1; omega
      have hi1 : i - 1 < s.size := by omega
      obtain ⟨b, hb⟩ : ∃ b, s[i - 1]'hi1 = b := ⟨_, rfl⟩
      have hkm : k - 1 < (dec x).length := by omega
      have hbk : (dec x)[k - 1]'hkm = b := by
        have h1 := Lib.data_getElem? s (i - 1) hi1
        have h2 := hat (k - 1)
        rw [show (pre4 x0 x1 x2 p).length + (k - 1) = i - 1 by omega, List.getElem?_append_left hkm, List.getElem?_eq_getElem hkm] at h2
        rw [hb, h2] at h1
        exact Option.some.inj h1
      have hb46 : ((b.toNat : Int) == 46) = false := by rw [← hbk]; simp; omega
      have hvx : v = x.toNat := by rw [hv, hke, List.take_length]; exact hD.2.2.1
      have hv255 := x.toNat_lt
      by_cases hp3 : p < 3
      · obtain ⟨r, hr, hrest⟩ := rest4_some x1 x2 x3 p hp3
        rw [hrest] at hL hat
        have hil : i < s.size := by simp at hL; omega
        have hcl : s[i]'hil = 46 := by
          have h1 := Lib.data_getElem? s i hil
          have h2 := hat k
          rw [← hi, List.getElem?_append_right (by omega), show k - (dec x).length = 0 by omega] at h2
          rw [h2] at h1
          exact (Option.some.inj h1).symm
        have hlt : (i : Int) < (s.size : Int) := by omega
        have hrl : 0 < r.length := List.length_pos_iff.2 hr
        have hlast : ((i : Int) == (s.size : Int) - 1) = false := by simp at hL ⊢; omega
        have hi0 : ((i : Int) == 0) = false := by simp; omega
        have hp3' : ((p : Int) == 3) = false := by simp; omega
        have hw8 : IntKind.u8.wrap (v : Int) = (v : Int) := by rw [IntKind.wrap_u8]; omega
        have hii : ((i : Int) - 1).toNat = i - 1 := by omega
        have hib : (0 : Int) ≤ (i : Int) - 1 ∧ (i : Int) - 1 < (s.size : Int) := by omega
        have HH := Lib.hid (And.intro hi (And.intro hnx (hput' (.int .u8 (x.toNat : Int)))))
        subst hvx
        clear hi hv hsp hbk hd hD hL hat hsz4 hnx hput' hput hke hrest hr
        go_wp2
        go_roundg (s.size + 1 - (i + 1))
        case measure => omega
        case rel =>
          obtain ⟨hi, hnx, hput⟩ := HH.out
          refine ⟨p + 1, 0, i + 1, 0, by omega, by omega, by rw [hnx hp3]; omega, rfl, rfl, by go_num, rfl, by go_num, rfl, ?_⟩
          unfold put4
          rw [Hnum.out]
          exact hput
      · obtain rfl : p = 3 := by omega
        have hile : ¬ ((i : Int) < (s.size : Int)) := by
          have : (rest4 x1 x2 x3 3).length = 0 := rfl
          omega
        have hw8 : IntKind.u8.wrap (v : Int) = (v : Int) := by rw [IntKind.wrap_u8]; omega
        have HH := Lib.hid (hput' (.int .u8 (x.toNat : Int)))
        subst hvx
        clear hi hv hsp hbk hd hD hL hat hsz4 hnx hput' hput hke
        go_wp2
        go_ret
        refine ⟨rfl, ?_⟩
        unfold put4
        rw [Hnum.out]
        exact HH.out
end Go.Proofs.YtdlmmaolacjnaaaGreatDoor
