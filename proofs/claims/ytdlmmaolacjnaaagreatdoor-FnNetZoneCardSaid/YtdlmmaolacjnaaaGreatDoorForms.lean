/-
  The contracts of the forms of IP addresses: zeros, four bytes, sixteen bytes, mapped ones.
-/
import Derived.Test.YtdlmmaolacjnaaaGreatDoorSmall
namespace Go.Proofs.YtdlmmaolacjnaaaGreatDoor
set_option linter.unusedVariables false
set_option linter.unusedSimpArgs false
open Go.RowKit

theorem isZeros_ok (l : List UInt8) (c g o : Nat) (w : World) (hl : Row w g o (l.map B)) (hm : l.length ≤ 140737488351232) :
    Calls Tryz.prog 60 #[.slice (some ⟨g, o, none⟩) l.length c] w fun e w' => e = .returned (.bool (l.all (· == 0))) ∧ w = w' := by
  go_enter Tryz.func60, Tryz.ntmps60
  go_wp2
  go_loopg [3] (l.length + 1) (fun gk s3 wx => w = wx ∧ ∃ i : Nat, s3 = .int .i64 i ∧ i ≤ l.length ∧ gk = l.length + 1 - i ∧ Aside (∀ x ∈ l.take i, x = 0))
  case atStart => exact ⟨rfl, 0, rfl, by omega, rfl, fun k hk => by simp at hk⟩
  case round =>
    obtain ⟨rfl, i, rfl, hi, hg, HA⟩ := hrel
    by_cases hlt : i < l.length
    · have c1 : w.cell? ⟨g, o + i, none⟩ = some (.int .u8 ((l.getD i 0).toNat : Int)) := hl i _ (map_at l (by omega))
      have hx : l.getD i 0 = l[i] := getD_lt _ _ hlt
      generalize l.getD i 0 = x at c1 hx
      have Hx := Lib.hid hx
      clear hx
      go_wp2
      · go_ret
        have h1 : ((x.toNat : Int) != 0) = true := by assumption
        refine ⟨ret_bool ?_, rfl⟩
        symm
        rw [List.all_eq_false]
        refine ⟨l[i], List.getElem_mem hlt, ?_⟩
        rw [← Hx.out]
        intro h2
        have h3 : x = 0 := by simpa using h2
        rw [h3] at h1
        simp at h1
      · have h1 : ((x.toNat : Int) != 0) = false := by assumption
        go_roundg (l.length + 1 - (i + 1))
        case measure => omega
        case rel =>
          refine ⟨rfl, i + 1, by go_num, by omega, rfl, fun y hy => ?_⟩
          rw [List.take_add_one, List.getElem?_eq_getElem hlt] at hy
          rcases List.mem_append.1 hy with hy | hy
          · exact HA y hy
          · have h2 : y = x := by rw [Hx.out]; simpa using hy
            rw [h2]
            apply UInt8.toNat.inj
            simp at h1
            simpa using h1
    · have hle : ¬ ((i : Int) < (l.length : Int)) := by omega
      have HE : Hid (l.all (· == 0) = true) := Lib.hid (by
        rw [List.all_eq_true]
        intro x hx
        have := HA x (by rw [List.take_of_length_le (by omega)]; exact hx)
        simp [this])
      go_wp2
      go_ret
      exact ⟨ret_bool HE.out.symm, rfl⟩

/-- what stands ahead of four bytes in sixteen -/
abbrev pre12 : List UInt8 := [0, 0, 0, 0, 0, 0, 0, 0, 0, 0, 255, 255]
theorem mapped_iff (l : List UInt8) (h : l.length = 16) : ((l.take 10).all (· == 0) && (l.getD 10 0 == 255) && (l.getD 11 0 == 255)) = decide (l.take 12 = pre12) := by
  match l, h with
  | [a, b, c, d, e, f, g, i, j, k, m, n, p, q, r, s], _ =>
    rw [Bool.eq_iff_iff]
    simp [and_assoc]

theorem to4_four (a : Option Addr) (c : Nat) (w : World) : Calls Tryz.prog 27 #[.slice a 4 c] w fun e w' => e = .returned (.slice a 4 c) ∧ w = w' := by
  go_enter Tryz.func27, Tryz.ntmps27
  go_wp2
  go_ret
  exact ⟨rfl, rfl⟩

theorem row_take {w : World} {g o : Nat} {l : List UInt8} (hl : Row w g o (l.map B)) (k : Nat) : Row w g o ((l.take k).map B) := by
  rw [List.map_take]; exact hl.take k

theorem to4_plain (l : List UInt8) (h : l.length = 16) (hne : l.take 12 ≠ pre12) (c g o : Nat) (hc : 16 ≤ c) (w : World) (hl : Row w g o (l.map B)) :
    Calls Tryz.prog 27 #[.slice (some ⟨g, o, none⟩) 16 c] w fun e w' => e = .returned (.slice none 0 0) ∧ w = w' := by
  have hm := mapped_iff l h
  rw [decide_eq_false hne] at hm
  have c1 : w.cell? ⟨g, o + 10, none⟩ = some (.int .u8 ((l.getD 10 0).toNat : Int)) := hl 10 _ (map_at l (by omega))
  have c2 : w.cell? ⟨g, o + 11, none⟩ = some (.int .u8 ((l.getD 11 0).toNat : Int)) := hl 11 _ (map_at l (by omega))
  have hz := isZeros_ok (l.take 10) c g o w (row_take hl 10) (by rw [List.length_take]; omega)
  rw [List.length_take, h, show min 10 16 = 10 from rfl] at hz
  generalize (l.take 10).all (· == 0) = z at hm hz
  generalize l.getD 10 0 = x at hm c1
  generalize l.getD 11 0 = y at hm c2
  have Hm := Lib.hid hm
  have Hz := Lib.hid hz
  clear hm hz
  go_enter Tryz.func27, Tryz.ntmps27
  go_wp2_with (go_at_call 60; refine Hz.out.mono ?_; rintro e w' ⟨rfl, rfl⟩)
  all_goals
    go_ret
    first
    | exact ⟨rfl, rfl⟩
    | (exfalso
       have h1 : (x.toNat : Int) = 255 := by assumption
       have h2 : ((y.toNat : Int) == 255) = true := by assumption
       have h3 : z = true := by assumption
       have e1 : x = 255 := by apply UInt8.toNat.inj; simp; omega
       have e2 : y = 255 := by apply UInt8.toNat.inj; simp at h2 ⊢; omega
       have := Hm.out
       rw [e1, e2, h3] at this
       simp at this)

theorem to4_mapped (l : List UInt8) (h : l.length = 16) (he : l.take 12 = pre12) (c g o : Nat) (hc : 16 ≤ c) (w : World) (hl : Row w g o (l.map B)) :
    Calls Tryz.prog 27 #[.slice (some ⟨g, o, none⟩) 16 c] w fun e w' => e = .returned (.slice (some ⟨g, o + 12, none⟩) 4 (c - 12)) ∧ w = w' := by
  have hm := mapped_iff l h
  rw [decide_eq_true he] at hm
  have c1 : w.cell? ⟨g, o + 10, none⟩ = some (.int .u8 ((l.getD 10 0).toNat : Int)) := hl 10 _ (map_at l (by omega))
  have c2 : w.cell? ⟨g, o + 11, none⟩ = some (.int .u8 ((l.getD 11 0).toNat : Int)) := hl 11 _ (map_at l (by omega))
  have hz := isZeros_ok (l.take 10) c g o w (row_take hl 10) (by rw [List.length_take]; omega)
  rw [List.length_take, h, show min 10 16 = 10 from rfl] at hz
  simp only [Bool.and_eq_true, beq_iff_eq] at hm
  obtain ⟨⟨h1, h2⟩, h3⟩ := hm
  rw [h2] at c1
  rw [h3] at c2
  rw [h1] at hz
  have Hz := Lib.hid hz
  clear h1 h2 h3 hz
  go_enter Tryz.func27, Tryz.ntmps27
  go_wp2_with (go_at_call 60; refine Hz.out.mono ?_; rintro e w' ⟨rfl, rfl⟩)
  go_ret
  exact ⟨rfl, rfl⟩

theorem to16_ok (a : Option Addr) (c : Nat) (w : World) : Calls Tryz.prog 31 #[.slice a 16 c] w fun e w' => e = .returned (.slice a 16 c) ∧ w = w' := by
  go_enter Tryz.func31, Tryz.ntmps31
  go_wp2
  go_ret
  exact ⟨rfl, rfl⟩

theorem row_new (w : World) (cs : Array Value) (t : TypeId) : Row (w.alloc (.cells cs t (0, 0))) w.heap.size 0 cs.toList := fun j v hj => by
  rw [cell_of_row _ _ _ _ _ _ (heap_alloc_new w _), Nat.zero_add, ← hj]; simp
set_option maxRecDepth 100000 in
/-- NetMapped: of sixteen bytes whether they map four; of others no. -/
theorem netMapped_sixteen (l : List UInt8) (h : l.length = 16) (c g o : Nat) (w : World) (hl : Row w g o (l.map B)) :
    Calls Tryz.prog 4 #[.slice (some ⟨g, o, none⟩) 16 c] w fun e w' => e = .returned (.bool (decide (l.take 12 = pre12))) ∧ Ext w w' := by
  generalize hd : decide (l.take 12 = pre12) = d
  have hN : ∀ (w2 : World) (g' : Nat), Row w2 g o (l.map B) → Row w2 g' 0 [.int .u8 0, .int .u8 0, .int .u8 0, .int .u8 0, .int .u8 0, .int .u8 0, .int .u8 0, .int .u8 0, .int .u8 0, .int .u8 0, .int .u8 255, .int .u8 255] →
      Calls Tryz.prog 10 #[.slice (some ⟨g, o, none⟩) 16 c, .int .i64 96, .slice (some ⟨g', 0, none⟩) 12 12] w2 fun e w' => e = .returned (.bool d) ∧ w2 = w' := by
    intro w2 g' h1 h2
    have := netIn_ok l pre12 (by simp) (by rw [h]; decide) (by decide) c g o 12 g' 0 w2 h1 h2
    rw [h] at this
    rw [← hd]
    exact this
  have HN := Lib.hid hN
  clear hd hN
  go_enter Tryz.func4, Tryz.ntmps4
  go_wp2_with (go_at_call 10; refine (HN.out _ _ ((Ext.alloc (Ext.refl w) _).row hl) (row_new w _ _)).mono ?_; rintro e w' ⟨rfl, rfl⟩)
  go_ret
  exact ⟨rfl, Ext.alloc (Ext.refl w) _⟩
theorem netMapped_other (a : Option Addr) (n c : Nat) (h : n ≠ 16) (w : World) :
    Calls Tryz.prog 4 #[.slice a n c] w fun e w' => e = .returned (.bool false) ∧ w = w' := by
  have h1 : ((n : Int) == 16) = false := by simp; omega
  go_enter Tryz.func4, Tryz.ntmps4
  go_wp2
  go_ret
  exact ⟨rfl, rfl⟩
end Go.Proofs.YtdlmmaolacjnaaaGreatDoor
