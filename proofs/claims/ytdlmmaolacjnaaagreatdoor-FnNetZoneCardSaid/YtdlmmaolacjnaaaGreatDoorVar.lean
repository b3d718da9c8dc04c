/-
  The contracts of the varints: bits, sizes, the bytes of a varint, the varint of a code.
-/
import Derived.Test.YtdlmmaolacjnaaaGreatDoorProg
import Derived.Test.YtdlmmaolacjnaaaGreatDoorShelf
import Derived.WalkLawsBesides
import Derived.WalkSpells
import Derived.Deep.LoopGhost
import Derived.Outline
import Derived.Lib.Varint
import Derived.Lib.EndianMore
import Derived.Test.YtdlmmaolacjnaaaGreatDoorCore
namespace Go.Proofs.YtdlmmaolacjnaaaGreatDoor
set_option linter.unusedVariables false
set_option linter.unusedSimpArgs false
open Go.RowKit

theorem Tryz.info5 : (Tryz.prog.info? 5).map (fun i => (i.zero, i.size, i.bytes)) = some (some (.int .u8 0), 1, 1) := by kernel_rfl

/-- How many bytes a varint has, out of the number of bits. -/
theorem usize_eq (x : Nat) : x < 18446744073709551616 → (Lib.uvarint x).length = Lib.bitLen x / 7 + (if Lib.bitLen x % 7 = 0 ∧ Lib.bitLen x ≠ 0 then 0 else 1) := by
  induction x using Nat.strongRecOn with
  | _ x ih =>
    intro hx
    by_cases h : x < 128
    · rw [Lib.uvarint_small h]
      have h7 : Lib.bitLen x ≤ 7 := Lib.bitLen_le x 7 (by decide) (by simpa using h)
      by_cases h0 : Lib.bitLen x = 7
      · rw [h0]; rfl
      · have : Lib.bitLen x / 7 = 0 := by omega
        rw [this, if_neg (by omega)]; rfl
    · rw [Lib.uvarint_big (by omega), List.length_cons, ih (x / 128) (by omega) (by omega), Lib.bitLen_shift 7 x (by simp; omega) (by simpa using hx)]
      rw [show (2 : Nat) ^ 7 = 128 from rfl]
      have e1 : (7 + Lib.bitLen (x / 128)) / 7 = Lib.bitLen (x / 128) / 7 + 1 := by omega
      have e2 : (7 + Lib.bitLen (x / 128)) % 7 = Lib.bitLen (x / 128) % 7 := by omega
      have h1 : Lib.bitLen (x / 128) ≠ 0 := by
        intro h0
        have := Lib.bitLen_half (x / 128) (by omega) (by omega)
        omega
      rw [e1, e2]
      by_cases hm : Lib.bitLen (x / 128) % 7 = 0
      · rw [if_pos ⟨hm, h1⟩, if_pos ⟨hm, by omega⟩]
      · rw [if_neg (by omega), if_neg (by omega)]

theorem uvarintSize_ok (x : Nat) (hx : x < 18446744073709551616) (w : World) :
    Calls Tryz.prog 79 #[.int .u64 x] w fun e w' => e = .returned (.int .i64 (Lib.uvarint x).length) ∧ w' = w := by
  have hu := Lib.hid (usize_eq x hx)
  have hb : Lib.bitLen x ≤ 64 := Lib.bitLen_le x 64 (by decide) (by simpa using hx)
  generalize hn : Lib.bitLen x = n at hu hb
  have Hn := Lib.hid hn
  clear hn
  go_enter Tryz.func79, Tryz.ntmps79
  go_wp2_with (go_at_call 127; refine (Tryz.bits_Len64 _ _ (by omega) (by omega)).mono ?_; rintro e w' ⟨rfl, rfl⟩; simp only [Int.toNat_natCast, Hn.out])
  all_goals
    go_ret
    refine ⟨ret_int ?_, rfl⟩
    rw [hu.out]
    split <;> simp at * <;> omega

theorem toUvarint_ok (x : Nat) (hx : x < 18446744073709551616) (w : World) :
    Calls Tryz.prog 85 #[.int .u64 x] w fun e w' =>
      e = .returned (.slice (some ⟨w.heap.size, 0, none⟩) (Lib.uvarint x).length (Lib.uvarint x).length) ∧ Bs w' (Lib.uvarint x) (.slice (some ⟨w.heap.size, 0, none⟩) (Lib.uvarint x).length (Lib.uvarint x).length) ∧ Ext w w' := by
  have hl := Lib.uvarint_length64 hx
  have hp := Lib.uvarint_pos x
  generalize hn : Lib.uvarint x = l at hl hp
  have Hn := Lib.hid hn
  clear hn
  obtain ⟨i0, hi, hz0, hz1, hz2⟩ := info_parts Tryz.info5
  have b2 : i0.bytes * l.length ≤ 281474976710656 := by rw [hz2]; omega
  have b3 : l.length ≤ maxLen := by unfold maxLen; omega
  go_enter Tryz.func85, Tryz.ntmps85
  go_wp2_with (first
    | (go_at_call 79; refine (uvarintSize_ok _ hx _).mono ?_; rintro e w' ⟨rfl, rfl⟩; simp only [Hn.out])
    | (refine wpList_make_full _ rfl _ _ 22 rfl w'.heap.size 5 i0 (.int .u8 0) 1 Tryz.underlying22 hi hz0 hz1 _ _ _ _ l.length rfl rfl rfl rfl b2 b3 (Nat.le_refl _) ?_; intro w1 hown hgr))
  have hcell : ∀ j, j < l.length → (w1.cell? ⟨w'.heap.size, 0 + j, none⟩).isSome = true ∧ w1.frozen? ⟨w'.heap.size, 0 + j, none⟩ = false := fun j hj => by
    refine ⟨?_, hown.frozenAt _⟩
    have e : (madeCells (Value.int .u8 0).cells (l.length * 1)).toList = List.replicate l.length (.int .u8 0) := by rw [Nat.mul_one]; exact toList_madeCells_one _ _
    rw [hown.cellAt _ (by omega), e]
    simp; omega
  refine (Tryz.binary_PutUvarint w'.heap.size 0 l.length l.length x hx _ (by rw [Hn.out]; exact Nat.le_refl _) (by rw [Hn.out]; exact hcell)).mono ?_
  rintro e w2 ⟨rfl, rfl⟩
  simp only [Hn.out]
  go_wp2
  go_ret
  refine ⟨rfl, ⟨_, _, rfl, Nat.le_refl _, by omega, fun _ => ⟨_, _, rfl, row_setCells fun j hj => (hcell j (by simpa [Lib.byteCells] using hj)).1⟩⟩, ?_⟩
  exact below_setCells' (below_of_grown hgr) (Nat.le_refl _) _ _

theorem codeToVarint_ok (x : Nat) (hx : x ≤ 2147483647) (w : World) :
    Calls Tryz.prog 131 #[.int .i64 x] w fun e w' =>
      e = .returned (.slice (some ⟨w.heap.size, 0, none⟩) (Lib.uvarint x).length (Lib.uvarint x).length) ∧ Bs w' (Lib.uvarint x) (.slice (some ⟨w.heap.size, 0, none⟩) (Lib.uvarint x).length (Lib.uvarint x).length) ∧ Ext w w' := by
  go_enter Tryz.func131, Tryz.ntmps131
  go_wp2_with (go_at_call 85; refine (toUvarint_ok x (by omega) _).mono ?_; rintro e w1 ⟨rfl, hb, he⟩)
  go_ret
  exact ⟨rfl, hb, he⟩
end Go.Proofs.YtdlmmaolacjnaaaGreatDoor
