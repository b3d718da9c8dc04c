/-
  The contract of the closure that reads a group of two bytes.
-/
import Derived.Test.YtdlmmaolacjnaaaGreatDoorText
import Derived.Deep.QuietTactic
import Derived.BigQuiet
namespace Go.Proofs.YtdlmmaolacjnaaaGreatDoor
set_option linter.unusedVariables false
set_option linter.unusedSimpArgs false
open Go.RowKit Go.Sort

theorem groups_at : ∀ (l : List UInt8) (i : Nat), 2 * i + 1 < l.length → (groups l).getD i 0 = (l.getD (2 * i) 0).toNat * 256 + (l.getD (2 * i + 1) 0).toNat
  | [], i, h => by simp at h
  | [a], i, h => by simp at h
  | a :: b :: r, 0, _ => rfl
  | a :: b :: r, i + 1, h => by
    have ih := groups_at r i (by simp at h; omega)
    rw [show 2 * (i + 1) = 2 * i + 1 + 1 by omega]
    simpa [groups] using ih

theorem i64_or8 (x y : Nat) (hx : x < 256) (hy : y < 256) : bits .or .i64 ((x : Int) * 256) (y : Int) = ((x * 256 + y : Nat) : Int) := by
  have := bits_join .i64 63 (by decide) (fun n h0 h1 => by rw [IntKind.wrap_i64]; omega) 8 ((x : Int) * 256) (y : Int) (by omega) (by omega) (by omega) (by omega) (by omega) (by omega)
  rw [this]; simp

theorem group_ok (l : List UInt8) (h16 : l.length = 16) (i : Nat) (hi : i < 8) (b g o c : Nat) (w : World) (hl : Row w g o (l.map B)) (hb : w.cell? ⟨b, 0, none⟩ = some (.slice (some ⟨g, o, none⟩) 16 c)) :
    Calls Tryz.prog 66 #[.int .i64 i, .pointer (some ⟨b, 0, none⟩)] w fun e w' => e = .returned (.int .i64 ((groups l).getD i 0 : Nat)) ∧ ∃ k, w' = w.drewN k := by
  have hg := groups_at l i (by omega)
  have c1 : w.cell? ⟨g, o + 2 * i, none⟩ = some (.int .u8 ((l.getD (2 * i) 0).toNat : Int)) := hl (2 * i) _ (map_at l (by omega))
  have c2 : w.cell? ⟨g, o + (2 * i + 1), none⟩ = some (.int .u8 ((l.getD (2 * i + 1) 0).toNat : Int)) := hl (2 * i + 1) _ (map_at l (by omega))
  rw [hg]
  generalize l.getD (2 * i) 0 = x at c1
  generalize l.getD (2 * i + 1) 0 = y at c2
  have hx := x.toNat_lt
  have hy := y.toNat_lt
  have hor := i64_or8 x.toNat y.toNat hx hy
  have b1 : (0 : Int) ≤ 2 * (i : Int) ∧ 2 * (i : Int) < 16 := by omega
  have b2 : (0 : Int) ≤ 2 * (i : Int) + 1 ∧ 2 * (i : Int) + 1 < 16 := by omega
  clear hg
  go_enter Tryz.func66, Tryz.ntmps66
  go_wp2
  go_quiet (fail)
  go_wp2
  go_ret
  exact ⟨ret_int (by omega), nq, rfl⟩
end Go.Proofs.YtdlmmaolacjnaaaGreatDoor
