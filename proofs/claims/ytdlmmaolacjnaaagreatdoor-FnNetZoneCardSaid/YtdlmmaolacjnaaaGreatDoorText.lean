/-
  The contract of the text of an IP address.
-/
import Derived.Test.YtdlmmaolacjnaaaGreatDoorForms
import Derived.Test.YtdlmmaolacjnaaaGreatDoorShelf
import Derived.Lib.SmallJoins
import Derived.Lib.AppendIntMem
import Derived.Deep.RegionHeld3
namespace Go.Proofs.YtdlmmaolacjnaaaGreatDoor
set_option linter.unusedVariables false
set_option linter.unusedSimpArgs false
open Go.RowKit Go.Sort

/-- The powers of ten that package strconv keeps. -/
abbrev Tab (w : World) : Prop := Lib.TabIs Tryz.prog w "internal/strconv.uint64pow10" .u64 Lib.pow10Tab
theorem tabNamed : Tryz.prog.globalNamed "internal/strconv.uint64pow10" = some 8 := by kernel_rfl
theorem Ext.tab {w w' : World} (h : Ext w w') (ht : Tab w) : Tab w' := Joins.tab_stays tabNamed ht h (Nat.le_refl _)
theorem ext_grow (w : World) (k : Nat) (os : Array Obj) : Ext w (grow (w.drewN k) os) := Lib.below_grow _ w (Nat.le_refl _) k os

theorem itoa_ok (x : UInt8) (w : World) (ht : Tab w) : Calls Tryz.prog 65 #[.int .i64 (x.toNat : Int)] w fun e w' => e = .returned (.string ⟨(dec x).toArray⟩) ∧ Ext w w' := by
  have hx := x.toNat_lt
  refine (Tryz.strconv_Itoa (x.toNat : Int) (by omega) (by omega) w ht).mono ?_
  rintro e w' ⟨rfl, k, os, rfl⟩
  refine ⟨?_, ext_grow w k os⟩
  unfold Lib.itoa
  rw [if_neg (by omega)]
  rfl

end Go.Proofs.YtdlmmaolacjnaaaGreatDoor
