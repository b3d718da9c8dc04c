/-
  FnNetZone: the listed variables are what the program's text lays: the tie's facts, each by itself (the given text of the tie outgrows the bound of memory).
-/
import Derived.Test.YtdlmmaolacjnaaaGreatDoorRows
import Derived.LaidByTextLater
import Derived.SevenTiedAt
import Derived.LaidSub
import Derived.LaidOnce
namespace Go.Proofs.YtdlmmaolacjnaaaGreatDoor
set_option linter.unusedVariables false
set_option linter.unusedSimpArgs false
open Go
set_option maxRecDepth 100000
theorem tied_word : Tryz.prog.worded (varsWordLater true) = true := by kernel_rfl
theorem tied_other : Tryz.prog.worded (varsWordLater !true) = false := by kernel_rfl
theorem tied_root : Tryz.prog.worded rootWordLater = true := by kernel_rfl
theorem tied_kinds : ([("math/bits.deBruijn32tab", Rows.laid_math_bits_deBruijn32tab), ("math/bits.deBruijn64tab", Rows.laid_math_bits_deBruijn64tab), ("internal/strconv.uint64pow10", Rows.laid_internal_strconv_uint64pow10)] : List (String × DataW Unit)).map (fun x => Tryz.prog.kindOfLater x.1) = [LaidKind.data, .data, .data].map some := by kernel_rfl
theorem tied_vars : (Tryz.prog.funcNamed "gosem.cut.vars").isSome = true := by kernel_rfl
theorem tied_unsafe : Tryz.pinned.checked.prog.headLifts.contains "ownunsafe" = false := by kernel_rfl
end Go.Proofs.YtdlmmaolacjnaaaGreatDoor
namespace Go.Proofs.YtdlmmaolacjnaaaGreatDoor
set_option linter.unusedVariables false
set_option linter.unusedSimpArgs false
open Go
set_option maxRecDepth 100000
theorem tied_names : varsNamedLaterB Tryz.prog (varsId Tryz.prog) [("math/bits.deBruijn32tab", Rows.laid_math_bits_deBruijn32tab), ("math/bits.deBruijn64tab", Rows.laid_math_bits_deBruijn64tab), ("internal/strconv.uint64pow10", Rows.laid_internal_strconv_uint64pow10)] = true := by kernel_rfl
end Go.Proofs.YtdlmmaolacjnaaaGreatDoor
namespace Go.Proofs.YtdlmmaolacjnaaaGreatDoor
set_option linter.unusedVariables false
set_option linter.unusedSimpArgs false
open Go
set_option maxRecDepth 100000
theorem tied : Tryz.prog.laidByTextLater [("math/bits.deBruijn32tab", Rows.laid_math_bits_deBruijn32tab), ("math/bits.deBruijn64tab", Rows.laid_math_bits_deBruijn64tab), ("internal/strconv.uint64pow10", Rows.laid_internal_strconv_uint64pow10)] [.data, .data, .data] true :=
  Program.laidByTextLater_by_one 339 8 257 tied_word tied_other tied_root tied_kinds tied_vars tied_names (fun _ _ => by kernel_rfl)
theorem row_tied : Rows.fnNetZoneRow.laidByTextAt .later Tryz.pinned [.data, .data, .data] true :=
  OpenClaim.laidByTextAt_later rfl rfl tied tied_unsafe
end Go.Proofs.YtdlmmaolacjnaaaGreatDoor
