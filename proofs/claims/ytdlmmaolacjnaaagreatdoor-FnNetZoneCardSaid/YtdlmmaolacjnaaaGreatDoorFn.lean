/-
  FnNetZone: the row.
-/
import Derived.Test.YtdlmmaolacjnaaaGreatDoorRows
import Derived.Test.YtdlmmaolacjnaaaGreatDoorLaw
import Derived.ProofKit
import Derived.OpenShut
import Derived.ShutString
import Derived.ChangeOld
import Derived.LaidMore
import Derived.Lib.LaidTab
import Derived.Stop.LaidErr
import Derived.Stop.Joined
namespace Go.Proofs.YtdlmmaolacjnaaaGreatDoor
set_option linter.unusedVariables false
set_option linter.unusedSimpArgs false
open Go.ChangeShapes Go.WideShapes Go.ChangeAt Go.RowKit
open Go.ChangeMaps (open_string shut_string)

theorem own : ownKnob Tryz.prog.godebug = none := by kernel_rfl
theorem laidOut : laidOutB Tryz.prog = true := by kernel_rfl
def laid3 : List (String × DataW Unit) := [("math/bits.deBruijn32tab", Rows.laid_math_bits_deBruijn32tab), ("math/bits.deBruijn64tab", Rows.laid_math_bits_deBruijn64tab), ("internal/strconv.uint64pow10", Rows.laid_internal_strconv_uint64pow10)]

/-- The bytes that came in. -/
theorem by_of_zs {W : World} {x : Addr} {l c : Nat} {zs : List Int} (hl : l ≤ c) (hz : zs.length = c) (hcell : ∀ i, i < zs.length → W.cell? (x.add i) = some (.int .u8 (zs.getD i 0))) (hwz : ∀ n ∈ zs, (Lit.int .u8 n).wf = true) :
    ∃ bs : List UInt8, bs.length = l ∧ By W bs (.slice (some x) l c) := by
  obtain ⟨bs, hbs⟩ : ∃ bs : List UInt8, bs = (zs.take l).map fun z => UInt8.ofNat z.toNat := ⟨_, rfl⟩
  have hlen : bs.length = l := by rw [hbs]; simp; omega
  refine ⟨bs, hlen, some x, c, by rw [hlen], by omega, fun hne => ?_⟩
  obtain ⟨b, off, spot⟩ := x
  have h0 : 0 < l := by rw [← hlen]; exact List.length_pos_iff.2 hne
  have hc := hcell 0 (by omega)
  have hspot : spot = none := by simpa [Addr.add] using World.cell?_spot hc
  subst hspot
  refine ⟨b, off, rfl, fun j v hj => ?_⟩
  have hj' : j < l := by
    have := (List.getElem?_eq_some_iff.1 hj).1
    simpa [hlen] using this
  have h1 := hcell j (by omega)
  rw [addr_add] at h1
  rw [h1]
  rw [hbs] at hj
  have hm : zs[j]? = some (zs.getD j 0) := by
    rw [List.getElem?_eq_getElem (by omega)]
    simp [List.getD, List.getElem?_eq_getElem (show j < zs.length by omega)]
  simp only [List.map_map, List.getElem?_map, List.getElem?_take, hj', if_true, hm, Option.map_some, Option.some.injEq] at hj
  rw [← hj]
  have hw := hwz _ (List.mem_of_getElem? hm)
  generalize zs.getD j 0 = z at hw
  simp only [Lit.wf, Bool.and_eq_true, decide_eq_true_eq] at hw
  have hmin : IntKind.u8.min = 0 := rfl
  have hmax : IntKind.u8.max = 255 := rfl
  rw [hmin, hmax] at hw
  have e : (UInt8.ofNat z.toNat).toNat = z.toNat := by
    simp [UInt8.toNat_ofNat']
    omega
  simp only [Function.comp, B, e]
  congr 2
  omega

theorem tab_of_laid {W : World} (h : laidMetH Tryz.prog laid3 W) : Tab W := by
  rw [MakeChecks.laidMetH_plain _ _ _ (by kernel_rfl)] at h
  exact Lib.tabIs_of_head (zs := Lib.pow10Tab) (rest := []) (t := 136) (e := 100) (n := 20) tabNamed (by kernel_rfl) (by kernel_rfl) (by kernel_rfl) (by kernel_rfl) (by kernel_rfl) h.tail.tail

/-- The heap that the door's own run leaves meets the condition. -/
theorem door_met (os : Os) (args : Array Value) : laidMetH Tryz.prog laid3 ((World.doorLaid Tryz.prog 400 os).forCall (fun _ _ => 0) ⟨#[], args, []⟩).memory :=
  laidMetH_of_parts3 (fuel := 8) (laidMet_of_run' 8 (by kernel_rfl) (by kernel_rfl)) (by kernel_rfl) (by kernel_rfl)
end Go.Proofs.YtdlmmaolacjnaaaGreatDoor
