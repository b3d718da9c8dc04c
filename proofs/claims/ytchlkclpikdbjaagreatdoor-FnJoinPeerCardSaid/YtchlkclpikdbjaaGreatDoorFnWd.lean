/-
  FnJoinPeer: a variable's cell in every world that a call may meet.
-/
import Derived.Test.YtchlkclpikdbjaaGreatDoorFn
namespace Go.Proofs.YtchlkclpikdbjaaGreatDoor
set_option linter.unusedVariables false
set_option linter.unusedSimpArgs false
open Go Go.RowKit
set_option maxRecDepth 100000
theorem err_shape : (((begin Tryz.prog (fun _ _ => 0) default).world.heap[17]?).bind Obj.row?).map (fun x => (x.1.size, x.2)) = some (1, 50) := by kernel_rfl
theorem err_lt : 17 < Tryz.prog.globals.size := of_decide_eq_true (by kernel_rfl)
theorem preV_of_shaped {W : World} (h : W.ShapedOpen Tryz.prog) : PreV W := by
  have h1 := err_shape
  cases hx : ((begin Tryz.prog (fun _ _ => 0) default).world.heap[17]?).bind Obj.row? with
  | none => rw [hx] at h1; simp at h1
  | some x =>
    obtain ⟨zero, t⟩ := x
    rw [hx] at h1
    obtain ⟨cs, hc, hs, -⟩ := h.1 17 zero t err_lt hx
    have hz : zero.size = 1 := by
      have := Option.some.inj h1
      exact congrArg Prod.fst this
    have h0 : 0 < cs.size := by omega
    exact ⟨cs[0], (cell_of_row W 17 0 _ _ _ hc).trans (Array.getElem?_eq_getElem h0)⟩
end Go.Proofs.YtchlkclpikdbjaaGreatDoor
