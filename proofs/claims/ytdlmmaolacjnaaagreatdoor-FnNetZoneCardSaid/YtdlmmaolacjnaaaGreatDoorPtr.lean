/-
  The protocol with a code, and the pointer to it, for whatever protocol the table holds.
-/
import Derived.Test.YtdlmmaolacjnaaaGreatDoorLook
namespace Go.Proofs.YtdlmmaolacjnaaaGreatDoor
set_option linter.unusedVariables false
set_option linter.unusedSimpArgs false
open Go.RowKit

theorem withCode_ok (p : Pr) (h : Coded p) (h1 : p.tc.oneCell' = true) (w : World) : Calls Tryz.prog 69 #[.int .i64 p.code] w fun e w' =>
    e = .returned (p.val (vc (w.heap.size + 3) p.code)) ∧ Bs w' (Lib.uvarint p.code) (vc (w.heap.size + 3) p.code) ∧ Ext w w' := by
  have H := Lib.hid h
  clear h
  go_enter Tryz.func69, Tryz.ntmps69
  go_wp2_with (first
    | (go_at_call 84; refine (H.out _).mono ?_; rintro e w1 ⟨rfl, hb, he⟩; rw [World.size_alloc] at hb ⊢; have Hb := Lib.hid hb; have He := Lib.hid he; have hg1 := he.block (heap_alloc_new w _); clear hb he)
    | (refine wpList_store_row rfl 66 _ _ rfl w.heap.size (p.cells _) rfl rfl 66 _ hg1 ?c1 ?c2 ?c3 ?c4; (case c1 => kernel_rfl); (case c2 => rfl); (case c3 => exact Pr.one _ h1 _ _)))
  refine bodyPost_ret (results_cell_row Tryz.results69 _ _ w.heap.size 66 _ (0, 0) _ rfl (setRow_heap _ _ _ _ _ _ hg1) Tryz.underlying66 rfl (by kernel_rfl)) rfl ⟨rfl, Bs.block Hb.out (setRow_other _ _ _ _ (by simp)), ?_⟩
  exact below_setRow' (Ext.trans (Ext.alloc (Ext.refl w) _) He.out) (Nat.le_refl _) _

theorem ptr_ok (p : Pr) (h : Coded p) (h1 : p.tc.oneCell' = true) (h0 : p.code ≠ 0) (w : World) : Calls Tryz.prog 78 #[.int .i64 p.code] w fun e w' =>
    ∃ b, e = .returned (.pointer (some ⟨b, 0, none⟩)) ∧ w'.heap[b]? = some (.cells (p.cells (vc (w.heap.size + 2) p.code)) 66 (0, 0)) ∧ w.heap.size + 2 < b ∧
      Bs w' (Lib.uvarint p.code) (vc (w.heap.size + 2) p.code) ∧ Ext w w' := by
  have H := Lib.hid h
  clear h
  have hc : ((p.code : Int) == 0) = false := by simp; omega
  go_enter Tryz.func78, Tryz.ntmps78
  go_wp2_with (first
    | (go_at_call 84; refine (H.out _).mono ?_; rintro e w1 ⟨rfl, hb, he⟩; have Hb := Lib.hid hb; have He := Lib.hid he; clear hb he)
    | (refine wpList_put rfl 66 _ _ rfl w1.heap.size (p.cells _) rfl rfl 66 _ (heap_alloc_new w1 _) ?c1 ?c2 ?c3 ?c4; (case c1 => kernel_rfl); (case c2 => rfl); (case c3 => exact Pr.one _ h1 _ _); intro w2 hp; have k1 : w2.cell? ⟨w1.heap.size, 1, none⟩ = some (.int .i64 p.code) := hp.cells 1))

  go_ret
  have hs : w.heap.size + 2 < w1.heap.size := by
    obtain ⟨a, c, he, -, -, h4⟩ := Hb.out
    obtain ⟨g, o, hg, hr⟩ := h4 (by have := Lib.uvarint_pos p.code; intro h; simp at h; rw [h] at this; simp at this)
    injection he with h5; rw [← h5] at hg; injection hg with hg; injection hg with hg1
    subst hg1; exact hr.lt (by have := Lib.uvarint_pos p.code; intro h; simp at h; rw [h] at this; simp at this)
  refine ⟨_, rfl, hp.blk, hs, Bs.block Hb.out ?_, ?_⟩
  · rw [hp.other _ (by omega), Below.heap_alloc _ _ _ hs]
  · exact hp.below (by have := He.out.size; exact this) (Ext.alloc He.out _)
end Go.Proofs.YtdlmmaolacjnaaaGreatDoor
