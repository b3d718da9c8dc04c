/-
  The protocol of a code, of a name, and the pointer to it (written by gen_proto.py).
-/
import Derived.Test.YtdlmmaolacjnaaaGreatDoorProto
namespace Go.Proofs.YtdlmmaolacjnaaaGreatDoor
set_option linter.unusedVariables false
set_option linter.unusedSimpArgs false
open Go.RowKit

/-- the code c has the protocol p -/
def Coded (p : Pr) : Prop := ∀ w, Calls Tryz.prog 84 #[.int .i64 p.code] w fun e w' => e = .returned (p.val (vc (w.heap.size + 2) p.code)) ∧ Bs w' (Lib.uvarint p.code) (vc (w.heap.size + 2) p.code) ∧ Ext w w'
/-- the name s has the protocol p -/
def Named (p : Pr) : Prop := ∀ w, Calls Tryz.prog 77 #[.string p.name] w fun e w' => e = .returned (p.val (vc (w.heap.size + 2) p.code)) ∧ Bs w' (Lib.uvarint p.code) (vc (w.heap.size + 2) p.code) ∧ Ext w w'

set_option maxRecDepth 100000 in
theorem coded_4 : Coded pIP4 := by
  intro w
  show Calls _ _ #[.int .i64 4] _ _
  go_enter Tryz.func84, Tryz.ntmps84
  go_wp2_with (first | (go_at_call 89; refine (protoIP4_ok _).mono ?_; rintro e w1 ⟨rfl, hb, he⟩; rw [World.size_alloc] at hb ⊢; have Hb := Lib.hid hb; have He := Lib.hid he; have hg1 := he.block (heap_alloc_new w _); clear hb he) | (refine wpList_store_row rfl 66 _ _ rfl w.heap.size (pIP4.cells _) rfl rfl 66 _ hg1 ?c1 ?c2 ?c3 ?c4; (case c1 => kernel_rfl); (case c2 => rfl); (case c3 => exact Pr.one _ rfl _ _)))
  refine bodyPost_ret (results_cell_row Tryz.results84 _ _ w.heap.size 66 _ (0, 0) _ rfl (setRow_heap _ _ _ _ _ _ hg1) Tryz.underlying66 rfl (by kernel_rfl)) rfl ⟨rfl, Bs.block Hb.out (setRow_other _ _ _ _ (by simp)), ?_⟩
  exact below_setRow' (Ext.trans (Ext.alloc (Ext.refl w) _) He.out) (Nat.le_refl _) _

set_option maxRecDepth 100000 in
theorem coded_6 : Coded pTCP := by
  intro w
  show Calls _ _ #[.int .i64 6] _ _
  go_enter Tryz.func84, Tryz.ntmps84
  go_wp2_with (first | (go_at_call 90; refine (protoTCP_ok _).mono ?_; rintro e w1 ⟨rfl, hb, he⟩; rw [World.size_alloc] at hb ⊢; have Hb := Lib.hid hb; have He := Lib.hid he; have hg1 := he.block (heap_alloc_new w _); clear hb he) | (refine wpList_store_row rfl 66 _ _ rfl w.heap.size (pTCP.cells _) rfl rfl 66 _ hg1 ?c1 ?c2 ?c3 ?c4; (case c1 => kernel_rfl); (case c2 => rfl); (case c3 => exact Pr.one _ rfl _ _)))
  refine bodyPost_ret (results_cell_row Tryz.results84 _ _ w.heap.size 66 _ (0, 0) _ rfl (setRow_heap _ _ _ _ _ _ hg1) Tryz.underlying66 rfl (by kernel_rfl)) rfl ⟨rfl, Bs.block Hb.out (setRow_other _ _ _ _ (by simp)), ?_⟩
  exact below_setRow' (Ext.trans (Ext.alloc (Ext.refl w) _) He.out) (Nat.le_refl _) _

set_option maxRecDepth 100000 in
theorem coded_53 : Coded pDNS := by
  intro w
  show Calls _ _ #[.int .i64 53] _ _
  go_enter Tryz.func84, Tryz.ntmps84
  go_wp2_with (first | (go_at_call 91; refine (protoDNS_ok _).mono ?_; rintro e w1 ⟨rfl, hb, he⟩; rw [World.size_alloc] at hb ⊢; have Hb := Lib.hid hb; have He := Lib.hid he; have hg1 := he.block (heap_alloc_new w _); clear hb he) | (refine wpList_store_row rfl 66 _ _ rfl w.heap.size (pDNS.cells _) rfl rfl 66 _ hg1 ?c1 ?c2 ?c3 ?c4; (case c1 => kernel_rfl); (case c2 => rfl); (case c3 => exact Pr.one _ rfl _ _)))
  refine bodyPost_ret (results_cell_row Tryz.results84 _ _ w.heap.size 66 _ (0, 0) _ rfl (setRow_heap _ _ _ _ _ _ hg1) Tryz.underlying66 rfl (by kernel_rfl)) rfl ⟨rfl, Bs.block Hb.out (setRow_other _ _ _ _ (by simp)), ?_⟩
  exact below_setRow' (Ext.trans (Ext.alloc (Ext.refl w) _) He.out) (Nat.le_refl _) _

set_option maxRecDepth 100000 in
theorem coded_54 : Coded pDNS4 := by
  intro w
  show Calls _ _ #[.int .i64 54] _ _
  go_enter Tryz.func84, Tryz.ntmps84
  go_wp2_with (first | (go_at_call 92; refine (protoDNS4_ok _).mono ?_; rintro e w1 ⟨rfl, hb, he⟩; rw [World.size_alloc] at hb ⊢; have Hb := Lib.hid hb; have He := Lib.hid he; have hg1 := he.block (heap_alloc_new w _); clear hb he) | (refine wpList_store_row rfl 66 _ _ rfl w.heap.size (pDNS4.cells _) rfl rfl 66 _ hg1 ?c1 ?c2 ?c3 ?c4; (case c1 => kernel_rfl); (case c2 => rfl); (case c3 => exact Pr.one _ rfl _ _)))
  refine bodyPost_ret (results_cell_row Tryz.results84 _ _ w.heap.size 66 _ (0, 0) _ rfl (setRow_heap _ _ _ _ _ _ hg1) Tryz.underlying66 rfl (by kernel_rfl)) rfl ⟨rfl, Bs.block Hb.out (setRow_other _ _ _ _ (by simp)), ?_⟩
  exact below_setRow' (Ext.trans (Ext.alloc (Ext.refl w) _) He.out) (Nat.le_refl _) _

set_option maxRecDepth 100000 in
theorem coded_55 : Coded pDNS6 := by
  intro w
  show Calls _ _ #[.int .i64 55] _ _
  go_enter Tryz.func84, Tryz.ntmps84
  go_wp2_with (first | (go_at_call 93; refine (protoDNS6_ok _).mono ?_; rintro e w1 ⟨rfl, hb, he⟩; rw [World.size_alloc] at hb ⊢; have Hb := Lib.hid hb; have He := Lib.hid he; have hg1 := he.block (heap_alloc_new w _); clear hb he) | (refine wpList_store_row rfl 66 _ _ rfl w.heap.size (pDNS6.cells _) rfl rfl 66 _ hg1 ?c1 ?c2 ?c3 ?c4; (case c1 => kernel_rfl); (case c2 => rfl); (case c3 => exact Pr.one _ rfl _ _)))
  refine bodyPost_ret (results_cell_row Tryz.results84 _ _ w.heap.size 66 _ (0, 0) _ rfl (setRow_heap _ _ _ _ _ _ hg1) Tryz.underlying66 rfl (by kernel_rfl)) rfl ⟨rfl, Bs.block Hb.out (setRow_other _ _ _ _ (by simp)), ?_⟩
  exact below_setRow' (Ext.trans (Ext.alloc (Ext.refl w) _) He.out) (Nat.le_refl _) _

set_option maxRecDepth 100000 in
theorem coded_56 : Coded pDNSADDR := by
  intro w
  show Calls _ _ #[.int .i64 56] _ _
  go_enter Tryz.func84, Tryz.ntmps84
  go_wp2_with (first | (go_at_call 94; refine (protoDNSADDR_ok _).mono ?_; rintro e w1 ⟨rfl, hb, he⟩; rw [World.size_alloc] at hb ⊢; have Hb := Lib.hid hb; have He := Lib.hid he; have hg1 := he.block (heap_alloc_new w _); clear hb he) | (refine wpList_store_row rfl 66 _ _ rfl w.heap.size (pDNSADDR.cells _) rfl rfl 66 _ hg1 ?c1 ?c2 ?c3 ?c4; (case c1 => kernel_rfl); (case c2 => rfl); (case c3 => exact Pr.one _ rfl _ _)))
  refine bodyPost_ret (results_cell_row Tryz.results84 _ _ w.heap.size 66 _ (0, 0) _ rfl (setRow_heap _ _ _ _ _ _ hg1) Tryz.underlying66 rfl (by kernel_rfl)) rfl ⟨rfl, Bs.block Hb.out (setRow_other _ _ _ _ (by simp)), ?_⟩
  exact below_setRow' (Ext.trans (Ext.alloc (Ext.refl w) _) He.out) (Nat.le_refl _) _

set_option maxRecDepth 100000 in
theorem coded_273 : Coded pUDP := by
  intro w
  show Calls _ _ #[.int .i64 273] _ _
  go_enter Tryz.func84, Tryz.ntmps84
  go_wp2_with (first | (go_at_call 95; refine (protoUDP_ok _).mono ?_; rintro e w1 ⟨rfl, hb, he⟩; rw [World.size_alloc] at hb ⊢; have Hb := Lib.hid hb; have He := Lib.hid he; have hg1 := he.block (heap_alloc_new w _); clear hb he) | (refine wpList_store_row rfl 66 _ _ rfl w.heap.size (pUDP.cells _) rfl rfl 66 _ hg1 ?c1 ?c2 ?c3 ?c4; (case c1 => kernel_rfl); (case c2 => rfl); (case c3 => exact Pr.one _ rfl _ _)))
  refine bodyPost_ret (results_cell_row Tryz.results84 _ _ w.heap.size 66 _ (0, 0) _ rfl (setRow_heap _ _ _ _ _ _ hg1) Tryz.underlying66 rfl (by kernel_rfl)) rfl ⟨rfl, Bs.block Hb.out (setRow_other _ _ _ _ (by simp)), ?_⟩
  exact below_setRow' (Ext.trans (Ext.alloc (Ext.refl w) _) He.out) (Nat.le_refl _) _

set_option maxRecDepth 100000 in
theorem coded_33 : Coded pDCCP := by
  intro w
  show Calls _ _ #[.int .i64 33] _ _
  go_enter Tryz.func84, Tryz.ntmps84
  go_wp2_with (first | (go_at_call 96; refine (protoDCCP_ok _).mono ?_; rintro e w1 ⟨rfl, hb, he⟩; rw [World.size_alloc] at hb ⊢; have Hb := Lib.hid hb; have He := Lib.hid he; have hg1 := he.block (heap_alloc_new w _); clear hb he) | (refine wpList_store_row rfl 66 _ _ rfl w.heap.size (pDCCP.cells _) rfl rfl 66 _ hg1 ?c1 ?c2 ?c3 ?c4; (case c1 => kernel_rfl); (case c2 => rfl); (case c3 => exact Pr.one _ rfl _ _)))
  refine bodyPost_ret (results_cell_row Tryz.results84 _ _ w.heap.size 66 _ (0, 0) _ rfl (setRow_heap _ _ _ _ _ _ hg1) Tryz.underlying66 rfl (by kernel_rfl)) rfl ⟨rfl, Bs.block Hb.out (setRow_other _ _ _ _ (by simp)), ?_⟩
  exact below_setRow' (Ext.trans (Ext.alloc (Ext.refl w) _) He.out) (Nat.le_refl _) _

set_option maxRecDepth 100000 in
theorem coded_41 : Coded pIP6 := by
  intro w
  show Calls _ _ #[.int .i64 41] _ _
  go_enter Tryz.func84, Tryz.ntmps84
  go_wp2_with (first | (go_at_call 97; refine (protoIP6_ok _).mono ?_; rintro e w1 ⟨rfl, hb, he⟩; rw [World.size_alloc] at hb ⊢; have Hb := Lib.hid hb; have He := Lib.hid he; have hg1 := he.block (heap_alloc_new w _); clear hb he) | (refine wpList_store_row rfl 66 _ _ rfl w.heap.size (pIP6.cells _) rfl rfl 66 _ hg1 ?c1 ?c2 ?c3 ?c4; (case c1 => kernel_rfl); (case c2 => rfl); (case c3 => exact Pr.one _ rfl _ _)))
  refine bodyPost_ret (results_cell_row Tryz.results84 _ _ w.heap.size 66 _ (0, 0) _ rfl (setRow_heap _ _ _ _ _ _ hg1) Tryz.underlying66 rfl (by kernel_rfl)) rfl ⟨rfl, Bs.block Hb.out (setRow_other _ _ _ _ (by simp)), ?_⟩
  exact below_setRow' (Ext.trans (Ext.alloc (Ext.refl w) _) He.out) (Nat.le_refl _) _

set_option maxRecDepth 100000 in
theorem coded_43 : Coded pIPCIDR := by
  intro w
  show Calls _ _ #[.int .i64 43] _ _
  go_enter Tryz.func84, Tryz.ntmps84
  go_wp2_with (first | (go_at_call 99; refine (protoIPCIDR_ok _).mono ?_; rintro e w1 ⟨rfl, hb, he⟩; rw [World.size_alloc] at hb ⊢; have Hb := Lib.hid hb; have He := Lib.hid he; have hg1 := he.block (heap_alloc_new w _); clear hb he) | (refine wpList_store_row rfl 66 _ _ rfl w.heap.size (pIPCIDR.cells _) rfl rfl 66 _ hg1 ?c1 ?c2 ?c3 ?c4; (case c1 => kernel_rfl); (case c2 => rfl); (case c3 => exact Pr.one _ rfl _ _)))
  refine bodyPost_ret (results_cell_row Tryz.results84 _ _ w.heap.size 66 _ (0, 0) _ rfl (setRow_heap _ _ _ _ _ _ hg1) Tryz.underlying66 rfl (by kernel_rfl)) rfl ⟨rfl, Bs.block Hb.out (setRow_other _ _ _ _ (by simp)), ?_⟩
  exact below_setRow' (Ext.trans (Ext.alloc (Ext.refl w) _) He.out) (Nat.le_refl _) _

set_option maxRecDepth 100000 in
theorem coded_42 : Coded pIP6ZONE := by
  intro w
  show Calls _ _ #[.int .i64 42] _ _
  go_enter Tryz.func84, Tryz.ntmps84
  go_wp2_with (first | (go_at_call 98; refine (protoIP6ZONE_ok _).mono ?_; rintro e w1 ⟨rfl, hb, he⟩; rw [World.size_alloc] at hb ⊢; have Hb := Lib.hid hb; have He := Lib.hid he; have hg1 := he.block (heap_alloc_new w _); clear hb he) | (refine wpList_store_row rfl 66 _ _ rfl w.heap.size (pIP6ZONE.cells _) rfl rfl 66 _ hg1 ?c1 ?c2 ?c3 ?c4; (case c1 => kernel_rfl); (case c2 => rfl); (case c3 => exact Pr.one _ rfl _ _)))
  refine bodyPost_ret (results_cell_row Tryz.results84 _ _ w.heap.size 66 _ (0, 0) _ rfl (setRow_heap _ _ _ _ _ _ hg1) Tryz.underlying66 rfl (by kernel_rfl)) rfl ⟨rfl, Bs.block Hb.out (setRow_other _ _ _ _ (by simp)), ?_⟩
  exact below_setRow' (Ext.trans (Ext.alloc (Ext.refl w) _) He.out) (Nat.le_refl _) _

set_option maxRecDepth 100000 in
theorem coded_132 : Coded pSCTP := by
  intro w
  show Calls _ _ #[.int .i64 132] _ _
  go_enter Tryz.func84, Tryz.ntmps84
  go_wp2_with (first | (go_at_call 100; refine (protoSCTP_ok _).mono ?_; rintro e w1 ⟨rfl, hb, he⟩; rw [World.size_alloc] at hb ⊢; have Hb := Lib.hid hb; have He := Lib.hid he; have hg1 := he.block (heap_alloc_new w _); clear hb he) | (refine wpList_store_row rfl 66 _ _ rfl w.heap.size (pSCTP.cells _) rfl rfl 66 _ hg1 ?c1 ?c2 ?c3 ?c4; (case c1 => kernel_rfl); (case c2 => rfl); (case c3 => exact Pr.one _ rfl _ _)))
  refine bodyPost_ret (results_cell_row Tryz.results84 _ _ w.heap.size 66 _ (0, 0) _ rfl (setRow_heap _ _ _ _ _ _ hg1) Tryz.underlying66 rfl (by kernel_rfl)) rfl ⟨rfl, Bs.block Hb.out (setRow_other _ _ _ _ (by simp)), ?_⟩
  exact below_setRow' (Ext.trans (Ext.alloc (Ext.refl w) _) He.out) (Nat.le_refl _) _

set_option maxRecDepth 100000 in
theorem coded_290 : Coded pCIRCUIT := by
  intro w
  show Calls _ _ #[.int .i64 290] _ _
  go_enter Tryz.func84, Tryz.ntmps84
  go_wp2_with (first | (go_at_call 101; refine (protoCIRCUIT_ok _).mono ?_; rintro e w1 ⟨rfl, hb, he⟩; rw [World.size_alloc] at hb ⊢; have Hb := Lib.hid hb; have He := Lib.hid he; have hg1 := he.block (heap_alloc_new w _); clear hb he) | (refine wpList_store_row rfl 66 _ _ rfl w.heap.size (pCIRCUIT.cells _) rfl rfl 66 _ hg1 ?c1 ?c2 ?c3 ?c4; (case c1 => kernel_rfl); (case c2 => rfl); (case c3 => exact Pr.one _ rfl _ _)))
  refine bodyPost_ret (results_cell_row Tryz.results84 _ _ w.heap.size 66 _ (0, 0) _ rfl (setRow_heap _ _ _ _ _ _ hg1) Tryz.underlying66 rfl (by kernel_rfl)) rfl ⟨rfl, Bs.block Hb.out (setRow_other _ _ _ _ (by simp)), ?_⟩
  exact below_setRow' (Ext.trans (Ext.alloc (Ext.refl w) _) He.out) (Nat.le_refl _) _

set_option maxRecDepth 100000 in
theorem coded_302 : Coded pUTP := by
  intro w
  show Calls _ _ #[.int .i64 302] _ _
  go_enter Tryz.func84, Tryz.ntmps84
  go_wp2_with (first | (go_at_call 106; refine (protoUTP_ok _).mono ?_; rintro e w1 ⟨rfl, hb, he⟩; rw [World.size_alloc] at hb ⊢; have Hb := Lib.hid hb; have He := Lib.hid he; have hg1 := he.block (heap_alloc_new w _); clear hb he) | (refine wpList_store_row rfl 66 _ _ rfl w.heap.size (pUTP.cells _) rfl rfl 66 _ hg1 ?c1 ?c2 ?c3 ?c4; (case c1 => kernel_rfl); (case c2 => rfl); (case c3 => exact Pr.one _ rfl _ _)))
  refine bodyPost_ret (results_cell_row Tryz.results84 _ _ w.heap.size 66 _ (0, 0) _ rfl (setRow_heap _ _ _ _ _ _ hg1) Tryz.underlying66 rfl (by kernel_rfl)) rfl ⟨rfl, Bs.block Hb.out (setRow_other _ _ _ _ (by simp)), ?_⟩
  exact below_setRow' (Ext.trans (Ext.alloc (Ext.refl w) _) He.out) (Nat.le_refl _) _

set_option maxRecDepth 100000 in
theorem coded_301 : Coded pUDT := by
  intro w
  show Calls _ _ #[.int .i64 301] _ _
  go_enter Tryz.func84, Tryz.ntmps84
  go_wp2_with (first | (go_at_call 107; refine (protoUDT_ok _).mono ?_; rintro e w1 ⟨rfl, hb, he⟩; rw [World.size_alloc] at hb ⊢; have Hb := Lib.hid hb; have He := Lib.hid he; have hg1 := he.block (heap_alloc_new w _); clear hb he) | (refine wpList_store_row rfl 66 _ _ rfl w.heap.size (pUDT.cells _) rfl rfl 66 _ hg1 ?c1 ?c2 ?c3 ?c4; (case c1 => kernel_rfl); (case c2 => rfl); (case c3 => exact Pr.one _ rfl _ _)))
  refine bodyPost_ret (results_cell_row Tryz.results84 _ _ w.heap.size 66 _ (0, 0) _ rfl (setRow_heap _ _ _ _ _ _ hg1) Tryz.underlying66 rfl (by kernel_rfl)) rfl ⟨rfl, Bs.block Hb.out (setRow_other _ _ _ _ (by simp)), ?_⟩
  exact below_setRow' (Ext.trans (Ext.alloc (Ext.refl w) _) He.out) (Nat.le_refl _) _

set_option maxRecDepth 100000 in
theorem coded_460 : Coded pQUIC := by
  intro w
  show Calls _ _ #[.int .i64 460] _ _
  go_enter Tryz.func84, Tryz.ntmps84
  go_wp2_with (first | (go_at_call 108; refine (protoQUIC_ok _).mono ?_; rintro e w1 ⟨rfl, hb, he⟩; rw [World.size_alloc] at hb ⊢; have Hb := Lib.hid hb; have He := Lib.hid he; have hg1 := he.block (heap_alloc_new w _); clear hb he) | (refine wpList_store_row rfl 66 _ _ rfl w.heap.size (pQUIC.cells _) rfl rfl 66 _ hg1 ?c1 ?c2 ?c3 ?c4; (case c1 => kernel_rfl); (case c2 => rfl); (case c3 => exact Pr.one _ rfl _ _)))
  refine bodyPost_ret (results_cell_row Tryz.results84 _ _ w.heap.size 66 _ (0, 0) _ rfl (setRow_heap _ _ _ _ _ _ hg1) Tryz.underlying66 rfl (by kernel_rfl)) rfl ⟨rfl, Bs.block Hb.out (setRow_other _ _ _ _ (by simp)), ?_⟩
  exact below_setRow' (Ext.trans (Ext.alloc (Ext.refl w) _) He.out) (Nat.le_refl _) _

set_option maxRecDepth 100000 in
theorem coded_461 : Coded pQUICV1 := by
  intro w
  show Calls _ _ #[.int .i64 461] _ _
  go_enter Tryz.func84, Tryz.ntmps84
  go_wp2_with (first | (go_at_call 109; refine (protoQUICV1_ok _).mono ?_; rintro e w1 ⟨rfl, hb, he⟩; rw [World.size_alloc] at hb ⊢; have Hb := Lib.hid hb; have He := Lib.hid he; have hg1 := he.block (heap_alloc_new w _); clear hb he) | (refine wpList_store_row rfl 66 _ _ rfl w.heap.size (pQUICV1.cells _) rfl rfl 66 _ hg1 ?c1 ?c2 ?c3 ?c4; (case c1 => kernel_rfl); (case c2 => rfl); (case c3 => exact Pr.one _ rfl _ _)))
  refine bodyPost_ret (results_cell_row Tryz.results84 _ _ w.heap.size 66 _ (0, 0) _ rfl (setRow_heap _ _ _ _ _ _ hg1) Tryz.underlying66 rfl (by kernel_rfl)) rfl ⟨rfl, Bs.block Hb.out (setRow_other _ _ _ _ (by simp)), ?_⟩
  exact below_setRow' (Ext.trans (Ext.alloc (Ext.refl w) _) He.out) (Nat.le_refl _) _

set_option maxRecDepth 100000 in
theorem coded_465 : Coded pWEBTRANSPORT := by
  intro w
  show Calls _ _ #[.int .i64 465] _ _
  go_enter Tryz.func84, Tryz.ntmps84
  go_wp2_with (first | (go_at_call 110; refine (protoWEBTRANSPORT_ok _).mono ?_; rintro e w1 ⟨rfl, hb, he⟩; rw [World.size_alloc] at hb ⊢; have Hb := Lib.hid hb; have He := Lib.hid he; have hg1 := he.block (heap_alloc_new w _); clear hb he) | (refine wpList_store_row rfl 66 _ _ rfl w.heap.size (pWEBTRANSPORT.cells _) rfl rfl 66 _ hg1 ?c1 ?c2 ?c3 ?c4; (case c1 => kernel_rfl); (case c2 => rfl); (case c3 => exact Pr.one _ rfl _ _)))
  refine bodyPost_ret (results_cell_row Tryz.results84 _ _ w.heap.size 66 _ (0, 0) _ rfl (setRow_heap _ _ _ _ _ _ hg1) Tryz.underlying66 rfl (by kernel_rfl)) rfl ⟨rfl, Bs.block Hb.out (setRow_other _ _ _ _ (by simp)), ?_⟩
  exact below_setRow' (Ext.trans (Ext.alloc (Ext.refl w) _) He.out) (Nat.le_refl _) _

set_option maxRecDepth 100000 in
theorem coded_480 : Coded pHTTP := by
  intro w
  show Calls _ _ #[.int .i64 480] _ _
  go_enter Tryz.func84, Tryz.ntmps84
  go_wp2_with (first | (go_at_call 112; refine (protoHTTP_ok _).mono ?_; rintro e w1 ⟨rfl, hb, he⟩; rw [World.size_alloc] at hb ⊢; have Hb := Lib.hid hb; have He := Lib.hid he; have hg1 := he.block (heap_alloc_new w _); clear hb he) | (refine wpList_store_row rfl 66 _ _ rfl w.heap.size (pHTTP.cells _) rfl rfl 66 _ hg1 ?c1 ?c2 ?c3 ?c4; (case c1 => kernel_rfl); (case c2 => rfl); (case c3 => exact Pr.one _ rfl _ _)))
  refine bodyPost_ret (results_cell_row Tryz.results84 _ _ w.heap.size 66 _ (0, 0) _ rfl (setRow_heap _ _ _ _ _ _ hg1) Tryz.underlying66 rfl (by kernel_rfl)) rfl ⟨rfl, Bs.block Hb.out (setRow_other _ _ _ _ (by simp)), ?_⟩
  exact below_setRow' (Ext.trans (Ext.alloc (Ext.refl w) _) He.out) (Nat.le_refl _) _

set_option maxRecDepth 100000 in
theorem coded_443 : Coded pHTTPS := by
  intro w
  show Calls _ _ #[.int .i64 443] _ _
  go_enter Tryz.func84, Tryz.ntmps84
  go_wp2_with (first | (go_at_call 114; refine (protoHTTPS_ok _).mono ?_; rintro e w1 ⟨rfl, hb, he⟩; rw [World.size_alloc] at hb ⊢; have Hb := Lib.hid hb; have He := Lib.hid he; have hg1 := he.block (heap_alloc_new w _); clear hb he) | (refine wpList_store_row rfl 66 _ _ rfl w.heap.size (pHTTPS.cells _) rfl rfl 66 _ hg1 ?c1 ?c2 ?c3 ?c4; (case c1 => kernel_rfl); (case c2 => rfl); (case c3 => exact Pr.one _ rfl _ _)))
  refine bodyPost_ret (results_cell_row Tryz.results84 _ _ w.heap.size 66 _ (0, 0) _ rfl (setRow_heap _ _ _ _ _ _ hg1) Tryz.underlying66 rfl (by kernel_rfl)) rfl ⟨rfl, Bs.block Hb.out (setRow_other _ _ _ _ (by simp)), ?_⟩
  exact below_setRow' (Ext.trans (Ext.alloc (Ext.refl w) _) He.out) (Nat.le_refl _) _

set_option maxRecDepth 100000 in
theorem coded_421 : Coded pP2P := by
  intro w
  show Calls _ _ #[.int .i64 421] _ _
  go_enter Tryz.func84, Tryz.ntmps84
  go_wp2_with (first | (go_at_call 115; refine (protoP2P_ok _).mono ?_; rintro e w1 ⟨rfl, hb, he⟩; rw [World.size_alloc] at hb ⊢; have Hb := Lib.hid hb; have He := Lib.hid he; have hg1 := he.block (heap_alloc_new w _); clear hb he) | (refine wpList_store_row rfl 66 _ _ rfl w.heap.size (pP2P.cells _) rfl rfl 66 _ hg1 ?c1 ?c2 ?c3 ?c4; (case c1 => kernel_rfl); (case c2 => rfl); (case c3 => exact Pr.one _ rfl _ _)))
  refine bodyPost_ret (results_cell_row Tryz.results84 _ _ w.heap.size 66 _ (0, 0) _ rfl (setRow_heap _ _ _ _ _ _ hg1) Tryz.underlying66 rfl (by kernel_rfl)) rfl ⟨rfl, Bs.block Hb.out (setRow_other _ _ _ _ (by simp)), ?_⟩
  exact below_setRow' (Ext.trans (Ext.alloc (Ext.refl w) _) He.out) (Nat.le_refl _) _

set_option maxRecDepth 100000 in
theorem coded_400 : Coded pUNIX := by
  intro w
  show Calls _ _ #[.int .i64 400] _ _
  go_enter Tryz.func84, Tryz.ntmps84
  go_wp2_with (first | (go_at_call 116; refine (protoUNIX_ok _).mono ?_; rintro e w1 ⟨rfl, hb, he⟩; rw [World.size_alloc] at hb ⊢; have Hb := Lib.hid hb; have He := Lib.hid he; have hg1 := he.block (heap_alloc_new w _); clear hb he) | (refine wpList_store_row rfl 66 _ _ rfl w.heap.size (pUNIX.cells _) rfl rfl 66 _ hg1 ?c1 ?c2 ?c3 ?c4; (case c1 => kernel_rfl); (case c2 => rfl); (case c3 => exact Pr.one _ rfl _ _)))
  refine bodyPost_ret (results_cell_row Tryz.results84 _ _ w.heap.size 66 _ (0, 0) _ rfl (setRow_heap _ _ _ _ _ _ hg1) Tryz.underlying66 rfl (by kernel_rfl)) rfl ⟨rfl, Bs.block Hb.out (setRow_other _ _ _ _ (by simp)), ?_⟩
  exact below_setRow' (Ext.trans (Ext.alloc (Ext.refl w) _) He.out) (Nat.le_refl _) _

set_option maxRecDepth 100000 in
theorem coded_276 : Coded pP2P_WEBRTC_DIRECT := by
  intro w
  show Calls _ _ #[.int .i64 276] _ _
  go_enter Tryz.func84, Tryz.ntmps84
  go_wp2_with (first | (go_at_call 117; refine (protoP2P_WEBRTC_DIRECT_ok _).mono ?_; rintro e w1 ⟨rfl, hb, he⟩; rw [World.size_alloc] at hb ⊢; have Hb := Lib.hid hb; have He := Lib.hid he; have hg1 := he.block (heap_alloc_new w _); clear hb he) | (refine wpList_store_row rfl 66 _ _ rfl w.heap.size (pP2P_WEBRTC_DIRECT.cells _) rfl rfl 66 _ hg1 ?c1 ?c2 ?c3 ?c4; (case c1 => kernel_rfl); (case c2 => rfl); (case c3 => exact Pr.one _ rfl _ _)))
  refine bodyPost_ret (results_cell_row Tryz.results84 _ _ w.heap.size 66 _ (0, 0) _ rfl (setRow_heap _ _ _ _ _ _ hg1) Tryz.underlying66 rfl (by kernel_rfl)) rfl ⟨rfl, Bs.block Hb.out (setRow_other _ _ _ _ (by simp)), ?_⟩
  exact below_setRow' (Ext.trans (Ext.alloc (Ext.refl w) _) He.out) (Nat.le_refl _) _

set_option maxRecDepth 100000 in
theorem coded_448 : Coded pTLS := by
  intro w
  show Calls _ _ #[.int .i64 448] _ _
  go_enter Tryz.func84, Tryz.ntmps84
  go_wp2_with (first | (go_at_call 118; refine (protoTLS_ok _).mono ?_; rintro e w1 ⟨rfl, hb, he⟩; rw [World.size_alloc] at hb ⊢; have Hb := Lib.hid hb; have He := Lib.hid he; have hg1 := he.block (heap_alloc_new w _); clear hb he) | (refine wpList_store_row rfl 66 _ _ rfl w.heap.size (pTLS.cells _) rfl rfl 66 _ hg1 ?c1 ?c2 ?c3 ?c4; (case c1 => kernel_rfl); (case c2 => rfl); (case c3 => exact Pr.one _ rfl _ _)))
  refine bodyPost_ret (results_cell_row Tryz.results84 _ _ w.heap.size 66 _ (0, 0) _ rfl (setRow_heap _ _ _ _ _ _ hg1) Tryz.underlying66 rfl (by kernel_rfl)) rfl ⟨rfl, Bs.block Hb.out (setRow_other _ _ _ _ (by simp)), ?_⟩
  exact below_setRow' (Ext.trans (Ext.alloc (Ext.refl w) _) He.out) (Nat.le_refl _) _

set_option maxRecDepth 100000 in
theorem coded_449 : Coded pSNI := by
  intro w
  show Calls _ _ #[.int .i64 449] _ _
  go_enter Tryz.func84, Tryz.ntmps84
  go_wp2_with (first | (go_at_call 119; refine (protoSNI_ok _).mono ?_; rintro e w1 ⟨rfl, hb, he⟩; rw [World.size_alloc] at hb ⊢; have Hb := Lib.hid hb; have He := Lib.hid he; have hg1 := he.block (heap_alloc_new w _); clear hb he) | (refine wpList_store_row rfl 66 _ _ rfl w.heap.size (pSNI.cells _) rfl rfl 66 _ hg1 ?c1 ?c2 ?c3 ?c4; (case c1 => kernel_rfl); (case c2 => rfl); (case c3 => exact Pr.one _ rfl _ _)))
  refine bodyPost_ret (results_cell_row Tryz.results84 _ _ w.heap.size 66 _ (0, 0) _ rfl (setRow_heap _ _ _ _ _ _ hg1) Tryz.underlying66 rfl (by kernel_rfl)) rfl ⟨rfl, Bs.block Hb.out (setRow_other _ _ _ _ (by simp)), ?_⟩
  exact below_setRow' (Ext.trans (Ext.alloc (Ext.refl w) _) He.out) (Nat.le_refl _) _

set_option maxRecDepth 100000 in
theorem coded_454 : Coded pNOISE := by
  intro w
  show Calls _ _ #[.int .i64 454] _ _
  go_enter Tryz.func84, Tryz.ntmps84
  go_wp2_with (first | (go_at_call 120; refine (protoNOISE_ok _).mono ?_; rintro e w1 ⟨rfl, hb, he⟩; rw [World.size_alloc] at hb ⊢; have Hb := Lib.hid hb; have He := Lib.hid he; have hg1 := he.block (heap_alloc_new w _); clear hb he) | (refine wpList_store_row rfl 66 _ _ rfl w.heap.size (pNOISE.cells _) rfl rfl 66 _ hg1 ?c1 ?c2 ?c3 ?c4; (case c1 => kernel_rfl); (case c2 => rfl); (case c3 => exact Pr.one _ rfl _ _)))
  refine bodyPost_ret (results_cell_row Tryz.results84 _ _ w.heap.size 66 _ (0, 0) _ rfl (setRow_heap _ _ _ _ _ _ hg1) Tryz.underlying66 rfl (by kernel_rfl)) rfl ⟨rfl, Bs.block Hb.out (setRow_other _ _ _ _ (by simp)), ?_⟩
  exact below_setRow' (Ext.trans (Ext.alloc (Ext.refl w) _) He.out) (Nat.le_refl _) _

set_option maxRecDepth 100000 in
theorem coded_7367777 : Coded pPlaintextV2 := by
  intro w
  show Calls _ _ #[.int .i64 7367777] _ _
  go_enter Tryz.func84, Tryz.ntmps84
  go_wp2_with (first | (go_at_call 123; refine (protoPlaintextV2_ok _).mono ?_; rintro e w1 ⟨rfl, hb, he⟩; rw [World.size_alloc] at hb ⊢; have Hb := Lib.hid hb; have He := Lib.hid he; have hg1 := he.block (heap_alloc_new w _); clear hb he) | (refine wpList_store_row rfl 66 _ _ rfl w.heap.size (pPlaintextV2.cells _) rfl rfl 66 _ hg1 ?c1 ?c2 ?c3 ?c4; (case c1 => kernel_rfl); (case c2 => rfl); (case c3 => exact Pr.one _ rfl _ _)))
  refine bodyPost_ret (results_cell_row Tryz.results84 _ _ w.heap.size 66 _ (0, 0) _ rfl (setRow_heap _ _ _ _ _ _ hg1) Tryz.underlying66 rfl (by kernel_rfl)) rfl ⟨rfl, Bs.block Hb.out (setRow_other _ _ _ _ (by simp)), ?_⟩
  exact below_setRow' (Ext.trans (Ext.alloc (Ext.refl w) _) He.out) (Nat.le_refl _) _

set_option maxRecDepth 100000 in
theorem coded_477 : Coded pWS := by
  intro w
  show Calls _ _ #[.int .i64 477] _ _
  go_enter Tryz.func84, Tryz.ntmps84
  go_wp2_with (first | (go_at_call 121; refine (protoWS_ok _).mono ?_; rintro e w1 ⟨rfl, hb, he⟩; rw [World.size_alloc] at hb ⊢; have Hb := Lib.hid hb; have He := Lib.hid he; have hg1 := he.block (heap_alloc_new w _); clear hb he) | (refine wpList_store_row rfl 66 _ _ rfl w.heap.size (pWS.cells _) rfl rfl 66 _ hg1 ?c1 ?c2 ?c3 ?c4; (case c1 => kernel_rfl); (case c2 => rfl); (case c3 => exact Pr.one _ rfl _ _)))
  refine bodyPost_ret (results_cell_row Tryz.results84 _ _ w.heap.size 66 _ (0, 0) _ rfl (setRow_heap _ _ _ _ _ _ hg1) Tryz.underlying66 rfl (by kernel_rfl)) rfl ⟨rfl, Bs.block Hb.out (setRow_other _ _ _ _ (by simp)), ?_⟩
  exact below_setRow' (Ext.trans (Ext.alloc (Ext.refl w) _) He.out) (Nat.le_refl _) _

set_option maxRecDepth 100000 in
theorem coded_478 : Coded pWSS := by
  intro w
  show Calls _ _ #[.int .i64 478] _ _
  go_enter Tryz.func84, Tryz.ntmps84
  go_wp2_with (first | (go_at_call 122; refine (protoWSS_ok _).mono ?_; rintro e w1 ⟨rfl, hb, he⟩; rw [World.size_alloc] at hb ⊢; have Hb := Lib.hid hb; have He := Lib.hid he; have hg1 := he.block (heap_alloc_new w _); clear hb he) | (refine wpList_store_row rfl 66 _ _ rfl w.heap.size (pWSS.cells _) rfl rfl 66 _ hg1 ?c1 ?c2 ?c3 ?c4; (case c1 => kernel_rfl); (case c2 => rfl); (case c3 => exact Pr.one _ rfl _ _)))
  refine bodyPost_ret (results_cell_row Tryz.results84 _ _ w.heap.size 66 _ (0, 0) _ rfl (setRow_heap _ _ _ _ _ _ hg1) Tryz.underlying66 rfl (by kernel_rfl)) rfl ⟨rfl, Bs.block Hb.out (setRow_other _ _ _ _ (by simp)), ?_⟩
  exact below_setRow' (Ext.trans (Ext.alloc (Ext.refl w) _) He.out) (Nat.le_refl _) _

set_option maxRecDepth 100000 in
theorem coded_280 : Coded pWebRTCDirect := by
  intro w
  show Calls _ _ #[.int .i64 280] _ _
  go_enter Tryz.func84, Tryz.ntmps84
  go_wp2_with (first | (go_at_call 124; refine (protoWebRTCDirect_ok _).mono ?_; rintro e w1 ⟨rfl, hb, he⟩; rw [World.size_alloc] at hb ⊢; have Hb := Lib.hid hb; have He := Lib.hid he; have hg1 := he.block (heap_alloc_new w _); clear hb he) | (refine wpList_store_row rfl 66 _ _ rfl w.heap.size (pWebRTCDirect.cells _) rfl rfl 66 _ hg1 ?c1 ?c2 ?c3 ?c4; (case c1 => kernel_rfl); (case c2 => rfl); (case c3 => exact Pr.one _ rfl _ _)))
  refine bodyPost_ret (results_cell_row Tryz.results84 _ _ w.heap.size 66 _ (0, 0) _ rfl (setRow_heap _ _ _ _ _ _ hg1) Tryz.underlying66 rfl (by kernel_rfl)) rfl ⟨rfl, Bs.block Hb.out (setRow_other _ _ _ _ (by simp)), ?_⟩
  exact below_setRow' (Ext.trans (Ext.alloc (Ext.refl w) _) He.out) (Nat.le_refl _) _

set_option maxRecDepth 100000 in
theorem coded_281 : Coded pWebRTC := by
  intro w
  show Calls _ _ #[.int .i64 281] _ _
  go_enter Tryz.func84, Tryz.ntmps84
  go_wp2_with (first | (go_at_call 125; refine (protoWebRTC_ok _).mono ?_; rintro e w1 ⟨rfl, hb, he⟩; rw [World.size_alloc] at hb ⊢; have Hb := Lib.hid hb; have He := Lib.hid he; have hg1 := he.block (heap_alloc_new w _); clear hb he) | (refine wpList_store_row rfl 66 _ _ rfl w.heap.size (pWebRTC.cells _) rfl rfl 66 _ hg1 ?c1 ?c2 ?c3 ?c4; (case c1 => kernel_rfl); (case c2 => rfl); (case c3 => exact Pr.one _ rfl _ _)))
  refine bodyPost_ret (results_cell_row Tryz.results84 _ _ w.heap.size 66 _ (0, 0) _ rfl (setRow_heap _ _ _ _ _ _ hg1) Tryz.underlying66 rfl (by kernel_rfl)) rfl ⟨rfl, Bs.block Hb.out (setRow_other _ _ _ _ (by simp)), ?_⟩
  exact below_setRow' (Ext.trans (Ext.alloc (Ext.refl w) _) He.out) (Nat.le_refl _) _

set_option maxRecDepth 100000 in
theorem coded_777 : Coded pMemory := by
  intro w
  show Calls _ _ #[.int .i64 777] _ _
  go_enter Tryz.func84, Tryz.ntmps84
  go_wp2_with (first | (go_at_call 126; refine (protoMemory_ok _).mono ?_; rintro e w1 ⟨rfl, hb, he⟩; rw [World.size_alloc] at hb ⊢; have Hb := Lib.hid hb; have He := Lib.hid he; have hg1 := he.block (heap_alloc_new w _); clear hb he) | (refine wpList_store_row rfl 66 _ _ rfl w.heap.size (pMemory.cells _) rfl rfl 66 _ hg1 ?c1 ?c2 ?c3 ?c4; (case c1 => kernel_rfl); (case c2 => rfl); (case c3 => exact Pr.one _ rfl _ _)))
  refine bodyPost_ret (results_cell_row Tryz.results84 _ _ w.heap.size 66 _ (0, 0) _ rfl (setRow_heap _ _ _ _ _ _ hg1) Tryz.underlying66 rfl (by kernel_rfl)) rfl ⟨rfl, Bs.block Hb.out (setRow_other _ _ _ _ (by simp)), ?_⟩
  exact below_setRow' (Ext.trans (Ext.alloc (Ext.refl w) _) He.out) (Nat.le_refl _) _

set_option maxRecDepth 100000 in
theorem named_4 : Named pIP4 := by
  intro w
  show Calls _ _ #[.string ⟨#[105, 112, 52]⟩] _ _
  go_enter Tryz.func77, Tryz.ntmps77
  go_wp2_with (first | (go_at_call 89; refine (protoIP4_ok _).mono ?_; rintro e w1 ⟨rfl, hb, he⟩; rw [World.size_alloc] at hb ⊢; have Hb := Lib.hid hb; have He := Lib.hid he; have hg1 := he.block (heap_alloc_new w _); clear hb he) | (refine wpList_store_row rfl 66 _ _ rfl w.heap.size (pIP4.cells _) rfl rfl 66 _ hg1 ?c1 ?c2 ?c3 ?c4; (case c1 => kernel_rfl); (case c2 => rfl); (case c3 => exact Pr.one _ rfl _ _)))
  refine bodyPost_ret (results_cell_row Tryz.results77 _ _ w.heap.size 66 _ (0, 0) _ rfl (setRow_heap _ _ _ _ _ _ hg1) Tryz.underlying66 rfl (by kernel_rfl)) rfl ⟨rfl, Bs.block Hb.out (setRow_other _ _ _ _ (by simp)), ?_⟩
  exact below_setRow' (Ext.trans (Ext.alloc (Ext.refl w) _) He.out) (Nat.le_refl _) _

set_option maxRecDepth 100000 in
theorem named_6 : Named pTCP := by
  intro w
  show Calls _ _ #[.string ⟨#[116, 99, 112]⟩] _ _
  go_enter Tryz.func77, Tryz.ntmps77
  go_wp2_with (first | (go_at_call 90; refine (protoTCP_ok _).mono ?_; rintro e w1 ⟨rfl, hb, he⟩; rw [World.size_alloc] at hb ⊢; have Hb := Lib.hid hb; have He := Lib.hid he; have hg1 := he.block (heap_alloc_new w _); clear hb he) | (refine wpList_store_row rfl 66 _ _ rfl w.heap.size (pTCP.cells _) rfl rfl 66 _ hg1 ?c1 ?c2 ?c3 ?c4; (case c1 => kernel_rfl); (case c2 => rfl); (case c3 => exact Pr.one _ rfl _ _)))
  refine bodyPost_ret (results_cell_row Tryz.results77 _ _ w.heap.size 66 _ (0, 0) _ rfl (setRow_heap _ _ _ _ _ _ hg1) Tryz.underlying66 rfl (by kernel_rfl)) rfl ⟨rfl, Bs.block Hb.out (setRow_other _ _ _ _ (by simp)), ?_⟩
  exact below_setRow' (Ext.trans (Ext.alloc (Ext.refl w) _) He.out) (Nat.le_refl _) _

set_option maxRecDepth 100000 in
theorem named_41 : Named pIP6 := by
  intro w
  show Calls _ _ #[.string ⟨#[105, 112, 54]⟩] _ _
  go_enter Tryz.func77, Tryz.ntmps77
  go_wp2_with (first | (go_at_call 97; refine (protoIP6_ok _).mono ?_; rintro e w1 ⟨rfl, hb, he⟩; rw [World.size_alloc] at hb ⊢; have Hb := Lib.hid hb; have He := Lib.hid he; have hg1 := he.block (heap_alloc_new w _); clear hb he) | (refine wpList_store_row rfl 66 _ _ rfl w.heap.size (pIP6.cells _) rfl rfl 66 _ hg1 ?c1 ?c2 ?c3 ?c4; (case c1 => kernel_rfl); (case c2 => rfl); (case c3 => exact Pr.one _ rfl _ _)))
  refine bodyPost_ret (results_cell_row Tryz.results77 _ _ w.heap.size 66 _ (0, 0) _ rfl (setRow_heap _ _ _ _ _ _ hg1) Tryz.underlying66 rfl (by kernel_rfl)) rfl ⟨rfl, Bs.block Hb.out (setRow_other _ _ _ _ (by simp)), ?_⟩
  exact below_setRow' (Ext.trans (Ext.alloc (Ext.refl w) _) He.out) (Nat.le_refl _) _

set_option maxRecDepth 100000 in
theorem named_42 : Named pIP6ZONE := by
  intro w
  show Calls _ _ #[.string ⟨#[105, 112, 54, 122, 111, 110, 101]⟩] _ _
  go_enter Tryz.func77, Tryz.ntmps77
  go_wp2_with (first | (go_at_call 98; refine (protoIP6ZONE_ok _).mono ?_; rintro e w1 ⟨rfl, hb, he⟩; rw [World.size_alloc] at hb ⊢; have Hb := Lib.hid hb; have He := Lib.hid he; have hg1 := he.block (heap_alloc_new w _); clear hb he) | (refine wpList_store_row rfl 66 _ _ rfl w.heap.size (pIP6ZONE.cells _) rfl rfl 66 _ hg1 ?c1 ?c2 ?c3 ?c4; (case c1 => kernel_rfl); (case c2 => rfl); (case c3 => exact Pr.one _ rfl _ _)))
  refine bodyPost_ret (results_cell_row Tryz.results77 _ _ w.heap.size 66 _ (0, 0) _ rfl (setRow_heap _ _ _ _ _ _ hg1) Tryz.underlying66 rfl (by kernel_rfl)) rfl ⟨rfl, Bs.block Hb.out (setRow_other _ _ _ _ (by simp)), ?_⟩
  exact below_setRow' (Ext.trans (Ext.alloc (Ext.refl w) _) He.out) (Nat.le_refl _) _

end Go.Proofs.YtdlmmaolacjnaaaGreatDoor
