/-
  The contracts of the protocols and their transcoders (written by gen_proto.py off the package's text).
-/
import Derived.Test.YtchlkclpikdbjaaGreatDoorText
namespace Go.Proofs.YtchlkclpikdbjaaGreatDoor
set_option linter.unusedVariables false
set_option linter.unusedSimpArgs false
open Go.RowKit

/-- A protocol of the table, without the slice of its varint. -/
structure Pr where
  name : ByteArray
  code : Nat
  size : Int
  path : Bool
  tc : Value

def Pr.cells (p : Pr) (v : Value) : Array Value := #[.string p.name, .int .i64 p.code, v, .int .i64 p.size, .bool p.path, p.tc]
/-- the slice of a code's varint, in a block of its own -/
abbrev vc (g c : Nat) : Value := .slice (some ⟨g, 0, none⟩) (Lib.uvarint c).length (Lib.uvarint c).length
theorem Pr.one (p : Pr) (h : p.tc.oneCell' = true) (g c : Nat) : (p.cells (vc g c)).all (·.oneCell') = true := by
  have h' := h
  unfold Value.oneCell' at h'
  simp [Pr.cells, Value.oneCell', h']
def Pr.val (p : Pr) (v : Value) : Value := .agg (p.cells v)

/-- a transcoder out of three functions -/
abbrev tcV (a b c : Value) : Value := .iface 113 (.agg #[a, b, c])
abbrev fnV (f : Nat) : Value := .func (.func f) #[] #[]

theorem newTranscoder_ok (a b c : Nat) (w : World) : Calls Tryz.prog 104 #[fnV a, fnV b, fnV c] w fun e w' => e = .returned (tcV (fnV a) (fnV b) (fnV c)) ∧ w = w' := by
  go_enter Tryz.func104, Tryz.ntmps104
  go_wp2
  go_ret
  exact ⟨rfl, rfl⟩
theorem newTranscoder_nil (a b : Nat) (w : World) : Calls Tryz.prog 104 #[fnV a, fnV b, .nilFunc] w fun e w' => e = .returned (tcV (fnV a) (fnV b) .nilFunc) ∧ w = w' := by
  go_enter Tryz.func104, Tryz.ntmps104
  go_wp2
  go_ret
  exact ⟨rfl, rfl⟩

abbrev tcDns : Value := tcV (fnV 109) (fnV 110) (fnV 111)
theorem TranscoderDns_ok (w : World) : Calls Tryz.prog 81 #[] w fun e w' => e = .returned tcDns ∧ w = w' := by
  go_enter Tryz.func81, Tryz.ntmps81
  go_wp2_with (go_at_call 104; refine (newTranscoder_ok _ _ _ _).mono ?_; rintro e w' ⟨rfl, rfl⟩)
  go_ret
  exact ⟨rfl, rfl⟩

abbrev tcIP4 : Value := tcV (fnV 105) (fnV 106) .nilFunc
theorem TranscoderIP4_ok (w : World) : Calls Tryz.prog 79 #[] w fun e w' => e = .returned tcIP4 ∧ w = w' := by
  go_enter Tryz.func79, Tryz.ntmps79
  go_wp2_with (go_at_call 104; refine (newTranscoder_nil _ _ _).mono ?_; rintro e w' ⟨rfl, rfl⟩)
  go_ret
  exact ⟨rfl, rfl⟩

abbrev tcIP6 : Value := tcV (fnV 112) (fnV 113) .nilFunc
theorem TranscoderIP6_ok (w : World) : Calls Tryz.prog 82 #[] w fun e w' => e = .returned tcIP6 ∧ w = w' := by
  go_enter Tryz.func82, Tryz.ntmps82
  go_wp2_with (go_at_call 104; refine (newTranscoder_nil _ _ _).mono ?_; rintro e w' ⟨rfl, rfl⟩)
  go_ret
  exact ⟨rfl, rfl⟩

abbrev tcIP6Zone : Value := tcV (fnV 114) (fnV 115) (fnV 116)
theorem TranscoderIP6Zone_ok (w : World) : Calls Tryz.prog 83 #[] w fun e w' => e = .returned tcIP6Zone ∧ w = w' := by
  go_enter Tryz.func83, Tryz.ntmps83
  go_wp2_with (go_at_call 104; refine (newTranscoder_ok _ _ _ _).mono ?_; rintro e w' ⟨rfl, rfl⟩)
  go_ret
  exact ⟨rfl, rfl⟩

abbrev tcIPCIDR : Value := tcV (fnV 117) (fnV 118) (fnV 119)
theorem TranscoderIPCIDR_ok (w : World) : Calls Tryz.prog 84 #[] w fun e w' => e = .returned tcIPCIDR ∧ w = w' := by
  go_enter Tryz.func84, Tryz.ntmps84
  go_wp2_with (go_at_call 104; refine (newTranscoder_ok _ _ _ _).mono ?_; rintro e w' ⟨rfl, rfl⟩)
  go_ret
  exact ⟨rfl, rfl⟩

abbrev tcMemory : Value := tcV (fnV 144) (fnV 145) (fnV 146)
theorem TranscoderMemory_ok (w : World) : Calls Tryz.prog 93 #[] w fun e w' => e = .returned tcMemory ∧ w = w' := by
  go_enter Tryz.func93, Tryz.ntmps93
  go_wp2_with (go_at_call 104; refine (newTranscoder_ok _ _ _ _).mono ?_; rintro e w' ⟨rfl, rfl⟩)
  go_ret
  exact ⟨rfl, rfl⟩

abbrev tcP2P : Value := tcV (fnV 138) (fnV 139) (fnV 140)
theorem TranscoderP2P_ok (w : World) : Calls Tryz.prog 91 #[] w fun e w' => e = .returned tcP2P ∧ w = w' := by
  go_enter Tryz.func91, Tryz.ntmps91
  go_wp2_with (go_at_call 104; refine (newTranscoder_ok _ _ _ _).mono ?_; rintro e w' ⟨rfl, rfl⟩)
  go_ret
  exact ⟨rfl, rfl⟩

abbrev tcPort : Value := tcV (fnV 107) (fnV 108) .nilFunc
theorem TranscoderPort_ok (w : World) : Calls Tryz.prog 80 #[] w fun e w' => e = .returned tcPort ∧ w = w' := by
  go_enter Tryz.func80, Tryz.ntmps80
  go_wp2_with (go_at_call 104; refine (newTranscoder_nil _ _ _).mono ?_; rintro e w' ⟨rfl, rfl⟩)
  go_ret
  exact ⟨rfl, rfl⟩

abbrev tcUnix : Value := tcV (fnV 141) (fnV 142) (fnV 143)
theorem TranscoderUnix_ok (w : World) : Calls Tryz.prog 92 #[] w fun e w' => e = .returned tcUnix ∧ w = w' := by
  go_enter Tryz.func92, Tryz.ntmps92
  go_wp2_with (go_at_call 104; refine (newTranscoder_ok _ _ _ _).mono ?_; rintro e w' ⟨rfl, rfl⟩)
  go_ret
  exact ⟨rfl, rfl⟩

def pIP4 : Pr := ⟨⟨#[105, 112, 52]⟩, 4, 32, false, tcIP4⟩
theorem protoIP4_ok (w : World) : Calls Tryz.prog 31 #[] w fun e w' => e = .returned (pIP4.val (vc (w.heap.size + 1) 4)) ∧ Bs w' (Lib.uvarint 4) (vc (w.heap.size + 1) 4) ∧ Ext w w' := by
  go_enter Tryz.func31, Tryz.ntmps31
  go_wp2_with (first | (go_at_call 78; refine (codeToVarint_ok 4 (by decide) _).mono ?_; rintro e w1 ⟨rfl, hb, he⟩; have Hb := Lib.hid hb; have He := Lib.hid he; obtain ⟨hc, hf⟩ := bcell he; have hg1 := he.block (heap_alloc_new w _); rw [World.size_alloc] at Hb; clear hb he) | (refine wpList_store_row rfl 46 _ _ rfl w.heap.size _ rfl rfl 46 _ hg1 ?c1 ?c2 ?c3 ?c4; (case c1 => kernel_rfl); (case c2 => rfl); (case c3 => simp [Value.oneCell'])) | (go_at_call 79; refine (TranscoderIP4_ok _).mono ?_; rintro e w' ⟨rfl, rfl⟩))
  refine bodyPost_ret (results_cell_row Tryz.results31 _ _ w.heap.size 46 _ (0, 0) _ rfl (setRow_heap _ _ _ _ _ _ hg1) Tryz.underlying46 rfl (by kernel_rfl)) rfl ⟨rfl, Bs.block Hb.out (setRow_other _ _ _ _ (by simp)), ?_⟩
  exact below_setRow' (Ext.trans (Ext.alloc (Ext.refl w) _) He.out) (Nat.le_refl _) _

def pTCP : Pr := ⟨⟨#[116, 99, 112]⟩, 6, 16, false, tcPort⟩
theorem protoTCP_ok (w : World) : Calls Tryz.prog 32 #[] w fun e w' => e = .returned (pTCP.val (vc (w.heap.size + 1) 6)) ∧ Bs w' (Lib.uvarint 6) (vc (w.heap.size + 1) 6) ∧ Ext w w' := by
  go_enter Tryz.func32, Tryz.ntmps32
  go_wp2_with (first | (go_at_call 78; refine (codeToVarint_ok 6 (by decide) _).mono ?_; rintro e w1 ⟨rfl, hb, he⟩; have Hb := Lib.hid hb; have He := Lib.hid he; obtain ⟨hc, hf⟩ := bcell he; have hg1 := he.block (heap_alloc_new w _); rw [World.size_alloc] at Hb; clear hb he) | (refine wpList_store_row rfl 46 _ _ rfl w.heap.size _ rfl rfl 46 _ hg1 ?c1 ?c2 ?c3 ?c4; (case c1 => kernel_rfl); (case c2 => rfl); (case c3 => simp [Value.oneCell'])) | (go_at_call 80; refine (TranscoderPort_ok _).mono ?_; rintro e w' ⟨rfl, rfl⟩))
  refine bodyPost_ret (results_cell_row Tryz.results32 _ _ w.heap.size 46 _ (0, 0) _ rfl (setRow_heap _ _ _ _ _ _ hg1) Tryz.underlying46 rfl (by kernel_rfl)) rfl ⟨rfl, Bs.block Hb.out (setRow_other _ _ _ _ (by simp)), ?_⟩
  exact below_setRow' (Ext.trans (Ext.alloc (Ext.refl w) _) He.out) (Nat.le_refl _) _

def pDNS : Pr := ⟨⟨#[100, 110, 115]⟩, 53, (-1), false, tcDns⟩
theorem protoDNS_ok (w : World) : Calls Tryz.prog 33 #[] w fun e w' => e = .returned (pDNS.val (vc (w.heap.size + 1) 53)) ∧ Bs w' (Lib.uvarint 53) (vc (w.heap.size + 1) 53) ∧ Ext w w' := by
  go_enter Tryz.func33, Tryz.ntmps33
  go_wp2_with (first | (go_at_call 78; refine (codeToVarint_ok 53 (by decide) _).mono ?_; rintro e w1 ⟨rfl, hb, he⟩; have Hb := Lib.hid hb; have He := Lib.hid he; obtain ⟨hc, hf⟩ := bcell he; have hg1 := he.block (heap_alloc_new w _); rw [World.size_alloc] at Hb; clear hb he) | (refine wpList_store_row rfl 46 _ _ rfl w.heap.size _ rfl rfl 46 _ hg1 ?c1 ?c2 ?c3 ?c4; (case c1 => kernel_rfl); (case c2 => rfl); (case c3 => simp [Value.oneCell'])) | (go_at_call 81; refine (TranscoderDns_ok _).mono ?_; rintro e w' ⟨rfl, rfl⟩))
  refine bodyPost_ret (results_cell_row Tryz.results33 _ _ w.heap.size 46 _ (0, 0) _ rfl (setRow_heap _ _ _ _ _ _ hg1) Tryz.underlying46 rfl (by kernel_rfl)) rfl ⟨rfl, Bs.block Hb.out (setRow_other _ _ _ _ (by simp)), ?_⟩
  exact below_setRow' (Ext.trans (Ext.alloc (Ext.refl w) _) He.out) (Nat.le_refl _) _

def pDNS4 : Pr := ⟨⟨#[100, 110, 115, 52]⟩, 54, (-1), false, tcDns⟩
theorem protoDNS4_ok (w : World) : Calls Tryz.prog 34 #[] w fun e w' => e = .returned (pDNS4.val (vc (w.heap.size + 1) 54)) ∧ Bs w' (Lib.uvarint 54) (vc (w.heap.size + 1) 54) ∧ Ext w w' := by
  go_enter Tryz.func34, Tryz.ntmps34
  go_wp2_with (first | (go_at_call 78; refine (codeToVarint_ok 54 (by decide) _).mono ?_; rintro e w1 ⟨rfl, hb, he⟩; have Hb := Lib.hid hb; have He := Lib.hid he; obtain ⟨hc, hf⟩ := bcell he; have hg1 := he.block (heap_alloc_new w _); rw [World.size_alloc] at Hb; clear hb he) | (refine wpList_store_row rfl 46 _ _ rfl w.heap.size _ rfl rfl 46 _ hg1 ?c1 ?c2 ?c3 ?c4; (case c1 => kernel_rfl); (case c2 => rfl); (case c3 => simp [Value.oneCell'])) | (go_at_call 81; refine (TranscoderDns_ok _).mono ?_; rintro e w' ⟨rfl, rfl⟩))
  refine bodyPost_ret (results_cell_row Tryz.results34 _ _ w.heap.size 46 _ (0, 0) _ rfl (setRow_heap _ _ _ _ _ _ hg1) Tryz.underlying46 rfl (by kernel_rfl)) rfl ⟨rfl, Bs.block Hb.out (setRow_other _ _ _ _ (by simp)), ?_⟩
  exact below_setRow' (Ext.trans (Ext.alloc (Ext.refl w) _) He.out) (Nat.le_refl _) _

def pDNS6 : Pr := ⟨⟨#[100, 110, 115, 54]⟩, 55, (-1), false, tcDns⟩
theorem protoDNS6_ok (w : World) : Calls Tryz.prog 35 #[] w fun e w' => e = .returned (pDNS6.val (vc (w.heap.size + 1) 55)) ∧ Bs w' (Lib.uvarint 55) (vc (w.heap.size + 1) 55) ∧ Ext w w' := by
  go_enter Tryz.func35, Tryz.ntmps35
  go_wp2_with (first | (go_at_call 78; refine (codeToVarint_ok 55 (by decide) _).mono ?_; rintro e w1 ⟨rfl, hb, he⟩; have Hb := Lib.hid hb; have He := Lib.hid he; obtain ⟨hc, hf⟩ := bcell he; have hg1 := he.block (heap_alloc_new w _); rw [World.size_alloc] at Hb; clear hb he) | (refine wpList_store_row rfl 46 _ _ rfl w.heap.size _ rfl rfl 46 _ hg1 ?c1 ?c2 ?c3 ?c4; (case c1 => kernel_rfl); (case c2 => rfl); (case c3 => simp [Value.oneCell'])) | (go_at_call 81; refine (TranscoderDns_ok _).mono ?_; rintro e w' ⟨rfl, rfl⟩))
  refine bodyPost_ret (results_cell_row Tryz.results35 _ _ w.heap.size 46 _ (0, 0) _ rfl (setRow_heap _ _ _ _ _ _ hg1) Tryz.underlying46 rfl (by kernel_rfl)) rfl ⟨rfl, Bs.block Hb.out (setRow_other _ _ _ _ (by simp)), ?_⟩
  exact below_setRow' (Ext.trans (Ext.alloc (Ext.refl w) _) He.out) (Nat.le_refl _) _

def pDNSADDR : Pr := ⟨⟨#[100, 110, 115, 97, 100, 100, 114]⟩, 56, (-1), false, tcDns⟩
theorem protoDNSADDR_ok (w : World) : Calls Tryz.prog 36 #[] w fun e w' => e = .returned (pDNSADDR.val (vc (w.heap.size + 1) 56)) ∧ Bs w' (Lib.uvarint 56) (vc (w.heap.size + 1) 56) ∧ Ext w w' := by
  go_enter Tryz.func36, Tryz.ntmps36
  go_wp2_with (first | (go_at_call 78; refine (codeToVarint_ok 56 (by decide) _).mono ?_; rintro e w1 ⟨rfl, hb, he⟩; have Hb := Lib.hid hb; have He := Lib.hid he; obtain ⟨hc, hf⟩ := bcell he; have hg1 := he.block (heap_alloc_new w _); rw [World.size_alloc] at Hb; clear hb he) | (refine wpList_store_row rfl 46 _ _ rfl w.heap.size _ rfl rfl 46 _ hg1 ?c1 ?c2 ?c3 ?c4; (case c1 => kernel_rfl); (case c2 => rfl); (case c3 => simp [Value.oneCell'])) | (go_at_call 81; refine (TranscoderDns_ok _).mono ?_; rintro e w' ⟨rfl, rfl⟩))
  refine bodyPost_ret (results_cell_row Tryz.results36 _ _ w.heap.size 46 _ (0, 0) _ rfl (setRow_heap _ _ _ _ _ _ hg1) Tryz.underlying46 rfl (by kernel_rfl)) rfl ⟨rfl, Bs.block Hb.out (setRow_other _ _ _ _ (by simp)), ?_⟩
  exact below_setRow' (Ext.trans (Ext.alloc (Ext.refl w) _) He.out) (Nat.le_refl _) _

def pUDP : Pr := ⟨⟨#[117, 100, 112]⟩, 273, 16, false, tcPort⟩
theorem protoUDP_ok (w : World) : Calls Tryz.prog 37 #[] w fun e w' => e = .returned (pUDP.val (vc (w.heap.size + 1) 273)) ∧ Bs w' (Lib.uvarint 273) (vc (w.heap.size + 1) 273) ∧ Ext w w' := by
  go_enter Tryz.func37, Tryz.ntmps37
  go_wp2_with (first | (go_at_call 78; refine (codeToVarint_ok 273 (by decide) _).mono ?_; rintro e w1 ⟨rfl, hb, he⟩; have Hb := Lib.hid hb; have He := Lib.hid he; obtain ⟨hc, hf⟩ := bcell he; have hg1 := he.block (heap_alloc_new w _); rw [World.size_alloc] at Hb; clear hb he) | (refine wpList_store_row rfl 46 _ _ rfl w.heap.size _ rfl rfl 46 _ hg1 ?c1 ?c2 ?c3 ?c4; (case c1 => kernel_rfl); (case c2 => rfl); (case c3 => simp [Value.oneCell'])) | (go_at_call 80; refine (TranscoderPort_ok _).mono ?_; rintro e w' ⟨rfl, rfl⟩))
  refine bodyPost_ret (results_cell_row Tryz.results37 _ _ w.heap.size 46 _ (0, 0) _ rfl (setRow_heap _ _ _ _ _ _ hg1) Tryz.underlying46 rfl (by kernel_rfl)) rfl ⟨rfl, Bs.block Hb.out (setRow_other _ _ _ _ (by simp)), ?_⟩
  exact below_setRow' (Ext.trans (Ext.alloc (Ext.refl w) _) He.out) (Nat.le_refl _) _

def pDCCP : Pr := ⟨⟨#[100, 99, 99, 112]⟩, 33, 16, false, tcPort⟩
theorem protoDCCP_ok (w : World) : Calls Tryz.prog 38 #[] w fun e w' => e = .returned (pDCCP.val (vc (w.heap.size + 1) 33)) ∧ Bs w' (Lib.uvarint 33) (vc (w.heap.size + 1) 33) ∧ Ext w w' := by
  go_enter Tryz.func38, Tryz.ntmps38
  go_wp2_with (first | (go_at_call 78; refine (codeToVarint_ok 33 (by decide) _).mono ?_; rintro e w1 ⟨rfl, hb, he⟩; have Hb := Lib.hid hb; have He := Lib.hid he; obtain ⟨hc, hf⟩ := bcell he; have hg1 := he.block (heap_alloc_new w _); rw [World.size_alloc] at Hb; clear hb he) | (refine wpList_store_row rfl 46 _ _ rfl w.heap.size _ rfl rfl 46 _ hg1 ?c1 ?c2 ?c3 ?c4; (case c1 => kernel_rfl); (case c2 => rfl); (case c3 => simp [Value.oneCell'])) | (go_at_call 80; refine (TranscoderPort_ok _).mono ?_; rintro e w' ⟨rfl, rfl⟩))
  refine bodyPost_ret (results_cell_row Tryz.results38 _ _ w.heap.size 46 _ (0, 0) _ rfl (setRow_heap _ _ _ _ _ _ hg1) Tryz.underlying46 rfl (by kernel_rfl)) rfl ⟨rfl, Bs.block Hb.out (setRow_other _ _ _ _ (by simp)), ?_⟩
  exact below_setRow' (Ext.trans (Ext.alloc (Ext.refl w) _) He.out) (Nat.le_refl _) _

def pIP6 : Pr := ⟨⟨#[105, 112, 54]⟩, 41, 128, false, tcIP6⟩
theorem protoIP6_ok (w : World) : Calls Tryz.prog 39 #[] w fun e w' => e = .returned (pIP6.val (vc (w.heap.size + 1) 41)) ∧ Bs w' (Lib.uvarint 41) (vc (w.heap.size + 1) 41) ∧ Ext w w' := by
  go_enter Tryz.func39, Tryz.ntmps39
  go_wp2_with (first | (go_at_call 78; refine (codeToVarint_ok 41 (by decide) _).mono ?_; rintro e w1 ⟨rfl, hb, he⟩; have Hb := Lib.hid hb; have He := Lib.hid he; obtain ⟨hc, hf⟩ := bcell he; have hg1 := he.block (heap_alloc_new w _); rw [World.size_alloc] at Hb; clear hb he) | (refine wpList_store_row rfl 46 _ _ rfl w.heap.size _ rfl rfl 46 _ hg1 ?c1 ?c2 ?c3 ?c4; (case c1 => kernel_rfl); (case c2 => rfl); (case c3 => simp [Value.oneCell'])) | (go_at_call 82; refine (TranscoderIP6_ok _).mono ?_; rintro e w' ⟨rfl, rfl⟩))
  refine bodyPost_ret (results_cell_row Tryz.results39 _ _ w.heap.size 46 _ (0, 0) _ rfl (setRow_heap _ _ _ _ _ _ hg1) Tryz.underlying46 rfl (by kernel_rfl)) rfl ⟨rfl, Bs.block Hb.out (setRow_other _ _ _ _ (by simp)), ?_⟩
  exact below_setRow' (Ext.trans (Ext.alloc (Ext.refl w) _) He.out) (Nat.le_refl _) _

def pIPCIDR : Pr := ⟨⟨#[105, 112, 99, 105, 100, 114]⟩, 43, 8, false, tcIPCIDR⟩
theorem protoIPCIDR_ok (w : World) : Calls Tryz.prog 41 #[] w fun e w' => e = .returned (pIPCIDR.val (vc (w.heap.size + 1) 43)) ∧ Bs w' (Lib.uvarint 43) (vc (w.heap.size + 1) 43) ∧ Ext w w' := by
  go_enter Tryz.func41, Tryz.ntmps41
  go_wp2_with (first | (go_at_call 78; refine (codeToVarint_ok 43 (by decide) _).mono ?_; rintro e w1 ⟨rfl, hb, he⟩; have Hb := Lib.hid hb; have He := Lib.hid he; obtain ⟨hc, hf⟩ := bcell he; have hg1 := he.block (heap_alloc_new w _); rw [World.size_alloc] at Hb; clear hb he) | (refine wpList_store_row rfl 46 _ _ rfl w.heap.size _ rfl rfl 46 _ hg1 ?c1 ?c2 ?c3 ?c4; (case c1 => kernel_rfl); (case c2 => rfl); (case c3 => simp [Value.oneCell'])) | (go_at_call 84; refine (TranscoderIPCIDR_ok _).mono ?_; rintro e w' ⟨rfl, rfl⟩))
  refine bodyPost_ret (results_cell_row Tryz.results41 _ _ w.heap.size 46 _ (0, 0) _ rfl (setRow_heap _ _ _ _ _ _ hg1) Tryz.underlying46 rfl (by kernel_rfl)) rfl ⟨rfl, Bs.block Hb.out (setRow_other _ _ _ _ (by simp)), ?_⟩
  exact below_setRow' (Ext.trans (Ext.alloc (Ext.refl w) _) He.out) (Nat.le_refl _) _

def pIP6ZONE : Pr := ⟨⟨#[105, 112, 54, 122, 111, 110, 101]⟩, 42, (-1), false, tcIP6Zone⟩
theorem protoIP6ZONE_ok (w : World) : Calls Tryz.prog 40 #[] w fun e w' => e = .returned (pIP6ZONE.val (vc (w.heap.size + 1) 42)) ∧ Bs w' (Lib.uvarint 42) (vc (w.heap.size + 1) 42) ∧ Ext w w' := by
  go_enter Tryz.func40, Tryz.ntmps40
  go_wp2_with (first | (go_at_call 78; refine (codeToVarint_ok 42 (by decide) _).mono ?_; rintro e w1 ⟨rfl, hb, he⟩; have Hb := Lib.hid hb; have He := Lib.hid he; obtain ⟨hc, hf⟩ := bcell he; have hg1 := he.block (heap_alloc_new w _); rw [World.size_alloc] at Hb; clear hb he) | (refine wpList_store_row rfl 46 _ _ rfl w.heap.size _ rfl rfl 46 _ hg1 ?c1 ?c2 ?c3 ?c4; (case c1 => kernel_rfl); (case c2 => rfl); (case c3 => simp [Value.oneCell'])) | (go_at_call 83; refine (TranscoderIP6Zone_ok _).mono ?_; rintro e w' ⟨rfl, rfl⟩))
  refine bodyPost_ret (results_cell_row Tryz.results40 _ _ w.heap.size 46 _ (0, 0) _ rfl (setRow_heap _ _ _ _ _ _ hg1) Tryz.underlying46 rfl (by kernel_rfl)) rfl ⟨rfl, Bs.block Hb.out (setRow_other _ _ _ _ (by simp)), ?_⟩
  exact below_setRow' (Ext.trans (Ext.alloc (Ext.refl w) _) He.out) (Nat.le_refl _) _

def pSCTP : Pr := ⟨⟨#[115, 99, 116, 112]⟩, 132, 16, false, tcPort⟩
theorem protoSCTP_ok (w : World) : Calls Tryz.prog 42 #[] w fun e w' => e = .returned (pSCTP.val (vc (w.heap.size + 1) 132)) ∧ Bs w' (Lib.uvarint 132) (vc (w.heap.size + 1) 132) ∧ Ext w w' := by
  go_enter Tryz.func42, Tryz.ntmps42
  go_wp2_with (first | (go_at_call 78; refine (codeToVarint_ok 132 (by decide) _).mono ?_; rintro e w1 ⟨rfl, hb, he⟩; have Hb := Lib.hid hb; have He := Lib.hid he; obtain ⟨hc, hf⟩ := bcell he; have hg1 := he.block (heap_alloc_new w _); rw [World.size_alloc] at Hb; clear hb he) | (refine wpList_store_row rfl 46 _ _ rfl w.heap.size _ rfl rfl 46 _ hg1 ?c1 ?c2 ?c3 ?c4; (case c1 => kernel_rfl); (case c2 => rfl); (case c3 => simp [Value.oneCell'])) | (go_at_call 80; refine (TranscoderPort_ok _).mono ?_; rintro e w' ⟨rfl, rfl⟩))
  refine bodyPost_ret (results_cell_row Tryz.results42 _ _ w.heap.size 46 _ (0, 0) _ rfl (setRow_heap _ _ _ _ _ _ hg1) Tryz.underlying46 rfl (by kernel_rfl)) rfl ⟨rfl, Bs.block Hb.out (setRow_other _ _ _ _ (by simp)), ?_⟩
  exact below_setRow' (Ext.trans (Ext.alloc (Ext.refl w) _) He.out) (Nat.le_refl _) _

def pCIRCUIT : Pr := ⟨⟨#[112, 50, 112, 45, 99, 105, 114, 99, 117, 105, 116]⟩, 290, 0, false, .nilIface⟩
theorem protoCIRCUIT_ok (w : World) : Calls Tryz.prog 43 #[] w fun e w' => e = .returned (pCIRCUIT.val (vc (w.heap.size + 1) 290)) ∧ Bs w' (Lib.uvarint 290) (vc (w.heap.size + 1) 290) ∧ Ext w w' := by
  go_enter Tryz.func43, Tryz.ntmps43
  go_wp2_with (first | (go_at_call 78; refine (codeToVarint_ok 290 (by decide) _).mono ?_; rintro e w1 ⟨rfl, hb, he⟩; have Hb := Lib.hid hb; have He := Lib.hid he; obtain ⟨hc, hf⟩ := bcell he; have hg1 := he.block (heap_alloc_new w _); rw [World.size_alloc] at Hb; clear hb he) | (refine wpList_store_row rfl 46 _ _ rfl w.heap.size _ rfl rfl 46 _ hg1 ?c1 ?c2 ?c3 ?c4; (case c1 => kernel_rfl); (case c2 => rfl); (case c3 => simp [Value.oneCell'])))
  refine bodyPost_ret (results_cell_row Tryz.results43 _ _ w.heap.size 46 _ (0, 0) _ rfl (setRow_heap _ _ _ _ _ _ hg1) Tryz.underlying46 rfl (by kernel_rfl)) rfl ⟨rfl, Bs.block Hb.out (setRow_other _ _ _ _ (by simp)), ?_⟩
  exact below_setRow' (Ext.trans (Ext.alloc (Ext.refl w) _) He.out) (Nat.le_refl _) _

def pUTP : Pr := ⟨⟨#[117, 116, 112]⟩, 302, 0, false, .nilIface⟩
theorem protoUTP_ok (w : World) : Calls Tryz.prog 48 #[] w fun e w' => e = .returned (pUTP.val (vc (w.heap.size + 1) 302)) ∧ Bs w' (Lib.uvarint 302) (vc (w.heap.size + 1) 302) ∧ Ext w w' := by
  go_enter Tryz.func48, Tryz.ntmps48
  go_wp2_with (first | (go_at_call 78; refine (codeToVarint_ok 302 (by decide) _).mono ?_; rintro e w1 ⟨rfl, hb, he⟩; have Hb := Lib.hid hb; have He := Lib.hid he; obtain ⟨hc, hf⟩ := bcell he; have hg1 := he.block (heap_alloc_new w _); rw [World.size_alloc] at Hb; clear hb he) | (refine wpList_store_row rfl 46 _ _ rfl w.heap.size _ rfl rfl 46 _ hg1 ?c1 ?c2 ?c3 ?c4; (case c1 => kernel_rfl); (case c2 => rfl); (case c3 => simp [Value.oneCell'])))
  refine bodyPost_ret (results_cell_row Tryz.results48 _ _ w.heap.size 46 _ (0, 0) _ rfl (setRow_heap _ _ _ _ _ _ hg1) Tryz.underlying46 rfl (by kernel_rfl)) rfl ⟨rfl, Bs.block Hb.out (setRow_other _ _ _ _ (by simp)), ?_⟩
  exact below_setRow' (Ext.trans (Ext.alloc (Ext.refl w) _) He.out) (Nat.le_refl _) _

def pUDT : Pr := ⟨⟨#[117, 100, 116]⟩, 301, 0, false, .nilIface⟩
theorem protoUDT_ok (w : World) : Calls Tryz.prog 49 #[] w fun e w' => e = .returned (pUDT.val (vc (w.heap.size + 1) 301)) ∧ Bs w' (Lib.uvarint 301) (vc (w.heap.size + 1) 301) ∧ Ext w w' := by
  go_enter Tryz.func49, Tryz.ntmps49
  go_wp2_with (first | (go_at_call 78; refine (codeToVarint_ok 301 (by decide) _).mono ?_; rintro e w1 ⟨rfl, hb, he⟩; have Hb := Lib.hid hb; have He := Lib.hid he; obtain ⟨hc, hf⟩ := bcell he; have hg1 := he.block (heap_alloc_new w _); rw [World.size_alloc] at Hb; clear hb he) | (refine wpList_store_row rfl 46 _ _ rfl w.heap.size _ rfl rfl 46 _ hg1 ?c1 ?c2 ?c3 ?c4; (case c1 => kernel_rfl); (case c2 => rfl); (case c3 => simp [Value.oneCell'])))
  refine bodyPost_ret (results_cell_row Tryz.results49 _ _ w.heap.size 46 _ (0, 0) _ rfl (setRow_heap _ _ _ _ _ _ hg1) Tryz.underlying46 rfl (by kernel_rfl)) rfl ⟨rfl, Bs.block Hb.out (setRow_other _ _ _ _ (by simp)), ?_⟩
  exact below_setRow' (Ext.trans (Ext.alloc (Ext.refl w) _) He.out) (Nat.le_refl _) _

def pQUIC : Pr := ⟨⟨#[113, 117, 105, 99]⟩, 460, 0, false, .nilIface⟩
theorem protoQUIC_ok (w : World) : Calls Tryz.prog 50 #[] w fun e w' => e = .returned (pQUIC.val (vc (w.heap.size + 1) 460)) ∧ Bs w' (Lib.uvarint 460) (vc (w.heap.size + 1) 460) ∧ Ext w w' := by
  go_enter Tryz.func50, Tryz.ntmps50
  go_wp2_with (first | (go_at_call 78; refine (codeToVarint_ok 460 (by decide) _).mono ?_; rintro e w1 ⟨rfl, hb, he⟩; have Hb := Lib.hid hb; have He := Lib.hid he; obtain ⟨hc, hf⟩ := bcell he; have hg1 := he.block (heap_alloc_new w _); rw [World.size_alloc] at Hb; clear hb he) | (refine wpList_store_row rfl 46 _ _ rfl w.heap.size _ rfl rfl 46 _ hg1 ?c1 ?c2 ?c3 ?c4; (case c1 => kernel_rfl); (case c2 => rfl); (case c3 => simp [Value.oneCell'])))
  refine bodyPost_ret (results_cell_row Tryz.results50 _ _ w.heap.size 46 _ (0, 0) _ rfl (setRow_heap _ _ _ _ _ _ hg1) Tryz.underlying46 rfl (by kernel_rfl)) rfl ⟨rfl, Bs.block Hb.out (setRow_other _ _ _ _ (by simp)), ?_⟩
  exact below_setRow' (Ext.trans (Ext.alloc (Ext.refl w) _) He.out) (Nat.le_refl _) _

def pQUICV1 : Pr := ⟨⟨#[113, 117, 105, 99, 45, 118, 49]⟩, 461, 0, false, .nilIface⟩
theorem protoQUICV1_ok (w : World) : Calls Tryz.prog 51 #[] w fun e w' => e = .returned (pQUICV1.val (vc (w.heap.size + 1) 461)) ∧ Bs w' (Lib.uvarint 461) (vc (w.heap.size + 1) 461) ∧ Ext w w' := by
  go_enter Tryz.func51, Tryz.ntmps51
  go_wp2_with (first | (go_at_call 78; refine (codeToVarint_ok 461 (by decide) _).mono ?_; rintro e w1 ⟨rfl, hb, he⟩; have Hb := Lib.hid hb; have He := Lib.hid he; obtain ⟨hc, hf⟩ := bcell he; have hg1 := he.block (heap_alloc_new w _); rw [World.size_alloc] at Hb; clear hb he) | (refine wpList_store_row rfl 46 _ _ rfl w.heap.size _ rfl rfl 46 _ hg1 ?c1 ?c2 ?c3 ?c4; (case c1 => kernel_rfl); (case c2 => rfl); (case c3 => simp [Value.oneCell'])))
  refine bodyPost_ret (results_cell_row Tryz.results51 _ _ w.heap.size 46 _ (0, 0) _ rfl (setRow_heap _ _ _ _ _ _ hg1) Tryz.underlying46 rfl (by kernel_rfl)) rfl ⟨rfl, Bs.block Hb.out (setRow_other _ _ _ _ (by simp)), ?_⟩
  exact below_setRow' (Ext.trans (Ext.alloc (Ext.refl w) _) He.out) (Nat.le_refl _) _

def pWEBTRANSPORT : Pr := ⟨⟨#[119, 101, 98, 116, 114, 97, 110, 115, 112, 111, 114, 116]⟩, 465, 0, false, .nilIface⟩
theorem protoWEBTRANSPORT_ok (w : World) : Calls Tryz.prog 52 #[] w fun e w' => e = .returned (pWEBTRANSPORT.val (vc (w.heap.size + 1) 465)) ∧ Bs w' (Lib.uvarint 465) (vc (w.heap.size + 1) 465) ∧ Ext w w' := by
  go_enter Tryz.func52, Tryz.ntmps52
  go_wp2_with (first | (go_at_call 78; refine (codeToVarint_ok 465 (by decide) _).mono ?_; rintro e w1 ⟨rfl, hb, he⟩; have Hb := Lib.hid hb; have He := Lib.hid he; obtain ⟨hc, hf⟩ := bcell he; have hg1 := he.block (heap_alloc_new w _); rw [World.size_alloc] at Hb; clear hb he) | (refine wpList_store_row rfl 46 _ _ rfl w.heap.size _ rfl rfl 46 _ hg1 ?c1 ?c2 ?c3 ?c4; (case c1 => kernel_rfl); (case c2 => rfl); (case c3 => simp [Value.oneCell'])))
  refine bodyPost_ret (results_cell_row Tryz.results52 _ _ w.heap.size 46 _ (0, 0) _ rfl (setRow_heap _ _ _ _ _ _ hg1) Tryz.underlying46 rfl (by kernel_rfl)) rfl ⟨rfl, Bs.block Hb.out (setRow_other _ _ _ _ (by simp)), ?_⟩
  exact below_setRow' (Ext.trans (Ext.alloc (Ext.refl w) _) He.out) (Nat.le_refl _) _

def pHTTP : Pr := ⟨⟨#[104, 116, 116, 112]⟩, 480, 0, false, .nilIface⟩
theorem protoHTTP_ok (w : World) : Calls Tryz.prog 54 #[] w fun e w' => e = .returned (pHTTP.val (vc (w.heap.size + 1) 480)) ∧ Bs w' (Lib.uvarint 480) (vc (w.heap.size + 1) 480) ∧ Ext w w' := by
  go_enter Tryz.func54, Tryz.ntmps54
  go_wp2_with (first | (go_at_call 78; refine (codeToVarint_ok 480 (by decide) _).mono ?_; rintro e w1 ⟨rfl, hb, he⟩; have Hb := Lib.hid hb; have He := Lib.hid he; obtain ⟨hc, hf⟩ := bcell he; have hg1 := he.block (heap_alloc_new w _); rw [World.size_alloc] at Hb; clear hb he) | (refine wpList_store_row rfl 46 _ _ rfl w.heap.size _ rfl rfl 46 _ hg1 ?c1 ?c2 ?c3 ?c4; (case c1 => kernel_rfl); (case c2 => rfl); (case c3 => simp [Value.oneCell'])))
  refine bodyPost_ret (results_cell_row Tryz.results54 _ _ w.heap.size 46 _ (0, 0) _ rfl (setRow_heap _ _ _ _ _ _ hg1) Tryz.underlying46 rfl (by kernel_rfl)) rfl ⟨rfl, Bs.block Hb.out (setRow_other _ _ _ _ (by simp)), ?_⟩
  exact below_setRow' (Ext.trans (Ext.alloc (Ext.refl w) _) He.out) (Nat.le_refl _) _

def pHTTPS : Pr := ⟨⟨#[104, 116, 116, 112, 115]⟩, 443, 0, false, .nilIface⟩
theorem protoHTTPS_ok (w : World) : Calls Tryz.prog 56 #[] w fun e w' => e = .returned (pHTTPS.val (vc (w.heap.size + 1) 443)) ∧ Bs w' (Lib.uvarint 443) (vc (w.heap.size + 1) 443) ∧ Ext w w' := by
  go_enter Tryz.func56, Tryz.ntmps56
  go_wp2_with (first | (go_at_call 78; refine (codeToVarint_ok 443 (by decide) _).mono ?_; rintro e w1 ⟨rfl, hb, he⟩; have Hb := Lib.hid hb; have He := Lib.hid he; obtain ⟨hc, hf⟩ := bcell he; have hg1 := he.block (heap_alloc_new w _); rw [World.size_alloc] at Hb; clear hb he) | (refine wpList_store_row rfl 46 _ _ rfl w.heap.size _ rfl rfl 46 _ hg1 ?c1 ?c2 ?c3 ?c4; (case c1 => kernel_rfl); (case c2 => rfl); (case c3 => simp [Value.oneCell'])))
  refine bodyPost_ret (results_cell_row Tryz.results56 _ _ w.heap.size 46 _ (0, 0) _ rfl (setRow_heap _ _ _ _ _ _ hg1) Tryz.underlying46 rfl (by kernel_rfl)) rfl ⟨rfl, Bs.block Hb.out (setRow_other _ _ _ _ (by simp)), ?_⟩
  exact below_setRow' (Ext.trans (Ext.alloc (Ext.refl w) _) He.out) (Nat.le_refl _) _

def pP2P : Pr := ⟨⟨#[112, 50, 112]⟩, 421, (-1), false, tcP2P⟩
theorem protoP2P_ok (w : World) : Calls Tryz.prog 57 #[] w fun e w' => e = .returned (pP2P.val (vc (w.heap.size + 1) 421)) ∧ Bs w' (Lib.uvarint 421) (vc (w.heap.size + 1) 421) ∧ Ext w w' := by
  go_enter Tryz.func57, Tryz.ntmps57
  go_wp2_with (first | (go_at_call 78; refine (codeToVarint_ok 421 (by decide) _).mono ?_; rintro e w1 ⟨rfl, hb, he⟩; have Hb := Lib.hid hb; have He := Lib.hid he; obtain ⟨hc, hf⟩ := bcell he; have hg1 := he.block (heap_alloc_new w _); rw [World.size_alloc] at Hb; clear hb he) | (refine wpList_store_row rfl 46 _ _ rfl w.heap.size _ rfl rfl 46 _ hg1 ?c1 ?c2 ?c3 ?c4; (case c1 => kernel_rfl); (case c2 => rfl); (case c3 => simp [Value.oneCell'])) | (go_at_call 91; refine (TranscoderP2P_ok _).mono ?_; rintro e w' ⟨rfl, rfl⟩))
  refine bodyPost_ret (results_cell_row Tryz.results57 _ _ w.heap.size 46 _ (0, 0) _ rfl (setRow_heap _ _ _ _ _ _ hg1) Tryz.underlying46 rfl (by kernel_rfl)) rfl ⟨rfl, Bs.block Hb.out (setRow_other _ _ _ _ (by simp)), ?_⟩
  exact below_setRow' (Ext.trans (Ext.alloc (Ext.refl w) _) He.out) (Nat.le_refl _) _

def pUNIX : Pr := ⟨⟨#[117, 110, 105, 120]⟩, 400, (-1), true, tcUnix⟩
theorem protoUNIX_ok (w : World) : Calls Tryz.prog 58 #[] w fun e w' => e = .returned (pUNIX.val (vc (w.heap.size + 1) 400)) ∧ Bs w' (Lib.uvarint 400) (vc (w.heap.size + 1) 400) ∧ Ext w w' := by
  go_enter Tryz.func58, Tryz.ntmps58
  go_wp2_with (first | (go_at_call 78; refine (codeToVarint_ok 400 (by decide) _).mono ?_; rintro e w1 ⟨rfl, hb, he⟩; have Hb := Lib.hid hb; have He := Lib.hid he; obtain ⟨hc, hf⟩ := bcell he; have hg1 := he.block (heap_alloc_new w _); rw [World.size_alloc] at Hb; clear hb he) | (refine wpList_store_row rfl 46 _ _ rfl w.heap.size _ rfl rfl 46 _ hg1 ?c1 ?c2 ?c3 ?c4; (case c1 => kernel_rfl); (case c2 => rfl); (case c3 => simp [Value.oneCell'])) | (go_at_call 92; refine (TranscoderUnix_ok _).mono ?_; rintro e w' ⟨rfl, rfl⟩))
  refine bodyPost_ret (results_cell_row Tryz.results58 _ _ w.heap.size 46 _ (0, 0) _ rfl (setRow_heap _ _ _ _ _ _ hg1) Tryz.underlying46 rfl (by kernel_rfl)) rfl ⟨rfl, Bs.block Hb.out (setRow_other _ _ _ _ (by simp)), ?_⟩
  exact below_setRow' (Ext.trans (Ext.alloc (Ext.refl w) _) He.out) (Nat.le_refl _) _

def pP2P_WEBRTC_DIRECT : Pr := ⟨⟨#[112, 50, 112, 45, 119, 101, 98, 114, 116, 99, 45, 100, 105, 114, 101, 99, 116]⟩, 276, 0, false, .nilIface⟩
theorem protoP2P_WEBRTC_DIRECT_ok (w : World) : Calls Tryz.prog 59 #[] w fun e w' => e = .returned (pP2P_WEBRTC_DIRECT.val (vc (w.heap.size + 1) 276)) ∧ Bs w' (Lib.uvarint 276) (vc (w.heap.size + 1) 276) ∧ Ext w w' := by
  go_enter Tryz.func59, Tryz.ntmps59
  go_wp2_with (first | (go_at_call 78; refine (codeToVarint_ok 276 (by decide) _).mono ?_; rintro e w1 ⟨rfl, hb, he⟩; have Hb := Lib.hid hb; have He := Lib.hid he; obtain ⟨hc, hf⟩ := bcell he; have hg1 := he.block (heap_alloc_new w _); rw [World.size_alloc] at Hb; clear hb he) | (refine wpList_store_row rfl 46 _ _ rfl w.heap.size _ rfl rfl 46 _ hg1 ?c1 ?c2 ?c3 ?c4; (case c1 => kernel_rfl); (case c2 => rfl); (case c3 => simp [Value.oneCell'])))
  refine bodyPost_ret (results_cell_row Tryz.results59 _ _ w.heap.size 46 _ (0, 0) _ rfl (setRow_heap _ _ _ _ _ _ hg1) Tryz.underlying46 rfl (by kernel_rfl)) rfl ⟨rfl, Bs.block Hb.out (setRow_other _ _ _ _ (by simp)), ?_⟩
  exact below_setRow' (Ext.trans (Ext.alloc (Ext.refl w) _) He.out) (Nat.le_refl _) _

def pTLS : Pr := ⟨⟨#[116, 108, 115]⟩, 448, 0, false, .nilIface⟩
theorem protoTLS_ok (w : World) : Calls Tryz.prog 60 #[] w fun e w' => e = .returned (pTLS.val (vc (w.heap.size + 1) 448)) ∧ Bs w' (Lib.uvarint 448) (vc (w.heap.size + 1) 448) ∧ Ext w w' := by
  go_enter Tryz.func60, Tryz.ntmps60
  go_wp2_with (first | (go_at_call 78; refine (codeToVarint_ok 448 (by decide) _).mono ?_; rintro e w1 ⟨rfl, hb, he⟩; have Hb := Lib.hid hb; have He := Lib.hid he; obtain ⟨hc, hf⟩ := bcell he; have hg1 := he.block (heap_alloc_new w _); rw [World.size_alloc] at Hb; clear hb he) | (refine wpList_store_row rfl 46 _ _ rfl w.heap.size _ rfl rfl 46 _ hg1 ?c1 ?c2 ?c3 ?c4; (case c1 => kernel_rfl); (case c2 => rfl); (case c3 => simp [Value.oneCell'])))
  refine bodyPost_ret (results_cell_row Tryz.results60 _ _ w.heap.size 46 _ (0, 0) _ rfl (setRow_heap _ _ _ _ _ _ hg1) Tryz.underlying46 rfl (by kernel_rfl)) rfl ⟨rfl, Bs.block Hb.out (setRow_other _ _ _ _ (by simp)), ?_⟩
  exact below_setRow' (Ext.trans (Ext.alloc (Ext.refl w) _) He.out) (Nat.le_refl _) _

def pSNI : Pr := ⟨⟨#[115, 110, 105]⟩, 449, (-1), false, tcDns⟩
theorem protoSNI_ok (w : World) : Calls Tryz.prog 61 #[] w fun e w' => e = .returned (pSNI.val (vc (w.heap.size + 1) 449)) ∧ Bs w' (Lib.uvarint 449) (vc (w.heap.size + 1) 449) ∧ Ext w w' := by
  go_enter Tryz.func61, Tryz.ntmps61
  go_wp2_with (first | (go_at_call 78; refine (codeToVarint_ok 449 (by decide) _).mono ?_; rintro e w1 ⟨rfl, hb, he⟩; have Hb := Lib.hid hb; have He := Lib.hid he; obtain ⟨hc, hf⟩ := bcell he; have hg1 := he.block (heap_alloc_new w _); rw [World.size_alloc] at Hb; clear hb he) | (refine wpList_store_row rfl 46 _ _ rfl w.heap.size _ rfl rfl 46 _ hg1 ?c1 ?c2 ?c3 ?c4; (case c1 => kernel_rfl); (case c2 => rfl); (case c3 => simp [Value.oneCell'])) | (go_at_call 81; refine (TranscoderDns_ok _).mono ?_; rintro e w' ⟨rfl, rfl⟩))
  refine bodyPost_ret (results_cell_row Tryz.results61 _ _ w.heap.size 46 _ (0, 0) _ rfl (setRow_heap _ _ _ _ _ _ hg1) Tryz.underlying46 rfl (by kernel_rfl)) rfl ⟨rfl, Bs.block Hb.out (setRow_other _ _ _ _ (by simp)), ?_⟩
  exact below_setRow' (Ext.trans (Ext.alloc (Ext.refl w) _) He.out) (Nat.le_refl _) _

def pNOISE : Pr := ⟨⟨#[110, 111, 105, 115, 101]⟩, 454, 0, false, .nilIface⟩
theorem protoNOISE_ok (w : World) : Calls Tryz.prog 62 #[] w fun e w' => e = .returned (pNOISE.val (vc (w.heap.size + 1) 454)) ∧ Bs w' (Lib.uvarint 454) (vc (w.heap.size + 1) 454) ∧ Ext w w' := by
  go_enter Tryz.func62, Tryz.ntmps62
  go_wp2_with (first | (go_at_call 78; refine (codeToVarint_ok 454 (by decide) _).mono ?_; rintro e w1 ⟨rfl, hb, he⟩; have Hb := Lib.hid hb; have He := Lib.hid he; obtain ⟨hc, hf⟩ := bcell he; have hg1 := he.block (heap_alloc_new w _); rw [World.size_alloc] at Hb; clear hb he) | (refine wpList_store_row rfl 46 _ _ rfl w.heap.size _ rfl rfl 46 _ hg1 ?c1 ?c2 ?c3 ?c4; (case c1 => kernel_rfl); (case c2 => rfl); (case c3 => simp [Value.oneCell'])))
  refine bodyPost_ret (results_cell_row Tryz.results62 _ _ w.heap.size 46 _ (0, 0) _ rfl (setRow_heap _ _ _ _ _ _ hg1) Tryz.underlying46 rfl (by kernel_rfl)) rfl ⟨rfl, Bs.block Hb.out (setRow_other _ _ _ _ (by simp)), ?_⟩
  exact below_setRow' (Ext.trans (Ext.alloc (Ext.refl w) _) He.out) (Nat.le_refl _) _

def pPlaintextV2 : Pr := ⟨⟨#[112, 108, 97, 105, 110, 116, 101, 120, 116, 118, 50]⟩, 7367777, 0, false, .nilIface⟩
theorem protoPlaintextV2_ok (w : World) : Calls Tryz.prog 65 #[] w fun e w' => e = .returned (pPlaintextV2.val (vc (w.heap.size + 1) 7367777)) ∧ Bs w' (Lib.uvarint 7367777) (vc (w.heap.size + 1) 7367777) ∧ Ext w w' := by
  go_enter Tryz.func65, Tryz.ntmps65
  go_wp2_with (first | (go_at_call 78; refine (codeToVarint_ok 7367777 (by decide) _).mono ?_; rintro e w1 ⟨rfl, hb, he⟩; have Hb := Lib.hid hb; have He := Lib.hid he; obtain ⟨hc, hf⟩ := bcell he; have hg1 := he.block (heap_alloc_new w _); rw [World.size_alloc] at Hb; clear hb he) | (refine wpList_store_row rfl 46 _ _ rfl w.heap.size _ rfl rfl 46 _ hg1 ?c1 ?c2 ?c3 ?c4; (case c1 => kernel_rfl); (case c2 => rfl); (case c3 => simp [Value.oneCell'])))
  refine bodyPost_ret (results_cell_row Tryz.results65 _ _ w.heap.size 46 _ (0, 0) _ rfl (setRow_heap _ _ _ _ _ _ hg1) Tryz.underlying46 rfl (by kernel_rfl)) rfl ⟨rfl, Bs.block Hb.out (setRow_other _ _ _ _ (by simp)), ?_⟩
  exact below_setRow' (Ext.trans (Ext.alloc (Ext.refl w) _) He.out) (Nat.le_refl _) _

def pWS : Pr := ⟨⟨#[119, 115]⟩, 477, 0, false, .nilIface⟩
theorem protoWS_ok (w : World) : Calls Tryz.prog 63 #[] w fun e w' => e = .returned (pWS.val (vc (w.heap.size + 1) 477)) ∧ Bs w' (Lib.uvarint 477) (vc (w.heap.size + 1) 477) ∧ Ext w w' := by
  go_enter Tryz.func63, Tryz.ntmps63
  go_wp2_with (first | (go_at_call 78; refine (codeToVarint_ok 477 (by decide) _).mono ?_; rintro e w1 ⟨rfl, hb, he⟩; have Hb := Lib.hid hb; have He := Lib.hid he; obtain ⟨hc, hf⟩ := bcell he; have hg1 := he.block (heap_alloc_new w _); rw [World.size_alloc] at Hb; clear hb he) | (refine wpList_store_row rfl 46 _ _ rfl w.heap.size _ rfl rfl 46 _ hg1 ?c1 ?c2 ?c3 ?c4; (case c1 => kernel_rfl); (case c2 => rfl); (case c3 => simp [Value.oneCell'])))
  refine bodyPost_ret (results_cell_row Tryz.results63 _ _ w.heap.size 46 _ (0, 0) _ rfl (setRow_heap _ _ _ _ _ _ hg1) Tryz.underlying46 rfl (by kernel_rfl)) rfl ⟨rfl, Bs.block Hb.out (setRow_other _ _ _ _ (by simp)), ?_⟩
  exact below_setRow' (Ext.trans (Ext.alloc (Ext.refl w) _) He.out) (Nat.le_refl _) _

def pWSS : Pr := ⟨⟨#[119, 115, 115]⟩, 478, 0, false, .nilIface⟩
theorem protoWSS_ok (w : World) : Calls Tryz.prog 64 #[] w fun e w' => e = .returned (pWSS.val (vc (w.heap.size + 1) 478)) ∧ Bs w' (Lib.uvarint 478) (vc (w.heap.size + 1) 478) ∧ Ext w w' := by
  go_enter Tryz.func64, Tryz.ntmps64
  go_wp2_with (first | (go_at_call 78; refine (codeToVarint_ok 478 (by decide) _).mono ?_; rintro e w1 ⟨rfl, hb, he⟩; have Hb := Lib.hid hb; have He := Lib.hid he; obtain ⟨hc, hf⟩ := bcell he; have hg1 := he.block (heap_alloc_new w _); rw [World.size_alloc] at Hb; clear hb he) | (refine wpList_store_row rfl 46 _ _ rfl w.heap.size _ rfl rfl 46 _ hg1 ?c1 ?c2 ?c3 ?c4; (case c1 => kernel_rfl); (case c2 => rfl); (case c3 => simp [Value.oneCell'])))
  refine bodyPost_ret (results_cell_row Tryz.results64 _ _ w.heap.size 46 _ (0, 0) _ rfl (setRow_heap _ _ _ _ _ _ hg1) Tryz.underlying46 rfl (by kernel_rfl)) rfl ⟨rfl, Bs.block Hb.out (setRow_other _ _ _ _ (by simp)), ?_⟩
  exact below_setRow' (Ext.trans (Ext.alloc (Ext.refl w) _) He.out) (Nat.le_refl _) _

def pWebRTCDirect : Pr := ⟨⟨#[119, 101, 98, 114, 116, 99, 45, 100, 105, 114, 101, 99, 116]⟩, 280, 0, false, .nilIface⟩
theorem protoWebRTCDirect_ok (w : World) : Calls Tryz.prog 66 #[] w fun e w' => e = .returned (pWebRTCDirect.val (vc (w.heap.size + 1) 280)) ∧ Bs w' (Lib.uvarint 280) (vc (w.heap.size + 1) 280) ∧ Ext w w' := by
  go_enter Tryz.func66, Tryz.ntmps66
  go_wp2_with (first | (go_at_call 78; refine (codeToVarint_ok 280 (by decide) _).mono ?_; rintro e w1 ⟨rfl, hb, he⟩; have Hb := Lib.hid hb; have He := Lib.hid he; obtain ⟨hc, hf⟩ := bcell he; have hg1 := he.block (heap_alloc_new w _); rw [World.size_alloc] at Hb; clear hb he) | (refine wpList_store_row rfl 46 _ _ rfl w.heap.size _ rfl rfl 46 _ hg1 ?c1 ?c2 ?c3 ?c4; (case c1 => kernel_rfl); (case c2 => rfl); (case c3 => simp [Value.oneCell'])))
  refine bodyPost_ret (results_cell_row Tryz.results66 _ _ w.heap.size 46 _ (0, 0) _ rfl (setRow_heap _ _ _ _ _ _ hg1) Tryz.underlying46 rfl (by kernel_rfl)) rfl ⟨rfl, Bs.block Hb.out (setRow_other _ _ _ _ (by simp)), ?_⟩
  exact below_setRow' (Ext.trans (Ext.alloc (Ext.refl w) _) He.out) (Nat.le_refl _) _

def pWebRTC : Pr := ⟨⟨#[119, 101, 98, 114, 116, 99]⟩, 281, 0, false, .nilIface⟩
theorem protoWebRTC_ok (w : World) : Calls Tryz.prog 67 #[] w fun e w' => e = .returned (pWebRTC.val (vc (w.heap.size + 1) 281)) ∧ Bs w' (Lib.uvarint 281) (vc (w.heap.size + 1) 281) ∧ Ext w w' := by
  go_enter Tryz.func67, Tryz.ntmps67
  go_wp2_with (first | (go_at_call 78; refine (codeToVarint_ok 281 (by decide) _).mono ?_; rintro e w1 ⟨rfl, hb, he⟩; have Hb := Lib.hid hb; have He := Lib.hid he; obtain ⟨hc, hf⟩ := bcell he; have hg1 := he.block (heap_alloc_new w _); rw [World.size_alloc] at Hb; clear hb he) | (refine wpList_store_row rfl 46 _ _ rfl w.heap.size _ rfl rfl 46 _ hg1 ?c1 ?c2 ?c3 ?c4; (case c1 => kernel_rfl); (case c2 => rfl); (case c3 => simp [Value.oneCell'])))
  refine bodyPost_ret (results_cell_row Tryz.results67 _ _ w.heap.size 46 _ (0, 0) _ rfl (setRow_heap _ _ _ _ _ _ hg1) Tryz.underlying46 rfl (by kernel_rfl)) rfl ⟨rfl, Bs.block Hb.out (setRow_other _ _ _ _ (by simp)), ?_⟩
  exact below_setRow' (Ext.trans (Ext.alloc (Ext.refl w) _) He.out) (Nat.le_refl _) _

def pMemory : Pr := ⟨⟨#[109, 101, 109, 111, 114, 121]⟩, 777, 64, false, tcMemory⟩
theorem protoMemory_ok (w : World) : Calls Tryz.prog 68 #[] w fun e w' => e = .returned (pMemory.val (vc (w.heap.size + 1) 777)) ∧ Bs w' (Lib.uvarint 777) (vc (w.heap.size + 1) 777) ∧ Ext w w' := by
  go_enter Tryz.func68, Tryz.ntmps68
  go_wp2_with (first | (go_at_call 78; refine (codeToVarint_ok 777 (by decide) _).mono ?_; rintro e w1 ⟨rfl, hb, he⟩; have Hb := Lib.hid hb; have He := Lib.hid he; obtain ⟨hc, hf⟩ := bcell he; have hg1 := he.block (heap_alloc_new w _); rw [World.size_alloc] at Hb; clear hb he) | (refine wpList_store_row rfl 46 _ _ rfl w.heap.size _ rfl rfl 46 _ hg1 ?c1 ?c2 ?c3 ?c4; (case c1 => kernel_rfl); (case c2 => rfl); (case c3 => simp [Value.oneCell'])) | (go_at_call 93; refine (TranscoderMemory_ok _).mono ?_; rintro e w' ⟨rfl, rfl⟩))
  refine bodyPost_ret (results_cell_row Tryz.results68 _ _ w.heap.size 46 _ (0, 0) _ rfl (setRow_heap _ _ _ _ _ _ hg1) Tryz.underlying46 rfl (by kernel_rfl)) rfl ⟨rfl, Bs.block Hb.out (setRow_other _ _ _ _ (by simp)), ?_⟩
  exact below_setRow' (Ext.trans (Ext.alloc (Ext.refl w) _) He.out) (Nat.le_refl _) _

end Go.Proofs.YtchlkclpikdbjaaGreatDoor
namespace Go.Proofs.YtchlkclpikdbjaaGreatDoor
set_option linter.unusedVariables false
set_option linter.unusedSimpArgs false
open Go.RowKit

/-- the code c has the protocol p -/
def Coded (p : Pr) : Prop := ∀ w, Calls Tryz.prog 25 #[.int .i64 p.code] w fun e w' => e = .returned (p.val (vc (w.heap.size + 2) p.code)) ∧ Bs w' (Lib.uvarint p.code) (vc (w.heap.size + 2) p.code) ∧ Ext w w'
/-- the name s has the protocol p -/
def Named (p : Pr) : Prop := ∀ w, Calls Tryz.prog 95 #[.string p.name] w fun e w' => e = .returned (p.val (vc (w.heap.size + 2) p.code)) ∧ Bs w' (Lib.uvarint p.code) (vc (w.heap.size + 2) p.code) ∧ Ext w w'

set_option maxRecDepth 100000 in
theorem coded_4 : Coded pIP4 := by
  intro w
  show Calls _ _ #[.int .i64 4] _ _
  go_enter Tryz.func25, Tryz.ntmps25
  go_wp2_with (first | (go_at_call 31; refine (protoIP4_ok _).mono ?_; rintro e w1 ⟨rfl, hb, he⟩; rw [World.size_alloc] at hb ⊢; have Hb := Lib.hid hb; have He := Lib.hid he; have hg1 := he.block (heap_alloc_new w _); clear hb he) | (refine wpList_store_row rfl 46 _ _ rfl w.heap.size (pIP4.cells _) rfl rfl 46 _ hg1 ?c1 ?c2 ?c3 ?c4; (case c1 => kernel_rfl); (case c2 => rfl); (case c3 => exact Pr.one _ rfl _ _)))
  refine bodyPost_ret (results_cell_row Tryz.results25 _ _ w.heap.size 46 _ (0, 0) _ rfl (setRow_heap _ _ _ _ _ _ hg1) Tryz.underlying46 rfl (by kernel_rfl)) rfl ⟨rfl, Bs.block Hb.out (setRow_other _ _ _ _ (by simp)), ?_⟩
  exact below_setRow' (Ext.trans (Ext.alloc (Ext.refl w) _) He.out) (Nat.le_refl _) _

set_option maxRecDepth 100000 in
theorem coded_6 : Coded pTCP := by
  intro w
  show Calls _ _ #[.int .i64 6] _ _
  go_enter Tryz.func25, Tryz.ntmps25
  go_wp2_with (first | (go_at_call 32; refine (protoTCP_ok _).mono ?_; rintro e w1 ⟨rfl, hb, he⟩; rw [World.size_alloc] at hb ⊢; have Hb := Lib.hid hb; have He := Lib.hid he; have hg1 := he.block (heap_alloc_new w _); clear hb he) | (refine wpList_store_row rfl 46 _ _ rfl w.heap.size (pTCP.cells _) rfl rfl 46 _ hg1 ?c1 ?c2 ?c3 ?c4; (case c1 => kernel_rfl); (case c2 => rfl); (case c3 => exact Pr.one _ rfl _ _)))
  refine bodyPost_ret (results_cell_row Tryz.results25 _ _ w.heap.size 46 _ (0, 0) _ rfl (setRow_heap _ _ _ _ _ _ hg1) Tryz.underlying46 rfl (by kernel_rfl)) rfl ⟨rfl, Bs.block Hb.out (setRow_other _ _ _ _ (by simp)), ?_⟩
  exact below_setRow' (Ext.trans (Ext.alloc (Ext.refl w) _) He.out) (Nat.le_refl _) _

set_option maxRecDepth 100000 in
theorem coded_53 : Coded pDNS := by
  intro w
  show Calls _ _ #[.int .i64 53] _ _
  go_enter Tryz.func25, Tryz.ntmps25
  go_wp2_with (first | (go_at_call 33; refine (protoDNS_ok _).mono ?_; rintro e w1 ⟨rfl, hb, he⟩; rw [World.size_alloc] at hb ⊢; have Hb := Lib.hid hb; have He := Lib.hid he; have hg1 := he.block (heap_alloc_new w _); clear hb he) | (refine wpList_store_row rfl 46 _ _ rfl w.heap.size (pDNS.cells _) rfl rfl 46 _ hg1 ?c1 ?c2 ?c3 ?c4; (case c1 => kernel_rfl); (case c2 => rfl); (case c3 => exact Pr.one _ rfl _ _)))
  refine bodyPost_ret (results_cell_row Tryz.results25 _ _ w.heap.size 46 _ (0, 0) _ rfl (setRow_heap _ _ _ _ _ _ hg1) Tryz.underlying46 rfl (by kernel_rfl)) rfl ⟨rfl, Bs.block Hb.out (setRow_other _ _ _ _ (by simp)), ?_⟩
  exact below_setRow' (Ext.trans (Ext.alloc (Ext.refl w) _) He.out) (Nat.le_refl _) _

set_option maxRecDepth 100000 in
theorem coded_54 : Coded pDNS4 := by
  intro w
  show Calls _ _ #[.int .i64 54] _ _
  go_enter Tryz.func25, Tryz.ntmps25
  go_wp2_with (first | (go_at_call 34; refine (protoDNS4_ok _).mono ?_; rintro e w1 ⟨rfl, hb, he⟩; rw [World.size_alloc] at hb ⊢; have Hb := Lib.hid hb; have He := Lib.hid he; have hg1 := he.block (heap_alloc_new w _); clear hb he) | (refine wpList_store_row rfl 46 _ _ rfl w.heap.size (pDNS4.cells _) rfl rfl 46 _ hg1 ?c1 ?c2 ?c3 ?c4; (case c1 => kernel_rfl); (case c2 => rfl); (case c3 => exact Pr.one _ rfl _ _)))
  refine bodyPost_ret (results_cell_row Tryz.results25 _ _ w.heap.size 46 _ (0, 0) _ rfl (setRow_heap _ _ _ _ _ _ hg1) Tryz.underlying46 rfl (by kernel_rfl)) rfl ⟨rfl, Bs.block Hb.out (setRow_other _ _ _ _ (by simp)), ?_⟩
  exact below_setRow' (Ext.trans (Ext.alloc (Ext.refl w) _) He.out) (Nat.le_refl _) _

set_option maxRecDepth 100000 in
theorem coded_55 : Coded pDNS6 := by
  intro w
  show Calls _ _ #[.int .i64 55] _ _
  go_enter Tryz.func25, Tryz.ntmps25
  go_wp2_with (first | (go_at_call 35; refine (protoDNS6_ok _).mono ?_; rintro e w1 ⟨rfl, hb, he⟩; rw [World.size_alloc] at hb ⊢; have Hb := Lib.hid hb; have He := Lib.hid he; have hg1 := he.block (heap_alloc_new w _); clear hb he) | (refine wpList_store_row rfl 46 _ _ rfl w.heap.size (pDNS6.cells _) rfl rfl 46 _ hg1 ?c1 ?c2 ?c3 ?c4; (case c1 => kernel_rfl); (case c2 => rfl); (case c3 => exact Pr.one _ rfl _ _)))
  refine bodyPost_ret (results_cell_row Tryz.results25 _ _ w.heap.size 46 _ (0, 0) _ rfl (setRow_heap _ _ _ _ _ _ hg1) Tryz.underlying46 rfl (by kernel_rfl)) rfl ⟨rfl, Bs.block Hb.out (setRow_other _ _ _ _ (by simp)), ?_⟩
  exact below_setRow' (Ext.trans (Ext.alloc (Ext.refl w) _) He.out) (Nat.le_refl _) _

set_option maxRecDepth 100000 in
theorem coded_56 : Coded pDNSADDR := by
  intro w
  show Calls _ _ #[.int .i64 56] _ _
  go_enter Tryz.func25, Tryz.ntmps25
  go_wp2_with (first | (go_at_call 36; refine (protoDNSADDR_ok _).mono ?_; rintro e w1 ⟨rfl, hb, he⟩; rw [World.size_alloc] at hb ⊢; have Hb := Lib.hid hb; have He := Lib.hid he; have hg1 := he.block (heap_alloc_new w _); clear hb he) | (refine wpList_store_row rfl 46 _ _ rfl w.heap.size (pDNSADDR.cells _) rfl rfl 46 _ hg1 ?c1 ?c2 ?c3 ?c4; (case c1 => kernel_rfl); (case c2 => rfl); (case c3 => exact Pr.one _ rfl _ _)))
  refine bodyPost_ret (results_cell_row Tryz.results25 _ _ w.heap.size 46 _ (0, 0) _ rfl (setRow_heap _ _ _ _ _ _ hg1) Tryz.underlying46 rfl (by kernel_rfl)) rfl ⟨rfl, Bs.block Hb.out (setRow_other _ _ _ _ (by simp)), ?_⟩
  exact below_setRow' (Ext.trans (Ext.alloc (Ext.refl w) _) He.out) (Nat.le_refl _) _

set_option maxRecDepth 100000 in
theorem coded_273 : Coded pUDP := by
  intro w
  show Calls _ _ #[.int .i64 273] _ _
  go_enter Tryz.func25, Tryz.ntmps25
  go_wp2_with (first | (go_at_call 37; refine (protoUDP_ok _).mono ?_; rintro e w1 ⟨rfl, hb, he⟩; rw [World.size_alloc] at hb ⊢; have Hb := Lib.hid hb; have He := Lib.hid he; have hg1 := he.block (heap_alloc_new w _); clear hb he) | (refine wpList_store_row rfl 46 _ _ rfl w.heap.size (pUDP.cells _) rfl rfl 46 _ hg1 ?c1 ?c2 ?c3 ?c4; (case c1 => kernel_rfl); (case c2 => rfl); (case c3 => exact Pr.one _ rfl _ _)))
  refine bodyPost_ret (results_cell_row Tryz.results25 _ _ w.heap.size 46 _ (0, 0) _ rfl (setRow_heap _ _ _ _ _ _ hg1) Tryz.underlying46 rfl (by kernel_rfl)) rfl ⟨rfl, Bs.block Hb.out (setRow_other _ _ _ _ (by simp)), ?_⟩
  exact below_setRow' (Ext.trans (Ext.alloc (Ext.refl w) _) He.out) (Nat.le_refl _) _

set_option maxRecDepth 100000 in
theorem coded_33 : Coded pDCCP := by
  intro w
  show Calls _ _ #[.int .i64 33] _ _
  go_enter Tryz.func25, Tryz.ntmps25
  go_wp2_with (first | (go_at_call 38; refine (protoDCCP_ok _).mono ?_; rintro e w1 ⟨rfl, hb, he⟩; rw [World.size_alloc] at hb ⊢; have Hb := Lib.hid hb; have He := Lib.hid he; have hg1 := he.block (heap_alloc_new w _); clear hb he) | (refine wpList_store_row rfl 46 _ _ rfl w.heap.size (pDCCP.cells _) rfl rfl 46 _ hg1 ?c1 ?c2 ?c3 ?c4; (case c1 => kernel_rfl); (case c2 => rfl); (case c3 => exact Pr.one _ rfl _ _)))
  refine bodyPost_ret (results_cell_row Tryz.results25 _ _ w.heap.size 46 _ (0, 0) _ rfl (setRow_heap _ _ _ _ _ _ hg1) Tryz.underlying46 rfl (by kernel_rfl)) rfl ⟨rfl, Bs.block Hb.out (setRow_other _ _ _ _ (by simp)), ?_⟩
  exact below_setRow' (Ext.trans (Ext.alloc (Ext.refl w) _) He.out) (Nat.le_refl _) _

set_option maxRecDepth 100000 in
theorem coded_41 : Coded pIP6 := by
  intro w
  show Calls _ _ #[.int .i64 41] _ _
  go_enter Tryz.func25, Tryz.ntmps25
  go_wp2_with (first | (go_at_call 39; refine (protoIP6_ok _).mono ?_; rintro e w1 ⟨rfl, hb, he⟩; rw [World.size_alloc] at hb ⊢; have Hb := Lib.hid hb; have He := Lib.hid he; have hg1 := he.block (heap_alloc_new w _); clear hb he) | (refine wpList_store_row rfl 46 _ _ rfl w.heap.size (pIP6.cells _) rfl rfl 46 _ hg1 ?c1 ?c2 ?c3 ?c4; (case c1 => kernel_rfl); (case c2 => rfl); (case c3 => exact Pr.one _ rfl _ _)))
  refine bodyPost_ret (results_cell_row Tryz.results25 _ _ w.heap.size 46 _ (0, 0) _ rfl (setRow_heap _ _ _ _ _ _ hg1) Tryz.underlying46 rfl (by kernel_rfl)) rfl ⟨rfl, Bs.block Hb.out (setRow_other _ _ _ _ (by simp)), ?_⟩
  exact below_setRow' (Ext.trans (Ext.alloc (Ext.refl w) _) He.out) (Nat.le_refl _) _

set_option maxRecDepth 100000 in
theorem coded_43 : Coded pIPCIDR := by
  intro w
  show Calls _ _ #[.int .i64 43] _ _
  go_enter Tryz.func25, Tryz.ntmps25
  go_wp2_with (first | (go_at_call 41; refine (protoIPCIDR_ok _).mono ?_; rintro e w1 ⟨rfl, hb, he⟩; rw [World.size_alloc] at hb ⊢; have Hb := Lib.hid hb; have He := Lib.hid he; have hg1 := he.block (heap_alloc_new w _); clear hb he) | (refine wpList_store_row rfl 46 _ _ rfl w.heap.size (pIPCIDR.cells _) rfl rfl 46 _ hg1 ?c1 ?c2 ?c3 ?c4; (case c1 => kernel_rfl); (case c2 => rfl); (case c3 => exact Pr.one _ rfl _ _)))
  refine bodyPost_ret (results_cell_row Tryz.results25 _ _ w.heap.size 46 _ (0, 0) _ rfl (setRow_heap _ _ _ _ _ _ hg1) Tryz.underlying46 rfl (by kernel_rfl)) rfl ⟨rfl, Bs.block Hb.out (setRow_other _ _ _ _ (by simp)), ?_⟩
  exact below_setRow' (Ext.trans (Ext.alloc (Ext.refl w) _) He.out) (Nat.le_refl _) _

set_option maxRecDepth 100000 in
theorem coded_42 : Coded pIP6ZONE := by
  intro w
  show Calls _ _ #[.int .i64 42] _ _
  go_enter Tryz.func25, Tryz.ntmps25
  go_wp2_with (first | (go_at_call 40; refine (protoIP6ZONE_ok _).mono ?_; rintro e w1 ⟨rfl, hb, he⟩; rw [World.size_alloc] at hb ⊢; have Hb := Lib.hid hb; have He := Lib.hid he; have hg1 := he.block (heap_alloc_new w _); clear hb he) | (refine wpList_store_row rfl 46 _ _ rfl w.heap.size (pIP6ZONE.cells _) rfl rfl 46 _ hg1 ?c1 ?c2 ?c3 ?c4; (case c1 => kernel_rfl); (case c2 => rfl); (case c3 => exact Pr.one _ rfl _ _)))
  refine bodyPost_ret (results_cell_row Tryz.results25 _ _ w.heap.size 46 _ (0, 0) _ rfl (setRow_heap _ _ _ _ _ _ hg1) Tryz.underlying46 rfl (by kernel_rfl)) rfl ⟨rfl, Bs.block Hb.out (setRow_other _ _ _ _ (by simp)), ?_⟩
  exact below_setRow' (Ext.trans (Ext.alloc (Ext.refl w) _) He.out) (Nat.le_refl _) _

set_option maxRecDepth 100000 in
theorem coded_132 : Coded pSCTP := by
  intro w
  show Calls _ _ #[.int .i64 132] _ _
  go_enter Tryz.func25, Tryz.ntmps25
  go_wp2_with (first | (go_at_call 42; refine (protoSCTP_ok _).mono ?_; rintro e w1 ⟨rfl, hb, he⟩; rw [World.size_alloc] at hb ⊢; have Hb := Lib.hid hb; have He := Lib.hid he; have hg1 := he.block (heap_alloc_new w _); clear hb he) | (refine wpList_store_row rfl 46 _ _ rfl w.heap.size (pSCTP.cells _) rfl rfl 46 _ hg1 ?c1 ?c2 ?c3 ?c4; (case c1 => kernel_rfl); (case c2 => rfl); (case c3 => exact Pr.one _ rfl _ _)))
  refine bodyPost_ret (results_cell_row Tryz.results25 _ _ w.heap.size 46 _ (0, 0) _ rfl (setRow_heap _ _ _ _ _ _ hg1) Tryz.underlying46 rfl (by kernel_rfl)) rfl ⟨rfl, Bs.block Hb.out (setRow_other _ _ _ _ (by simp)), ?_⟩
  exact below_setRow' (Ext.trans (Ext.alloc (Ext.refl w) _) He.out) (Nat.le_refl _) _

set_option maxRecDepth 100000 in
theorem coded_290 : Coded pCIRCUIT := by
  intro w
  show Calls _ _ #[.int .i64 290] _ _
  go_enter Tryz.func25, Tryz.ntmps25
  go_wp2_with (first | (go_at_call 43; refine (protoCIRCUIT_ok _).mono ?_; rintro e w1 ⟨rfl, hb, he⟩; rw [World.size_alloc] at hb ⊢; have Hb := Lib.hid hb; have He := Lib.hid he; have hg1 := he.block (heap_alloc_new w _); clear hb he) | (refine wpList_store_row rfl 46 _ _ rfl w.heap.size (pCIRCUIT.cells _) rfl rfl 46 _ hg1 ?c1 ?c2 ?c3 ?c4; (case c1 => kernel_rfl); (case c2 => rfl); (case c3 => exact Pr.one _ rfl _ _)))
  refine bodyPost_ret (results_cell_row Tryz.results25 _ _ w.heap.size 46 _ (0, 0) _ rfl (setRow_heap _ _ _ _ _ _ hg1) Tryz.underlying46 rfl (by kernel_rfl)) rfl ⟨rfl, Bs.block Hb.out (setRow_other _ _ _ _ (by simp)), ?_⟩
  exact below_setRow' (Ext.trans (Ext.alloc (Ext.refl w) _) He.out) (Nat.le_refl _) _

set_option maxRecDepth 100000 in
theorem coded_302 : Coded pUTP := by
  intro w
  show Calls _ _ #[.int .i64 302] _ _
  go_enter Tryz.func25, Tryz.ntmps25
  go_wp2_with (first | (go_at_call 48; refine (protoUTP_ok _).mono ?_; rintro e w1 ⟨rfl, hb, he⟩; rw [World.size_alloc] at hb ⊢; have Hb := Lib.hid hb; have He := Lib.hid he; have hg1 := he.block (heap_alloc_new w _); clear hb he) | (refine wpList_store_row rfl 46 _ _ rfl w.heap.size (pUTP.cells _) rfl rfl 46 _ hg1 ?c1 ?c2 ?c3 ?c4; (case c1 => kernel_rfl); (case c2 => rfl); (case c3 => exact Pr.one _ rfl _ _)))
  refine bodyPost_ret (results_cell_row Tryz.results25 _ _ w.heap.size 46 _ (0, 0) _ rfl (setRow_heap _ _ _ _ _ _ hg1) Tryz.underlying46 rfl (by kernel_rfl)) rfl ⟨rfl, Bs.block Hb.out (setRow_other _ _ _ _ (by simp)), ?_⟩
  exact below_setRow' (Ext.trans (Ext.alloc (Ext.refl w) _) He.out) (Nat.le_refl _) _

set_option maxRecDepth 100000 in
theorem coded_301 : Coded pUDT := by
  intro w
  show Calls _ _ #[.int .i64 301] _ _
  go_enter Tryz.func25, Tryz.ntmps25
  go_wp2_with (first | (go_at_call 49; refine (protoUDT_ok _).mono ?_; rintro e w1 ⟨rfl, hb, he⟩; rw [World.size_alloc] at hb ⊢; have Hb := Lib.hid hb; have He := Lib.hid he; have hg1 := he.block (heap_alloc_new w _); clear hb he) | (refine wpList_store_row rfl 46 _ _ rfl w.heap.size (pUDT.cells _) rfl rfl 46 _ hg1 ?c1 ?c2 ?c3 ?c4; (case c1 => kernel_rfl); (case c2 => rfl); (case c3 => exact Pr.one _ rfl _ _)))
  refine bodyPost_ret (results_cell_row Tryz.results25 _ _ w.heap.size 46 _ (0, 0) _ rfl (setRow_heap _ _ _ _ _ _ hg1) Tryz.underlying46 rfl (by kernel_rfl)) rfl ⟨rfl, Bs.block Hb.out (setRow_other _ _ _ _ (by simp)), ?_⟩
  exact below_setRow' (Ext.trans (Ext.alloc (Ext.refl w) _) He.out) (Nat.le_refl _) _

set_option maxRecDepth 100000 in
theorem coded_460 : Coded pQUIC := by
  intro w
  show Calls _ _ #[.int .i64 460] _ _
  go_enter Tryz.func25, Tryz.ntmps25
  go_wp2_with (first | (go_at_call 50; refine (protoQUIC_ok _).mono ?_; rintro e w1 ⟨rfl, hb, he⟩; rw [World.size_alloc] at hb ⊢; have Hb := Lib.hid hb; have He := Lib.hid he; have hg1 := he.block (heap_alloc_new w _); clear hb he) | (refine wpList_store_row rfl 46 _ _ rfl w.heap.size (pQUIC.cells _) rfl rfl 46 _ hg1 ?c1 ?c2 ?c3 ?c4; (case c1 => kernel_rfl); (case c2 => rfl); (case c3 => exact Pr.one _ rfl _ _)))
  refine bodyPost_ret (results_cell_row Tryz.results25 _ _ w.heap.size 46 _ (0, 0) _ rfl (setRow_heap _ _ _ _ _ _ hg1) Tryz.underlying46 rfl (by kernel_rfl)) rfl ⟨rfl, Bs.block Hb.out (setRow_other _ _ _ _ (by simp)), ?_⟩
  exact below_setRow' (Ext.trans (Ext.alloc (Ext.refl w) _) He.out) (Nat.le_refl _) _

set_option maxRecDepth 100000 in
theorem coded_461 : Coded pQUICV1 := by
  intro w
  show Calls _ _ #[.int .i64 461] _ _
  go_enter Tryz.func25, Tryz.ntmps25
  go_wp2_with (first | (go_at_call 51; refine (protoQUICV1_ok _).mono ?_; rintro e w1 ⟨rfl, hb, he⟩; rw [World.size_alloc] at hb ⊢; have Hb := Lib.hid hb; have He := Lib.hid he; have hg1 := he.block (heap_alloc_new w _); clear hb he) | (refine wpList_store_row rfl 46 _ _ rfl w.heap.size (pQUICV1.cells _) rfl rfl 46 _ hg1 ?c1 ?c2 ?c3 ?c4; (case c1 => kernel_rfl); (case c2 => rfl); (case c3 => exact Pr.one _ rfl _ _)))
  refine bodyPost_ret (results_cell_row Tryz.results25 _ _ w.heap.size 46 _ (0, 0) _ rfl (setRow_heap _ _ _ _ _ _ hg1) Tryz.underlying46 rfl (by kernel_rfl)) rfl ⟨rfl, Bs.block Hb.out (setRow_other _ _ _ _ (by simp)), ?_⟩
  exact below_setRow' (Ext.trans (Ext.alloc (Ext.refl w) _) He.out) (Nat.le_refl _) _

set_option maxRecDepth 100000 in
theorem coded_465 : Coded pWEBTRANSPORT := by
  intro w
  show Calls _ _ #[.int .i64 465] _ _
  go_enter Tryz.func25, Tryz.ntmps25
  go_wp2_with (first | (go_at_call 52; refine (protoWEBTRANSPORT_ok _).mono ?_; rintro e w1 ⟨rfl, hb, he⟩; rw [World.size_alloc] at hb ⊢; have Hb := Lib.hid hb; have He := Lib.hid he; have hg1 := he.block (heap_alloc_new w _); clear hb he) | (refine wpList_store_row rfl 46 _ _ rfl w.heap.size (pWEBTRANSPORT.cells _) rfl rfl 46 _ hg1 ?c1 ?c2 ?c3 ?c4; (case c1 => kernel_rfl); (case c2 => rfl); (case c3 => exact Pr.one _ rfl _ _)))
  refine bodyPost_ret (results_cell_row Tryz.results25 _ _ w.heap.size 46 _ (0, 0) _ rfl (setRow_heap _ _ _ _ _ _ hg1) Tryz.underlying46 rfl (by kernel_rfl)) rfl ⟨rfl, Bs.block Hb.out (setRow_other _ _ _ _ (by simp)), ?_⟩
  exact below_setRow' (Ext.trans (Ext.alloc (Ext.refl w) _) He.out) (Nat.le_refl _) _

set_option maxRecDepth 100000 in
theorem coded_480 : Coded pHTTP := by
  intro w
  show Calls _ _ #[.int .i64 480] _ _
  go_enter Tryz.func25, Tryz.ntmps25
  go_wp2_with (first | (go_at_call 54; refine (protoHTTP_ok _).mono ?_; rintro e w1 ⟨rfl, hb, he⟩; rw [World.size_alloc] at hb ⊢; have Hb := Lib.hid hb; have He := Lib.hid he; have hg1 := he.block (heap_alloc_new w _); clear hb he) | (refine wpList_store_row rfl 46 _ _ rfl w.heap.size (pHTTP.cells _) rfl rfl 46 _ hg1 ?c1 ?c2 ?c3 ?c4; (case c1 => kernel_rfl); (case c2 => rfl); (case c3 => exact Pr.one _ rfl _ _)))
  refine bodyPost_ret (results_cell_row Tryz.results25 _ _ w.heap.size 46 _ (0, 0) _ rfl (setRow_heap _ _ _ _ _ _ hg1) Tryz.underlying46 rfl (by kernel_rfl)) rfl ⟨rfl, Bs.block Hb.out (setRow_other _ _ _ _ (by simp)), ?_⟩
  exact below_setRow' (Ext.trans (Ext.alloc (Ext.refl w) _) He.out) (Nat.le_refl _) _

set_option maxRecDepth 100000 in
theorem coded_443 : Coded pHTTPS := by
  intro w
  show Calls _ _ #[.int .i64 443] _ _
  go_enter Tryz.func25, Tryz.ntmps25
  go_wp2_with (first | (go_at_call 56; refine (protoHTTPS_ok _).mono ?_; rintro e w1 ⟨rfl, hb, he⟩; rw [World.size_alloc] at hb ⊢; have Hb := Lib.hid hb; have He := Lib.hid he; have hg1 := he.block (heap_alloc_new w _); clear hb he) | (refine wpList_store_row rfl 46 _ _ rfl w.heap.size (pHTTPS.cells _) rfl rfl 46 _ hg1 ?c1 ?c2 ?c3 ?c4; (case c1 => kernel_rfl); (case c2 => rfl); (case c3 => exact Pr.one _ rfl _ _)))
  refine bodyPost_ret (results_cell_row Tryz.results25 _ _ w.heap.size 46 _ (0, 0) _ rfl (setRow_heap _ _ _ _ _ _ hg1) Tryz.underlying46 rfl (by kernel_rfl)) rfl ⟨rfl, Bs.block Hb.out (setRow_other _ _ _ _ (by simp)), ?_⟩
  exact below_setRow' (Ext.trans (Ext.alloc (Ext.refl w) _) He.out) (Nat.le_refl _) _

set_option maxRecDepth 100000 in
theorem coded_421 : Coded pP2P := by
  intro w
  show Calls _ _ #[.int .i64 421] _ _
  go_enter Tryz.func25, Tryz.ntmps25
  go_wp2_with (first | (go_at_call 57; refine (protoP2P_ok _).mono ?_; rintro e w1 ⟨rfl, hb, he⟩; rw [World.size_alloc] at hb ⊢; have Hb := Lib.hid hb; have He := Lib.hid he; have hg1 := he.block (heap_alloc_new w _); clear hb he) | (refine wpList_store_row rfl 46 _ _ rfl w.heap.size (pP2P.cells _) rfl rfl 46 _ hg1 ?c1 ?c2 ?c3 ?c4; (case c1 => kernel_rfl); (case c2 => rfl); (case c3 => exact Pr.one _ rfl _ _)))
  refine bodyPost_ret (results_cell_row Tryz.results25 _ _ w.heap.size 46 _ (0, 0) _ rfl (setRow_heap _ _ _ _ _ _ hg1) Tryz.underlying46 rfl (by kernel_rfl)) rfl ⟨rfl, Bs.block Hb.out (setRow_other _ _ _ _ (by simp)), ?_⟩
  exact below_setRow' (Ext.trans (Ext.alloc (Ext.refl w) _) He.out) (Nat.le_refl _) _

set_option maxRecDepth 100000 in
theorem coded_400 : Coded pUNIX := by
  intro w
  show Calls _ _ #[.int .i64 400] _ _
  go_enter Tryz.func25, Tryz.ntmps25
  go_wp2_with (first | (go_at_call 58; refine (protoUNIX_ok _).mono ?_; rintro e w1 ⟨rfl, hb, he⟩; rw [World.size_alloc] at hb ⊢; have Hb := Lib.hid hb; have He := Lib.hid he; have hg1 := he.block (heap_alloc_new w _); clear hb he) | (refine wpList_store_row rfl 46 _ _ rfl w.heap.size (pUNIX.cells _) rfl rfl 46 _ hg1 ?c1 ?c2 ?c3 ?c4; (case c1 => kernel_rfl); (case c2 => rfl); (case c3 => exact Pr.one _ rfl _ _)))
  refine bodyPost_ret (results_cell_row Tryz.results25 _ _ w.heap.size 46 _ (0, 0) _ rfl (setRow_heap _ _ _ _ _ _ hg1) Tryz.underlying46 rfl (by kernel_rfl)) rfl ⟨rfl, Bs.block Hb.out (setRow_other _ _ _ _ (by simp)), ?_⟩
  exact below_setRow' (Ext.trans (Ext.alloc (Ext.refl w) _) He.out) (Nat.le_refl _) _

set_option maxRecDepth 100000 in
theorem coded_276 : Coded pP2P_WEBRTC_DIRECT := by
  intro w
  show Calls _ _ #[.int .i64 276] _ _
  go_enter Tryz.func25, Tryz.ntmps25
  go_wp2_with (first | (go_at_call 59; refine (protoP2P_WEBRTC_DIRECT_ok _).mono ?_; rintro e w1 ⟨rfl, hb, he⟩; rw [World.size_alloc] at hb ⊢; have Hb := Lib.hid hb; have He := Lib.hid he; have hg1 := he.block (heap_alloc_new w _); clear hb he) | (refine wpList_store_row rfl 46 _ _ rfl w.heap.size (pP2P_WEBRTC_DIRECT.cells _) rfl rfl 46 _ hg1 ?c1 ?c2 ?c3 ?c4; (case c1 => kernel_rfl); (case c2 => rfl); (case c3 => exact Pr.one _ rfl _ _)))
  refine bodyPost_ret (results_cell_row Tryz.results25 _ _ w.heap.size 46 _ (0, 0) _ rfl (setRow_heap _ _ _ _ _ _ hg1) Tryz.underlying46 rfl (by kernel_rfl)) rfl ⟨rfl, Bs.block Hb.out (setRow_other _ _ _ _ (by simp)), ?_⟩
  exact below_setRow' (Ext.trans (Ext.alloc (Ext.refl w) _) He.out) (Nat.le_refl _) _

set_option maxRecDepth 100000 in
theorem coded_448 : Coded pTLS := by
  intro w
  show Calls _ _ #[.int .i64 448] _ _
  go_enter Tryz.func25, Tryz.ntmps25
  go_wp2_with (first | (go_at_call 60; refine (protoTLS_ok _).mono ?_; rintro e w1 ⟨rfl, hb, he⟩; rw [World.size_alloc] at hb ⊢; have Hb := Lib.hid hb; have He := Lib.hid he; have hg1 := he.block (heap_alloc_new w _); clear hb he) | (refine wpList_store_row rfl 46 _ _ rfl w.heap.size (pTLS.cells _) rfl rfl 46 _ hg1 ?c1 ?c2 ?c3 ?c4; (case c1 => kernel_rfl); (case c2 => rfl); (case c3 => exact Pr.one _ rfl _ _)))
  refine bodyPost_ret (results_cell_row Tryz.results25 _ _ w.heap.size 46 _ (0, 0) _ rfl (setRow_heap _ _ _ _ _ _ hg1) Tryz.underlying46 rfl (by kernel_rfl)) rfl ⟨rfl, Bs.block Hb.out (setRow_other _ _ _ _ (by simp)), ?_⟩
  exact below_setRow' (Ext.trans (Ext.alloc (Ext.refl w) _) He.out) (Nat.le_refl _) _

set_option maxRecDepth 100000 in
theorem coded_449 : Coded pSNI := by
  intro w
  show Calls _ _ #[.int .i64 449] _ _
  go_enter Tryz.func25, Tryz.ntmps25
  go_wp2_with (first | (go_at_call 61; refine (protoSNI_ok _).mono ?_; rintro e w1 ⟨rfl, hb, he⟩; rw [World.size_alloc] at hb ⊢; have Hb := Lib.hid hb; have He := Lib.hid he; have hg1 := he.block (heap_alloc_new w _); clear hb he) | (refine wpList_store_row rfl 46 _ _ rfl w.heap.size (pSNI.cells _) rfl rfl 46 _ hg1 ?c1 ?c2 ?c3 ?c4; (case c1 => kernel_rfl); (case c2 => rfl); (case c3 => exact Pr.one _ rfl _ _)))
  refine bodyPost_ret (results_cell_row Tryz.results25 _ _ w.heap.size 46 _ (0, 0) _ rfl (setRow_heap _ _ _ _ _ _ hg1) Tryz.underlying46 rfl (by kernel_rfl)) rfl ⟨rfl, Bs.block Hb.out (setRow_other _ _ _ _ (by simp)), ?_⟩
  exact below_setRow' (Ext.trans (Ext.alloc (Ext.refl w) _) He.out) (Nat.le_refl _) _

set_option maxRecDepth 100000 in
theorem coded_454 : Coded pNOISE := by
  intro w
  show Calls _ _ #[.int .i64 454] _ _
  go_enter Tryz.func25, Tryz.ntmps25
  go_wp2_with (first | (go_at_call 62; refine (protoNOISE_ok _).mono ?_; rintro e w1 ⟨rfl, hb, he⟩; rw [World.size_alloc] at hb ⊢; have Hb := Lib.hid hb; have He := Lib.hid he; have hg1 := he.block (heap_alloc_new w _); clear hb he) | (refine wpList_store_row rfl 46 _ _ rfl w.heap.size (pNOISE.cells _) rfl rfl 46 _ hg1 ?c1 ?c2 ?c3 ?c4; (case c1 => kernel_rfl); (case c2 => rfl); (case c3 => exact Pr.one _ rfl _ _)))
  refine bodyPost_ret (results_cell_row Tryz.results25 _ _ w.heap.size 46 _ (0, 0) _ rfl (setRow_heap _ _ _ _ _ _ hg1) Tryz.underlying46 rfl (by kernel_rfl)) rfl ⟨rfl, Bs.block Hb.out (setRow_other _ _ _ _ (by simp)), ?_⟩
  exact below_setRow' (Ext.trans (Ext.alloc (Ext.refl w) _) He.out) (Nat.le_refl _) _

set_option maxRecDepth 100000 in
theorem coded_7367777 : Coded pPlaintextV2 := by
  intro w
  show Calls _ _ #[.int .i64 7367777] _ _
  go_enter Tryz.func25, Tryz.ntmps25
  go_wp2_with (first | (go_at_call 65; refine (protoPlaintextV2_ok _).mono ?_; rintro e w1 ⟨rfl, hb, he⟩; rw [World.size_alloc] at hb ⊢; have Hb := Lib.hid hb; have He := Lib.hid he; have hg1 := he.block (heap_alloc_new w _); clear hb he) | (refine wpList_store_row rfl 46 _ _ rfl w.heap.size (pPlaintextV2.cells _) rfl rfl 46 _ hg1 ?c1 ?c2 ?c3 ?c4; (case c1 => kernel_rfl); (case c2 => rfl); (case c3 => exact Pr.one _ rfl _ _)))
  refine bodyPost_ret (results_cell_row Tryz.results25 _ _ w.heap.size 46 _ (0, 0) _ rfl (setRow_heap _ _ _ _ _ _ hg1) Tryz.underlying46 rfl (by kernel_rfl)) rfl ⟨rfl, Bs.block Hb.out (setRow_other _ _ _ _ (by simp)), ?_⟩
  exact below_setRow' (Ext.trans (Ext.alloc (Ext.refl w) _) He.out) (Nat.le_refl _) _

set_option maxRecDepth 100000 in
theorem coded_477 : Coded pWS := by
  intro w
  show Calls _ _ #[.int .i64 477] _ _
  go_enter Tryz.func25, Tryz.ntmps25
  go_wp2_with (first | (go_at_call 63; refine (protoWS_ok _).mono ?_; rintro e w1 ⟨rfl, hb, he⟩; rw [World.size_alloc] at hb ⊢; have Hb := Lib.hid hb; have He := Lib.hid he; have hg1 := he.block (heap_alloc_new w _); clear hb he) | (refine wpList_store_row rfl 46 _ _ rfl w.heap.size (pWS.cells _) rfl rfl 46 _ hg1 ?c1 ?c2 ?c3 ?c4; (case c1 => kernel_rfl); (case c2 => rfl); (case c3 => exact Pr.one _ rfl _ _)))
  refine bodyPost_ret (results_cell_row Tryz.results25 _ _ w.heap.size 46 _ (0, 0) _ rfl (setRow_heap _ _ _ _ _ _ hg1) Tryz.underlying46 rfl (by kernel_rfl)) rfl ⟨rfl, Bs.block Hb.out (setRow_other _ _ _ _ (by simp)), ?_⟩
  exact below_setRow' (Ext.trans (Ext.alloc (Ext.refl w) _) He.out) (Nat.le_refl _) _

set_option maxRecDepth 100000 in
theorem coded_478 : Coded pWSS := by
  intro w
  show Calls _ _ #[.int .i64 478] _ _
  go_enter Tryz.func25, Tryz.ntmps25
  go_wp2_with (first | (go_at_call 64; refine (protoWSS_ok _).mono ?_; rintro e w1 ⟨rfl, hb, he⟩; rw [World.size_alloc] at hb ⊢; have Hb := Lib.hid hb; have He := Lib.hid he; have hg1 := he.block (heap_alloc_new w _); clear hb he) | (refine wpList_store_row rfl 46 _ _ rfl w.heap.size (pWSS.cells _) rfl rfl 46 _ hg1 ?c1 ?c2 ?c3 ?c4; (case c1 => kernel_rfl); (case c2 => rfl); (case c3 => exact Pr.one _ rfl _ _)))
  refine bodyPost_ret (results_cell_row Tryz.results25 _ _ w.heap.size 46 _ (0, 0) _ rfl (setRow_heap _ _ _ _ _ _ hg1) Tryz.underlying46 rfl (by kernel_rfl)) rfl ⟨rfl, Bs.block Hb.out (setRow_other _ _ _ _ (by simp)), ?_⟩
  exact below_setRow' (Ext.trans (Ext.alloc (Ext.refl w) _) He.out) (Nat.le_refl _) _

set_option maxRecDepth 100000 in
theorem coded_280 : Coded pWebRTCDirect := by
  intro w
  show Calls _ _ #[.int .i64 280] _ _
  go_enter Tryz.func25, Tryz.ntmps25
  go_wp2_with (first | (go_at_call 66; refine (protoWebRTCDirect_ok _).mono ?_; rintro e w1 ⟨rfl, hb, he⟩; rw [World.size_alloc] at hb ⊢; have Hb := Lib.hid hb; have He := Lib.hid he; have hg1 := he.block (heap_alloc_new w _); clear hb he) | (refine wpList_store_row rfl 46 _ _ rfl w.heap.size (pWebRTCDirect.cells _) rfl rfl 46 _ hg1 ?c1 ?c2 ?c3 ?c4; (case c1 => kernel_rfl); (case c2 => rfl); (case c3 => exact Pr.one _ rfl _ _)))
  refine bodyPost_ret (results_cell_row Tryz.results25 _ _ w.heap.size 46 _ (0, 0) _ rfl (setRow_heap _ _ _ _ _ _ hg1) Tryz.underlying46 rfl (by kernel_rfl)) rfl ⟨rfl, Bs.block Hb.out (setRow_other _ _ _ _ (by simp)), ?_⟩
  exact below_setRow' (Ext.trans (Ext.alloc (Ext.refl w) _) He.out) (Nat.le_refl _) _

set_option maxRecDepth 100000 in
theorem coded_281 : Coded pWebRTC := by
  intro w
  show Calls _ _ #[.int .i64 281] _ _
  go_enter Tryz.func25, Tryz.ntmps25
  go_wp2_with (first | (go_at_call 67; refine (protoWebRTC_ok _).mono ?_; rintro e w1 ⟨rfl, hb, he⟩; rw [World.size_alloc] at hb ⊢; have Hb := Lib.hid hb; have He := Lib.hid he; have hg1 := he.block (heap_alloc_new w _); clear hb he) | (refine wpList_store_row rfl 46 _ _ rfl w.heap.size (pWebRTC.cells _) rfl rfl 46 _ hg1 ?c1 ?c2 ?c3 ?c4; (case c1 => kernel_rfl); (case c2 => rfl); (case c3 => exact Pr.one _ rfl _ _)))
  refine bodyPost_ret (results_cell_row Tryz.results25 _ _ w.heap.size 46 _ (0, 0) _ rfl (setRow_heap _ _ _ _ _ _ hg1) Tryz.underlying46 rfl (by kernel_rfl)) rfl ⟨rfl, Bs.block Hb.out (setRow_other _ _ _ _ (by simp)), ?_⟩
  exact below_setRow' (Ext.trans (Ext.alloc (Ext.refl w) _) He.out) (Nat.le_refl _) _

set_option maxRecDepth 100000 in
theorem coded_777 : Coded pMemory := by
  intro w
  show Calls _ _ #[.int .i64 777] _ _
  go_enter Tryz.func25, Tryz.ntmps25
  go_wp2_with (first | (go_at_call 68; refine (protoMemory_ok _).mono ?_; rintro e w1 ⟨rfl, hb, he⟩; rw [World.size_alloc] at hb ⊢; have Hb := Lib.hid hb; have He := Lib.hid he; have hg1 := he.block (heap_alloc_new w _); clear hb he) | (refine wpList_store_row rfl 46 _ _ rfl w.heap.size (pMemory.cells _) rfl rfl 46 _ hg1 ?c1 ?c2 ?c3 ?c4; (case c1 => kernel_rfl); (case c2 => rfl); (case c3 => exact Pr.one _ rfl _ _)))
  refine bodyPost_ret (results_cell_row Tryz.results25 _ _ w.heap.size 46 _ (0, 0) _ rfl (setRow_heap _ _ _ _ _ _ hg1) Tryz.underlying46 rfl (by kernel_rfl)) rfl ⟨rfl, Bs.block Hb.out (setRow_other _ _ _ _ (by simp)), ?_⟩
  exact below_setRow' (Ext.trans (Ext.alloc (Ext.refl w) _) He.out) (Nat.le_refl _) _

set_option maxRecDepth 100000 in
theorem named_4 : Named pIP4 := by
  intro w
  show Calls _ _ #[.string ⟨#[105, 112, 52]⟩] _ _
  go_enter Tryz.func95, Tryz.ntmps95
  go_wp2_with (first | (go_at_call 31; refine (protoIP4_ok _).mono ?_; rintro e w1 ⟨rfl, hb, he⟩; rw [World.size_alloc] at hb ⊢; have Hb := Lib.hid hb; have He := Lib.hid he; have hg1 := he.block (heap_alloc_new w _); clear hb he) | (refine wpList_store_row rfl 46 _ _ rfl w.heap.size (pIP4.cells _) rfl rfl 46 _ hg1 ?c1 ?c2 ?c3 ?c4; (case c1 => kernel_rfl); (case c2 => rfl); (case c3 => exact Pr.one _ rfl _ _)))
  refine bodyPost_ret (results_cell_row Tryz.results95 _ _ w.heap.size 46 _ (0, 0) _ rfl (setRow_heap _ _ _ _ _ _ hg1) Tryz.underlying46 rfl (by kernel_rfl)) rfl ⟨rfl, Bs.block Hb.out (setRow_other _ _ _ _ (by simp)), ?_⟩
  exact below_setRow' (Ext.trans (Ext.alloc (Ext.refl w) _) He.out) (Nat.le_refl _) _

set_option maxRecDepth 100000 in
theorem named_6 : Named pTCP := by
  intro w
  show Calls _ _ #[.string ⟨#[116, 99, 112]⟩] _ _
  go_enter Tryz.func95, Tryz.ntmps95
  go_wp2_with (first | (go_at_call 32; refine (protoTCP_ok _).mono ?_; rintro e w1 ⟨rfl, hb, he⟩; rw [World.size_alloc] at hb ⊢; have Hb := Lib.hid hb; have He := Lib.hid he; have hg1 := he.block (heap_alloc_new w _); clear hb he) | (refine wpList_store_row rfl 46 _ _ rfl w.heap.size (pTCP.cells _) rfl rfl 46 _ hg1 ?c1 ?c2 ?c3 ?c4; (case c1 => kernel_rfl); (case c2 => rfl); (case c3 => exact Pr.one _ rfl _ _)))
  refine bodyPost_ret (results_cell_row Tryz.results95 _ _ w.heap.size 46 _ (0, 0) _ rfl (setRow_heap _ _ _ _ _ _ hg1) Tryz.underlying46 rfl (by kernel_rfl)) rfl ⟨rfl, Bs.block Hb.out (setRow_other _ _ _ _ (by simp)), ?_⟩
  exact below_setRow' (Ext.trans (Ext.alloc (Ext.refl w) _) He.out) (Nat.le_refl _) _

set_option maxRecDepth 100000 in
theorem named_41 : Named pIP6 := by
  intro w
  show Calls _ _ #[.string ⟨#[105, 112, 54]⟩] _ _
  go_enter Tryz.func95, Tryz.ntmps95
  go_wp2_with (first | (go_at_call 39; refine (protoIP6_ok _).mono ?_; rintro e w1 ⟨rfl, hb, he⟩; rw [World.size_alloc] at hb ⊢; have Hb := Lib.hid hb; have He := Lib.hid he; have hg1 := he.block (heap_alloc_new w _); clear hb he) | (refine wpList_store_row rfl 46 _ _ rfl w.heap.size (pIP6.cells _) rfl rfl 46 _ hg1 ?c1 ?c2 ?c3 ?c4; (case c1 => kernel_rfl); (case c2 => rfl); (case c3 => exact Pr.one _ rfl _ _)))
  refine bodyPost_ret (results_cell_row Tryz.results95 _ _ w.heap.size 46 _ (0, 0) _ rfl (setRow_heap _ _ _ _ _ _ hg1) Tryz.underlying46 rfl (by kernel_rfl)) rfl ⟨rfl, Bs.block Hb.out (setRow_other _ _ _ _ (by simp)), ?_⟩
  exact below_setRow' (Ext.trans (Ext.alloc (Ext.refl w) _) He.out) (Nat.le_refl _) _

set_option maxRecDepth 100000 in
theorem named_42 : Named pIP6ZONE := by
  intro w
  show Calls _ _ #[.string ⟨#[105, 112, 54, 122, 111, 110, 101]⟩] _ _
  go_enter Tryz.func95, Tryz.ntmps95
  go_wp2_with (first | (go_at_call 40; refine (protoIP6ZONE_ok _).mono ?_; rintro e w1 ⟨rfl, hb, he⟩; rw [World.size_alloc] at hb ⊢; have Hb := Lib.hid hb; have He := Lib.hid he; have hg1 := he.block (heap_alloc_new w _); clear hb he) | (refine wpList_store_row rfl 46 _ _ rfl w.heap.size (pIP6ZONE.cells _) rfl rfl 46 _ hg1 ?c1 ?c2 ?c3 ?c4; (case c1 => kernel_rfl); (case c2 => rfl); (case c3 => exact Pr.one _ rfl _ _)))
  refine bodyPost_ret (results_cell_row Tryz.results95 _ _ w.heap.size 46 _ (0, 0) _ rfl (setRow_heap _ _ _ _ _ _ hg1) Tryz.underlying46 rfl (by kernel_rfl)) rfl ⟨rfl, Bs.block Hb.out (setRow_other _ _ _ _ (by simp)), ?_⟩
  exact below_setRow' (Ext.trans (Ext.alloc (Ext.refl w) _) He.out) (Nat.le_refl _) _

end Go.Proofs.YtchlkclpikdbjaaGreatDoor
namespace Go.Proofs.YtchlkclpikdbjaaGreatDoor
set_option linter.unusedVariables false
set_option linter.unusedSimpArgs false
open Go.RowKit

theorem withCode_ok (p : Pr) (h : Coded p) (h1 : p.tc.oneCell' = true) (w : World) : Calls Tryz.prog 18 #[.int .i64 p.code] w fun e w' =>
    e = .returned (p.val (vc (w.heap.size + 3) p.code)) ∧ Bs w' (Lib.uvarint p.code) (vc (w.heap.size + 3) p.code) ∧ Ext w w' := by
  have H := Lib.hid h
  clear h
  go_enter Tryz.func18, Tryz.ntmps18
  go_wp2_with (first
    | (go_at_call 25; refine (H.out _).mono ?_; rintro e w1 ⟨rfl, hb, he⟩; rw [World.size_alloc] at hb ⊢; have Hb := Lib.hid hb; have He := Lib.hid he; have hg1 := he.block (heap_alloc_new w _); clear hb he)
    | (refine wpList_store_row rfl 46 _ _ rfl w.heap.size (p.cells _) rfl rfl 46 _ hg1 ?c1 ?c2 ?c3 ?c4; (case c1 => kernel_rfl); (case c2 => rfl); (case c3 => exact Pr.one _ h1 _ _)))
  refine bodyPost_ret (results_cell_row Tryz.results18 _ _ w.heap.size 46 _ (0, 0) _ rfl (setRow_heap _ _ _ _ _ _ hg1) Tryz.underlying46 rfl (by kernel_rfl)) rfl ⟨rfl, Bs.block Hb.out (setRow_other _ _ _ _ (by simp)), ?_⟩
  exact below_setRow' (Ext.trans (Ext.alloc (Ext.refl w) _) He.out) (Nat.le_refl _) _

theorem ptr_ok (p : Pr) (h : Coded p) (h1 : p.tc.oneCell' = true) (h0 : p.code ≠ 0) (w : World) : Calls Tryz.prog 154 #[.int .i64 p.code] w fun e w' =>
    ∃ b, e = .returned (.pointer (some ⟨b, 0, none⟩)) ∧ w'.heap[b]? = some (.cells (p.cells (vc (w.heap.size + 2) p.code)) 46 (0, 0)) ∧ w.heap.size + 2 < b ∧
      Bs w' (Lib.uvarint p.code) (vc (w.heap.size + 2) p.code) ∧ Ext w w' := by
  have H := Lib.hid h
  clear h
  have hc : ((p.code : Int) == 0) = false := by simp; omega
  go_enter Tryz.func154, Tryz.ntmps154
  go_wp2_with (first
    | (go_at_call 25; refine (H.out _).mono ?_; rintro e w1 ⟨rfl, hb, he⟩; have Hb := Lib.hid hb; have He := Lib.hid he; clear hb he)
    | (refine wpList_put rfl 46 _ _ rfl w1.heap.size (p.cells _) rfl rfl 46 _ (heap_alloc_new w1 _) ?c1 ?c2 ?c3 ?c4; (case c1 => kernel_rfl); (case c2 => rfl); (case c3 => exact Pr.one _ h1 _ _); intro w2 hp; have k1 : w2.cell? ⟨w1.heap.size, 1, none⟩ = some (.int .i64 p.code) := hp.cells 1))

  go_ret
  have hs : w.heap.size + 2 < w1.heap.size := by
    obtain ⟨a, c, he, -, -, h4⟩ := Hb.out
    obtain ⟨g, o, hg, hr⟩ := h4 (by have := Lib.uvarint_pos p.code; intro h; simp at h; rw [h] at this; simp at this)
    injection he with h5; rw [← h5] at hg; injection hg with hg; injection hg with hg1
    subst hg1; exact hr.lt (by have := Lib.uvarint_pos p.code; intro h; simp at h; rw [h] at this; simp at this)
  refine ⟨_, rfl, hp.blk, hs, Bs.block Hb.out ?_, ?_⟩
  · rw [hp.other _ (by omega), Below.heap_alloc _ _ _ hs]
  · exact hp.below (by have := He.out.size; exact this) (Ext.alloc He.out _)
end Go.Proofs.YtchlkclpikdbjaaGreatDoor
