/-
  The contracts of the protocols and their transcoders (written by gen_proto.py off the package's text).
-/
import Derived.Test.YtdlmmaolacjnaaaGreatDoorVar
namespace Go.Proofs.YtdlmmaolacjnaaaGreatDoor
set_option linter.unusedVariables false
set_option linter.unusedSimpArgs false
open Go.RowKit

/-- A protocol of the table, without the slice of its varint. -/
structure Pr where
  name : ByteArray
  code : Nat
  size : Int
  path : Bool
  tc : Value

def Pr.cells (p : Pr) (v : Value) : Array Value := #[.string p.name, .int .i64 p.code, v, .int .i64 p.size, .bool p.path, p.tc]
/-- the slice of a code's varint, in a block of its own -/
abbrev vc (g c : Nat) : Value := .slice (some ⟨g, 0, none⟩) (Lib.uvarint c).length (Lib.uvarint c).length
theorem Pr.one (p : Pr) (h : p.tc.oneCell' = true) (g c : Nat) : (p.cells (vc g c)).all (·.oneCell') = true := by
  have h' := h
  unfold Value.oneCell' at h'
  simp [Pr.cells, Value.oneCell', h']
def Pr.val (p : Pr) (v : Value) : Value := .agg (p.cells v)

/-- a transcoder out of three functions -/
abbrev tcV (a b c : Value) : Value := .iface 142 (.agg #[a, b, c])
abbrev fnV (f : Nat) : Value := .func (.func f) #[] #[]

theorem newTranscoder_ok (a b c : Nat) (w : World) : Calls Tryz.prog 152 #[fnV a, fnV b, fnV c] w fun e w' => e = .returned (tcV (fnV a) (fnV b) (fnV c)) ∧ w = w' := by
  go_enter Tryz.func152, Tryz.ntmps152
  go_wp2
  go_ret
  exact ⟨rfl, rfl⟩
theorem newTranscoder_nil (a b : Nat) (w : World) : Calls Tryz.prog 152 #[fnV a, fnV b, .nilFunc] w fun e w' => e = .returned (tcV (fnV a) (fnV b) .nilFunc) ∧ w = w' := by
  go_enter Tryz.func152, Tryz.ntmps152
  go_wp2
  go_ret
  exact ⟨rfl, rfl⟩

abbrev tcDns : Value := tcV (fnV 157) (fnV 158) (fnV 159)
theorem TranscoderDns_ok (w : World) : Calls Tryz.prog 134 #[] w fun e w' => e = .returned tcDns ∧ w = w' := by
  go_enter Tryz.func134, Tryz.ntmps134
  go_wp2_with (go_at_call 152; refine (newTranscoder_ok _ _ _ _).mono ?_; rintro e w' ⟨rfl, rfl⟩)
  go_ret
  exact ⟨rfl, rfl⟩

abbrev tcIP4 : Value := tcV (fnV 153) (fnV 154) .nilFunc
theorem TranscoderIP4_ok (w : World) : Calls Tryz.prog 132 #[] w fun e w' => e = .returned tcIP4 ∧ w = w' := by
  go_enter Tryz.func132, Tryz.ntmps132
  go_wp2_with (go_at_call 152; refine (newTranscoder_nil _ _ _).mono ?_; rintro e w' ⟨rfl, rfl⟩)
  go_ret
  exact ⟨rfl, rfl⟩

abbrev tcIP6 : Value := tcV (fnV 160) (fnV 161) .nilFunc
theorem TranscoderIP6_ok (w : World) : Calls Tryz.prog 135 #[] w fun e w' => e = .returned tcIP6 ∧ w = w' := by
  go_enter Tryz.func135, Tryz.ntmps135
  go_wp2_with (go_at_call 152; refine (newTranscoder_nil _ _ _).mono ?_; rintro e w' ⟨rfl, rfl⟩)
  go_ret
  exact ⟨rfl, rfl⟩

abbrev tcIP6Zone : Value := tcV (fnV 162) (fnV 163) (fnV 164)
theorem TranscoderIP6Zone_ok (w : World) : Calls Tryz.prog 136 #[] w fun e w' => e = .returned tcIP6Zone ∧ w = w' := by
  go_enter Tryz.func136, Tryz.ntmps136
  go_wp2_with (go_at_call 152; refine (newTranscoder_ok _ _ _ _).mono ?_; rintro e w' ⟨rfl, rfl⟩)
  go_ret
  exact ⟨rfl, rfl⟩

abbrev tcIPCIDR : Value := tcV (fnV 165) (fnV 166) (fnV 167)
theorem TranscoderIPCIDR_ok (w : World) : Calls Tryz.prog 137 #[] w fun e w' => e = .returned tcIPCIDR ∧ w = w' := by
  go_enter Tryz.func137, Tryz.ntmps137
  go_wp2_with (go_at_call 152; refine (newTranscoder_ok _ _ _ _).mono ?_; rintro e w' ⟨rfl, rfl⟩)
  go_ret
  exact ⟨rfl, rfl⟩

abbrev tcMemory : Value := tcV (fnV 192) (fnV 193) (fnV 194)
theorem TranscoderMemory_ok (w : World) : Calls Tryz.prog 146 #[] w fun e w' => e = .returned tcMemory ∧ w = w' := by
  go_enter Tryz.func146, Tryz.ntmps146
  go_wp2_with (go_at_call 152; refine (newTranscoder_ok _ _ _ _).mono ?_; rintro e w' ⟨rfl, rfl⟩)
  go_ret
  exact ⟨rfl, rfl⟩

abbrev tcP2P : Value := tcV (fnV 186) (fnV 187) (fnV 188)
theorem TranscoderP2P_ok (w : World) : Calls Tryz.prog 144 #[] w fun e w' => e = .returned tcP2P ∧ w = w' := by
  go_enter Tryz.func144, Tryz.ntmps144
  go_wp2_with (go_at_call 152; refine (newTranscoder_ok _ _ _ _).mono ?_; rintro e w' ⟨rfl, rfl⟩)
  go_ret
  exact ⟨rfl, rfl⟩

abbrev tcPort : Value := tcV (fnV 155) (fnV 156) .nilFunc
theorem TranscoderPort_ok (w : World) : Calls Tryz.prog 133 #[] w fun e w' => e = .returned tcPort ∧ w = w' := by
  go_enter Tryz.func133, Tryz.ntmps133
  go_wp2_with (go_at_call 152; refine (newTranscoder_nil _ _ _).mono ?_; rintro e w' ⟨rfl, rfl⟩)
  go_ret
  exact ⟨rfl, rfl⟩

abbrev tcUnix : Value := tcV (fnV 189) (fnV 190) (fnV 191)
theorem TranscoderUnix_ok (w : World) : Calls Tryz.prog 145 #[] w fun e w' => e = .returned tcUnix ∧ w = w' := by
  go_enter Tryz.func145, Tryz.ntmps145
  go_wp2_with (go_at_call 152; refine (newTranscoder_ok _ _ _ _).mono ?_; rintro e w' ⟨rfl, rfl⟩)
  go_ret
  exact ⟨rfl, rfl⟩

def pIP4 : Pr := ⟨⟨#[105, 112, 52]⟩, 4, 32, false, tcIP4⟩
theorem protoIP4_ok (w : World) : Calls Tryz.prog 89 #[] w fun e w' => e = .returned (pIP4.val (vc (w.heap.size + 1) 4)) ∧ Bs w' (Lib.uvarint 4) (vc (w.heap.size + 1) 4) ∧ Ext w w' := by
  go_enter Tryz.func89, Tryz.ntmps89
  go_wp2_with (first | (go_at_call 131; refine (codeToVarint_ok 4 (by decide) _).mono ?_; rintro e w1 ⟨rfl, hb, he⟩; have Hb := Lib.hid hb; have He := Lib.hid he; obtain ⟨hc, hf⟩ := bcell he; have hg1 := he.block (heap_alloc_new w _); rw [World.size_alloc] at Hb; clear hb he) | (refine wpList_store_row rfl 66 _ _ rfl w.heap.size _ rfl rfl 66 _ hg1 ?c1 ?c2 ?c3 ?c4; (case c1 => kernel_rfl); (case c2 => rfl); (case c3 => simp [Value.oneCell'])) | (go_at_call 132; refine (TranscoderIP4_ok _).mono ?_; rintro e w' ⟨rfl, rfl⟩))
  refine bodyPost_ret (results_cell_row Tryz.results89 _ _ w.heap.size 66 _ (0, 0) _ rfl (setRow_heap _ _ _ _ _ _ hg1) Tryz.underlying66 rfl (by kernel_rfl)) rfl ⟨rfl, Bs.block Hb.out (setRow_other _ _ _ _ (by simp)), ?_⟩
  exact below_setRow' (Ext.trans (Ext.alloc (Ext.refl w) _) He.out) (Nat.le_refl _) _

def pTCP : Pr := ⟨⟨#[116, 99, 112]⟩, 6, 16, false, tcPort⟩
theorem protoTCP_ok (w : World) : Calls Tryz.prog 90 #[] w fun e w' => e = .returned (pTCP.val (vc (w.heap.size + 1) 6)) ∧ Bs w' (Lib.uvarint 6) (vc (w.heap.size + 1) 6) ∧ Ext w w' := by
  go_enter Tryz.func90, Tryz.ntmps90
  go_wp2_with (first | (go_at_call 131; refine (codeToVarint_ok 6 (by decide) _).mono ?_; rintro e w1 ⟨rfl, hb, he⟩; have Hb := Lib.hid hb; have He := Lib.hid he; obtain ⟨hc, hf⟩ := bcell he; have hg1 := he.block (heap_alloc_new w _); rw [World.size_alloc] at Hb; clear hb he) | (refine wpList_store_row rfl 66 _ _ rfl w.heap.size _ rfl rfl 66 _ hg1 ?c1 ?c2 ?c3 ?c4; (case c1 => kernel_rfl); (case c2 => rfl); (case c3 => simp [Value.oneCell'])) | (go_at_call 133; refine (TranscoderPort_ok _).mono ?_; rintro e w' ⟨rfl, rfl⟩))
  refine bodyPost_ret (results_cell_row Tryz.results90 _ _ w.heap.size 66 _ (0, 0) _ rfl (setRow_heap _ _ _ _ _ _ hg1) Tryz.underlying66 rfl (by kernel_rfl)) rfl ⟨rfl, Bs.block Hb.out (setRow_other _ _ _ _ (by simp)), ?_⟩
  exact below_setRow' (Ext.trans (Ext.alloc (Ext.refl w) _) He.out) (Nat.le_refl _) _

def pDNS : Pr := ⟨⟨#[100, 110, 115]⟩, 53, (-1), false, tcDns⟩
theorem protoDNS_ok (w : World) : Calls Tryz.prog 91 #[] w fun e w' => e = .returned (pDNS.val (vc (w.heap.size + 1) 53)) ∧ Bs w' (Lib.uvarint 53) (vc (w.heap.size + 1) 53) ∧ Ext w w' := by
  go_enter Tryz.func91, Tryz.ntmps91
  go_wp2_with (first | (go_at_call 131; refine (codeToVarint_ok 53 (by decide) _).mono ?_; rintro e w1 ⟨rfl, hb, he⟩; have Hb := Lib.hid hb; have He := Lib.hid he; obtain ⟨hc, hf⟩ := bcell he; have hg1 := he.block (heap_alloc_new w _); rw [World.size_alloc] at Hb; clear hb he) | (refine wpList_store_row rfl 66 _ _ rfl w.heap.size _ rfl rfl 66 _ hg1 ?c1 ?c2 ?c3 ?c4; (case c1 => kernel_rfl); (case c2 => rfl); (case c3 => simp [Value.oneCell'])) | (go_at_call 134; refine (TranscoderDns_ok _).mono ?_; rintro e w' ⟨rfl, rfl⟩))
  refine bodyPost_ret (results_cell_row Tryz.results91 _ _ w.heap.size 66 _ (0, 0) _ rfl (setRow_heap _ _ _ _ _ _ hg1) Tryz.underlying66 rfl (by kernel_rfl)) rfl ⟨rfl, Bs.block Hb.out (setRow_other _ _ _ _ (by simp)), ?_⟩
  exact below_setRow' (Ext.trans (Ext.alloc (Ext.refl w) _) He.out) (Nat.le_refl _) _

def pDNS4 : Pr := ⟨⟨#[100, 110, 115, 52]⟩, 54, (-1), false, tcDns⟩
theorem protoDNS4_ok (w : World) : Calls Tryz.prog 92 #[] w fun e w' => e = .returned (pDNS4.val (vc (w.heap.size + 1) 54)) ∧ Bs w' (Lib.uvarint 54) (vc (w.heap.size + 1) 54) ∧ Ext w w' := by
  go_enter Tryz.func92, Tryz.ntmps92
  go_wp2_with (first | (go_at_call 131; refine (codeToVarint_ok 54 (by decide) _).mono ?_; rintro e w1 ⟨rfl, hb, he⟩; have Hb := Lib.hid hb; have He := Lib.hid he; obtain ⟨hc, hf⟩ := bcell he; have hg1 := he.block (heap_alloc_new w _); rw [World.size_alloc] at Hb; clear hb he) | (refine wpList_store_row rfl 66 _ _ rfl w.heap.size _ rfl rfl 66 _ hg1 ?c1 ?c2 ?c3 ?c4; (case c1 => kernel_rfl); (case c2 => rfl); (case c3 => simp [Value.oneCell'])) | (go_at_call 134; refine (TranscoderDns_ok _).mono ?_; rintro e w' ⟨rfl, rfl⟩))
  refine bodyPost_ret (results_cell_row Tryz.results92 _ _ w.heap.size 66 _ (0, 0) _ rfl (setRow_heap _ _ _ _ _ _ hg1) Tryz.underlying66 rfl (by kernel_rfl)) rfl ⟨rfl, Bs.block Hb.out (setRow_other _ _ _ _ (by simp)), ?_⟩
  exact below_setRow' (Ext.trans (Ext.alloc (Ext.refl w) _) He.out) (Nat.le_refl _) _

def pDNS6 : Pr := ⟨⟨#[100, 110, 115, 54]⟩, 55, (-1), false, tcDns⟩
theorem protoDNS6_ok (w : World) : Calls Tryz.prog 93 #[] w fun e w' => e = .returned (pDNS6.val (vc (w.heap.size + 1) 55)) ∧ Bs w' (Lib.uvarint 55) (vc (w.heap.size + 1) 55) ∧ Ext w w' := by
  go_enter Tryz.func93, Tryz.ntmps93
  go_wp2_with (first | (go_at_call 131; refine (codeToVarint_ok 55 (by decide) _).mono ?_; rintro e w1 ⟨rfl, hb, he⟩; have Hb := Lib.hid hb; have He := Lib.hid he; obtain ⟨hc, hf⟩ := bcell he; have hg1 := he.block (heap_alloc_new w _); rw [World.size_alloc] at Hb; clear hb he) | (refine wpList_store_row rfl 66 _ _ rfl w.heap.size _ rfl rfl 66 _ hg1 ?c1 ?c2 ?c3 ?c4; (case c1 => kernel_rfl); (case c2 => rfl); (case c3 => simp [Value.oneCell'])) | (go_at_call 134; refine (TranscoderDns_ok _).mono ?_; rintro e w' ⟨rfl, rfl⟩))
  refine bodyPost_ret (results_cell_row Tryz.results93 _ _ w.heap.size 66 _ (0, 0) _ rfl (setRow_heap _ _ _ _ _ _ hg1) Tryz.underlying66 rfl (by kernel_rfl)) rfl ⟨rfl, Bs.block Hb.out (setRow_other _ _ _ _ (by simp)), ?_⟩
  exact below_setRow' (Ext.trans (Ext.alloc (Ext.refl w) _) He.out) (Nat.le_refl _) _

def pDNSADDR : Pr := ⟨⟨#[100, 110, 115, 97, 100, 100, 114]⟩, 56, (-1), false, tcDns⟩
theorem protoDNSADDR_ok (w : World) : Calls Tryz.prog 94 #[] w fun e w' => e = .returned (pDNSADDR.val (vc (w.heap.size + 1) 56)) ∧ Bs w' (Lib.uvarint 56) (vc (w.heap.size + 1) 56) ∧ Ext w w' := by
  go_enter Tryz.func94, Tryz.ntmps94
  go_wp2_with (first | (go_at_call 131; refine (codeToVarint_ok 56 (by decide) _).mono ?_; rintro e w1 ⟨rfl, hb, he⟩; have Hb := Lib.hid hb; have He := Lib.hid he; obtain ⟨hc, hf⟩ := bcell he; have hg1 := he.block (heap_alloc_new w _); rw [World.size_alloc] at Hb; clear hb he) | (refine wpList_store_row rfl 66 _ _ rfl w.heap.size _ rfl rfl 66 _ hg1 ?c1 ?c2 ?c3 ?c4; (case c1 => kernel_rfl); (case c2 => rfl); (case c3 => simp [Value.oneCell'])) | (go_at_call 134; refine (TranscoderDns_ok _).mono ?_; rintro e w' ⟨rfl, rfl⟩))
  refine bodyPost_ret (results_cell_row Tryz.results94 _ _ w.heap.size 66 _ (0, 0) _ rfl (setRow_heap _ _ _ _ _ _ hg1) Tryz.underlying66 rfl (by kernel_rfl)) rfl ⟨rfl, Bs.block Hb.out (setRow_other _ _ _ _ (by simp)), ?_⟩
  exact below_setRow' (Ext.trans (Ext.alloc (Ext.refl w) _) He.out) (Nat.le_refl _) _

def pUDP : Pr := ⟨⟨#[117, 100, 112]⟩, 273, 16, false, tcPort⟩
theorem protoUDP_ok (w : World) : Calls Tryz.prog 95 #[] w fun e w' => e = .returned (pUDP.val (vc (w.heap.size + 1) 273)) ∧ Bs w' (Lib.uvarint 273) (vc (w.heap.size + 1) 273) ∧ Ext w w' := by
  go_enter Tryz.func95, Tryz.ntmps95
  go_wp2_with (first | (go_at_call 131; refine (codeToVarint_ok 273 (by decide) _).mono ?_; rintro e w1 ⟨rfl, hb, he⟩; have Hb := Lib.hid hb; have He := Lib.hid he; obtain ⟨hc, hf⟩ := bcell he; have hg1 := he.block (heap_alloc_new w _); rw [World.size_alloc] at Hb; clear hb he) | (refine wpList_store_row rfl 66 _ _ rfl w.heap.size _ rfl rfl 66 _ hg1 ?c1 ?c2 ?c3 ?c4; (case c1 => kernel_rfl); (case c2 => rfl); (case c3 => simp [Value.oneCell'])) | (go_at_call 133; refine (TranscoderPort_ok _).mono ?_; rintro e w' ⟨rfl, rfl⟩))
  refine bodyPost_ret (results_cell_row Tryz.results95 _ _ w.heap.size 66 _ (0, 0) _ rfl (setRow_heap _ _ _ _ _ _ hg1) Tryz.underlying66 rfl (by kernel_rfl)) rfl ⟨rfl, Bs.block Hb.out (setRow_other _ _ _ _ (by simp)), ?_⟩
  exact below_setRow' (Ext.trans (Ext.alloc (Ext.refl w) _) He.out) (Nat.le_refl _) _

def pDCCP : Pr := ⟨⟨#[100, 99, 99, 112]⟩, 33, 16, false, tcPort⟩
theorem protoDCCP_ok (w : World) : Calls Tryz.prog 96 #[] w fun e w' => e = .returned (pDCCP.val (vc (w.heap.size + 1) 33)) ∧ Bs w' (Lib.uvarint 33) (vc (w.heap.size + 1) 33) ∧ Ext w w' := by
  go_enter Tryz.func96, Tryz.ntmps96
  go_wp2_with (first | (go_at_call 131; refine (codeToVarint_ok 33 (by decide) _).mono ?_; rintro e w1 ⟨rfl, hb, he⟩; have Hb := Lib.hid hb; have He := Lib.hid he; obtain ⟨hc, hf⟩ := bcell he; have hg1 := he.block (heap_alloc_new w _); rw [World.size_alloc] at Hb; clear hb he) | (refine wpList_store_row rfl 66 _ _ rfl w.heap.size _ rfl rfl 66 _ hg1 ?c1 ?c2 ?c3 ?c4; (case c1 => kernel_rfl); (case c2 => rfl); (case c3 => simp [Value.oneCell'])) | (go_at_call 133; refine (TranscoderPort_ok _).mono ?_; rintro e w' ⟨rfl, rfl⟩))
  refine bodyPost_ret (results_cell_row Tryz.results96 _ _ w.heap.size 66 _ (0, 0) _ rfl (setRow_heap _ _ _ _ _ _ hg1) Tryz.underlying66 rfl (by kernel_rfl)) rfl ⟨rfl, Bs.block Hb.out (setRow_other _ _ _ _ (by simp)), ?_⟩
  exact below_setRow' (Ext.trans (Ext.alloc (Ext.refl w) _) He.out) (Nat.le_refl _) _

def pIP6 : Pr := ⟨⟨#[105, 112, 54]⟩, 41, 128, false, tcIP6⟩
theorem protoIP6_ok (w : World) : Calls Tryz.prog 97 #[] w fun e w' => e = .returned (pIP6.val (vc (w.heap.size + 1) 41)) ∧ Bs w' (Lib.uvarint 41) (vc (w.heap.size + 1) 41) ∧ Ext w w' := by
  go_enter Tryz.func97, Tryz.ntmps97
  go_wp2_with (first | (go_at_call 131; refine (codeToVarint_ok 41 (by decide) _).mono ?_; rintro e w1 ⟨rfl, hb, he⟩; have Hb := Lib.hid hb; have He := Lib.hid he; obtain ⟨hc, hf⟩ := bcell he; have hg1 := he.block (heap_alloc_new w _); rw [World.size_alloc] at Hb; clear hb he) | (refine wpList_store_row rfl 66 _ _ rfl w.heap.size _ rfl rfl 66 _ hg1 ?c1 ?c2 ?c3 ?c4; (case c1 => kernel_rfl); (case c2 => rfl); (case c3 => simp [Value.oneCell'])) | (go_at_call 135; refine (TranscoderIP6_ok _).mono ?_; rintro e w' ⟨rfl, rfl⟩))
  refine bodyPost_ret (results_cell_row Tryz.results97 _ _ w.heap.size 66 _ (0, 0) _ rfl (setRow_heap _ _ _ _ _ _ hg1) Tryz.underlying66 rfl (by kernel_rfl)) rfl ⟨rfl, Bs.block Hb.out (setRow_other _ _ _ _ (by simp)), ?_⟩
  exact below_setRow' (Ext.trans (Ext.alloc (Ext.refl w) _) He.out) (Nat.le_refl _) _

def pIPCIDR : Pr := ⟨⟨#[105, 112, 99, 105, 100, 114]⟩, 43, 8, false, tcIPCIDR⟩
theorem protoIPCIDR_ok (w : World) : Calls Tryz.prog 99 #[] w fun e w' => e = .returned (pIPCIDR.val (vc (w.heap.size + 1) 43)) ∧ Bs w' (Lib.uvarint 43) (vc (w.heap.size + 1) 43) ∧ Ext w w' := by
  go_enter Tryz.func99, Tryz.ntmps99
  go_wp2_with (first | (go_at_call 131; refine (codeToVarint_ok 43 (by decide) _).mono ?_; rintro e w1 ⟨rfl, hb, he⟩; have Hb := Lib.hid hb; have He := Lib.hid he; obtain ⟨hc, hf⟩ := bcell he; have hg1 := he.block (heap_alloc_new w _); rw [World.size_alloc] at Hb; clear hb he) | (refine wpList_store_row rfl 66 _ _ rfl w.heap.size _ rfl rfl 66 _ hg1 ?c1 ?c2 ?c3 ?c4; (case c1 => kernel_rfl); (case c2 => rfl); (case c3 => simp [Value.oneCell'])) | (go_at_call 137; refine (TranscoderIPCIDR_ok _).mono ?_; rintro e w' ⟨rfl, rfl⟩))
  refine bodyPost_ret (results_cell_row Tryz.results99 _ _ w.heap.size 66 _ (0, 0) _ rfl (setRow_heap _ _ _ _ _ _ hg1) Tryz.underlying66 rfl (by kernel_rfl)) rfl ⟨rfl, Bs.block Hb.out (setRow_other _ _ _ _ (by simp)), ?_⟩
  exact below_setRow' (Ext.trans (Ext.alloc (Ext.refl w) _) He.out) (Nat.le_refl _) _

def pIP6ZONE : Pr := ⟨⟨#[105, 112, 54, 122, 111, 110, 101]⟩, 42, (-1), false, tcIP6Zone⟩
theorem protoIP6ZONE_ok (w : World) : Calls Tryz.prog 98 #[] w fun e w' => e = .returned (pIP6ZONE.val (vc (w.heap.size + 1) 42)) ∧ Bs w' (Lib.uvarint 42) (vc (w.heap.size + 1) 42) ∧ Ext w w' := by
  go_enter Tryz.func98, Tryz.ntmps98
  go_wp2_with (first | (go_at_call 131; refine (codeToVarint_ok 42 (by decide) _).mono ?_; rintro e w1 ⟨rfl, hb, he⟩; have Hb := Lib.hid hb; have He := Lib.hid he; obtain ⟨hc, hf⟩ := bcell he; have hg1 := he.block (heap_alloc_new w _); rw [World.size_alloc] at Hb; clear hb he) | (refine wpList_store_row rfl 66 _ _ rfl w.heap.size _ rfl rfl 66 _ hg1 ?c1 ?c2 ?c3 ?c4; (case c1 => kernel_rfl); (case c2 => rfl); (case c3 => simp [Value.oneCell'])) | (go_at_call 136; refine (TranscoderIP6Zone_ok _).mono ?_; rintro e w' ⟨rfl, rfl⟩))
  refine bodyPost_ret (results_cell_row Tryz.results98 _ _ w.heap.size 66 _ (0, 0) _ rfl (setRow_heap _ _ _ _ _ _ hg1) Tryz.underlying66 rfl (by kernel_rfl)) rfl ⟨rfl, Bs.block Hb.out (setRow_other _ _ _ _ (by simp)), ?_⟩
  exact below_setRow' (Ext.trans (Ext.alloc (Ext.refl w) _) He.out) (Nat.le_refl _) _

def pSCTP : Pr := ⟨⟨#[115, 99, 116, 112]⟩, 132, 16, false, tcPort⟩
theorem protoSCTP_ok (w : World) : Calls Tryz.prog 100 #[] w fun e w' => e = .returned (pSCTP.val (vc (w.heap.size + 1) 132)) ∧ Bs w' (Lib.uvarint 132) (vc (w.heap.size + 1) 132) ∧ Ext w w' := by
  go_enter Tryz.func100, Tryz.ntmps100
  go_wp2_with (first | (go_at_call 131; refine (codeToVarint_ok 132 (by decide) _).mono ?_; rintro e w1 ⟨rfl, hb, he⟩; have Hb := Lib.hid hb; have He := Lib.hid he; obtain ⟨hc, hf⟩ := bcell he; have hg1 := he.block (heap_alloc_new w _); rw [World.size_alloc] at Hb; clear hb he) | (refine wpList_store_row rfl 66 _ _ rfl w.heap.size _ rfl rfl 66 _ hg1 ?c1 ?c2 ?c3 ?c4; (case c1 => kernel_rfl); (case c2 => rfl); (case c3 => simp [Value.oneCell'])) | (go_at_call 133; refine (TranscoderPort_ok _).mono ?_; rintro e w' ⟨rfl, rfl⟩))
  refine bodyPost_ret (results_cell_row Tryz.results100 _ _ w.heap.size 66 _ (0, 0) _ rfl (setRow_heap _ _ _ _ _ _ hg1) Tryz.underlying66 rfl (by kernel_rfl)) rfl ⟨rfl, Bs.block Hb.out (setRow_other _ _ _ _ (by simp)), ?_⟩
  exact below_setRow' (Ext.trans (Ext.alloc (Ext.refl w) _) He.out) (Nat.le_refl _) _

def pCIRCUIT : Pr := ⟨⟨#[112, 50, 112, 45, 99, 105, 114, 99, 117, 105, 116]⟩, 290, 0, false, .nilIface⟩
theorem protoCIRCUIT_ok (w : World) : Calls Tryz.prog 101 #[] w fun e w' => e = .returned (pCIRCUIT.val (vc (w.heap.size + 1) 290)) ∧ Bs w' (Lib.uvarint 290) (vc (w.heap.size + 1) 290) ∧ Ext w w' := by
  go_enter Tryz.func101, Tryz.ntmps101
  go_wp2_with (first | (go_at_call 131; refine (codeToVarint_ok 290 (by decide) _).mono ?_; rintro e w1 ⟨rfl, hb, he⟩; have Hb := Lib.hid hb; have He := Lib.hid he; obtain ⟨hc, hf⟩ := bcell he; have hg1 := he.block (heap_alloc_new w _); rw [World.size_alloc] at Hb; clear hb he) | (refine wpList_store_row rfl 66 _ _ rfl w.heap.size _ rfl rfl 66 _ hg1 ?c1 ?c2 ?c3 ?c4; (case c1 => kernel_rfl); (case c2 => rfl); (case c3 => simp [Value.oneCell'])))
  refine bodyPost_ret (results_cell_row Tryz.results101 _ _ w.heap.size 66 _ (0, 0) _ rfl (setRow_heap _ _ _ _ _ _ hg1) Tryz.underlying66 rfl (by kernel_rfl)) rfl ⟨rfl, Bs.block Hb.out (setRow_other _ _ _ _ (by simp)), ?_⟩
  exact below_setRow' (Ext.trans (Ext.alloc (Ext.refl w) _) He.out) (Nat.le_refl _) _

def pUTP : Pr := ⟨⟨#[117, 116, 112]⟩, 302, 0, false, .nilIface⟩
theorem protoUTP_ok (w : World) : Calls Tryz.prog 106 #[] w fun e w' => e = .returned (pUTP.val (vc (w.heap.size + 1) 302)) ∧ Bs w' (Lib.uvarint 302) (vc (w.heap.size + 1) 302) ∧ Ext w w' := by
  go_enter Tryz.func106, Tryz.ntmps106
  go_wp2_with (first | (go_at_call 131; refine (codeToVarint_ok 302 (by decide) _).mono ?_; rintro e w1 ⟨rfl, hb, he⟩; have Hb := Lib.hid hb; have He := Lib.hid he; obtain ⟨hc, hf⟩ := bcell he; have hg1 := he.block (heap_alloc_new w _); rw [World.size_alloc] at Hb; clear hb he) | (refine wpList_store_row rfl 66 _ _ rfl w.heap.size _ rfl rfl 66 _ hg1 ?c1 ?c2 ?c3 ?c4; (case c1 => kernel_rfl); (case c2 => rfl); (case c3 => simp [Value.oneCell'])))
  refine bodyPost_ret (results_cell_row Tryz.results106 _ _ w.heap.size 66 _ (0, 0) _ rfl (setRow_heap _ _ _ _ _ _ hg1) Tryz.underlying66 rfl (by kernel_rfl)) rfl ⟨rfl, Bs.block Hb.out (setRow_other _ _ _ _ (by simp)), ?_⟩
  exact below_setRow' (Ext.trans (Ext.alloc (Ext.refl w) _) He.out) (Nat.le_refl _) _

def pUDT : Pr := ⟨⟨#[117, 100, 116]⟩, 301, 0, false, .nilIface⟩
theorem protoUDT_ok (w : World) : Calls Tryz.prog 107 #[] w fun e w' => e = .returned (pUDT.val (vc (w.heap.size + 1) 301)) ∧ Bs w' (Lib.uvarint 301) (vc (w.heap.size + 1) 301) ∧ Ext w w' := by
  go_enter Tryz.func107, Tryz.ntmps107
  go_wp2_with (first | (go_at_call 131; refine (codeToVarint_ok 301 (by decide) _).mono ?_; rintro e w1 ⟨rfl, hb, he⟩; have Hb := Lib.hid hb; have He := Lib.hid he; obtain ⟨hc, hf⟩ := bcell he; have hg1 := he.block (heap_alloc_new w _); rw [World.size_alloc] at Hb; clear hb he) | (refine wpList_store_row rfl 66 _ _ rfl w.heap.size _ rfl rfl 66 _ hg1 ?c1 ?c2 ?c3 ?c4; (case c1 => kernel_rfl); (case c2 => rfl); (case c3 => simp [Value.oneCell'])))
  refine bodyPost_ret (results_cell_row Tryz.results107 _ _ w.heap.size 66 _ (0, 0) _ rfl (setRow_heap _ _ _ _ _ _ hg1) Tryz.underlying66 rfl (by kernel_rfl)) rfl ⟨rfl, Bs.block Hb.out (setRow_other _ _ _ _ (by simp)), ?_⟩
  exact below_setRow' (Ext.trans (Ext.alloc (Ext.refl w) _) He.out) (Nat.le_refl _) _

def pQUIC : Pr := ⟨⟨#[113, 117, 105, 99]⟩, 460, 0, false, .nilIface⟩
theorem protoQUIC_ok (w : World) : Calls Tryz.prog 108 #[] w fun e w' => e = .returned (pQUIC.val (vc (w.heap.size + 1) 460)) ∧ Bs w' (Lib.uvarint 460) (vc (w.heap.size + 1) 460) ∧ Ext w w' := by
  go_enter Tryz.func108, Tryz.ntmps108
  go_wp2_with (first | (go_at_call 131; refine (codeToVarint_ok 460 (by decide) _).mono ?_; rintro e w1 ⟨rfl, hb, he⟩; have Hb := Lib.hid hb; have He := Lib.hid he; obtain ⟨hc, hf⟩ := bcell he; have hg1 := he.block (heap_alloc_new w _); rw [World.size_alloc] at Hb; clear hb he) | (refine wpList_store_row rfl 66 _ _ rfl w.heap.size _ rfl rfl 66 _ hg1 ?c1 ?c2 ?c3 ?c4; (case c1 => kernel_rfl); (case c2 => rfl); (case c3 => simp [Value.oneCell'])))
  refine bodyPost_ret (results_cell_row Tryz.results108 _ _ w.heap.size 66 _ (0, 0) _ rfl (setRow_heap _ _ _ _ _ _ hg1) Tryz.underlying66 rfl (by kernel_rfl)) rfl ⟨rfl, Bs.block Hb.out (setRow_other _ _ _ _ (by simp)), ?_⟩
  exact below_setRow' (Ext.trans (Ext.alloc (Ext.refl w) _) He.out) (Nat.le_refl _) _

def pQUICV1 : Pr := ⟨⟨#[113, 117, 105, 99, 45, 118, 49]⟩, 461, 0, false, .nilIface⟩
theorem protoQUICV1_ok (w : World) : Calls Tryz.prog 109 #[] w fun e w' => e = .returned (pQUICV1.val (vc (w.heap.size + 1) 461)) ∧ Bs w' (Lib.uvarint 461) (vc (w.heap.size + 1) 461) ∧ Ext w w' := by
  go_enter Tryz.func109, Tryz.ntmps109
  go_wp2_with (first | (go_at_call 131; refine (codeToVarint_ok 461 (by decide) _).mono ?_; rintro e w1 ⟨rfl, hb, he⟩; have Hb := Lib.hid hb; have He := Lib.hid he; obtain ⟨hc, hf⟩ := bcell he; have hg1 := he.block (heap_alloc_new w _); rw [World.size_alloc] at Hb; clear hb he) | (refine wpList_store_row rfl 66 _ _ rfl w.heap.size _ rfl rfl 66 _ hg1 ?c1 ?c2 ?c3 ?c4; (case c1 => kernel_rfl); (case c2 => rfl); (case c3 => simp [Value.oneCell'])))
  refine bodyPost_ret (results_cell_row Tryz.results109 _ _ w.heap.size 66 _ (0, 0) _ rfl (setRow_heap _ _ _ _ _ _ hg1) Tryz.underlying66 rfl (by kernel_rfl)) rfl ⟨rfl, Bs.block Hb.out (setRow_other _ _ _ _ (by simp)), ?_⟩
  exact below_setRow' (Ext.trans (Ext.alloc (Ext.refl w) _) He.out) (Nat.le_refl _) _

def pWEBTRANSPORT : Pr := ⟨⟨#[119, 101, 98, 116, 114, 97, 110, 115, 112, 111, 114, 116]⟩, 465, 0, false, .nilIface⟩
theorem protoWEBTRANSPORT_ok (w : World) : Calls Tryz.prog 110 #[] w fun e w' => e = .returned (pWEBTRANSPORT.val (vc (w.heap.size + 1) 465)) ∧ Bs w' (Lib.uvarint 465) (vc (w.heap.size + 1) 465) ∧ Ext w w' := by
  go_enter Tryz.func110, Tryz.ntmps110
  go_wp2_with (first | (go_at_call 131; refine (codeToVarint_ok 465 (by decide) _).mono ?_; rintro e w1 ⟨rfl, hb, he⟩; have Hb := Lib.hid hb; have He := Lib.hid he; obtain ⟨hc, hf⟩ := bcell he; have hg1 := he.block (heap_alloc_new w _); rw [World.size_alloc] at Hb; clear hb he) | (refine wpList_store_row rfl 66 _ _ rfl w.heap.size _ rfl rfl 66 _ hg1 ?c1 ?c2 ?c3 ?c4; (case c1 => kernel_rfl); (case c2 => rfl); (case c3 => simp [Value.oneCell'])))
  refine bodyPost_ret (results_cell_row Tryz.results110 _ _ w.heap.size 66 _ (0, 0) _ rfl (setRow_heap _ _ _ _ _ _ hg1) Tryz.underlying66 rfl (by kernel_rfl)) rfl ⟨rfl, Bs.block Hb.out (setRow_other _ _ _ _ (by simp)), ?_⟩
  exact below_setRow' (Ext.trans (Ext.alloc (Ext.refl w) _) He.out) (Nat.le_refl _) _

def pHTTP : Pr := ⟨⟨#[104, 116, 116, 112]⟩, 480, 0, false, .nilIface⟩
theorem protoHTTP_ok (w : World) : Calls Tryz.prog 112 #[] w fun e w' => e = .returned (pHTTP.val (vc (w.heap.size + 1) 480)) ∧ Bs w' (Lib.uvarint 480) (vc (w.heap.size + 1) 480) ∧ Ext w w' := by
  go_enter Tryz.func112, Tryz.ntmps112
  go_wp2_with (first | (go_at_call 131; refine (codeToVarint_ok 480 (by decide) _).mono ?_; rintro e w1 ⟨rfl, hb, he⟩; have Hb := Lib.hid hb; have He := Lib.hid he; obtain ⟨hc, hf⟩ := bcell he; have hg1 := he.block (heap_alloc_new w _); rw [World.size_alloc] at Hb; clear hb he) | (refine wpList_store_row rfl 66 _ _ rfl w.heap.size _ rfl rfl 66 _ hg1 ?c1 ?c2 ?c3 ?c4; (case c1 => kernel_rfl); (case c2 => rfl); (case c3 => simp [Value.oneCell'])))
  refine bodyPost_ret (results_cell_row Tryz.results112 _ _ w.heap.size 66 _ (0, 0) _ rfl (setRow_heap _ _ _ _ _ _ hg1) Tryz.underlying66 rfl (by kernel_rfl)) rfl ⟨rfl, Bs.block Hb.out (setRow_other _ _ _ _ (by simp)), ?_⟩
  exact below_setRow' (Ext.trans (Ext.alloc (Ext.refl w) _) He.out) (Nat.le_refl _) _

def pHTTPS : Pr := ⟨⟨#[104, 116, 116, 112, 115]⟩, 443, 0, false, .nilIface⟩
theorem protoHTTPS_ok (w : World) : Calls Tryz.prog 114 #[] w fun e w' => e = .returned (pHTTPS.val (vc (w.heap.size + 1) 443)) ∧ Bs w' (Lib.uvarint 443) (vc (w.heap.size + 1) 443) ∧ Ext w w' := by
  go_enter Tryz.func114, Tryz.ntmps114
  go_wp2_with (first | (go_at_call 131; refine (codeToVarint_ok 443 (by decide) _).mono ?_; rintro e w1 ⟨rfl, hb, he⟩; have Hb := Lib.hid hb; have He := Lib.hid he; obtain ⟨hc, hf⟩ := bcell he; have hg1 := he.block (heap_alloc_new w _); rw [World.size_alloc] at Hb; clear hb he) | (refine wpList_store_row rfl 66 _ _ rfl w.heap.size _ rfl rfl 66 _ hg1 ?c1 ?c2 ?c3 ?c4; (case c1 => kernel_rfl); (case c2 => rfl); (case c3 => simp [Value.oneCell'])))
  refine bodyPost_ret (results_cell_row Tryz.results114 _ _ w.heap.size 66 _ (0, 0) _ rfl (setRow_heap _ _ _ _ _ _ hg1) Tryz.underlying66 rfl (by kernel_rfl)) rfl ⟨rfl, Bs.block Hb.out (setRow_other _ _ _ _ (by simp)), ?_⟩
  exact below_setRow' (Ext.trans (Ext.alloc (Ext.refl w) _) He.out) (Nat.le_refl _) _

def pP2P : Pr := ⟨⟨#[112, 50, 112]⟩, 421, (-1), false, tcP2P⟩
theorem protoP2P_ok (w : World) : Calls Tryz.prog 115 #[] w fun e w' => e = .returned (pP2P.val (vc (w.heap.size + 1) 421)) ∧ Bs w' (Lib.uvarint 421) (vc (w.heap.size + 1) 421) ∧ Ext w w' := by
  go_enter Tryz.func115, Tryz.ntmps115
  go_wp2_with (first | (go_at_call 131; refine (codeToVarint_ok 421 (by decide) _).mono ?_; rintro e w1 ⟨rfl, hb, he⟩; have Hb := Lib.hid hb; have He := Lib.hid he; obtain ⟨hc, hf⟩ := bcell he; have hg1 := he.block (heap_alloc_new w _); rw [World.size_alloc] at Hb; clear hb he) | (refine wpList_store_row rfl 66 _ _ rfl w.heap.size _ rfl rfl 66 _ hg1 ?c1 ?c2 ?c3 ?c4; (case c1 => kernel_rfl); (case c2 => rfl); (case c3 => simp [Value.oneCell'])) | (go_at_call 144; refine (TranscoderP2P_ok _).mono ?_; rintro e w' ⟨rfl, rfl⟩))
  refine bodyPost_ret (results_cell_row Tryz.results115 _ _ w.heap.size 66 _ (0, 0) _ rfl (setRow_heap _ _ _ _ _ _ hg1) Tryz.underlying66 rfl (by kernel_rfl)) rfl ⟨rfl, Bs.block Hb.out (setRow_other _ _ _ _ (by simp)), ?_⟩
  exact below_setRow' (Ext.trans (Ext.alloc (Ext.refl w) _) He.out) (Nat.le_refl _) _

def pUNIX : Pr := ⟨⟨#[117, 110, 105, 120]⟩, 400, (-1), true, tcUnix⟩
theorem protoUNIX_ok (w : World) : Calls Tryz.prog 116 #[] w fun e w' => e = .returned (pUNIX.val (vc (w.heap.size + 1) 400)) ∧ Bs w' (Lib.uvarint 400) (vc (w.heap.size + 1) 400) ∧ Ext w w' := by
  go_enter Tryz.func116, Tryz.ntmps116
  go_wp2_with (first | (go_at_call 131; refine (codeToVarint_ok 400 (by decide) _).mono ?_; rintro e w1 ⟨rfl, hb, he⟩; have Hb := Lib.hid hb; have He := Lib.hid he; obtain ⟨hc, hf⟩ := bcell he; have hg1 := he.block (heap_alloc_new w _); rw [World.size_alloc] at Hb; clear hb he) | (refine wpList_store_row rfl 66 _ _ rfl w.heap.size _ rfl rfl 66 _ hg1 ?c1 ?c2 ?c3 ?c4; (case c1 => kernel_rfl); (case c2 => rfl); (case c3 => simp [Value.oneCell'])) | (go_at_call 145; refine (TranscoderUnix_ok _).mono ?_; rintro e w' ⟨rfl, rfl⟩))
  refine bodyPost_ret (results_cell_row Tryz.results116 _ _ w.heap.size 66 _ (0, 0) _ rfl (setRow_heap _ _ _ _ _ _ hg1) Tryz.underlying66 rfl (by kernel_rfl)) rfl ⟨rfl, Bs.block Hb.out (setRow_other _ _ _ _ (by simp)), ?_⟩
  exact below_setRow' (Ext.trans (Ext.alloc (Ext.refl w) _) He.out) (Nat.le_refl _) _

def pP2P_WEBRTC_DIRECT : Pr := ⟨⟨#[112, 50, 112, 45, 119, 101, 98, 114, 116, 99, 45, 100, 105, 114, 101, 99, 116]⟩, 276, 0, false, .nilIface⟩
theorem protoP2P_WEBRTC_DIRECT_ok (w : World) : Calls Tryz.prog 117 #[] w fun e w' => e = .returned (pP2P_WEBRTC_DIRECT.val (vc (w.heap.size + 1) 276)) ∧ Bs w' (Lib.uvarint 276) (vc (w.heap.size + 1) 276) ∧ Ext w w' := by
  go_enter Tryz.func117, Tryz.ntmps117
  go_wp2_with (first | (go_at_call 131; refine (codeToVarint_ok 276 (by decide) _).mono ?_; rintro e w1 ⟨rfl, hb, he⟩; have Hb := Lib.hid hb; have He := Lib.hid he; obtain ⟨hc, hf⟩ := bcell he; have hg1 := he.block (heap_alloc_new w _); rw [World.size_alloc] at Hb; clear hb he) | (refine wpList_store_row rfl 66 _ _ rfl w.heap.size _ rfl rfl 66 _ hg1 ?c1 ?c2 ?c3 ?c4; (case c1 => kernel_rfl); (case c2 => rfl); (case c3 => simp [Value.oneCell'])))
  refine bodyPost_ret (results_cell_row Tryz.results117 _ _ w.heap.size 66 _ (0, 0) _ rfl (setRow_heap _ _ _ _ _ _ hg1) Tryz.underlying66 rfl (by kernel_rfl)) rfl ⟨rfl, Bs.block Hb.out (setRow_other _ _ _ _ (by simp)), ?_⟩
  exact below_setRow' (Ext.trans (Ext.alloc (Ext.refl w) _) He.out) (Nat.le_refl _) _

def pTLS : Pr := ⟨⟨#[116, 108, 115]⟩, 448, 0, false, .nilIface⟩
theorem protoTLS_ok (w : World) : Calls Tryz.prog 118 #[] w fun e w' => e = .returned (pTLS.val (vc (w.heap.size + 1) 448)) ∧ Bs w' (Lib.uvarint 448) (vc (w.heap.size + 1) 448) ∧ Ext w w' := by
  go_enter Tryz.func118, Tryz.ntmps118
  go_wp2_with (first | (go_at_call 131; refine (codeToVarint_ok 448 (by decide) _).mono ?_; rintro e w1 ⟨rfl, hb, he⟩; have Hb := Lib.hid hb; have He := Lib.hid he; obtain ⟨hc, hf⟩ := bcell he; have hg1 := he.block (heap_alloc_new w _); rw [World.size_alloc] at Hb; clear hb he) | (refine wpList_store_row rfl 66 _ _ rfl w.heap.size _ rfl rfl 66 _ hg1 ?c1 ?c2 ?c3 ?c4; (case c1 => kernel_rfl); (case c2 => rfl); (case c3 => simp [Value.oneCell'])))
  refine bodyPost_ret (results_cell_row Tryz.results118 _ _ w.heap.size 66 _ (0, 0) _ rfl (setRow_heap _ _ _ _ _ _ hg1) Tryz.underlying66 rfl (by kernel_rfl)) rfl ⟨rfl, Bs.block Hb.out (setRow_other _ _ _ _ (by simp)), ?_⟩
  exact below_setRow' (Ext.trans (Ext.alloc (Ext.refl w) _) He.out) (Nat.le_refl _) _

def pSNI : Pr := ⟨⟨#[115, 110, 105]⟩, 449, (-1), false, tcDns⟩
theorem protoSNI_ok (w : World) : Calls Tryz.prog 119 #[] w fun e w' => e = .returned (pSNI.val (vc (w.heap.size + 1) 449)) ∧ Bs w' (Lib.uvarint 449) (vc (w.heap.size + 1) 449) ∧ Ext w w' := by
  go_enter Tryz.func119, Tryz.ntmps119
  go_wp2_with (first | (go_at_call 131; refine (codeToVarint_ok 449 (by decide) _).mono ?_; rintro e w1 ⟨rfl, hb, he⟩; have Hb := Lib.hid hb; have He := Lib.hid he; obtain ⟨hc, hf⟩ := bcell he; have hg1 := he.block (heap_alloc_new w _); rw [World.size_alloc] at Hb; clear hb he) | (refine wpList_store_row rfl 66 _ _ rfl w.heap.size _ rfl rfl 66 _ hg1 ?c1 ?c2 ?c3 ?c4; (case c1 => kernel_rfl); (case c2 => rfl); (case c3 => simp [Value.oneCell'])) | (go_at_call 134; refine (TranscoderDns_ok _).mono ?_; rintro e w' ⟨rfl, rfl⟩))
  refine bodyPost_ret (results_cell_row Tryz.results119 _ _ w.heap.size 66 _ (0, 0) _ rfl (setRow_heap _ _ _ _ _ _ hg1) Tryz.underlying66 rfl (by kernel_rfl)) rfl ⟨rfl, Bs.block Hb.out (setRow_other _ _ _ _ (by simp)), ?_⟩
  exact below_setRow' (Ext.trans (Ext.alloc (Ext.refl w) _) He.out) (Nat.le_refl _) _

def pNOISE : Pr := ⟨⟨#[110, 111, 105, 115, 101]⟩, 454, 0, false, .nilIface⟩
theorem protoNOISE_ok (w : World) : Calls Tryz.prog 120 #[] w fun e w' => e = .returned (pNOISE.val (vc (w.heap.size + 1) 454)) ∧ Bs w' (Lib.uvarint 454) (vc (w.heap.size + 1) 454) ∧ Ext w w' := by
  go_enter Tryz.func120, Tryz.ntmps120
  go_wp2_with (first | (go_at_call 131; refine (codeToVarint_ok 454 (by decide) _).mono ?_; rintro e w1 ⟨rfl, hb, he⟩; have Hb := Lib.hid hb; have He := Lib.hid he; obtain ⟨hc, hf⟩ := bcell he; have hg1 := he.block (heap_alloc_new w _); rw [World.size_alloc] at Hb; clear hb he) | (refine wpList_store_row rfl 66 _ _ rfl w.heap.size _ rfl rfl 66 _ hg1 ?c1 ?c2 ?c3 ?c4; (case c1 => kernel_rfl); (case c2 => rfl); (case c3 => simp [Value.oneCell'])))
  refine bodyPost_ret (results_cell_row Tryz.results120 _ _ w.heap.size 66 _ (0, 0) _ rfl (setRow_heap _ _ _ _ _ _ hg1) Tryz.underlying66 rfl (by kernel_rfl)) rfl ⟨rfl, Bs.block Hb.out (setRow_other _ _ _ _ (by simp)), ?_⟩
  exact below_setRow' (Ext.trans (Ext.alloc (Ext.refl w) _) He.out) (Nat.le_refl _) _

def pPlaintextV2 : Pr := ⟨⟨#[112, 108, 97, 105, 110, 116, 101, 120, 116, 118, 50]⟩, 7367777, 0, false, .nilIface⟩
theorem protoPlaintextV2_ok (w : World) : Calls Tryz.prog 123 #[] w fun e w' => e = .returned (pPlaintextV2.val (vc (w.heap.size + 1) 7367777)) ∧ Bs w' (Lib.uvarint 7367777) (vc (w.heap.size + 1) 7367777) ∧ Ext w w' := by
  go_enter Tryz.func123, Tryz.ntmps123
  go_wp2_with (first | (go_at_call 131; refine (codeToVarint_ok 7367777 (by decide) _).mono ?_; rintro e w1 ⟨rfl, hb, he⟩; have Hb := Lib.hid hb; have He := Lib.hid he; obtain ⟨hc, hf⟩ := bcell he; have hg1 := he.block (heap_alloc_new w _); rw [World.size_alloc] at Hb; clear hb he) | (refine wpList_store_row rfl 66 _ _ rfl w.heap.size _ rfl rfl 66 _ hg1 ?c1 ?c2 ?c3 ?c4; (case c1 => kernel_rfl); (case c2 => rfl); (case c3 => simp [Value.oneCell'])))
  refine bodyPost_ret (results_cell_row Tryz.results123 _ _ w.heap.size 66 _ (0, 0) _ rfl (setRow_heap _ _ _ _ _ _ hg1) Tryz.underlying66 rfl (by kernel_rfl)) rfl ⟨rfl, Bs.block Hb.out (setRow_other _ _ _ _ (by simp)), ?_⟩
  exact below_setRow' (Ext.trans (Ext.alloc (Ext.refl w) _) He.out) (Nat.le_refl _) _

def pWS : Pr := ⟨⟨#[119, 115]⟩, 477, 0, false, .nilIface⟩
theorem protoWS_ok (w : World) : Calls Tryz.prog 121 #[] w fun e w' => e = .returned (pWS.val (vc (w.heap.size + 1) 477)) ∧ Bs w' (Lib.uvarint 477) (vc (w.heap.size + 1) 477) ∧ Ext w w' := by
  go_enter Tryz.func121, Tryz.ntmps121
  go_wp2_with (first | (go_at_call 131; refine (codeToVarint_ok 477 (by decide) _).mono ?_; rintro e w1 ⟨rfl, hb, he⟩; have Hb := Lib.hid hb; have He := Lib.hid he; obtain ⟨hc, hf⟩ := bcell he; have hg1 := he.block (heap_alloc_new w _); rw [World.size_alloc] at Hb; clear hb he) | (refine wpList_store_row rfl 66 _ _ rfl w.heap.size _ rfl rfl 66 _ hg1 ?c1 ?c2 ?c3 ?c4; (case c1 => kernel_rfl); (case c2 => rfl); (case c3 => simp [Value.oneCell'])))
  refine bodyPost_ret (results_cell_row Tryz.results121 _ _ w.heap.size 66 _ (0, 0) _ rfl (setRow_heap _ _ _ _ _ _ hg1) Tryz.underlying66 rfl (by kernel_rfl)) rfl ⟨rfl, Bs.block Hb.out (setRow_other _ _ _ _ (by simp)), ?_⟩
  exact below_setRow' (Ext.trans (Ext.alloc (Ext.refl w) _) He.out) (Nat.le_refl _) _

def pWSS : Pr := ⟨⟨#[119, 115, 115]⟩, 478, 0, false, .nilIface⟩
theorem protoWSS_ok (w : World) : Calls Tryz.prog 122 #[] w fun e w' => e = .returned (pWSS.val (vc (w.heap.size + 1) 478)) ∧ Bs w' (Lib.uvarint 478) (vc (w.heap.size + 1) 478) ∧ Ext w w' := by
  go_enter Tryz.func122, Tryz.ntmps122
  go_wp2_with (first | (go_at_call 131; refine (codeToVarint_ok 478 (by decide) _).mono ?_; rintro e w1 ⟨rfl, hb, he⟩; have Hb := Lib.hid hb; have He := Lib.hid he; obtain ⟨hc, hf⟩ := bcell he; have hg1 := he.block (heap_alloc_new w _); rw [World.size_alloc] at Hb; clear hb he) | (refine wpList_store_row rfl 66 _ _ rfl w.heap.size _ rfl rfl 66 _ hg1 ?c1 ?c2 ?c3 ?c4; (case c1 => kernel_rfl); (case c2 => rfl); (case c3 => simp [Value.oneCell'])))
  refine bodyPost_ret (results_cell_row Tryz.results122 _ _ w.heap.size 66 _ (0, 0) _ rfl (setRow_heap _ _ _ _ _ _ hg1) Tryz.underlying66 rfl (by kernel_rfl)) rfl ⟨rfl, Bs.block Hb.out (setRow_other _ _ _ _ (by simp)), ?_⟩
  exact below_setRow' (Ext.trans (Ext.alloc (Ext.refl w) _) He.out) (Nat.le_refl _) _

def pWebRTCDirect : Pr := ⟨⟨#[119, 101, 98, 114, 116, 99, 45, 100, 105, 114, 101, 99, 116]⟩, 280, 0, false, .nilIface⟩
theorem protoWebRTCDirect_ok (w : World) : Calls Tryz.prog 124 #[] w fun e w' => e = .returned (pWebRTCDirect.val (vc (w.heap.size + 1) 280)) ∧ Bs w' (Lib.uvarint 280) (vc (w.heap.size + 1) 280) ∧ Ext w w' := by
  go_enter Tryz.func124, Tryz.ntmps124
  go_wp2_with (first | (go_at_call 131; refine (codeToVarint_ok 280 (by decide) _).mono ?_; rintro e w1 ⟨rfl, hb, he⟩; have Hb := Lib.hid hb; have He := Lib.hid he; obtain ⟨hc, hf⟩ := bcell he; have hg1 := he.block (heap_alloc_new w _); rw [World.size_alloc] at Hb; clear hb he) | (refine wpList_store_row rfl 66 _ _ rfl w.heap.size _ rfl rfl 66 _ hg1 ?c1 ?c2 ?c3 ?c4; (case c1 => kernel_rfl); (case c2 => rfl); (case c3 => simp [Value.oneCell'])))
  refine bodyPost_ret (results_cell_row Tryz.results124 _ _ w.heap.size 66 _ (0, 0) _ rfl (setRow_heap _ _ _ _ _ _ hg1) Tryz.underlying66 rfl (by kernel_rfl)) rfl ⟨rfl, Bs.block Hb.out (setRow_other _ _ _ _ (by simp)), ?_⟩
  exact below_setRow' (Ext.trans (Ext.alloc (Ext.refl w) _) He.out) (Nat.le_refl _) _

def pWebRTC : Pr := ⟨⟨#[119, 101, 98, 114, 116, 99]⟩, 281, 0, false, .nilIface⟩
theorem protoWebRTC_ok (w : World) : Calls Tryz.prog 125 #[] w fun e w' => e = .returned (pWebRTC.val (vc (w.heap.size + 1) 281)) ∧ Bs w' (Lib.uvarint 281) (vc (w.heap.size + 1) 281) ∧ Ext w w' := by
  go_enter Tryz.func125, Tryz.ntmps125
  go_wp2_with (first | (go_at_call 131; refine (codeToVarint_ok 281 (by decide) _).mono ?_; rintro e w1 ⟨rfl, hb, he⟩; have Hb := Lib.hid hb; have He := Lib.hid he; obtain ⟨hc, hf⟩ := bcell he; have hg1 := he.block (heap_alloc_new w _); rw [World.size_alloc] at Hb; clear hb he) | (refine wpList_store_row rfl 66 _ _ rfl w.heap.size _ rfl rfl 66 _ hg1 ?c1 ?c2 ?c3 ?c4; (case c1 => kernel_rfl); (case c2 => rfl); (case c3 => simp [Value.oneCell'])))
  refine bodyPost_ret (results_cell_row Tryz.results125 _ _ w.heap.size 66 _ (0, 0) _ rfl (setRow_heap _ _ _ _ _ _ hg1) Tryz.underlying66 rfl (by kernel_rfl)) rfl ⟨rfl, Bs.block Hb.out (setRow_other _ _ _ _ (by simp)), ?_⟩
  exact below_setRow' (Ext.trans (Ext.alloc (Ext.refl w) _) He.out) (Nat.le_refl _) _

def pMemory : Pr := ⟨⟨#[109, 101, 109, 111, 114, 121]⟩, 777, 64, false, tcMemory⟩
theorem protoMemory_ok (w : World) : Calls Tryz.prog 126 #[] w fun e w' => e = .returned (pMemory.val (vc (w.heap.size + 1) 777)) ∧ Bs w' (Lib.uvarint 777) (vc (w.heap.size + 1) 777) ∧ Ext w w' := by
  go_enter Tryz.func126, Tryz.ntmps126
  go_wp2_with (first | (go_at_call 131; refine (codeToVarint_ok 777 (by decide) _).mono ?_; rintro e w1 ⟨rfl, hb, he⟩; have Hb := Lib.hid hb; have He := Lib.hid he; obtain ⟨hc, hf⟩ := bcell he; have hg1 := he.block (heap_alloc_new w _); rw [World.size_alloc] at Hb; clear hb he) | (refine wpList_store_row rfl 66 _ _ rfl w.heap.size _ rfl rfl 66 _ hg1 ?c1 ?c2 ?c3 ?c4; (case c1 => kernel_rfl); (case c2 => rfl); (case c3 => simp [Value.oneCell'])) | (go_at_call 146; refine (TranscoderMemory_ok _).mono ?_; rintro e w' ⟨rfl, rfl⟩))
  refine bodyPost_ret (results_cell_row Tryz.results126 _ _ w.heap.size 66 _ (0, 0) _ rfl (setRow_heap _ _ _ _ _ _ hg1) Tryz.underlying66 rfl (by kernel_rfl)) rfl ⟨rfl, Bs.block Hb.out (setRow_other _ _ _ _ (by simp)), ?_⟩
  exact below_setRow' (Ext.trans (Ext.alloc (Ext.refl w) _) He.out) (Nat.le_refl _) _

end Go.Proofs.YtdlmmaolacjnaaaGreatDoor
