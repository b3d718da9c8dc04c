/-
  The contracts of the methods of transcoders.
-/
import Derived.Test.YtdlmmaolacjnaaaGreatDoorTrans
import Derived.Test.YtdlmmaolacjnaaaGreatDoorPtr
namespace Go.Proofs.YtdlmmaolacjnaaaGreatDoor
set_option linter.unusedVariables false
set_option linter.unusedSimpArgs false
open Go.RowKit Go.Sort

/-- A call of the function f enters it. -/
def Enters (f : Nat) : Prop := ∀ (args : Array Value) (w : World), (callFunc f args).run Tryz.prog w = .ok (.enter f args) w
theorem enters_of {f : Nat} {fn : Func} {c : Code} (hf : Tryz.prog.funcs[f]? = some fn) (hname : (fn.name == "runtime.NumGoroutine") = false) (hb : fn.body = some c) : Enters f := by
  intro args w
  have h1 : fn.name ≠ "runtime.NumGoroutine" := by simpa using hname
  simp [callFunc, hf, h1, hb]
theorem enters_zoneStB : Enters 162 := enters_of Tryz.func162 (by kernel_rfl) rfl
theorem enters_zoneBtS : Enters 163 := enters_of Tryz.func163 (by kernel_rfl) rfl
theorem enters_zoneVal : Enters 164 := enters_of Tryz.func164 (by kernel_rfl) rfl
theorem enters_ip4StB : Enters 153 := enters_of Tryz.func153 (by kernel_rfl) rfl
theorem enters_ip4BtS : Enters 154 := enters_of Tryz.func154 (by kernel_rfl) rfl
theorem enters_ip6StB : Enters 160 := enters_of Tryz.func160 (by kernel_rfl) rfl
theorem enters_ip6BtS : Enters 161 := enters_of Tryz.func161 (by kernel_rfl) rfl

theorem S2B.call {f : Nat} {s : ByteArray} {l : List UInt8} (h : S2B f s l) {w0 w : World} (ht : Tab w0) (he : Ext w0 w) : Calls Tryz.prog f #[.string s] w fun e w' => ∃ v, e = .returned (.tuple #[v, .nilIface]) ∧ By w' l v ∧ Ext w0 w' := by
  refine (h w (he.tab ht)).mono ?_
  rintro e w' ⟨v, rfl, hb, h2⟩
  exact ⟨v, rfl, hb, he.trans h2⟩
theorem B2S.call {f : Nat} {l : List UInt8} (h : B2S f l) {w0 w : World} (ht : Tab w0) (he : Ext w0 w) {v : Value} (hv : By w0 l v) : Calls Tryz.prog f #[v] w fun e w' => ∃ s, e = .returned (.tuple #[.string s, .nilIface]) ∧ Ext w0 w' := by
  refine (h w v (he.tab ht) (he.by hv)).mono ?_
  rintro e w' ⟨s, rfl, h2⟩
  exact ⟨s, rfl, he.trans h2⟩
theorem VBs.call {f : Nat} {l : List UInt8} (h : VBs f l) {w0 w : World} (he : Ext w0 w) {v : Value} (hv : By w0 l v) : Calls Tryz.prog f #[v] w fun e w' => e = .returned .nilIface ∧ Ext w0 w' := by
  refine (h w v (he.by hv)).mono ?_
  rintro e w' ⟨rfl, h2⟩
  exact ⟨rfl, he.trans h2⟩
set_option maxRecDepth 100000 in
/-- The methods of a transcoder out of three functions. -/
theorem twrp_s2b (f : Nat) (hf : Enters f) (b c : Value) (s : ByteArray) (l : List UInt8) (h : S2B f s l) (w : World) (ht : Tab w) :
    Calls Tryz.prog 383 #[.agg #[fnV f, b, c], .string s] w fun e w' => ∃ v, e = .returned (.tuple #[v, .nilIface]) ∧ By w' l v ∧ Ext w w' := by
  have H := Lib.hid h
  clear h
  unfold Enters at hf
  go_enter Tryz.func383, Tryz.ntmps383
  go_wp2_with (refine (H.out.call ht (Ext.alloc (Ext.refl w) _)).mono ?_; rintro e w' ⟨v, rfl, hb, he⟩)
  go_ret2
  exact ⟨_, rfl, hb, he⟩
set_option maxRecDepth 100000 in
theorem twrp_b2s (f : Nat) (hf : Enters f) (a c : Value) (l : List UInt8) (h : B2S f l) (w : World) (ht : Tab w) (v : Value) (hv : By w l v) :
    Calls Tryz.prog 382 #[.agg #[a, fnV f, c], v] w fun e w' => ∃ s, e = .returned (.tuple #[.string s, .nilIface]) ∧ Ext w w' := by
  have H := Lib.hid h
  clear h
  unfold Enters at hf
  go_enter Tryz.func382, Tryz.ntmps382
  go_wp2_with (refine (H.out.call ht (Ext.alloc (Ext.refl w) _) hv).mono ?_; rintro e w' ⟨s, rfl, he⟩)
  go_ret2
  exact ⟨_, rfl, he⟩
theorem eqlFn (f : Nat) (w : World) : (binOp .eql 122 (fnV f) .nilFunc).run Tryz.prog w = .ok (.bool false) w := by kernel_rfl
theorem eqlNilFn (w : World) : (binOp .eql 122 .nilFunc .nilFunc).run Tryz.prog w = .ok (.bool true) w := by kernel_rfl
set_option maxRecDepth 100000 in
theorem twrp_val (f : Nat) (hf : Enters f) (a b : Value) (l : List UInt8) (h : VBs f l) (w : World) (v : Value) (hv : By w l v) :
    Calls Tryz.prog 384 #[.agg #[a, b, fnV f], v] w fun e w' => e = .returned .nilIface ∧ Ext w w' := by
  have H := Lib.hid h
  clear h
  unfold Enters at hf
  have he1 := fun w => eqlFn f w
  go_enter Tryz.func384, Tryz.ntmps384
  go_wp2_with (refine (H.out.call (Ext.alloc (Ext.refl w) _) hv).mono ?_; rintro e w' ⟨rfl, he⟩)
  go_ret
  exact ⟨rfl, he⟩
set_option maxRecDepth 100000 in
theorem twrp_valnil (a b : Value) (w : World) (v : Value) :
    Calls Tryz.prog 384 #[.agg #[a, b, .nilFunc], v] w fun e w' => e = .returned .nilIface ∧ Ext w w' := by
  have he1 := eqlNilFn
  go_enter Tryz.func384, Tryz.ntmps384
  go_wp2
  go_ret
  exact ⟨rfl, Ext.alloc (Ext.refl w) _⟩
end Go.Proofs.YtdlmmaolacjnaaaGreatDoor
