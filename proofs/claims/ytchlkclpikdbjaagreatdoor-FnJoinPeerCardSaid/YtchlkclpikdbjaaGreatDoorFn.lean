/-
  FnJoinPeer: the row.
-/
import Derived.Test.YtchlkclpikdbjaaGreatDoorRows
import Derived.Test.YtchlkclpikdbjaaGreatDoorPf
import Derived.Test.YtchlkclpikdbjaaGreatDoorAw
import Derived.ProofKit
import Derived.OpenShut
import Derived.ShutString
import Derived.ChangeOld
import Derived.LaidMore
import Derived.Lib.LaidTab
import Derived.Stop.LaidErr
import Derived.Stop.Joined
namespace Go.Proofs.YtchlkclpikdbjaaGreatDoor
set_option linter.unusedVariables false
set_option linter.unusedSimpArgs false
open Go.ChangeShapes Go.WideShapes Go.ChangeAt Go.RowKit
open Go.ChangeMaps (open_string shut_string)

theorem own : ownKnob Tryz.prog.godebug = none := by kernel_rfl
theorem laidOut : laidOutB Tryz.prog = true := by kernel_rfl
def laid2 : List (String × DataW Unit) := [("math/bits.deBruijn32tab", Rows.laid_math_bits_deBruijn32tab), ("math/bits.deBruijn64tab", Rows.laid_math_bits_deBruijn64tab)]

/-- The bytes that came in. -/
theorem by_of_zs {W : World} {x : Addr} {l c : Nat} {zs : List Int} (hl : l ≤ c) (hz : zs.length = c) (hcell : ∀ i, i < zs.length → W.cell? (x.add i) = some (.int .u8 (zs.getD i 0))) (hwz : ∀ n ∈ zs, (Lit.int .u8 n).wf = true) :
    ∃ bs : List UInt8, bs.length = l ∧ By W bs (.slice (some x) l c) := by
  obtain ⟨bs, hbs⟩ : ∃ bs : List UInt8, bs = (zs.take l).map fun z => UInt8.ofNat z.toNat := ⟨_, rfl⟩
  have hlen : bs.length = l := by rw [hbs]; simp; omega
  refine ⟨bs, hlen, some x, c, by rw [hlen], by omega, fun hne => ?_⟩
  obtain ⟨b, off, spot⟩ := x
  have h0 : 0 < l := by rw [← hlen]; exact List.length_pos_iff.2 hne
  have hc := hcell 0 (by omega)
  have hspot : spot = none := by simpa [Addr.add] using World.cell?_spot hc
  subst hspot
  refine ⟨b, off, rfl, fun j v hj => ?_⟩
  have hj' : j < l := by
    have := (List.getElem?_eq_some_iff.1 hj).1
    simpa [hlen] using this
  have h1 := hcell j (by omega)
  rw [addr_add] at h1
  rw [h1]
  rw [hbs] at hj
  have hm : zs[j]? = some (zs.getD j 0) := by
    rw [List.getElem?_eq_getElem (by omega)]
    simp [List.getD, List.getElem?_eq_getElem (show j < zs.length by omega)]
  simp only [List.map_map, List.getElem?_map, List.getElem?_take, hj', if_true, hm, Option.map_some, Option.some.injEq] at hj
  rw [← hj]
  have hw := hwz _ (List.mem_of_getElem? hm)
  generalize zs.getD j 0 = z at hw
  simp only [Lit.wf, Bool.and_eq_true, decide_eq_true_eq] at hw
  have hmin : IntKind.u8.min = 0 := rfl
  have hmax : IntKind.u8.max = 255 := rfl
  rw [hmin, hmax] at hw
  have e : (UInt8.ofNat z.toNat).toNat = z.toNat := by
    simp [UInt8.toNat_ofNat']
    omega
  simp only [Function.comp, B, e]
  congr 2
  omega

/-- The law's contract at every input. -/
theorem joinPeer_ok (l : List UInt8) (v : Value) (which : Nat) (hw : which < 256) (x : Nat) (hx : x < 18446744073709551616) (w : World) (hv : By w l v) (hp : PreV w) :
    Calls Tryz.prog 3 #[v, .int .u8 (which : Int), .int .u64 (x : Int)] w fun e w' => e = .returned (.bool true) ∧ Ext w w' := by
  by_cases hl : l.length ≤ 281474976710656
  · exact lawP_ok awake_ok l hl v which hw x hx w hv hp
  · exact lawP_big l (by omega) v which x w hv

section
variable {H : Type} {enc : TypeId × Value → H}
/-- The kit's own step, with what the world of a call is shaped like. -/
theorem returns_shaped {a : Assume} {C : Checked} {os : Os} {f : FuncId} {fn : Func} {s : ChangeSpec} {conds : List PathCond} {apart fresh handsOn again : Bool} {X : World → Array Value → Prop}
    (hX : ∀ (w w' : World) (args : Array Value), w.heap = w'.heap → X w args → X w' args)
    (own : ownKnob C.prog.godebug = none) (started : os.Started) (noInit : C.prog.inits.idxOf? f = none) (hfn : C.prog.funcs[f]? = some fn)
    (witness : ∃ (w : World) (tape : Tape) (i : Input), w.os = os ∧ (w.forCall tape i).Shaped C.prog ∧ i.vars = [] ∧ Input.okWide C.prog (w.forCall tape i) .any w.heap.size f i ∧
      ((s.pre enc C.prog fn conds apart (w.forCall tape i).memory i.args ∧ X (w.forCall tape i).memory i.args) ∧ sizedMet enc C.prog fn (OpenSpec.ofChange s) apart (w.forCall tape i).memory i.args) ∧ a.holds C.prog (lone (Frame.enter C.prog f i.args .normal) [] (w.forCall tape i)))
    (contract : ∀ (W : World) (base : Nat) (args : Array Value) (ds gs : List (DataW H)) (before : List MemPlace), W.ShapedOpen C.prog →
      (∀ (j : Nat) t v, fn.params[j]? = some t → args[j]? = some v → Value.okWide C.prog W .any base t v) →
      DataW.Whole enc C.prog fn.params.toList s.vars apart W args.toList ds gs before →
      Calls C.prog f args W fun e W' => ∃ v, e = .returned v ∧ s.post enc C.prog fn apart fresh handsOn again W args v W') :
    ReturnsInHanded a C os f .any (fun w args => (s.pre enc C.prog fn conds apart w args ∧ X w args) ∧ sizedMet enc C.prog fn (OpenSpec.ofChange s) apart w args) (s.post enc C.prog fn apart fresh handsOn again) := by
  refine returnsInHanded_of_calls own started noInit witness ?_
  intro w tape i _ hsh _ hok hpre hholds
  obtain ⟨_, _, _, fn', hfn', _, _, _, _, hval⟩ := hok
  have e : fn' = fn := Option.some.inj (hfn'.symm.trans hfn)
  subst e
  obtain ⟨⟨⟨ds, gs, before, hw, hc⟩, hx⟩, hz⟩ := hpre
  have hw' := DataW.Whole.of_heap (w' := w.forCall tape i) (by rfl) hw
  refine (contract (w.forCall tape i) w.heap.size i.args ds gs before hsh hval hw').mono fun e W' ⟨v, he, hp⟩ => ?_
  subst he
  exact ChangeSpec.post_blind hp
end

/-- The heap that the door's own run leaves meets the condition. -/
theorem door_met (os : Os) (args : Array Value) : laidMetH Tryz.prog laid2 ((World.doorLaid Tryz.prog 400 os).forCall (fun _ _ => 0) ⟨#[], args, []⟩).memory :=
  laidMetH_of_parts3 (fuel := 8) (laidMet_of_run' 8 (by kernel_rfl) (by kernel_rfl)) (by kernel_rfl) (by kernel_rfl)
end Go.Proofs.YtchlkclpikdbjaaGreatDoor
