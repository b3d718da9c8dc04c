/-
  FnJoinPeer: the row, lifted.
-/
import Derived.Test.YtchlkclpikdbjaaGreatDoorFnWa
import Derived.Test.YtchlkclpikdbjaaGreatDoorFnWb
import Derived.Test.YtchlkclpikdbjaaGreatDoorFnWc
import Derived.Test.YtchlkclpikdbjaaGreatDoorFnWd
import Derived.Test.YtchlkclpikdbjaaGreatDoorFnJoin
namespace Go.Proofs.YtchlkclpikdbjaaGreatDoor
set_option linter.unusedVariables false
set_option linter.unusedSimpArgs false
open Go.ChangeShapes Go.WideShapes Go.ChangeAt Go.RowKit
open Go.ChangeMaps (open_string shut_string)

set_option maxRecDepth 100000 in
theorem lifted (os : Os) (started : os.Started) (H : Type) (enc : TypeId × Value → H) :
    ReturnsInHanded {} Tryz.checked os 3 .any (fun w args => (Rows.fnJoinPeerSpec.pre enc Tryz.prog Tryz.f3 [] false w args ∧ laidMetH Tryz.prog laid2 w) ∧ sizedMet enc Tryz.prog Tryz.f3 (OpenSpec.ofChange Rows.fnJoinPeerSpec) false w args)
      (Rows.fnJoinPeerSpec.post enc Tryz.prog Tryz.f3 false true false false) := by
  refine returns_shaped (C := Tryz.checked) (X := fun w _ => laidMetH Tryz.prog laid2 w) (fun _ _ _ hh h => h.of_heap hh) own started no_init Tryz.func3
    (ChangeSpec.witness_shaped (enc := enc) (C := Tryz.checked) (os := os) (X := fun w _ => laidMetH Tryz.prog laid2 w) false (World.doorLaid Tryz.prog 400 os) #[.slice none 0 0, .int .u8 0, .int .u64 0] 8 rfl (World.shaped_of_ZipB (wit_ref os) (wit_heap os)) (wit_ok os) (wit_pre enc os) (wit_sz enc os) (door_met os _)) ?_
  intro W base args ds gs before hshape hval0 hW
  have hpv := preV_of_shaped hshape
  have hval : ∀ (j : Nat) t v, Tryz.f3.params[j]? = some t → args[j]? = some v → Value.okWide Tryz.prog W .any base t v := hval0
  have hW' := hW
  obtain ⟨p, q, hA0, hV, rfl, hfz, hnd⟩ := hW
  have hA : DataW.TrodAll enc Tryz.prog W 0 (fun _ => true) true Tryz.f3.params.toList args.toList ds p := hA0
  rw [Tryz.params3] at hA hval
  obtain ⟨v0, vs0, d0, ds0, p0, q0, hargs, rfl, rfl, h0, r0⟩ := trodAll_cons hA
  obtain ⟨v1, vs1, d1, ds1, p1, q1, rfl, rfl, rfl, h1, r1⟩ := trodAll_cons r0
  obtain ⟨v2, vs2, d2, ds2, p2, q2, rfl, rfl, rfl, h2, r2⟩ := trodAll_cons r1
  obtain ⟨rfl, rfl, rfl⟩ := trodAll_nil r2
  obtain rfl : args = #[v0, v1, v2] := by cases args; simp_all
  obtain ⟨rfl, rfl⟩ := trodVars_none hV
  obtain ⟨a0, len0, cap0, rfl⟩ := okWide_slice Tryz.underlying22 (hval 0 22 v0 rfl rfl)
  have k0 := h0
  have lt0 : ∀ x ∈ p0, x.block < W.heap.size := by obtain ⟨m, hm⟩ := k0; exact DataW.trod_lt m _ _ _ hm
  obtain ⟨bs, w0⟩ : ∃ bs : List UInt8, By W bs (.slice a0 len0 cap0) := by
    obtain ⟨fuel, hf⟩ := h0
    rcases open_ints Tryz.underlying22 Tryz.underlying5 cells_u8 hf with ⟨hcs, _⟩ | ⟨x, l, c, zs, hcs, _, hl, hm, hz, _, hcell, hwz⟩
    · simp [Value.cells] at hcs
      obtain ⟨rfl, rfl, rfl⟩ := hcs
      exact ⟨[], none, 0, rfl, Nat.le_refl _, fun h => absurd rfl h⟩
    · simp [Value.cells] at hcs
      obtain ⟨rfl, rfl, rfl⟩ := hcs
      obtain ⟨bs, -, h⟩ := by_of_zs hl (by simpa using hz) hcell hwz
      exact ⟨bs, h⟩
  obtain ⟨n1, rfl, rfl, rfl, w1⟩ := open_int Tryz.underlying5 (hval 1 5 v1 rfl rfl) h1
  obtain ⟨n2, rfl, rfl, rfl, w2⟩ := open_int Tryz.underlying23 (hval 2 23 v2 rfl rfl) h2
  have b1 : 0 ≤ n1 ∧ n1 ≤ 255 := by
    have hw := w1
    simp only [Lit.wf, Bool.and_eq_true, decide_eq_true_eq] at hw
    exact hw
  have b2 : 0 ≤ n2 ∧ n2 ≤ 18446744073709551615 := by
    have hw := w2
    simp only [Lit.wf, Bool.and_eq_true, decide_eq_true_eq] at hw
    exact hw
  clear hA0 hval0
  simp only [List.append_nil] at hW'
  have hlaw := joinPeer_ok bs _ n1.toNat (by omega) n2.toNat (by omega) W w0 hpv
  rw [Int.toNat_of_nonneg b1.1, Int.toNat_of_nonneg b2.1] at hlaw
  refine hlaw.mono fun e W' ⟨he, bel⟩ => ?_
  subst he
  exact ⟨_, rfl, _, _, _, [], _, [], hW', trodAll_mk1 (shut_bool Tryz.underlying4 _), (trodAll_cons_mk (Below.trod laidOut read_b size_b k0 bel lt0) (trodAll_cons_mk (shut_int Tryz.underlying5 w1) (trodAll_cons_mk (shut_int Tryz.underlying23 w2) trodAll_mk0))), rfl, bel.frame _, fun h => by cases h⟩

theorem fnJoinPeer_holds : Rows.FnJoinPeerSaid :=
  OpenClaim.holds_of_wide 3 Tryz.f3 rfl rfl rfl rfl rfl rfl rfl ⟨rfl, rfl, rfl, rfl, rfl⟩ rfl rfl rfl rfl rfl named_f Tryz.func3 joined
    inst_f (by unfold Func.isWrapper; first | (rw [if_pos (by decide +kernel)]; kernel_rfl) | (rw [if_neg (by decide +kernel)]; exact ⟨rfl, rfl⟩))
    (fun os started H enc _ => lifted os started H enc)
#print axioms fnJoinPeer_holds
end Go.Proofs.YtchlkclpikdbjaaGreatDoor
