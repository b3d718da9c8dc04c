/-
  maAwake.
-/
import Derived.Test.YtchlkclpikdbjaaGreatDoorRm
import Derived.Test.YtchlkclpikdbjaaGreatDoorSt
import Derived.Defers
import Derived.Recover
namespace Go.Proofs.YtchlkclpikdbjaaGreatDoor
set_option linter.unusedVariables false
set_option linter.unusedSimpArgs false
open Go.RowKit Go.Sort

theorem catch_new (p : Addr) (w : World) : CallsD Tryz.prog 27 #[.pointer (some p)] .returning w fun e u' w' => e = .returned (.tuple #[]) ∧ u' = .returning ∧ w' = w := by
  refine callsD_of_wpS Tryz.func27 rfl fun c₀ cs hu => ?_
  apply wpS_seq
  apply wpS_region
  simp [wpOpsS, go_sem, recoverD, hu, Tryz.ntmps27, Exit.thenS]
  apply wpS_seq
  apply wpS_region
  simp [wpOpsS, go_sem, Exit.thenS]
  refine wpS_cond (t := false) (by simp [Act.eval, Array.replicate]) ?_
  simp only [Bool.false_eq_true, if_false]
  refine wpS_of_wp (wp_skip ?_)
  cases c₀
  simp_all [bodyPostS, results, Tryz.results27]
theorem catch_newB (p : Addr) (w : World) : CallsD Tryz.prog 76 #[.pointer (some p)] .returning w fun e u' w' => e = .returned (.tuple #[]) ∧ u' = .returning ∧ w' = w := by
  refine callsD_of_wpS Tryz.func76 rfl fun c₀ cs hu => ?_
  apply wpS_seq
  apply wpS_region
  simp [wpOpsS, go_sem, recoverD, hu, Tryz.ntmps76, Exit.thenS]
  apply wpS_seq
  apply wpS_region
  simp [wpOpsS, go_sem, Exit.thenS]
  refine wpS_cond (t := false) (by simp [Act.eval, Array.replicate]) ?_
  simp only [Bool.false_eq_true, if_false]
  refine wpS_of_wp (wp_skip ?_)
  cases c₀
  simp_all [bodyPostS, results, Tryz.results76]

theorem set_idem (w : World) (q : Nat) (x : Value) (t : TypeId) (fr : Nat × Nat) (h : w.heap[q]? = some (.cells #[x] t fr)) : w.setCell ⟨q, 0, none⟩ x = w := by
  have hh : (w.setCell ⟨q, 0, none⟩ x).heap = w.heap := by
    apply Array.ext_getElem?
    intro k
    simp only [World.setCell, Array.getElem?_modify]
    split
    · rename_i hk
      have hk' : q = k := hk
      subst hk'
      rw [h]
      simp
    · rfl
  cases w
  simp only [World.setCell] at hh ⊢
  rw [hh]

set_option maxRecDepth 100000 in
theorem newB_ok (v : Value) (w : World) (hv : By w [4, 1, 2, 3, 4, 6, 0, 5] v) :
    Calls Tryz.prog 30 #[v] w fun e w' => ∃ m, e = .returned (.tuple #[m, .nilIface]) ∧ MaAt w' [c4, c6] m ∧ Ext w w' := by
  have hmf : ∀ (fn : Fn) (first cap : Array Value) (w : World), (Instr.makeFunc fn first cap).run Tryz.prog w = .ok (.func fn first cap) w := fun _ _ _ _ => rfl
  have H := Lib.hid (fun w1 (he : Ext w w1) => rdM_ok v w1 (he.by hv))
  obtain ⟨a, cap, rfl, hcap, -⟩ := hv
  go_enter_defers Tryz.func30, Tryz.ntmps30
  go_wp2_with (fail)
  refine (H.out _ (Ext.alloc (Ext.refl w) _)).mono ?_
  rintro e w1 ⟨m, rfl, hm, he1⟩
  obtain ⟨g, o, cm, rfl, hcm, -⟩ := id hm
  have hblk : w1.heap[w.heap.size]? = some (.cells #[.nilIface] 50 (0, 0)) := he1.block (heap_alloc_new w _)
  have k3 : w1.cell? ⟨w.heap.size, 0, none⟩ = some .nilIface := cell_of_row w1 w.heap.size 0 _ _ _ hblk
  have f3 : w1.frozen? ⟨w.heap.size, 0, none⟩ = false := by simp [World.frozen?, hblk]
  have hid3 := set_idem w1 w.heap.size .nilIface _ _ hblk
  have HE1 := Lib.hid ((Ext.alloc (Ext.refl w) _).trans he1)
  have HM := Lib.hid hm
  clear he1 hm hblk
  rw [show [c4, c6].length = 2 from rfl] at hcm ⊢
  go_wp2
  refine leaves_cons (f := 76) (args := #[.pointer (some ⟨w.heap.size, 0, none⟩)]) (by simp) (by simp [go_sem]) ?_
  refine (catch_newB ⟨w.heap.size, 0, none⟩ _).mono ?_
  rintro e u' w'' ⟨rfl, rfl, rfl⟩
  simp [Leaves, settle, results, Tryz.results30, go_sem]
  rw [k3]
  exact ⟨_, rfl, _, rfl, HM.out, HE1.out⟩

def awT : ByteArray := ⟨#[47, 105, 112, 52, 47, 49, 46, 50, 46, 51, 46, 52, 47, 116, 99, 112, 47, 53]⟩
set_option maxRecDepth 100000 in
theorem newM_ok (w : World) :
    Calls Tryz.prog 23 #[.string awT] w fun e w' => ∃ m, e = .returned (.tuple #[m, .nilIface]) ∧ MaAt w' [c4, c6] m ∧ Ext w w' := by
  have hmf : ∀ (fn : Fn) (first cap : Array Value) (w : World), (Instr.makeFunc fn first cap).run Tryz.prog w = .ok (.func fn first cap) w := fun _ _ _ _ => rfl
  have H := Lib.hid (fun w1 => st_ok awT (by rw [pcs_text]; rfl) w1)
  go_enter_defers Tryz.func23, Tryz.ntmps23
  go_wp2_with (fail)
  refine (H.out _).mono ?_
  rintro e w1 ⟨v, rfl, hv, he1⟩
  have HB := Lib.hid (fun w2 (he : Ext w1 w2) => newB_ok v w2 (he.by hv))
  obtain ⟨va, vcap, rfl, -, -⟩ := id hv
  have hblk : w1.heap[w.heap.size]? = some (.cells #[.nilIface] 50 (0, 0)) := he1.block (heap_alloc_new w _)
  have k3 : w1.cell? ⟨w.heap.size, 0, none⟩ = some .nilIface := cell_of_row w1 w.heap.size 0 _ _ _ hblk
  have f3 : w1.frozen? ⟨w.heap.size, 0, none⟩ = false := by simp [World.frozen?, hblk]
  have hid3 := set_idem w1 w.heap.size .nilIface _ _ hblk
  have HE1 := Lib.hid ((Ext.alloc (Ext.refl w) _).trans he1)
  have HK := Lib.hid hblk
  clear he1 hv hblk
  rw [show D2.length = 8 from rfl] at HB ⊢
  go_wp2_with (fail)
  refine (HB.out w1 (Ext.refl _)).mono ?_
  rintro e w2 ⟨m, rfl, hm, he2⟩
  obtain ⟨g, o, cm, rfl, hcm, -⟩ := id hm
  have hblk2 : w2.heap[w.heap.size]? = some (.cells #[.nilIface] 50 (0, 0)) := he2.block HK.out
  have k32 : w2.cell? ⟨w.heap.size, 0, none⟩ = some .nilIface := cell_of_row w2 w.heap.size 0 _ _ _ hblk2
  have f32 : w2.frozen? ⟨w.heap.size, 0, none⟩ = false := by simp [World.frozen?, hblk2]
  have hid32 := set_idem w2 w.heap.size .nilIface _ _ hblk2
  have HE2 := Lib.hid (HE1.out.trans he2)
  have HM := Lib.hid hm
  clear he2 hm hblk2 k3 f3 hid3
  rw [show [c4, c6].length = 2 from rfl] at hcm ⊢
  go_wp2
  refine leaves_cons (f := 27) (args := #[.pointer (some ⟨w.heap.size, 0, none⟩)]) (by simp) (by simp [go_sem]) ?_
  refine (catch_new ⟨w.heap.size, 0, none⟩ _).mono ?_
  rintro e u' w'' ⟨rfl, rfl, rfl⟩
  simp [Leaves, settle, results, Tryz.results23, go_sem]
  rw [k32]
  exact ⟨_, rfl, _, rfl, HM.out, HE2.out⟩

set_option maxRecDepth 100000 in
theorem textBytes_ok (w : World) :
    Calls Tryz.prog 13 #[.string awT] w fun e w' => ∃ v, e = .returned (.tuple #[v, .bool true]) ∧ By w' [4, 1, 2, 3, 4, 6, 0, 5] v ∧ Ext w w' := by
  have H := Lib.hid (fun w1 => newM_ok w1)
  have HY := Lib.hid (fun m w1 h => maBytes_ok m w1 h)
  go_enter Tryz.func13, Tryz.ntmps13
  go_wp2_with (fail)
  refine (H.out _).mono ?_
  rintro e w1 ⟨m, rfl, hm, he1⟩
  have HYm := Lib.hid (HY.out m w1 hm)
  have HE1 := Lib.hid he1
  clear hm he1
  go_wp2_with (fail)
  refine HYm.out.mono ?_
  rintro e w2 ⟨v, rfl, hv, he2⟩
  have HE2 := Lib.hid (HE1.out.trans he2)
  have HB2 := Lib.hid hv
  clear he2 hv
  go_wp2_with (fail)
  go_ret2
  exact ⟨_, rfl, HB2.out, HE2.out⟩

set_option maxRecDepth 100000 in
theorem awake_ok (w : World) : Calls Tryz.prog 6 #[] w fun e w' => e = .returned (.bool true) ∧ Ext w w' := by
  have H := Lib.hid (fun w1 => textBytes_ok w1)
  unfold awT at H
  go_enter Tryz.func6, Tryz.ntmps6
  go_wp2_with (fail)
  refine (H.out _).mono ?_
  rintro e w1 ⟨v, rfl, hv, he1⟩
  have cv := conv_str hv
  have HE1 := Lib.hid he1
  clear hv he1
  go_wp2_with (fail)
  go_ret
  exact ⟨rfl, HE1.out⟩
end Go.Proofs.YtchlkclpikdbjaaGreatDoor
