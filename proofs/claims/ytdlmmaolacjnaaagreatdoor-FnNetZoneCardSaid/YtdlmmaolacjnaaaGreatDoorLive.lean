/-
  The contracts of safe, its deferred closure and the closure of NetAsk.
-/
import Derived.Test.YtdlmmaolacjnaaaGreatDoorThin
import Derived.Defers
import Derived.Recover
import Derived.Test.YtdlmmaolacjnaaaGreatDoorZone
import Derived.Deep.RegionHeld3
namespace Go.Proofs.YtdlmmaolacjnaaaGreatDoor
set_option linter.unusedVariables false
set_option linter.unusedSimpArgs false
open Go.RowKit Go.Sort

theorem catch_idle (p : Addr) (w : World) : CallsD Tryz.prog 37 #[.pointer (some p)] .returning w fun e u' w' => e = .returned (.tuple #[]) ∧ u' = .returning ∧ w' = w := by
  refine callsD_of_wpS Tryz.func37 rfl fun c₀ cs hu => ?_
  apply wpS_seq
  apply wpS_region
  simp [wpOpsS, go_sem, recoverD, hu, Tryz.ntmps37, Exit.thenS]
  refine wpS_cond (t := false) (by simp [Act.eval, Array.replicate]) ?_
  simp only [Bool.false_eq_true, if_false]
  refine wpS_of_wp (wp_skip ?_)
  cases c₀
  simp_all [bodyPostS, results, Tryz.results37]

theorem ask0_ok (p m y : Nat) (mv : Value) (b old : Bool) (w : World) (hp : w.cell? ⟨p, 0, none⟩ = some (.int .i64 0)) (hm : w.cell? ⟨m, 0, none⟩ = some mv) (hy : w.cell? ⟨y, 0, none⟩ = some (.bool old)) (hz : w.frozen? ⟨y, 0, none⟩ = false)
    (h : Calls Tryz.prog 20 #[mv] w fun e w' => e = .returned (.bool b) ∧ Ext w w') :
    Calls Tryz.prog 19 #[.pointer (some ⟨p, 0, none⟩), .pointer (some ⟨m, 0, none⟩), .pointer (some ⟨y, 0, none⟩)] w fun e w' => e = .returned (.tuple #[]) ∧ ∃ w1, Ext w w1 ∧ w' = w1.setCell ⟨y, 0, none⟩ (.bool b) := by
  have H := Lib.hid h
  have hb := block_lt_of_cell hy
  clear h
  go_enter Tryz.func19, Tryz.ntmps19
  go_wp2_with (go_at_call 20; refine H.out.mono ?_; rintro e w1 ⟨rfl, he1⟩; have hy1 : w1.cell? ⟨y, 0, none⟩ = some (.bool old) := he1.cell hy; have hz1 : w1.frozen? ⟨y, 0, none⟩ = false := (Below.frozen he1 hb).trans hz)
  go_end0
  exact ⟨rfl, w1, he1, rfl⟩

theorem ask1_ok (p m y : Nat) (mv : Value) (b old : Bool) (w : World) (hp : w.cell? ⟨p, 0, none⟩ = some (.int .i64 1)) (hm : w.cell? ⟨m, 0, none⟩ = some mv) (hy : w.cell? ⟨y, 0, none⟩ = some (.bool old)) (hz : w.frozen? ⟨y, 0, none⟩ = false)
    (h : Calls Tryz.prog 21 #[mv] w fun e w' => e = .returned (.bool b) ∧ Ext w w') :
    Calls Tryz.prog 19 #[.pointer (some ⟨p, 0, none⟩), .pointer (some ⟨m, 0, none⟩), .pointer (some ⟨y, 0, none⟩)] w fun e w' => e = .returned (.tuple #[]) ∧ ∃ w1, Ext w w1 ∧ w' = w1.setCell ⟨y, 0, none⟩ (.bool b) := by
  have H := Lib.hid h
  have hb := block_lt_of_cell hy
  clear h
  go_enter Tryz.func19, Tryz.ntmps19
  go_wp2_with (go_at_call 21; refine H.out.mono ?_; rintro e w1 ⟨rfl, he1⟩; have hy1 : w1.cell? ⟨y, 0, none⟩ = some (.bool old) := he1.cell hy; have hz1 : w1.frozen? ⟨y, 0, none⟩ = false := (Below.frozen he1 hb).trans hz)
  go_end0
  exact ⟨rfl, w1, he1, rfl⟩

/-- safe, over the closure of NetAsk: the one variable that the closure turns is y. -/
theorem safe_ok (p m y : Nat) (b : Bool) (w : World) (hy : y < w.heap.size)
    (h : ∀ o, Calls Tryz.prog 19 #[.pointer (some ⟨p, 0, none⟩), .pointer (some ⟨m, 0, none⟩), .pointer (some ⟨y, 0, none⟩)] (w.alloc o) fun e w' => e = .returned (.tuple #[]) ∧ ∃ w1, Ext (w.alloc o) w1 ∧ w' = w1.setCell ⟨y, 0, none⟩ (.bool b)) :
    Calls Tryz.prog 18 #[.func (.func 19) #[] #[.pointer (some ⟨p, 0, none⟩), .pointer (some ⟨m, 0, none⟩), .pointer (some ⟨y, 0, none⟩)]] w fun e w' =>
      e = .returned (.bool true) ∧ ∃ w1, Ext w w1 ∧ w' = (w1.setCell ⟨y, 0, none⟩ (.bool b)).setCell ⟨w.heap.size, 0, none⟩ (.bool true) := by
  have hmf : ∀ (fn : Fn) (first cap : Array Value) (w : World), (Instr.makeFunc fn first cap).run Tryz.prog w = .ok (.func fn first cap) w := fun _ _ _ _ => rfl
  have H := Lib.hid h
  have hne : ¬ w.heap.size = y := by omega
  have hne' : ¬ y = w.heap.size := by omega
  clear h
  go_enter_defers Tryz.func18, Tryz.ntmps18
  go_wp2_with (fail)
  refine (H.out _).mono ?_
  rintro e w' ⟨rfl, w1, he1, rfl⟩
  have hc0 : (w.alloc (.cells #[.bool false] 4)).cell? ⟨w.heap.size, 0, none⟩ = some (.bool false) := by simp [go_sem]
  have hf0 : (w.alloc (.cells #[.bool false] 4)).frozen? ⟨w.heap.size, 0, none⟩ = false := by simp [go_sem]
  have hc1 : (w1.setCell ⟨y, 0, none⟩ (.bool b)).cell? ⟨w.heap.size, 0, none⟩ = some (.bool false) := by
    rw [World.cell?_setCell_other]
    · exact he1.cell hc0
    · exact fun h => hne' (Addr.mk.inj h).1
  have hf1 : (w1.setCell ⟨y, 0, none⟩ (.bool b)).frozen? ⟨w.heap.size, 0, none⟩ = false := by
    have := (Below.frozen he1 (p := ⟨w.heap.size, 0, none⟩) (by simp)).trans hf0
    simp [this]
  go_wp2
  refine leaves_cons (f := 37) (args := #[.pointer (some ⟨w.heap.size, 0, none⟩)]) (by simp) (by simp [go_sem]) ?_
  refine (catch_idle ⟨w.heap.size, 0, none⟩ _).mono ?_
  rintro e u' w'' ⟨rfl, rfl, rfl⟩
  have hE : Ext w w1 := (Ext.alloc (Ext.refl w) _).trans he1
  simp [Leaves, settle, results, Tryz.results18, go_sem]
  have hc2 : ((w1.setCell ⟨y, 0, none⟩ (.bool b)).setCell ⟨w.heap.size, 0, none⟩ (.bool true)).cell? ⟨w.heap.size, 0, none⟩ = some (.bool true) := World.cell?_setCell_same _ _ _ hc1
  rw [hc2]
  exact ⟨_, rfl, rfl, w1, hE, rfl⟩

theorem netAsk_ok (q : Int) (b : Bool) (cs : List Cmp) (hne : cs ≠ []) (h100 : cs.length ≤ 100) (hfit : ∀ c ∈ cs, Fit c) (v : Value) (w : World) (h : IcAt w (cs.map fun c => (c.p.code, c.val)) v)
    (hq : ∀ (p m y : Nat) (mv : Value) (old : Bool) (w : World), w.cell? ⟨p, 0, none⟩ = some (.int .i64 q) → w.cell? ⟨m, 0, none⟩ = some mv → w.cell? ⟨y, 0, none⟩ = some (.bool old) → w.frozen? ⟨y, 0, none⟩ = false → MaAt w cs mv →
      Calls Tryz.prog 19 #[.pointer (some ⟨p, 0, none⟩), .pointer (some ⟨m, 0, none⟩), .pointer (some ⟨y, 0, none⟩)] w fun e w' => e = .returned (.tuple #[]) ∧ ∃ w1, Ext w w1 ∧ w' = w1.setCell ⟨y, 0, none⟩ (.bool b)) :
    Calls Tryz.prog 12 #[.int .i64 q, v] w fun e w' => e = .returned (.bool b) ∧ Ext w w' := by
  have hmf : ∀ (fn : Fn) (first cap : Array Value) (w : World), (Instr.makeFunc fn first cap).run Tryz.prog w = .ok (.func fn first cap) w := fun _ _ _ _ => rfl
  have HA := Lib.hid (fun w h => address_ok cs hne h100 hfit v w h)
  have HI := Lib.hid h
  have HQ := Lib.hid hq
  clear hne h100 hfit h hq
  go_enter Tryz.func12, Tryz.ntmps12
  go_wp2_with (fail)
  have hp0 : ((w.alloc (.cells #[.int .i64 q] 3)).alloc (.cells #[.bool false] 4)).cell? ⟨w.heap.size, 0, none⟩ = some (.int .i64 q) := by simp [go_sem]
  have hy0 : ((w.alloc (.cells #[.int .i64 q] 3)).alloc (.cells #[.bool false] 4)).cell? ⟨w.heap.size + 1, 0, none⟩ = some (.bool false) := by simp [go_sem]
  have hz0 : ((w.alloc (.cells #[.int .i64 q] 3)).alloc (.cells #[.bool false] 4)).frozen? ⟨w.heap.size + 1, 0, none⟩ = false := by simp [go_sem]
  have hE0 : Ext w ((w.alloc (.cells #[.int .i64 q] 3)).alloc (.cells #[.bool false] 4)) := ((Ext.refl w).alloc _).alloc _
  have hs0 : ((w.alloc (.cells #[.int .i64 q] 3)).alloc (.cells #[.bool false] 4)).heap.size = w.heap.size + 2 := by simp
  generalize ((w.alloc (.cells #[.int .i64 q] 3)).alloc (.cells #[.bool false] 4)) = w0 at *
  refine (HA.out w0 (hE0.icAt HI.out)).mono ?_
  rintro e w1 ⟨u, rfl, hm, he1⟩
  obtain ⟨gu, ou, cau, hu, -, -⟩ := id hm
  subst hu
  have hp1 := he1.cell hp0
  have hy1 := he1.cell hy0
  have hz1 : w1.frozen? ⟨w.heap.size + 1, 0, none⟩ = false := (Below.frozen he1 (by simp [hs0])).trans hz0
  have hE1 := hE0.trans he1
  have hs1 : w.heap.size + 2 ≤ w1.heap.size := by have := he1.size; omega
  have HE := Lib.hid hE1
  have HM := Lib.hid hm
  clear hp0 hy0 hz0 hE0 hs0 he1 hE1 hm
  go_wp2_with (fail)
  have hE2 : Ext w (w1.alloc (.cells #[.slice (some ⟨gu, ou, none⟩) cs.length cau] 39)) := HE.out.alloc _
  have hX : Ext w1 (w1.alloc (.cells #[.slice (some ⟨gu, ou, none⟩) cs.length cau] 39)) := (Ext.refl w1).alloc _
  have hm2 : (w1.alloc (.cells #[.slice (some ⟨gu, ou, none⟩) cs.length cau] 39)).cell? ⟨w1.heap.size, 0, none⟩ = some (.slice (some ⟨gu, ou, none⟩) cs.length cau) := by simp [go_sem]
  have hs2 : (w1.alloc (.cells #[.slice (some ⟨gu, ou, none⟩) cs.length cau] 39)).heap.size = w1.heap.size + 1 := by simp
  generalize (w1.alloc (.cells #[.slice (some ⟨gu, ou, none⟩) cs.length cau] 39)) = w2 at *
  have hp2 := hX.cell hp1
  have hy2 := hX.cell hy1
  have hz2 : w2.frozen? ⟨w.heap.size + 1, 0, none⟩ = false := (Below.frozen hX (by simp; omega)).trans hz1
  have hA2 := hX.maAt HM.out
  refine (safe_ok w.heap.size w1.heap.size (w.heap.size + 1) b w2 (by omega) (fun o => ?c1)).mono ?_
  case c1 =>
    have hO : Ext w2 (w2.alloc o) := (Ext.refl w2).alloc o
    exact HQ.out _ _ _ _ false _ (hO.cell hp2) (hO.cell hm2) (hO.cell hy2) ((Below.frozen hO (by simp; omega)).trans hz2) (hO.maAt hA2)
  rintro e w' ⟨rfl, w3, he3, rfl⟩
  have hy3 := he3.cell hy2
  have hz3 : w3.frozen? ⟨w.heap.size + 1, 0, none⟩ = false := (Below.frozen he3 (by simp; omega)).trans hz2
  have hy4 : ((w3.setCell ⟨w.heap.size + 1, 0, none⟩ (.bool b)).setCell ⟨w2.heap.size, 0, none⟩ (.bool true)).cell? ⟨w.heap.size + 1, 0, none⟩ = some (.bool b) := by
    rw [World.cell?_setCell_other _ _ _ _ (fun h => by have := (Addr.mk.inj h).1; omega)]
    exact World.cell?_setCell_same _ _ _ hy3
  have hz4 : ((w3.setCell ⟨w.heap.size + 1, 0, none⟩ (.bool b)).setCell ⟨w2.heap.size, 0, none⟩ (.bool true)).frozen? ⟨w.heap.size + 1, 0, none⟩ = false := by simp [hz3]
  have hE4 : Ext w ((w3.setCell ⟨w.heap.size + 1, 0, none⟩ (.bool b)).setCell ⟨w2.heap.size, 0, none⟩ (.bool true)) := Below.setCell (Below.setCell (hE2.trans he3) (by simp) _) (by simp; omega) _
  generalize ((w3.setCell ⟨w.heap.size + 1, 0, none⟩ (.bool b)).setCell ⟨w2.heap.size, 0, none⟩ (.bool true)) = w4 at *
  have HE4 := Lib.hid hE4
  clear hE4
  go_wp2_with (fail)
  have hy5 : (w4.setCell ⟨w.heap.size + 1, 0, none⟩ (.bool b)).cell? ⟨w.heap.size + 1, 0, none⟩ = some (.bool b) := World.cell?_setCell_same _ _ _ hy4
  refine bodyPost_ret (v := .bool b) (by simp [results, Tryz.results12, go_sem, hy5]) rfl ⟨rfl, Below.setCell HE4.out (by simp) _⟩
end Go.Proofs.YtdlmmaolacjnaaaGreatDoor
namespace Go.Proofs.YtdlmmaolacjnaaaGreatDoor
set_option linter.unusedVariables false
set_option linter.unusedSimpArgs false
open Go.RowKit Go.Sort

theorem icAt_two (w : World) (t1 t2 t3 : TypeId) (z1 z2 : Nat) (h1 : z1 = w.heap.size) (h2 : z2 = w.heap.size + 1) : IcAt (((w.alloc (.cells #[.int .u8 127, .int .u8 0, .int .u8 0, .int .u8 1] t1)).alloc (.cells #[.int .u8 4, .int .u8 210] t2)).alloc
      (.cells #[.int .i64 4, .slice (some ⟨z1, 0, none⟩) 4 4, .int .i64 273, .slice (some ⟨z2, 0, none⟩) 2 2] t3)) [(4, [127, 0, 0, 1]), (273, [4, 210])] (.slice (some ⟨w.heap.size + 1 + 1, 0, none⟩) 2 2) := by
  subst h1; subst h2
  have r1 := Ext.row ((Ext.refl (w.alloc (.cells #[.int .u8 127, .int .u8 0, .int .u8 0, .int .u8 1] t1))).alloc (.cells #[.int .u8 4, .int .u8 210] t2)) (row_new w #[.int .u8 127, .int .u8 0, .int .u8 0, .int .u8 1] t1)
  generalize hw1 : w.alloc (.cells #[.int .u8 127, .int .u8 0, .int .u8 0, .int .u8 1] t1) = w1 at *
  have hs1 : w1.heap.size = w.heap.size + 1 := by rw [← hw1]; simp
  have r2 := row_new w1 #[.int .u8 4, .int .u8 210] t2
  generalize hw2 : w1.alloc (.cells #[.int .u8 4, .int .u8 210] t2) = w2 at *
  have hs2 : w2.heap.size = w.heap.size + 1 + 1 := by rw [← hw2]; simp [hs1]
  have hE := (Ext.refl w2).alloc (.cells #[.int .i64 4, .slice (some ⟨w.heap.size, 0, none⟩) 4 4, .int .i64 273, .slice (some ⟨w.heap.size + 1, 0, none⟩) 2 2] t3)
  have r3 := row_new w2 #[.int .i64 4, .slice (some ⟨w.heap.size, 0, none⟩) 4 4, .int .i64 273, .slice (some ⟨w.heap.size + 1, 0, none⟩) 2 2] t3
  rw [hs2] at r3
  rw [hs1] at r2
  refine ⟨_, 0, 2, rfl, Nat.le_refl _, fun i hi => ?_⟩
  match i, hi with
  | 0, _ => exact ⟨_, r3 0 _ rfl, r3 1 _ rfl, By.of_row (l := [127, 0, 0, 1]) (hE.row r1) (Nat.le_refl _)⟩
  | 1, _ => exact ⟨_, r3 2 _ rfl, r3 3 _ rfl, By.of_row (l := [4, 210]) (hE.row r2) (Nat.le_refl _)⟩
theorem icAt_tail {w : World} {x : Nat × List UInt8} {xs : List (Nat × List UInt8)} {g o n cap : Nat} (h : IcAt w (x :: xs) (.slice (some ⟨g, o, none⟩) n cap)) : IcAt w xs (.slice (some ⟨g, o + 2, none⟩) (n - 1) (cap - 1)) := by
  obtain ⟨g', o', cap', he, hc, hcs⟩ := h
  injection he with h1 h2 h3
  injection h1 with h1
  injection h1 with h4 h5 h6
  subst h2; subst h3; subst h4; subst h5
  rw [List.length_cons] at hc
  refine ⟨g, o + 2, cap - 1, by simp, by omega, fun i hi => ?_⟩
  obtain ⟨u, k1, k2, k3⟩ := hcs (i + 1) (by simpa using hi)
  rw [show o + 2 * (i + 1) = o + 2 + 2 * i by omega] at k1
  rw [show o + (2 * (i + 1) + 1) = o + 2 + (2 * i + 1) by omega] at k2
  exact ⟨u, k1, k2, k3⟩

theorem maTwo_ok (w : World) : Calls Tryz.prog 11 #[] w fun e w' => ∃ g, e = .returned (.slice (some ⟨g, 0, none⟩) 2 2) ∧ IcAt w' [(4, [127, 0, 0, 1]), (273, [4, 210])] (.slice (some ⟨g, 0, none⟩) 2 2) ∧ Ext w w' := by
  go_enter Tryz.func11, Tryz.ntmps11
  go_wp2_with (fail)
  go_ret
  exact ⟨_, rfl, icAt_two w _ _ _ _ _ rfl rfl, (((Ext.refl w).alloc _).alloc _).alloc _⟩

theorem fit_ca : Fit ca := ⟨coded_4, rfl, by decide, by decide, by decide, by decide⟩
theorem fit_cu : Fit cu := ⟨coded_273, rfl, by decide, by decide, by decide, by decide⟩
theorem fit_two : ∀ c ∈ [ca, cu], Fit c := by
  intro c hc
  simp at hc
  rcases hc with rfl | rfl
  · exact fit_ca
  · exact fit_cu

/-- The loopback question at the thin address. -/
theorem askA_ok (g : Nat) (w : World) (h : IcAt w [(4, [127, 0, 0, 1]), (273, [4, 210])] (.slice (some ⟨g, 0, none⟩) 2 2)) : Calls Tryz.prog 12 #[.int .i64 1, .slice (some ⟨g, 0, none⟩) 2 2] w fun e w' => e = .returned (.bool true) ∧ Ext w w' :=
  netAsk_ok 1 true [ca, cu] (by simp) (by decide) fit_two _ w h fun p m y mv old w hp hm hy hz hA => by
    obtain ⟨g, o, cap, rfl, hcap, hcs⟩ := hA
    exact ask1_ok p m y _ true old w hp hm hy hz (isLoop2_ok g o cap hcap w (hcs 0 (by decide)))
theorem askB_ok (g : Nat) (w : World) (h : IcAt w [(4, [127, 0, 0, 1]), (273, [4, 210])] (.slice (some ⟨g, 0, none⟩) 2 2)) : Calls Tryz.prog 12 #[.int .i64 1, .slice (some ⟨g, 2, none⟩) 1 1] w fun e w' => e = .returned (.bool false) ∧ Ext w w' :=
  netAsk_ok 1 false [cu] (by simp) (by decide) (by intro c hc; simp at hc; subst hc; exact fit_cu) _ w (icAt_tail h) fun p m y mv old w hp hm hy hz hA => by
    obtain ⟨g, o, cap, rfl, hcap, hcs⟩ := hA
    exact ask1_ok p m y _ false old w hp hm hy hz (isLoop1_ok g o cap w (hcs 0 (by decide)))
theorem askC_ok (g : Nat) (w : World) (h : IcAt w [(4, [127, 0, 0, 1]), (273, [4, 210])] (.slice (some ⟨g, 0, none⟩) 2 2)) : Calls Tryz.prog 12 #[.int .i64 0, .slice (some ⟨g, 0, none⟩) 2 2] w fun e w' => e = .returned (.bool true) ∧ Ext w w' :=
  netAsk_ok 0 true [ca, cu] (by simp) (by decide) fit_two _ w h fun p m y mv old w hp hm hy hz hA => by
    obtain ⟨g, o, cap, rfl, hcap, hcs⟩ := hA
    exact ask0_ok p m y _ true old w hp hm hy hz (isThin_ok g o cap hcap w (hcs 0 (by decide)) (hcs 1 (by decide)))
theorem ipTwo_ok (g : Nat) (w : World) (h : IcAt w [(4, [127, 0, 0, 1]), (273, [4, 210])] (.slice (some ⟨g, 0, none⟩) 2 2)) : Calls Tryz.prog 8 #[.slice (some ⟨g, 0, none⟩) 2 2] w fun e w' => ∃ g cap, e = .returned (.tuple #[.slice (some ⟨g, 0, none⟩) 4 cap, .bool true]) ∧ Row w' g 0 ([127, 0, 0, 1].map B) ∧ Ext w w' :=
  (netToIP_ok [ca, cu] (by simp) fit_two 0 ca rfl (by decide) (fun i c hi => by omega) (.inl rfl) _ w h).mono fun e w' ⟨g', cap, h1, _, h3, h4⟩ => ⟨g', cap, h1, h3, h4⟩
theorem inFour_ok (g g' c c' : Nat) (w : World) (h : Row w g 0 ([127, 0, 0, 1].map B)) (h' : Row w g' 0 ([127, 0, 0, 1].map B)) : Calls Tryz.prog 10 #[.slice (some ⟨g, 0, none⟩) 4 c, .int .i64 32, .slice (some ⟨g', 0, none⟩) 4 c'] w fun e w' => e = .returned (.bool true) ∧ w = w' :=
  (netIn_ok [127, 0, 0, 1] [127, 0, 0, 1] (by simp) (by decide) (by decide) c g 0 c' g' 0 w h h').mono fun e w' ⟨h1, h2⟩ => ⟨by rw [h1]; rfl, h2⟩

end Go.Proofs.YtdlmmaolacjnaaaGreatDoor
namespace Go.Proofs.YtdlmmaolacjnaaaGreatDoor
set_option linter.unusedVariables false
set_option linter.unusedSimpArgs false
open Go.RowKit Go.Sort

set_option maxHeartbeats 400000 in
set_option maxRecDepth 100000 in
theorem netAlive_ok (w : World) : Calls Tryz.prog 6 #[] w fun e w' => e = .returned (.bool true) ∧ Ext w w' := by
  go_enter Tryz.func6, Tryz.ntmps6
  go_wp2_with (first
    | (go_at_call 11; refine (maTwo_ok w).mono ?_; rintro e w1 ⟨g, rfl, hi', he1⟩; have hi := Lib.hid hi'; clear hi')
    | (go_at_call 8; refine (ipTwo_ok g w1 hi.out).mono ?_; rintro e w2 ⟨g2, cap2, rfl, hr2', he2⟩; have hr2 := Lib.hid hr2'; clear hr2'; have hi2 := Lib.hid (he2.icAt hi.out)))
  refine (askA_ok g w2 hi2.out).mono ?_
  rintro e w3 ⟨rfl, he3⟩
  have hi3 := Lib.hid (he3.icAt hi2.out)
  have hr3 := Lib.hid (he3.row hr2.out)
  go_wp2_with (fail)
  refine (askB_ok g w3 hi3.out).mono ?_
  rintro e w4 ⟨rfl, he4⟩
  have hi4 := Lib.hid (he4.icAt hi3.out)
  have hr4 := Lib.hid (he4.row hr3.out)
  go_wp2_with (fail)
  refine (askC_ok g w4 hi4.out).mono ?_
  rintro e w5 ⟨rfl, he5⟩
  have hr5 := Lib.hid (he5.row hr4.out)
  go_wp2_with (fail)
  have hE : Ext w (w5.alloc (.cells #[.int .u8 127, .int .u8 0, .int .u8 0, .int .u8 1] 5)) := ((he1.trans (he2.trans (he3.trans (he4.trans he5)))).alloc _)
  have HE := Lib.hid hE
  clear hE he1 he2 he3 he4 he5
  refine (inFour_ok g2 w5.heap.size cap2 4 _ (((Ext.refl w5).alloc _).row hr5.out) (row_new w5 _ _)).mono ?_
  rintro e w6 ⟨rfl, rfl⟩
  go_wp2_with (fail)
  go_ret
  exact ⟨rfl, HE.out⟩
end Go.Proofs.YtdlmmaolacjnaaaGreatDoor
