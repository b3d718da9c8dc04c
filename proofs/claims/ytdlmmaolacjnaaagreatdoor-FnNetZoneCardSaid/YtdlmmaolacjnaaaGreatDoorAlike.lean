/-
  The contracts of the reference's MaSame, MaAlike, MaPlain.
-/
import Derived.Test.YtdlmmaolacjnaaaGreatDoorAsk
import Derived.Deep.RegionHeld3
namespace Go.Proofs.YtdlmmaolacjnaaaGreatDoor
set_option linter.unusedVariables false
set_option linter.unusedSimpArgs false
open Go.RowKit Go.Sort

set_option maxRecDepth 100000 in
theorem maSame_ok (k : Nat) (l : List UInt8) (v1 v2 : Value) (w : World) (h1 : By w l v1) (h2 : By w l v2) :
    Calls Tryz.prog 17 #[.agg #[.int .i64 (k : Int), v1], .agg #[.int .i64 (k : Int), v2]] w fun e w' => e = .returned (.bool true) ∧ Ext w w' := by
  have HB := Lib.hid (And.intro h1 h2)
  clear h1 h2
  go_enter Tryz.func17, Tryz.ntmps17
  go_wp2_with (first
    | (refine wpList_new (w := w) rfl _ _ (boxI _ v1 _ _ _ _ rfl rfl) ?_; intro w1 hn1)
    | (refine wpList_new (w := w1) rfl _ _ (boxI _ v2 _ _ _ _ rfl rfl) ?_; intro w2 hn2; have he := hn1.ext.trans hn2.ext; have k1 : w2.cell? ⟨w.heap.size, 0, none⟩ = some (.int .i64 (k : Int)) := hn2.ext.cell (cell_of_row _ _ _ _ _ _ hn1.blk); have k2 : w2.cell? ⟨w.heap.size, 1, none⟩ = some v1 := hn2.ext.cell (cell_of_row _ _ _ _ _ _ hn1.blk); have k3 : w2.cell? ⟨w1.heap.size, 0, none⟩ = some (.int .i64 (k : Int)) := cell_of_row _ _ _ _ _ _ hn2.blk; have k4 : w2.cell? ⟨w1.heap.size, 1, none⟩ = some v2 := cell_of_row _ _ _ _ _ _ hn2.blk; have c1 := conv_str (he.by HB.out.1); have c2 := conv_str (he.by HB.out.2)))
  go_ret
  exact ⟨rfl, he⟩

set_option maxHeartbeats 1000000 in
set_option maxRecDepth 100000 in
theorem maAlike_ok (ics : List (Nat × List UInt8)) (h100 : ics.length ≤ 100) (u v : Value) (w : World) (h1 : IcAt w ics u) (h2 : IcAt w ics v) :
    Calls Tryz.prog 9 #[u, v] w fun e w' => e = .returned (.bool true) ∧ Ext w w' := by
  obtain ⟨g1, o1, cap1, rfl, hb1, hc1⟩ := h1
  obtain ⟨g2, o2, cap2, rfl, hb2, hc2⟩ := h2
  obtain ⟨n, hn⟩ : ∃ n, n = ics.length := ⟨_, rfl⟩
  rw [← hn] at h100 hb1 hb2 ⊢
  have HN := Lib.hid hn
  have HC := Lib.hid (And.intro hc1 hc2)
  clear hn hc1 hc2
  go_enter Tryz.func9, Tryz.ntmps9
  go_wp2
  go_loopg [13] (n + 1) (fun gk s13 wx => ∃ k : Nat, s13 = .int .i64 (k : Int) ∧ k ≤ n ∧ gk = n + 1 - k ∧ Ext w wx)
  case atStart => exact ⟨0, rfl, by omega, rfl, Ext.refl w⟩
  case round =>
    obtain ⟨k, rfl, hk, hgk, hE⟩ := hrel
    by_cases hlt : k < n
    · have hkI : (k : Int) < (n : Int) := by omega
      have hkc : k < ics.length := by rw [← HN.out]; exact hlt
      obtain ⟨a1, q1, q2, q3⟩ := HC.out.1 k hkc
      obtain ⟨a2, r1, r2, r3⟩ := HC.out.2 k hkc
      generalize ics[k] = ic at q1 q3 r1 r3
      rw [Nat.mul_comm] at q1 q2 r1 r2
      rw [← Nat.add_assoc] at q2 r2
      have k1 := Ext.cell hE q1
      have k2 := Ext.cell hE q2
      have k3 := Ext.cell hE r1
      have k4 := Ext.cell hE r2
      have HS := Lib.hid (fun w' (he : Ext w w') => maSame_ok ic.1 ic.2 a1 a2 w' (he.by q3) (he.by r3))
      clear q1 q2 q3 r1 r2 r3 hkc
      have kS : wr.cell? ⟨g1, o1 + k * 2, none⟩ = some (.int .i64 (ic.1 : Int)) ∧ wr.cell? ⟨g1, o1 + k * 2 + 1, none⟩ = some a1 ∧ wr.cell? ⟨g2, o2 + k * 2, none⟩ = some (.int .i64 (ic.1 : Int)) ∧ wr.cell? ⟨g2, o2 + k * 2 + 1, none⟩ = some a2 ∧ Ext w wr := ⟨k1, k2, k3, k4, hE⟩
      go_upto_region 6 with (fail)
      go_cut [25] (fun s25 wx => s25 = .bool false ∧ Ext w wx)
      case first =>
        refine wp_region_noPanic ?_
        refine wp_region_held_drew (S := fun w' => w'.cell? ⟨g1, o1 + k * 2, none⟩ = some (.int .i64 (ic.1 : Int)) ∧ w'.cell? ⟨g1, o1 + k * 2 + 1, none⟩ = some a1 ∧ w'.cell? ⟨g2, o2 + k * 2, none⟩ = some (.int .i64 (ic.1 : Int)) ∧ w'.cell? ⟨g2, o2 + k * 2 + 1, none⟩ = some a2 ∧ Ext w w') (by kernel_rfl) ?_ (fun hHeld => ?_)
        · exact keep5 (Ext.drew (Ext.refl _)) kS
        refine wpAnyH_take (i := 0) (v := ?_) (by simp only [List.getElem?_toArray, List.getElem?_cons_zero]; rfl) (by kernel_rfl) (by kernel_rfl) (by kernel_rfl) (fun _ _ _ h => h) (Or.inl ⟨by rfl, ?_⟩) hHeld ?_
        rotate_left
        · ((intro wS hSw; (try dsimp only at hSw); go_simp) <;> (try with_reducible rfl))
        (try simp only [Act.put, List.setIfInBounds_toArray, List.set_cons_zero, List.set_cons_succ])
        refine wpAnyH_take (i := 1) (v := ?_) (by simp only [List.getElem?_toArray, List.getElem?_cons_zero, List.getElem?_cons_succ]; rfl) (by kernel_rfl) (by kernel_rfl) (by kernel_rfl) (fun _ _ _ h => h) (Or.inl ⟨by rfl, ?_⟩) hHeld ?_
        rotate_left
        · ((intro wS hSw; (try dsimp only at hSw); go_simp) <;> (try with_reducible rfl))
        (try simp only [Act.put, List.setIfInBounds_toArray, List.set_cons_zero, List.set_cons_succ])
        refine wpAnyH_take (i := 2) (v := ?_) (by simp only [List.getElem?_toArray, List.getElem?_cons_zero, List.getElem?_cons_succ]; rfl) (by kernel_rfl) (by kernel_rfl) (by kernel_rfl) (fun _ _ _ h => h) (Or.inl ⟨by rfl, ?_⟩) hHeld ?_
        rotate_left
        · ((intro wS hSw; (try dsimp only at hSw); go_simp) <;> (try with_reducible rfl))
        (try simp only [Act.put, List.setIfInBounds_toArray, List.set_cons_zero, List.set_cons_succ])
        refine wpAnyH_take (i := 3) (v := ?_) (by simp only [List.getElem?_toArray, List.getElem?_cons_zero, List.getElem?_cons_succ]; rfl) (by kernel_rfl) (by kernel_rfl) (by kernel_rfl) (fun _ _ _ h => h) (Or.inl ⟨by rfl, ?_⟩) hHeld ?_
        rotate_left
        · ((intro wS hSw; (try dsimp only at hSw); go_simp) <;> (try with_reducible rfl))
        (try simp only [Act.put, List.setIfInBounds_toArray, List.set_cons_zero, List.set_cons_succ])
        refine wpAnyH_take (i := 4) (v := ?_) (by simp only [List.getElem?_toArray, List.getElem?_cons_zero, List.getElem?_cons_succ]; rfl) (by kernel_rfl) (by kernel_rfl) (by kernel_rfl) (fun _ _ _ h => h) (Or.inl ⟨by rfl, ?_⟩) hHeld ?_
        rotate_left
        · ((intro wS hSw; (try dsimp only at hSw); go_simp) <;> (try with_reducible rfl))
        (try simp only [Act.put, List.setIfInBounds_toArray, List.set_cons_zero, List.set_cons_succ])
        refine wpAnyH_take (i := 5) (v := ?_) (by simp only [List.getElem?_toArray, List.getElem?_cons_zero, List.getElem?_cons_succ]; rfl) (by kernel_rfl) (by kernel_rfl) (by kernel_rfl) (fun _ _ _ h => h) (Or.inl ⟨by rfl, ?_⟩) hHeld ?_
        rotate_left
        · ((intro wS hSw; (try dsimp only at hSw); go_simp) <;> (try with_reducible rfl))
        (try simp only [Act.put, List.setIfInBounds_toArray, List.set_cons_zero, List.set_cons_succ])
        refine wpAnyH_take (i := 6) (v := ?_) (by simp only [List.getElem?_toArray, List.getElem?_cons_zero, List.getElem?_cons_succ]; rfl) (by kernel_rfl) (by kernel_rfl) (by kernel_rfl) (fun _ _ _ h => h) (Or.inl ⟨by rfl, ?_⟩) hHeld ?_
        rotate_left
        · ((intro wS hSw; (try dsimp only at hSw); go_simp) <;> (try with_reducible rfl))
        (try simp only [Act.put, List.setIfInBounds_toArray, List.set_cons_zero, List.set_cons_succ])
        refine wpAnyH_take (i := 7) (v := ?_) (by simp only [List.getElem?_toArray, List.getElem?_cons_zero, List.getElem?_cons_succ]; rfl) (by kernel_rfl) (by kernel_rfl) (by kernel_rfl) (fun _ _ _ h => h) (Or.inl ⟨by rfl, ?_⟩) hHeld ?_
        rotate_left
        · ((intro wS hSw; (try dsimp only at hSw); go_simp) <;> (try with_reducible rfl))
        (try simp only [Act.put, List.setIfInBounds_toArray, List.set_cons_zero, List.set_cons_succ])
        refine wpAnyH_ready (rs := [8]) (by kernel_rfl) (by simp) ?_
        refine AllReadyH.cons (by simp only [List.getElem?_toArray, List.getElem?_cons_zero, List.getElem?_cons_succ]; rfl) (fun K hK => ?_) AllReadyH.nil
        go_simp
        (try go_upon)
        go_at_call 17
        ((with_reducible refine (HS.out _ hHeld.2.2.2.2).mono ?_); rintro e w' ⟨rfl, he⟩)
        refine hK.out _ _ ?_ (fun hHeld2 => ?_)
        · exact keep5 he hHeld
        clear hK K hHeld
        have hHeld := hHeld2
        clear hHeld2
        (try simp only [Act.put, List.setIfInBounds_toArray, List.set_cons_zero, List.set_cons_succ])
        refine wpAnyH_take (i := 9) (v := ?_) (by simp only [List.getElem?_toArray, List.getElem?_cons_zero, List.getElem?_cons_succ]; rfl) (by kernel_rfl) (by kernel_rfl) (by kernel_rfl) (fun _ _ _ h => h) (Or.inl ⟨by rfl, ?_⟩) hHeld ?_
        rotate_left
        · ((intro wS hSw; (try dsimp only at hSw); go_simp) <;> (try with_reducible rfl))
        (try simp only [Act.put, List.setIfInBounds_toArray, List.set_cons_zero, List.set_cons_succ])
        refine wpAnyH_done (by kernel_rfl) ?_ _
        refine NoPanic.normal ?_
        have hE2 := hHeld.2.2.2.2
        clear hHeld
        go_wp2
        go_meet
        exact ⟨rfl, hE2⟩
      case rest =>
        obtain ⟨rfl, hE2⟩ := hcut
        go_wp2
        go_roundg (n + 1 - (k + 1))
        case measure => omega
        case rel => exact ⟨k + 1, by go_num, by omega, rfl, hE2⟩
    · have hkI : ¬ ((k : Int) < (n : Int)) := by omega
      go_wp2
      go_ret
      exact ⟨rfl, hE⟩

end Go.Proofs.YtdlmmaolacjnaaaGreatDoor
