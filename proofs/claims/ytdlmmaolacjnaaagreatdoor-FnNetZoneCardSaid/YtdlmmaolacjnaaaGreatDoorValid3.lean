/-
  The contract of validateComponent at a component of a varying length.
-/
import Derived.Test.YtdlmmaolacjnaaaGreatDoorValid2
namespace Go.Proofs.YtdlmmaolacjnaaaGreatDoor
set_option linter.unusedVariables false
set_option linter.unusedSimpArgs false
open Go.RowKit Go.Sort

set_option maxHeartbeats 4000000 in
set_option maxRecDepth 100000 in
theorem validate_var (c : Cmp) (hg : Good c) (hneg : c.p.size < 0) (h128 : c.val.length < 128) (g o : Nat) (w : World) (h : CmpAt w c g o) (ht : Tab w) : Calls Tryz.prog 81 #[.pointer (some ⟨g, o, none⟩)] w fun e w' => e = .returned .nilIface ∧ Ext w w' := by
  obtain ⟨b, gv, hr, hp⟩ := id h
  have hpre : c.pre = Lib.uvarint c.p.code ++ [UInt8.ofNat c.val.length] := by unfold Cmp.pre; rw [if_pos hneg, Lib.uvarint_small h128]
  have hF : Facts w g o b gv c.str c.pre.length (Lib.uvarint c.p.code).length c.p.size c.p.tc := ⟨hr 0 _ rfl, hr 1 _ rfl, hr 2 _ rfl, hp.cell 2, hp.cell 3, hp.cell 5⟩
  have hV := fun w' (he : Ext w w') => valueAndErr_ok c hg.b2s g o w' (he.cmpAt h) (he.tab ht)
  have hB : Row w gv 0 ((Lib.uvarint c.p.code).map B) := hp.2
  have hs := cmp_size c
  have hs0 := cmp_str c
  have hcv := cmp_val c
  rw [hpre] at hF hs hs0 hcv
  rw [List.length_append, List.length_singleton] at hF hs hcv
  rw [List.append_assoc] at hs0
  have hL0 := Lib.uvarint_pos c.p.code
  have hL9 := Lib.uvarint_length64 (x := c.p.code) (by have := hg.code; omega)
  obtain ⟨uv, huv⟩ : ∃ uv, uv = Lib.uvarint c.p.code := ⟨_, rfl⟩
  rw [← huv] at hF hs hs0 hB hcv hL0 hL9
  obtain ⟨L, hL⟩ : ∃ L, L = uv.length := ⟨_, rfl⟩
  rw [← hL] at hF hs hcv hL0 hL9
  obtain ⟨s, hs1⟩ : ∃ s, s = c.str := ⟨_, rfl⟩
  rw [← hs1] at hF hs hs0 hcv
  obtain ⟨m, hm⟩ : ∃ m, m = c.val.length := ⟨_, rfl⟩
  rw [← hm] at hs hs0 h128
  obtain ⟨sz, hsz⟩ : ∃ sz, sz = c.p.size := ⟨_, rfl⟩
  rw [← hsz] at hF hneg
  have hm1 := hg.len
  rw [← hm] at hm1
  obtain ⟨t, ht'⟩ : ∃ t, t = s.extract (L + 1) s.size := ⟨_, rfl⟩
  obtain ⟨t2, ht2⟩ : ∃ t, t = s.extract L s.size := ⟨_, rfl⟩
  obtain ⟨t1, ht1⟩ : ∃ t, t = s.extract 0 L := ⟨_, rfl⟩
  have Ht : Hid (t.data.toList = c.val) := Lib.hid (by rw [ht']; exact hcv)
  have Ht2 : Hid (t2.data.toList = UInt8.ofNat m :: c.val) := Lib.hid (by rw [ht2]; exact str_tail hs0 _ hL)
  have Ht1 : Hid (t1.data.toList = uv) := Lib.hid (by rw [ht1]; exact str_head hs0 _ hL)
  have htz : t.size = m := by rw [str_len Ht.out, hm]
  have hLs : L ≤ s.size := by omega
  have hLs1 : L + 1 ≤ s.size := by omega
  obtain ⟨n, hn⟩ : ∃ n, n = L + 1 := ⟨_, rfl⟩
  rw [← hn] at hF hs ht' hLs1
  have hsl : ∀ w, (Instr.slice 9 (.string s) (some (.int .i64 (n : Int))) none none).run Tryz.prog w = .ok (.string t) w := by
    intro w; rw [ht']; exact slice_from s n hLs1 w
  have hsl2 : ∀ w, (Instr.slice 9 (.string s) (some (.int .i64 (L : Int))) none none).run Tryz.prog w = .ok (.string t2) w := by
    intro w; rw [ht2]; exact slice_from s L hLs w
  have hsl1 : ∀ w, (Instr.slice 9 (.string s) none (some (.int .i64 (L : Int))) none).run Tryz.prog w = .ok (.string t1) w := by
    intro w; rw [ht1]; exact slice_upto s L hLs w
  have hcv1 := fun w => run_bytes w t1
  have hcv2 := fun w => run_bytes w t
  have hcv3 := fun w => run_bytes w t2
  obtain ⟨a1, a2, a3, htc, hval⟩ := hg.val
  rw [htc] at hF
  have HF := Lib.hid hF
  have HV := Lib.hid hV
  have HB := Lib.hid hB
  have HL := Lib.hid hL
  have hsI : (s.size : Int) = (L : Int) + 1 + (m : Int) := by omega
  have HsI := Lib.hid hs
  have hL1 : (0 : Int) < (L : Int) := by omega
  have hL1' : ((L : Int) == 0) = false := szB (k := 0) (by omega)
  have hLsI : (L : Int) ≤ (s.size : Int) := by omega
  have hnsI : (n : Int) ≤ (s.size : Int) := by omega
  have hdn : decide (s.size < n) = false := by simp; omega
  have hRV : ∀ w v, By w (UInt8.ofNat m :: c.val) v → Calls Tryz.prog 129 #[v] w fun e w' => e = .returned (.tuple #[.int .i64 (m : Int), .int .i64 1, .nilIface]) ∧ w = w' := by
    intro w v hv
    have e : (UInt8.ofNat m).toNat = m := by simp; omega
    have := readVarint_small (UInt8.ofNat m) (by rw [e]; exact h128) c.val (by omega) v w hv
    rwa [e] at this
  have HR := Lib.hid hRV
  have hdl : decide (s.size < L) = false := by simp; omega
  have hVal : ∀ w v, By w c.val v → Calls Tryz.prog 384 #[.agg #[a1, a2, a3], v] w fun e w' => e = .returned .nilIface ∧ Ext w w' := by
    intro w v hv
    rcases hval with rfl | ⟨n, rfl, hn, hvb⟩
    · exact twrp_valnil a1 a2 w v
    · exact twrp_val n hn a1 a2 c.val hvb w v hv
  have HW := Lib.hid hVal
  have hsum : ((L : Int) + 1 + (m : Int) != (s.size : Int)) = false := by simp; omega
  have hwr : IntKind.i64.wrap ((L : Int) + 1) = (L : Int) + 1 ∧ IntKind.i64.wrap ((L : Int) + 1 + (m : Int)) = (L : Int) + 1 + (m : Int) := by constructor <;> (rw [IntKind.wrap_i64]; omega)
  have HSum := Lib.hid (And.intro hsum hwr)
  clear hsum hwr
  clear hRV hn ht2 hsz hF hV hB hL hcv hval hVal hpre hr hp hs hs0 huv hs1 hm ht' ht1 htc hg h hsI
  have he0 := Ext.refl w
  obtain ⟨k0, k1, k2, k3, k4, k5⟩ := HF.out
  go_enter Tryz.func81, Tryz.ntmps81
  go_upto_region 5 with (fail)
  go_cut [27] (fun s27 wx => s27 = .bool false ∧ Ext w wx)
  case first =>
    as_aux_lemma =>
      go_quiet (fail)
      go_wp2
      go_meet
      exact ⟨rfl, ext_drewN _ _⟩
  case rest =>
    obtain ⟨rfl, he1⟩ := hcut
    clear k0 k1 k2 k3 k4 k5
    obtain ⟨k0, k1, k2, k3, k4, k5⟩ := HF.out.ext he1
    go_upto_region 9 with (fail)
    go_cut [52] (fun s52 wx => s52 = .bool false ∧ Ext w wx)
    case first =>
      as_aux_lemma =>
        go_quiet (fail)
        go_wp2
        go_meet
        exact ⟨rfl, he1.trans (ext_drewN _ _)⟩
    case rest =>
      obtain ⟨rfl, he2⟩ := hcut
      clear k0 k1 k2 k3 k4 k5 he1
      obtain ⟨k0, k1, k2, k3, k4, k5⟩ := HF.out.ext he2
      go_upto_region 11 with (fail)
      go_cut [76] (fun s76 wx => s76 = .bool false ∧ Ext w wx)
      case first =>
        as_aux_lemma =>
          have HM : Hid (Calls Tryz.prog 128 #[.slice (some ⟨wc.heap.size, 0, none⟩) t1.size (grownCap wc.drew t1.size 0 5), .slice (some ⟨gv, 0, none⟩) L L] (Lib.bytesWorld wc.drew 5 t1) fun e w' => e = .returned (.bool true) ∧ Lib.bytesWorld wc.drew 5 t1 = w') := Lib.hid (by
            have h1 := by_bytesWorld wc.drew t1 uv Ht1.out
            have h2 : By (Lib.bytesWorld wc.drew 5 t1) uv (.slice (some ⟨gv, 0, none⟩) L L) := by
              rw [HL.out]
              exact By.of_row (((he2.trans (Ext.drew (Ext.refl _))).trans (ext_bytesWorld _ _ _)).row HB.out) (Nat.le_refl _)
            have h3 := bytesEqual_ok uv uv _ _ _ h1 h2
            rw [decide_eq_true rfl] at h3
            exact h3)
          have kS := And.intro k0 (And.intro k1 (And.intro k2 (And.intro k3 he2)))
          refine wp_region_noPanic ?_
          refine wp_region_held_drew (S := fun w' => w'.cell? ⟨g, o, none⟩ = some (.string s) ∧ w'.cell? ⟨g, o + 1, none⟩ = some (.pointer (some ⟨b, 0, none⟩)) ∧ w'.cell? ⟨g, o + 2, none⟩ = some (.int .i64 (n : Int)) ∧ w'.cell? ⟨b, 2, none⟩ = some (.slice (some ⟨gv, 0, none⟩) L L) ∧ Ext w w') (by kernel_rfl) ?_ (fun hHeld => ?_)
          · exact keep5 (Ext.drew (Ext.refl _)) kS
          refine wpAnyH_take (i := 0) (v := ?_) (by simp only [List.getElem?_toArray, List.getElem?_cons_zero]; rfl) (by kernel_rfl) (by kernel_rfl) (by kernel_rfl) (fun _ _ _ h => h) (Or.inl ⟨by rfl, ?_⟩) hHeld ?_
          rotate_left
          · ((intro wS hSw; (try dsimp only at hSw); go_simp) <;> (try with_reducible rfl))
          (try simp only [Act.put, List.setIfInBounds_toArray, List.set_cons_zero, List.set_cons_succ])
          refine wpAnyH_take (i := 1) (v := ?_) (by simp only [List.getElem?_toArray, List.getElem?_cons_zero, List.getElem?_cons_succ]; rfl) (by kernel_rfl) (by kernel_rfl) (by kernel_rfl) (fun _ _ _ h => h) (Or.inl ⟨by rfl, ?_⟩) hHeld ?_
          rotate_left
          · ((intro wS hSw; (try dsimp only at hSw); go_simp) <;> (try with_reducible rfl))
          (try simp only [Act.put, List.setIfInBounds_toArray, List.set_cons_zero, List.set_cons_succ])
          refine wpAnyH_take (i := 2) (v := ?_) (by simp only [List.getElem?_toArray, List.getElem?_cons_zero, List.getElem?_cons_succ]; rfl) (by kernel_rfl) (by kernel_rfl) (by kernel_rfl) (fun _ _ _ h => h) (Or.inl ⟨by rfl, ?_⟩) hHeld ?_
          rotate_left
          · ((intro wS hSw; (try dsimp only at hSw); go_simp) <;> (try with_reducible rfl))
          (try simp only [Act.put, List.setIfInBounds_toArray, List.set_cons_zero, List.set_cons_succ])
          refine wpAnyH_take (i := 3) (v := ?_) (by simp only [List.getElem?_toArray, List.getElem?_cons_zero, List.getElem?_cons_succ]; rfl) (by kernel_rfl) (by kernel_rfl) (by kernel_rfl) (fun _ _ _ h => h) (Or.inl ⟨by rfl, ?_⟩) hHeld ?_
          rotate_left
          · ((intro wS hSw; (try dsimp only at hSw); go_simp) <;> (try with_reducible rfl))
          (try simp only [Act.put, List.setIfInBounds_toArray, List.set_cons_zero, List.set_cons_succ])
          refine wpAnyH_take (i := 4) (v := ?_) (by simp only [List.getElem?_toArray, List.getElem?_cons_zero, List.getElem?_cons_succ]; rfl) (by kernel_rfl) (by kernel_rfl) (by kernel_rfl) (fun _ _ _ h => h) (Or.inl ⟨by rfl, ?_⟩) hHeld ?_
          rotate_left
          · ((intro wS hSw; (try dsimp only at hSw); go_simp) <;> (try with_reducible rfl))
          (try simp only [Act.put, List.setIfInBounds_toArray, List.set_cons_zero, List.set_cons_succ])
          refine wpAnyH_take (i := 5) (v := ?_) (by simp only [List.getElem?_toArray, List.getElem?_cons_zero, List.getElem?_cons_succ]; rfl) (by kernel_rfl) (by kernel_rfl) (by kernel_rfl) (fun _ _ _ h => h) (Or.inl ⟨by rfl, ?_⟩) hHeld ?_
          rotate_left
          · ((intro wS hSw; (try dsimp only at hSw); go_simp) <;> (try with_reducible rfl))
          (try simp only [Act.put, List.setIfInBounds_toArray, List.set_cons_zero, List.set_cons_succ])
          refine wpAnyH_take (i := 6) (v := ?_) (by simp only [List.getElem?_toArray, List.getElem?_cons_zero, List.getElem?_cons_succ]; rfl) (by kernel_rfl) (by kernel_rfl) (by kernel_rfl) (fun _ _ _ h => h) (Or.inl ⟨by rfl, ?_⟩) hHeld ?_
          rotate_left
          · ((intro wS hSw; (try dsimp only at hSw); go_simp) <;> (try with_reducible rfl))
          (try simp only [Act.put, List.setIfInBounds_toArray, List.set_cons_zero, List.set_cons_succ])
          refine wpAnyH_take (i := 7) (v := ?_) (by simp only [List.getElem?_toArray, List.getElem?_cons_zero, List.getElem?_cons_succ]; rfl) (by kernel_rfl) (by kernel_rfl) (by kernel_rfl) (fun _ _ _ h => h) (Or.inl ⟨by rfl, ?_⟩) hHeld ?_
          rotate_left
          · ((intro wS hSw; (try dsimp only at hSw); go_simp) <;> (try with_reducible rfl))
          (try simp only [Act.put, List.setIfInBounds_toArray, List.set_cons_zero, List.set_cons_succ])
          refine wpAnyH_take (i := 8) (v := ?_) (by simp only [List.getElem?_toArray, List.getElem?_cons_zero, List.getElem?_cons_succ]; rfl) (by kernel_rfl) (by kernel_rfl) (by kernel_rfl) (fun _ _ _ h => h) (Or.inl ⟨by rfl, ?_⟩) hHeld ?_
          rotate_left
          · ((intro wS hSw; (try dsimp only at hSw); go_simp) <;> (try with_reducible rfl))
          (try simp only [Act.put, List.setIfInBounds_toArray, List.set_cons_zero, List.set_cons_succ])
          refine wpAnyH_take (i := 9) (v := ?_) (by simp only [List.getElem?_toArray, List.getElem?_cons_zero, List.getElem?_cons_succ]; rfl) (by kernel_rfl) (by kernel_rfl) (by kernel_rfl) (fun _ _ _ h => h) (Or.inl ⟨by rfl, ?_⟩) hHeld ?_
          rotate_left
          · ((intro wS hSw; (try dsimp only at hSw); go_simp) <;> (try with_reducible rfl))
          (try simp only [Act.put, List.setIfInBounds_toArray, List.set_cons_zero, List.set_cons_succ])
          refine wpAnyH_take (i := 10) (v := ?_) (by simp only [List.getElem?_toArray, List.getElem?_cons_zero, List.getElem?_cons_succ]; rfl) (by kernel_rfl) (by kernel_rfl) (by kernel_rfl) (fun _ _ _ h => h) (Or.inl ⟨by rfl, ?_⟩) hHeld ?_
          rotate_left
          · ((intro wS hSw; (try dsimp only at hSw); go_simp) <;> (try with_reducible rfl))
          (try simp only [Act.put, List.setIfInBounds_toArray, List.set_cons_zero, List.set_cons_succ])
          refine wpAnyH_take (i := 11) (v := ?_) (by simp only [List.getElem?_toArray, List.getElem?_cons_zero, List.getElem?_cons_succ]; rfl) (by kernel_rfl) (by kernel_rfl) (by kernel_rfl) (fun _ _ _ h => h) (Or.inl ⟨by rfl, ?_⟩) hHeld ?_
          rotate_left
          · ((intro wS hSw; (try dsimp only at hSw); go_simp) <;> (try with_reducible rfl))
          (try simp only [Act.put, List.setIfInBounds_toArray, List.set_cons_zero, List.set_cons_succ])
          refine wpAnyH_take (i := 12) (v := ?_) (by simp only [List.getElem?_toArray, List.getElem?_cons_zero, List.getElem?_cons_succ]; rfl) (by kernel_rfl) (by kernel_rfl) (by kernel_rfl) (fun _ _ _ h => h) (Or.inl ⟨by rfl, ?_⟩) hHeld ?_
          rotate_left
          · ((intro wS hSw; (try dsimp only at hSw); go_simp) <;> (try with_reducible rfl))
          (try simp only [Act.put, List.setIfInBounds_toArray, List.set_cons_zero, List.set_cons_succ])
          refine wpAnyH_take (i := 14) (v := ?_) (by simp only [List.getElem?_toArray, List.getElem?_cons_zero, List.getElem?_cons_succ]; rfl) (by kernel_rfl) (by kernel_rfl) (by kernel_rfl) (fun _ _ _ h => h) (Or.inl ⟨by rfl, ?_⟩) hHeld ?_
          rotate_left
          · ((intro wS hSw; (try dsimp only at hSw); go_simp) <;> (try with_reducible rfl))
          (try simp only [Act.put, List.setIfInBounds_toArray, List.set_cons_zero, List.set_cons_succ])
          refine wpAnyH_take (i := 15) (v := ?_) (by simp only [List.getElem?_toArray, List.getElem?_cons_zero, List.getElem?_cons_succ]; rfl) (by kernel_rfl) (by kernel_rfl) (by kernel_rfl) (fun _ _ _ h => h) (Or.inl ⟨by rfl, ?_⟩) hHeld ?_
          rotate_left
          · ((intro wS hSw; (try dsimp only at hSw); go_simp) <;> (try with_reducible rfl))
          (try simp only [Act.put, List.setIfInBounds_toArray, List.set_cons_zero, List.set_cons_succ])
          refine wpAnyH_take (i := 16) (v := ?_) (by simp only [List.getElem?_toArray, List.getElem?_cons_zero, List.getElem?_cons_succ]; rfl) (by kernel_rfl) (by kernel_rfl) (by kernel_rfl) (fun _ _ _ h => h) (Or.inl ⟨by rfl, ?_⟩) hHeld ?_
          rotate_left
          · ((intro wS hSw; (try dsimp only at hSw); go_simp) <;> (try with_reducible rfl))
          (try simp only [Act.put, List.setIfInBounds_toArray, List.set_cons_zero, List.set_cons_succ])
          refine wpAnyH_take (i := 17) (v := ?_) (by simp only [List.getElem?_toArray, List.getElem?_cons_zero, List.getElem?_cons_succ]; rfl) (by kernel_rfl) (by kernel_rfl) (by kernel_rfl) (fun _ _ _ h => h) (Or.inl ⟨by rfl, ?_⟩) hHeld ?_
          rotate_left
          · ((intro wS hSw; (try dsimp only at hSw); go_simp) <;> (try with_reducible rfl))
          (try simp only [Act.put, List.setIfInBounds_toArray, List.set_cons_zero, List.set_cons_succ])
          refine wpAnyH_take (i := 18) (v := ?_) (by simp only [List.getElem?_toArray, List.getElem?_cons_zero, List.getElem?_cons_succ]; rfl) (by kernel_rfl) (by kernel_rfl) (by kernel_rfl) (fun _ _ _ h => h) (Or.inl ⟨by rfl, ?_⟩) hHeld ?_
          rotate_left
          · ((intro wS hSw; (try dsimp only at hSw); go_simp) <;> (try with_reducible rfl))
          (try simp only [Act.put, List.setIfInBounds_toArray, List.set_cons_zero, List.set_cons_succ])
          refine wpAnyH_take (i := 19) (v := ?_) (by simp only [List.getElem?_toArray, List.getElem?_cons_zero, List.getElem?_cons_succ]; rfl) (by kernel_rfl) (by kernel_rfl) (by kernel_rfl) (fun _ _ _ h => h) (Or.inl ⟨by rfl, ?_⟩) hHeld ?_
          rotate_left
          · ((intro wS hSw; (try dsimp only at hSw); go_simp) <;> (try with_reducible rfl))
          (try simp only [Act.put, List.setIfInBounds_toArray, List.set_cons_zero, List.set_cons_succ])
          refine wpAnyH_take (i := 20) (v := ?_) (by simp only [List.getElem?_toArray, List.getElem?_cons_zero, List.getElem?_cons_succ]; rfl) (by kernel_rfl) (by kernel_rfl) (by kernel_rfl) (fun _ _ _ h => h) (Or.inl ⟨by rfl, ?_⟩) hHeld ?_
          rotate_left
          · ((intro wS hSw; (try dsimp only at hSw); go_simp) <;> (try with_reducible rfl))
          (try simp only [Act.put, List.setIfInBounds_toArray, List.set_cons_zero, List.set_cons_succ])
          refine wpAnyH_ready (rs := [13]) (by kernel_rfl) (by simp) ?_
          refine AllReadyH.cons (by simp only [List.getElem?_toArray, List.getElem?_cons_zero, List.getElem?_cons_succ]; rfl) (fun K hK => ?_) AllReadyH.nil
          go_simp
          refine hK.out _ _ ?_ (fun hHeld2 => ?_)
          · exact keep5 (ext_bytesWorld _ _ _) hHeld
          clear hK K hHeld
          have hHeld := hHeld2
          clear hHeld2
          (try simp only [Act.put, List.setIfInBounds_toArray, List.set_cons_zero, List.set_cons_succ])
          refine wpAnyH_ready (rs := [21]) (by kernel_rfl) (by simp) ?_
          refine AllReadyH.cons (by simp only [List.getElem?_toArray, List.getElem?_cons_zero, List.getElem?_cons_succ]; rfl) (fun K hK => ?_) AllReadyH.nil
          go_simp
          (try go_upon)
          go_at_call 128
          ((with_reducible refine HM.out.mono ?_); rintro e w' ⟨rfl, rfl⟩)
          refine hK.out _ _ ?_ (fun hHeld2 => ?_)
          · exact hHeld
          clear hK K hHeld
          have hHeld := hHeld2
          clear hHeld2
          (try simp only [Act.put, List.setIfInBounds_toArray, List.set_cons_zero, List.set_cons_succ])
          refine wpAnyH_take (i := 22) (v := ?_) (by simp only [List.getElem?_toArray, List.getElem?_cons_zero, List.getElem?_cons_succ]; rfl) (by kernel_rfl) (by kernel_rfl) (by kernel_rfl) (fun _ _ _ h => h) (Or.inl ⟨by rfl, ?_⟩) hHeld ?_
          rotate_left
          · ((intro wS hSw; (try dsimp only at hSw); go_simp) <;> (try with_reducible rfl))
          (try simp only [Act.put, List.setIfInBounds_toArray, List.set_cons_zero, List.set_cons_succ])
          refine wpAnyH_done (by kernel_rfl) ?_ _
          refine NoPanic.normal ?_
          have hE := hHeld.2.2.2.2
          clear hHeld
          go_wp2
          go_meet
          exact ⟨rfl, hE⟩
      case rest =>
        obtain ⟨rfl, he3⟩ := hcut
        clear k0 k1 k2 k3 k4 k5 he2
        obtain ⟨k0, k1, k2, k3, k4, k5⟩ := HF.out.ext he3
        go_upto_region 14 with (fail)
        go_cut [3, 4, 5] (fun s3 s4 s5 wx => s3 = .int .i64 (m : Int) ∧ s4 = .int .i64 1 ∧ s5 = .nilIface ∧ Ext w wx)
        case first =>
          as_aux_lemma =>
            have HM : Hid (Calls Tryz.prog 129 #[.slice (some ⟨wc.heap.size, 0, none⟩) t2.size (grownCap wc.drew t2.size 0 5)] (Lib.bytesWorld wc.drew 5 t2) fun e w' => e = .returned (.tuple #[.int .i64 (m : Int), .int .i64 1, .nilIface]) ∧ Lib.bytesWorld wc.drew 5 t2 = w') :=
              Lib.hid (HR.out _ _ (by_bytesWorld wc.drew t2 _ Ht2.out))
            have kS := And.intro k0 (And.intro k1 (And.intro k2 (And.intro k3 he3)))
            refine wp_region_noPanic ?_
            refine wp_region_held_drew (S := fun w' => w'.cell? ⟨g, o, none⟩ = some (.string s) ∧ w'.cell? ⟨g, o + 1, none⟩ = some (.pointer (some ⟨b, 0, none⟩)) ∧ w'.cell? ⟨g, o + 2, none⟩ = some (.int .i64 (n : Int)) ∧ w'.cell? ⟨b, 2, none⟩ = some (.slice (some ⟨gv, 0, none⟩) L L) ∧ Ext w w') (by kernel_rfl) ?_ (fun hHeld => ?_)
            · exact keep5 (Ext.drew (Ext.refl _)) kS
            refine wpAnyH_take (i := 0) (v := ?_) (by simp only [List.getElem?_toArray, List.getElem?_cons_zero]; rfl) (by kernel_rfl) (by kernel_rfl) (by kernel_rfl) (fun _ _ _ h => h) (Or.inl ⟨by rfl, ?_⟩) hHeld ?_
            rotate_left
            · ((intro wS hSw; (try dsimp only at hSw); go_simp) <;> (try with_reducible rfl))
            (try simp only [Act.put, List.setIfInBounds_toArray, List.set_cons_zero, List.set_cons_succ])
            refine wpAnyH_take (i := 1) (v := ?_) (by simp only [List.getElem?_toArray, List.getElem?_cons_zero, List.getElem?_cons_succ]; rfl) (by kernel_rfl) (by kernel_rfl) (by kernel_rfl) (fun _ _ _ h => h) (Or.inl ⟨by rfl, ?_⟩) hHeld ?_
            rotate_left
            · ((intro wS hSw; (try dsimp only at hSw); go_simp) <;> (try with_reducible rfl))
            (try simp only [Act.put, List.setIfInBounds_toArray, List.set_cons_zero, List.set_cons_succ])
            refine wpAnyH_take (i := 2) (v := ?_) (by simp only [List.getElem?_toArray, List.getElem?_cons_zero, List.getElem?_cons_succ]; rfl) (by kernel_rfl) (by kernel_rfl) (by kernel_rfl) (fun _ _ _ h => h) (Or.inl ⟨by rfl, ?_⟩) hHeld ?_
            rotate_left
            · ((intro wS hSw; (try dsimp only at hSw); go_simp) <;> (try with_reducible rfl))
            (try simp only [Act.put, List.setIfInBounds_toArray, List.set_cons_zero, List.set_cons_succ])
            refine wpAnyH_take (i := 3) (v := ?_) (by simp only [List.getElem?_toArray, List.getElem?_cons_zero, List.getElem?_cons_succ]; rfl) (by kernel_rfl) (by kernel_rfl) (by kernel_rfl) (fun _ _ _ h => h) (Or.inl ⟨by rfl, ?_⟩) hHeld ?_
            rotate_left
            · ((intro wS hSw; (try dsimp only at hSw); go_simp) <;> (try with_reducible rfl))
            (try simp only [Act.put, List.setIfInBounds_toArray, List.set_cons_zero, List.set_cons_succ])
            refine wpAnyH_take (i := 4) (v := ?_) (by simp only [List.getElem?_toArray, List.getElem?_cons_zero, List.getElem?_cons_succ]; rfl) (by kernel_rfl) (by kernel_rfl) (by kernel_rfl) (fun _ _ _ h => h) (Or.inl ⟨by rfl, ?_⟩) hHeld ?_
            rotate_left
            · ((intro wS hSw; (try dsimp only at hSw); go_simp) <;> (try with_reducible rfl))
            (try simp only [Act.put, List.setIfInBounds_toArray, List.set_cons_zero, List.set_cons_succ])
            refine wpAnyH_take (i := 5) (v := ?_) (by simp only [List.getElem?_toArray, List.getElem?_cons_zero, List.getElem?_cons_succ]; rfl) (by kernel_rfl) (by kernel_rfl) (by kernel_rfl) (fun _ _ _ h => h) (Or.inl ⟨by rfl, ?_⟩) hHeld ?_
            rotate_left
            · ((intro wS hSw; (try dsimp only at hSw); go_simp) <;> (try with_reducible rfl))
            (try simp only [Act.put, List.setIfInBounds_toArray, List.set_cons_zero, List.set_cons_succ])
            refine wpAnyH_take (i := 6) (v := ?_) (by simp only [List.getElem?_toArray, List.getElem?_cons_zero, List.getElem?_cons_succ]; rfl) (by kernel_rfl) (by kernel_rfl) (by kernel_rfl) (fun _ _ _ h => h) (Or.inl ⟨by rfl, ?_⟩) hHeld ?_
            rotate_left
            · ((intro wS hSw; (try dsimp only at hSw); go_simp) <;> (try with_reducible rfl))
            (try simp only [Act.put, List.setIfInBounds_toArray, List.set_cons_zero, List.set_cons_succ])
            refine wpAnyH_take (i := 7) (v := ?_) (by simp only [List.getElem?_toArray, List.getElem?_cons_zero, List.getElem?_cons_succ]; rfl) (by kernel_rfl) (by kernel_rfl) (by kernel_rfl) (fun _ _ _ h => h) (Or.inl ⟨by rfl, ?_⟩) hHeld ?_
            rotate_left
            · ((intro wS hSw; (try dsimp only at hSw); go_simp) <;> (try with_reducible rfl))
            (try simp only [Act.put, List.setIfInBounds_toArray, List.set_cons_zero, List.set_cons_succ])
            refine wpAnyH_take (i := 8) (v := ?_) (by simp only [List.getElem?_toArray, List.getElem?_cons_zero, List.getElem?_cons_succ]; rfl) (by kernel_rfl) (by kernel_rfl) (by kernel_rfl) (fun _ _ _ h => h) (Or.inl ⟨by rfl, ?_⟩) hHeld ?_
            rotate_left
            · ((intro wS hSw; (try dsimp only at hSw); go_simp) <;> (try with_reducible rfl))
            (try simp only [Act.put, List.setIfInBounds_toArray, List.set_cons_zero, List.set_cons_succ])
            refine wpAnyH_take (i := 9) (v := ?_) (by simp only [List.getElem?_toArray, List.getElem?_cons_zero, List.getElem?_cons_succ]; rfl) (by kernel_rfl) (by kernel_rfl) (by kernel_rfl) (fun _ _ _ h => h) (Or.inl ⟨by rfl, ?_⟩) hHeld ?_
            rotate_left
            · ((intro wS hSw; (try dsimp only at hSw); go_simp) <;> (try with_reducible rfl))
            (try simp only [Act.put, List.setIfInBounds_toArray, List.set_cons_zero, List.set_cons_succ])
            refine wpAnyH_take (i := 10) (v := ?_) (by simp only [List.getElem?_toArray, List.getElem?_cons_zero, List.getElem?_cons_succ]; rfl) (by kernel_rfl) (by kernel_rfl) (by kernel_rfl) (fun _ _ _ h => h) (Or.inl ⟨by rfl, ?_⟩) hHeld ?_
            rotate_left
            · ((intro wS hSw; (try dsimp only at hSw); go_simp) <;> (try with_reducible rfl))
            (try simp only [Act.put, List.setIfInBounds_toArray, List.set_cons_zero, List.set_cons_succ])
            refine wpAnyH_take (i := 11) (v := ?_) (by simp only [List.getElem?_toArray, List.getElem?_cons_zero, List.getElem?_cons_succ]; rfl) (by kernel_rfl) (by kernel_rfl) (by kernel_rfl) (fun _ _ _ h => h) (Or.inl ⟨by rfl, ?_⟩) hHeld ?_
            rotate_left
            · ((intro wS hSw; (try dsimp only at hSw); go_simp) <;> (try with_reducible rfl))
            (try simp only [Act.put, List.setIfInBounds_toArray, List.set_cons_zero, List.set_cons_succ])
            refine wpAnyH_take (i := 12) (v := ?_) (by simp only [List.getElem?_toArray, List.getElem?_cons_zero, List.getElem?_cons_succ]; rfl) (by kernel_rfl) (by kernel_rfl) (by kernel_rfl) (fun _ _ _ h => h) (Or.inl ⟨by rfl, ?_⟩) hHeld ?_
            rotate_left
            · ((intro wS hSw; (try dsimp only at hSw); go_simp) <;> (try with_reducible rfl))
            (try simp only [Act.put, List.setIfInBounds_toArray, List.set_cons_zero, List.set_cons_succ])
            refine wpAnyH_ready (rs := [13]) (by kernel_rfl) (by simp) ?_
            refine AllReadyH.cons (by simp only [List.getElem?_toArray, List.getElem?_cons_zero, List.getElem?_cons_succ]; rfl) (fun K hK => ?_) AllReadyH.nil
            go_simp
            refine hK.out _ _ ?_ (fun hHeld2 => ?_)
            · exact keep5 (ext_bytesWorld _ _ _) hHeld
            clear hK K hHeld
            have hHeld := hHeld2
            clear hHeld2
            (try simp only [Act.put, List.setIfInBounds_toArray, List.set_cons_zero, List.set_cons_succ])
            refine wpAnyH_ready (rs := [14]) (by kernel_rfl) (by simp) ?_
            refine AllReadyH.cons (by simp only [List.getElem?_toArray, List.getElem?_cons_zero, List.getElem?_cons_succ]; rfl) (fun K hK => ?_) AllReadyH.nil
            go_simp
            (try go_upon)
            go_at_call 129
            ((with_reducible refine HM.out.mono ?_); rintro e w' ⟨rfl, rfl⟩)
            refine hK.out _ _ ?_ (fun hHeld2 => ?_)
            · exact hHeld
            clear hK K hHeld
            have hHeld := hHeld2
            clear hHeld2
            (try simp only [Act.put, List.setIfInBounds_toArray, List.set_cons_zero, List.set_cons_succ])
            refine wpAnyH_take (i := 15) (v := ?_) (by simp only [List.getElem?_toArray, List.getElem?_cons_zero, List.getElem?_cons_succ]; rfl) (by kernel_rfl) (by kernel_rfl) (by kernel_rfl) (fun _ _ _ h => h) (Or.inl ⟨by rfl, ?_⟩) hHeld ?_
            rotate_left
            · ((intro wS hSw; (try dsimp only at hSw); go_simp) <;> (try with_reducible rfl))
            (try simp only [Act.put, List.setIfInBounds_toArray, List.set_cons_zero, List.set_cons_succ])
            refine wpAnyH_take (i := 16) (v := ?_) (by simp only [List.getElem?_toArray, List.getElem?_cons_zero, List.getElem?_cons_succ]; rfl) (by kernel_rfl) (by kernel_rfl) (by kernel_rfl) (fun _ _ _ h => h) (Or.inl ⟨by rfl, ?_⟩) hHeld ?_
            rotate_left
            · ((intro wS hSw; (try dsimp only at hSw); go_simp) <;> (try with_reducible rfl))
            (try simp only [Act.put, List.setIfInBounds_toArray, List.set_cons_zero, List.set_cons_succ])
            refine wpAnyH_take (i := 17) (v := ?_) (by simp only [List.getElem?_toArray, List.getElem?_cons_zero, List.getElem?_cons_succ]; rfl) (by kernel_rfl) (by kernel_rfl) (by kernel_rfl) (fun _ _ _ h => h) (Or.inl ⟨by rfl, ?_⟩) hHeld ?_
            rotate_left
            · ((intro wS hSw; (try dsimp only at hSw); go_simp) <;> (try with_reducible rfl))
            (try simp only [Act.put, List.setIfInBounds_toArray, List.set_cons_zero, List.set_cons_succ])
            refine wpAnyH_take (i := 18) (v := ?_) (by simp only [List.getElem?_toArray, List.getElem?_cons_zero, List.getElem?_cons_succ]; rfl) (by kernel_rfl) (by kernel_rfl) (by kernel_rfl) (fun _ _ _ h => h) (Or.inl ⟨by rfl, ?_⟩) hHeld ?_
            rotate_left
            · ((intro wS hSw; (try dsimp only at hSw); go_simp) <;> (try with_reducible rfl))
            (try simp only [Act.put, List.setIfInBounds_toArray, List.set_cons_zero, List.set_cons_succ])
            refine wpAnyH_take (i := 19) (v := ?_) (by simp only [List.getElem?_toArray, List.getElem?_cons_zero, List.getElem?_cons_succ]; rfl) (by kernel_rfl) (by kernel_rfl) (by kernel_rfl) (fun _ _ _ h => h) (Or.inl ⟨by rfl, ?_⟩) hHeld ?_
            rotate_left
            · ((intro wS hSw; (try dsimp only at hSw); go_simp) <;> (try with_reducible rfl))
            (try simp only [Act.put, List.setIfInBounds_toArray, List.set_cons_zero, List.set_cons_succ])
            refine wpAnyH_take (i := 20) (v := ?_) (by simp only [List.getElem?_toArray, List.getElem?_cons_zero, List.getElem?_cons_succ]; rfl) (by kernel_rfl) (by kernel_rfl) (by kernel_rfl) (fun _ _ _ h => h) (Or.inl ⟨by rfl, ?_⟩) hHeld ?_
            rotate_left
            · ((intro wS hSw; (try dsimp only at hSw); go_simp) <;> (try with_reducible rfl))
            (try simp only [Act.put, List.setIfInBounds_toArray, List.set_cons_zero, List.set_cons_succ])
            refine wpAnyH_take (i := 21) (v := ?_) (by simp only [List.getElem?_toArray, List.getElem?_cons_zero, List.getElem?_cons_succ]; rfl) (by kernel_rfl) (by kernel_rfl) (by kernel_rfl) (fun _ _ _ h => h) (Or.inl ⟨by rfl, ?_⟩) hHeld ?_
            rotate_left
            · ((intro wS hSw; (try dsimp only at hSw); go_simp) <;> (try with_reducible rfl))
            (try simp only [Act.put, List.setIfInBounds_toArray, List.set_cons_zero, List.set_cons_succ])
            refine wpAnyH_done (by kernel_rfl) ?_ _
            refine NoPanic.normal ?_
            have hE := hHeld.2.2.2.2
            clear hHeld
            go_wp2
            go_meet
            exact ⟨rfl, rfl, rfl, hE⟩
        case rest =>
          obtain ⟨rfl, rfl, rfl, he4⟩ := hcut
          clear k0 k1 k2 k3 k4 k5 he3
          obtain ⟨k0, k1, k2, k3, k4, k5⟩ := HF.out.ext he4
          go_upto_region 17 with (fail)
          go_cut [119] (fun s wx => s = .bool false ∧ Ext w wx)
          case first =>
            as_aux_lemma =>
              go_quiet (fail)
              go_wp2
              go_meet
              exact ⟨rfl, he4.trans (ext_drewN _ _)⟩
          case rest =>
            obtain ⟨rfl, he5⟩ := hcut
            clear k0 k1 k2 k3 k4 k5 he4
            obtain ⟨k0, k1, k2, k3, k4, k5⟩ := HF.out.ext he5
            go_upto_region 19 with (fail)
            go_cut [138] (fun s wx => s = .bool false ∧ Ext w wx)
            case first =>
              as_aux_lemma =>
                obtain ⟨hsum, hwr, hwr2⟩ := HSum.out
                go_quiet (fail)
                go_wp2
                go_meet
                exact ⟨rfl, he5.trans (ext_drewN _ _)⟩
            case rest =>
              obtain ⟨rfl, he6⟩ := hcut
              clear k0 k1 k2 k3 k4 k5 he5
              obtain ⟨k0, k1, k2, k3, k4, k5⟩ := HF.out.ext he6
              go_upto_region 26 with (fail)
              go_cut [8] (fun s wx => s = .nilIface ∧ Ext w wx)
              case first =>
                as_aux_lemma =>
                  go_wp2_with (go_at_call 75; refine (HV.out _ he6).mono ?_; rintro e w' ⟨sv, rfl, hev⟩)
                  go_meet
                  exact ⟨rfl, he6.trans hev⟩
              case rest =>
                obtain ⟨rfl, he7⟩ := hcut
                clear k0 k1 k2 k3 k4 k5 he6
                obtain ⟨k0, k1, k2, k3, k4, k5⟩ := HF.out.ext he7
                go_upto_region 30 with (fail)
                go_cut [8] (fun s wx => s = .nilIface ∧ Ext w wx)
                case first =>
                  as_aux_lemma =>
                    have HM : Hid (Calls Tryz.prog 384 #[.agg #[a1, a2, a3], .slice (some ⟨wc.heap.size, 0, none⟩) t.size (grownCap wc.drew t.size 0 5)] (Lib.bytesWorld wc.drew 5 t) fun e w' => e = .returned .nilIface ∧ Ext (Lib.bytesWorld wc.drew 5 t) w') :=
                      Lib.hid (HW.out _ _ (by_bytesWorld wc.drew t c.val Ht.out))
                    rw [htz] at HM
                    have kS := And.intro k0 (And.intro k1 (And.intro k2 (And.intro k5 he7)))
                    refine wp_region_noPanic ?_
                    refine wp_region_held_drew (S := fun w' => w'.cell? ⟨g, o, none⟩ = some (.string s) ∧ w'.cell? ⟨g, o + 1, none⟩ = some (.pointer (some ⟨b, 0, none⟩)) ∧ w'.cell? ⟨g, o + 2, none⟩ = some (.int .i64 (n : Int)) ∧ w'.cell? ⟨b, 5, none⟩ = some (tcV a1 a2 a3) ∧ Ext w w') (by kernel_rfl) ?_ (fun hHeld => ?_)
                    · exact keep5 (Ext.drew (Ext.refl _)) kS
                    refine wpAnyH_take (i := 0) (v := ?_) (by simp only [List.getElem?_toArray, List.getElem?_cons_zero]; rfl) (by kernel_rfl) (by kernel_rfl) (by kernel_rfl) (fun _ _ _ h => h) (Or.inl ⟨by rfl, ?_⟩) hHeld ?_
                    rotate_left
                    · ((intro wS hSw; (try dsimp only at hSw); go_simp) <;> (try with_reducible rfl))
                    (try simp only [Act.put, List.setIfInBounds_toArray, List.set_cons_zero, List.set_cons_succ])
                    refine wpAnyH_take (i := 1) (v := ?_) (by simp only [List.getElem?_toArray, List.getElem?_cons_zero, List.getElem?_cons_succ]; rfl) (by kernel_rfl) (by kernel_rfl) (by kernel_rfl) (fun _ _ _ h => h) (Or.inl ⟨by rfl, ?_⟩) hHeld ?_
                    rotate_left
                    · ((intro wS hSw; (try dsimp only at hSw); go_simp) <;> (try with_reducible rfl))
                    (try simp only [Act.put, List.setIfInBounds_toArray, List.set_cons_zero, List.set_cons_succ])
                    refine wpAnyH_take (i := 2) (v := ?_) (by simp only [List.getElem?_toArray, List.getElem?_cons_zero, List.getElem?_cons_succ]; rfl) (by kernel_rfl) (by kernel_rfl) (by kernel_rfl) (fun _ _ _ h => h) (Or.inl ⟨by rfl, ?_⟩) hHeld ?_
                    rotate_left
                    · ((intro wS hSw; (try dsimp only at hSw); go_simp) <;> (try with_reducible rfl))
                    (try simp only [Act.put, List.setIfInBounds_toArray, List.set_cons_zero, List.set_cons_succ])
                    refine wpAnyH_take (i := 3) (v := ?_) (by simp only [List.getElem?_toArray, List.getElem?_cons_zero, List.getElem?_cons_succ]; rfl) (by kernel_rfl) (by kernel_rfl) (by kernel_rfl) (fun _ _ _ h => h) (Or.inl ⟨by rfl, ?_⟩) hHeld ?_
                    rotate_left
                    · ((intro wS hSw; (try dsimp only at hSw); go_simp) <;> (try with_reducible rfl))
                    (try simp only [Act.put, List.setIfInBounds_toArray, List.set_cons_zero, List.set_cons_succ])
                    refine wpAnyH_take (i := 4) (v := ?_) (by simp only [List.getElem?_toArray, List.getElem?_cons_zero, List.getElem?_cons_succ]; rfl) (by kernel_rfl) (by kernel_rfl) (by kernel_rfl) (fun _ _ _ h => h) (Or.inl ⟨by rfl, ?_⟩) hHeld ?_
                    rotate_left
                    · ((intro wS hSw; (try dsimp only at hSw); go_simp) <;> (try with_reducible rfl))
                    (try simp only [Act.put, List.setIfInBounds_toArray, List.set_cons_zero, List.set_cons_succ])
                    refine wpAnyH_take (i := 5) (v := ?_) (by simp only [List.getElem?_toArray, List.getElem?_cons_zero, List.getElem?_cons_succ]; rfl) (by kernel_rfl) (by kernel_rfl) (by kernel_rfl) (fun _ _ _ h => h) (Or.inl ⟨by rfl, ?_⟩) hHeld ?_
                    rotate_left
                    · ((intro wS hSw; (try dsimp only at hSw); go_simp) <;> (try with_reducible rfl))
                    (try simp only [Act.put, List.setIfInBounds_toArray, List.set_cons_zero, List.set_cons_succ])
                    refine wpAnyH_take (i := 6) (v := ?_) (by simp only [List.getElem?_toArray, List.getElem?_cons_zero, List.getElem?_cons_succ]; rfl) (by kernel_rfl) (by kernel_rfl) (by kernel_rfl) (fun _ _ _ h => h) (Or.inl ⟨by rfl, ?_⟩) hHeld ?_
                    rotate_left
                    · ((intro wS hSw; (try dsimp only at hSw); go_simp) <;> (try with_reducible rfl))
                    (try simp only [Act.put, List.setIfInBounds_toArray, List.set_cons_zero, List.set_cons_succ])
                    refine wpAnyH_take (i := 7) (v := ?_) (by simp only [List.getElem?_toArray, List.getElem?_cons_zero, List.getElem?_cons_succ]; rfl) (by kernel_rfl) (by kernel_rfl) (by kernel_rfl) (fun _ _ _ h => h) (Or.inl ⟨by rfl, ?_⟩) hHeld ?_
                    rotate_left
                    · ((intro wS hSw; (try dsimp only at hSw); go_simp) <;> (try with_reducible rfl))
                    (try simp only [Act.put, List.setIfInBounds_toArray, List.set_cons_zero, List.set_cons_succ])
                    refine wpAnyH_take (i := 8) (v := ?_) (by simp only [List.getElem?_toArray, List.getElem?_cons_zero, List.getElem?_cons_succ]; rfl) (by kernel_rfl) (by kernel_rfl) (by kernel_rfl) (fun _ _ _ h => h) (Or.inl ⟨by rfl, ?_⟩) hHeld ?_
                    rotate_left
                    · ((intro wS hSw; (try dsimp only at hSw); go_simp) <;> (try with_reducible rfl))
                    (try simp only [Act.put, List.setIfInBounds_toArray, List.set_cons_zero, List.set_cons_succ])
                    refine wpAnyH_take (i := 9) (v := ?_) (by simp only [List.getElem?_toArray, List.getElem?_cons_zero, List.getElem?_cons_succ]; rfl) (by kernel_rfl) (by kernel_rfl) (by kernel_rfl) (fun _ _ _ h => h) (Or.inl ⟨by rfl, ?_⟩) hHeld ?_
                    rotate_left
                    · ((intro wS hSw; (try dsimp only at hSw); go_simp) <;> (try with_reducible rfl))
                    (try simp only [Act.put, List.setIfInBounds_toArray, List.set_cons_zero, List.set_cons_succ])
                    refine wpAnyH_take (i := 10) (v := ?_) (by simp only [List.getElem?_toArray, List.getElem?_cons_zero, List.getElem?_cons_succ]; rfl) (by kernel_rfl) (by kernel_rfl) (by kernel_rfl) (fun _ _ _ h => h) (Or.inl ⟨by rfl, ?_⟩) hHeld ?_
                    rotate_left
                    · ((intro wS hSw; (try dsimp only at hSw); go_simp) <;> (try with_reducible rfl))
                    (try simp only [Act.put, List.setIfInBounds_toArray, List.set_cons_zero, List.set_cons_succ])
                    refine wpAnyH_take (i := 11) (v := ?_) (by simp only [List.getElem?_toArray, List.getElem?_cons_zero, List.getElem?_cons_succ]; rfl) (by kernel_rfl) (by kernel_rfl) (by kernel_rfl) (fun _ _ _ h => h) (Or.inl ⟨by rfl, ?_⟩) hHeld ?_
                    rotate_left
                    · ((intro wS hSw; (try dsimp only at hSw); go_simp) <;> (try with_reducible rfl))
                    (try simp only [Act.put, List.setIfInBounds_toArray, List.set_cons_zero, List.set_cons_succ])
                    refine wpAnyH_take (i := 12) (v := ?_) (by simp only [List.getElem?_toArray, List.getElem?_cons_zero, List.getElem?_cons_succ]; rfl) (by kernel_rfl) (by kernel_rfl) (by kernel_rfl) (fun _ _ _ h => h) (Or.inl ⟨by rfl, ?_⟩) hHeld ?_
                    rotate_left
                    · ((intro wS hSw; (try dsimp only at hSw); go_simp) <;> (try with_reducible rfl))
                    (try simp only [Act.put, List.setIfInBounds_toArray, List.set_cons_zero, List.set_cons_succ])
                    refine wpAnyH_take (i := 13) (v := ?_) (by simp only [List.getElem?_toArray, List.getElem?_cons_zero, List.getElem?_cons_succ]; rfl) (by kernel_rfl) (by kernel_rfl) (by kernel_rfl) (fun _ _ _ h => h) (Or.inl ⟨by rfl, ?_⟩) hHeld ?_
                    rotate_left
                    · ((intro wS hSw; (try dsimp only at hSw); go_simp) <;> (try with_reducible rfl))
                    (try simp only [Act.put, List.setIfInBounds_toArray, List.set_cons_zero, List.set_cons_succ])
                    refine wpAnyH_take (i := 14) (v := ?_) (by simp only [List.getElem?_toArray, List.getElem?_cons_zero, List.getElem?_cons_succ]; rfl) (by kernel_rfl) (by kernel_rfl) (by kernel_rfl) (fun _ _ _ h => h) (Or.inl ⟨by rfl, ?_⟩) hHeld ?_
                    rotate_left
                    · ((intro wS hSw; (try dsimp only at hSw); go_simp) <;> (try with_reducible rfl))
                    (try simp only [Act.put, List.setIfInBounds_toArray, List.set_cons_zero, List.set_cons_succ])
                    refine wpAnyH_take (i := 15) (v := ?_) (by simp only [List.getElem?_toArray, List.getElem?_cons_zero, List.getElem?_cons_succ]; rfl) (by kernel_rfl) (by kernel_rfl) (by kernel_rfl) (fun _ _ _ h => h) (Or.inl ⟨by rfl, ?_⟩) hHeld ?_
                    rotate_left
                    · ((intro wS hSw; (try dsimp only at hSw); go_simp) <;> (try with_reducible rfl))
                    (try simp only [Act.put, List.setIfInBounds_toArray, List.set_cons_zero, List.set_cons_succ])
                    refine wpAnyH_take (i := 17) (v := ?_) (by simp only [List.getElem?_toArray, List.getElem?_cons_zero, List.getElem?_cons_succ]; rfl) (by kernel_rfl) (by kernel_rfl) (by kernel_rfl) (fun _ _ _ h => h) (Or.inl ⟨by rfl, ?_⟩) hHeld ?_
                    rotate_left
                    · ((intro wS hSw; (try dsimp only at hSw); go_simp) <;> (try with_reducible rfl))
                    (try simp only [Act.put, List.setIfInBounds_toArray, List.set_cons_zero, List.set_cons_succ])
                    refine wpAnyH_take (i := 18) (v := ?_) (by simp only [List.getElem?_toArray, List.getElem?_cons_zero, List.getElem?_cons_succ]; rfl) (by kernel_rfl) (by kernel_rfl) (by kernel_rfl) (fun _ _ _ h => h) (Or.inl ⟨by rfl, ?_⟩) hHeld ?_
                    rotate_left
                    · ((intro wS hSw; (try dsimp only at hSw); go_simp) <;> (try with_reducible rfl))
                    (try simp only [Act.put, List.setIfInBounds_toArray, List.set_cons_zero, List.set_cons_succ])
                    refine wpAnyH_ready (rs := [16]) (by kernel_rfl) (by simp) ?_
                    refine AllReadyH.cons (by simp only [List.getElem?_toArray, List.getElem?_cons_zero, List.getElem?_cons_succ]; rfl) (fun K hK => ?_) AllReadyH.nil
                    go_simp
                    refine hK.out _ _ ?_ (fun hHeld2 => ?_)
                    · exact keep5 (ext_bytesWorld _ _ _) hHeld
                    clear hK K hHeld
                    have hHeld := hHeld2
                    clear hHeld2
                    (try simp only [Act.put, List.setIfInBounds_toArray, List.set_cons_zero, List.set_cons_succ])
                    refine wpAnyH_ready (rs := [19]) (by kernel_rfl) (by simp) ?_
                    refine AllReadyH.cons (by simp only [List.getElem?_toArray, List.getElem?_cons_zero, List.getElem?_cons_succ]; rfl) (fun K hK => ?_) AllReadyH.nil
                    go_simp
                    go_upon
                    go_at_call 384
                    ((with_reducible refine HM.out.mono ?_); rintro e w' ⟨rfl, he⟩)
                    refine hK.out _ _ ?_ (fun hHeld2 => ?_)
                    · exact keep5 he hHeld
                    clear hK K hHeld
                    have hHeld := hHeld2
                    clear hHeld2
                    (try simp only [Act.put, List.setIfInBounds_toArray, List.set_cons_zero, List.set_cons_succ])
                    refine wpAnyH_take (i := 20) (v := ?_) (by simp only [List.getElem?_toArray, List.getElem?_cons_zero, List.getElem?_cons_succ]; rfl) (by kernel_rfl) (by kernel_rfl) (by kernel_rfl) (fun _ _ _ h => h) (Or.inl ⟨by rfl, ?_⟩) hHeld ?_
                    rotate_left
                    · ((intro wS hSw; (try dsimp only at hSw); go_simp) <;> (try with_reducible rfl))
                    (try simp only [Act.put, List.setIfInBounds_toArray, List.set_cons_zero, List.set_cons_succ])
                    refine wpAnyH_done (by kernel_rfl) ?_ _
                    refine NoPanic.normal ?_
                    have hE := hHeld.2.2.2.2
                    clear hHeld
                    go_wp2
                    go_meet
                    exact ⟨rfl, hE⟩
                case rest =>
                  obtain ⟨rfl, he8⟩ := hcut
                  go_wp2
                  go_ret
                  exact ⟨rfl, he8⟩

theorem validate_ok (c : Cmp) (hg : Good c) (g o : Nat) (w : World) (h : CmpAt w c g o) (ht : Tab w) : Calls Tryz.prog 81 #[.pointer (some ⟨g, o, none⟩)] w fun e w' => e = .returned .nilIface ∧ Ext w w' := by
  rcases hg.size with ⟨h1, h2⟩ | h1
  · exact validate_var c hg h1 h2 g o w h ht
  · exact validate_fixed c hg h1 g o w h ht
end Go.Proofs.YtdlmmaolacjnaaaGreatDoor
