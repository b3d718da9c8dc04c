/-
  The contract of validateComponent at a component that is in order.
-/
import Derived.Test.YtchlkclpikdbjaaGreatDoorComp
import Derived.Test.YtchlkclpikdbjaaGreatDoorMore
namespace Go.Proofs.YtchlkclpikdbjaaGreatDoor
set_option linter.unusedVariables false
set_option linter.unusedSimpArgs false
open Go.RowKit Go.Sort

/-- A component in order: what it must be for validateComponent to find nothing. -/
structure Good (c : Cmp) : Prop where
  b2s : HasB2S c
  val : HasVal c
  one : c.p.tc.oneCell' = true
  code0 : c.p.code ≠ 0
  code : c.p.code < 2147483648
  len : c.val.length ≤ 1000000
  size : (c.p.size < 0 ∧ c.val.length < 128) ∨ c.p.size = 8 * (c.val.length : Int)

/-- What validateComponent reads. -/
def Facts (w : World) (g o b gv : Nat) (s : ByteArray) (n L : Nat) (sz : Int) (tc : Value) : Prop :=
  w.cell? ⟨g, o, none⟩ = some (.string s) ∧ w.cell? ⟨g, o + 1, none⟩ = some (.pointer (some ⟨b, 0, none⟩)) ∧ w.cell? ⟨g, o + 2, none⟩ = some (.int .i64 (n : Int)) ∧
  w.cell? ⟨b, 2, none⟩ = some (.slice (some ⟨gv, 0, none⟩) L L) ∧ w.cell? ⟨b, 3, none⟩ = some (.int .i64 sz) ∧ w.cell? ⟨b, 5, none⟩ = some tc
theorem Facts.ext {w w' : World} {g o b gv : Nat} {s : ByteArray} {n L : Nat} {sz : Int} {tc : Value} (h : Facts w g o b gv s n L sz tc) (he : Ext w w') : Facts w' g o b gv s n L sz tc :=
  ⟨he.cell h.1, he.cell h.2.1, he.cell h.2.2.1, he.cell h.2.2.2.1, he.cell h.2.2.2.2.1, he.cell h.2.2.2.2.2⟩

theorem slice_upto (s : ByteArray) (n : Nat) (h : n ≤ s.size) (w : World) : (Instr.slice 9 (.string s) none (some (.int .i64 (n : Int))) none).run Tryz.prog w = .ok (.string (s.extract 0 n)) w := by
  have h' : (n : Int) ≤ (s.size : Int) := by omega
  have := Tryz.underlying9
  simp [go_sem, h', this]
theorem str_head {s : ByteArray} {a b : List UInt8} (h : s.data.toList = a ++ b) (k : Nat) (hk : k = a.length) : (s.extract 0 k).data.toList = a := by
  subst hk
  rw [Lib.extract_eq, h]
  simp
theorem keep4' {w0 w w' : World} {p0 p1 p2 : Addr} {v0 v1 v2 : Value} (he : Ext w w') (h : w.cell? p0 = some v0 ∧ w.cell? p1 = some v1 ∧ w.cell? p2 = some v2 ∧ Ext w0 w) :
    w'.cell? p0 = some v0 ∧ w'.cell? p1 = some v1 ∧ w'.cell? p2 = some v2 ∧ Ext w0 w' :=
  ⟨he.cell h.1, he.cell h.2.1, he.cell h.2.2.1, h.2.2.2.trans he⟩

set_option maxHeartbeats 4000000 in
set_option maxRecDepth 100000 in
theorem validate_fixed (c : Cmp) (hg : Good c) (hsz : c.p.size = 8 * (c.val.length : Int)) (g o : Nat) (w : World) (h : CmpAt w c g o) (ht : Tab w) : Calls Tryz.prog 155 #[.pointer (some ⟨g, o, none⟩)] w fun e w' => e = .returned .nilIface ∧ Ext w w' := by
  obtain ⟨b, gv, hr, hp⟩ := id h
  have hpre : c.pre = Lib.uvarint c.p.code := by unfold Cmp.pre; rw [if_neg (by omega)]; simp
  have hF : Facts w g o b gv c.str c.pre.length (Lib.uvarint c.p.code).length c.p.size c.p.tc := ⟨hr 0 _ rfl, hr 1 _ rfl, hr 2 _ rfl, hp.cell 2, hp.cell 3, hp.cell 5⟩
  have hV := fun w' (he : Ext w w') => valueAndErr_ok c hg.b2s g o w' (he.cmpAt h) (he.tab ht)
  have hB : Row w gv 0 ((Lib.uvarint c.p.code).map B) := hp.2
  have hs := cmp_size c
  have hs0 := cmp_str c
  have hcv := cmp_val c
  rw [hpre] at hF hs hs0 hcv
  have hL0 := Lib.uvarint_pos c.p.code
  have hL9 := Lib.uvarint_length64 (x := c.p.code) (by have := hg.code; omega)
  obtain ⟨uv, huv⟩ : ∃ uv, uv = Lib.uvarint c.p.code := ⟨_, rfl⟩
  rw [← huv] at hF hs hs0 hB hcv hL0 hL9
  obtain ⟨L, hL⟩ : ∃ L, L = uv.length := ⟨_, rfl⟩
  rw [← hL] at hF hs hcv hL0 hL9
  obtain ⟨s, hs1⟩ : ∃ s, s = c.str := ⟨_, rfl⟩
  rw [← hs1] at hF hs hs0 hcv
  obtain ⟨m, hm⟩ : ∃ m, m = c.val.length := ⟨_, rfl⟩
  rw [← hm] at hs hsz
  rw [hsz] at hF
  have hm1 := hg.len
  rw [← hm] at hm1
  obtain ⟨t, ht'⟩ : ∃ t, t = s.extract L s.size := ⟨_, rfl⟩
  obtain ⟨t1, ht1⟩ : ∃ t, t = s.extract 0 L := ⟨_, rfl⟩
  have Ht : Hid (t.data.toList = c.val) := Lib.hid (by rw [ht']; exact hcv)
  have Ht1 : Hid (t1.data.toList = uv) := Lib.hid (by rw [ht1]; exact str_head hs0 _ hL)
  have htz : t.size = m := by rw [str_len Ht.out, hm]
  have hLs : L ≤ s.size := by omega
  have hsl : ∀ w, (Instr.slice 9 (.string s) (some (.int .i64 (L : Int))) none none).run Tryz.prog w = .ok (.string t) w := by
    intro w; rw [ht']; exact slice_from s L hLs w
  have hsl1 : ∀ w, (Instr.slice 9 (.string s) none (some (.int .i64 (L : Int))) none).run Tryz.prog w = .ok (.string t1) w := by
    intro w; rw [ht1]; exact slice_upto s L hLs w
  have hcv1 := fun w => run_bytes w t1
  have hcv2 := fun w => run_bytes w t
  obtain ⟨a1, a2, a3, htc, hval⟩ := hg.val
  rw [htc] at hF
  have HF := Lib.hid hF
  have HV := Lib.hid hV
  have HB := Lib.hid hB
  have HL := Lib.hid hL
  have hsI : (s.size : Int) = (L : Int) + (m : Int) := by omega
  have HsI := Lib.hid hs
  have hL1 : (0 : Int) < (L : Int) := by omega
  have hL1' : ((L : Int) == 0) = false := szB (k := 0) (by omega)
  have hLsI : (L : Int) ≤ (s.size : Int) := by omega
  have hdl : decide (s.size < L) = false := by simp; omega
  have hVal : ∀ w v, By w c.val v → Calls Tryz.prog 352 #[.agg #[a1, a2, a3], v] w fun e w' => e = .returned .nilIface ∧ Ext w w' := by
    intro w v hv
    rcases hval with rfl | ⟨n, rfl, hn, hvb⟩
    · exact twrp_valnil a1 a2 w v
    · exact twrp_val n hn a1 a2 c.val hvb w v hv
  have HW := Lib.hid hVal
  have hsum : ((L : Int) + (m : Int) != (s.size : Int)) = false := by simp; omega
  have hwr : IntKind.i64.wrap ((L : Int) + (m : Int)) = (L : Int) + (m : Int) := by rw [IntKind.wrap_i64]; omega
  have HSum := Lib.hid (And.intro hsum hwr)
  clear hsum hwr
  clear hF hV hB hL hcv hval hVal hpre hr hp hs hs0 huv hs1 hm hsz ht' ht1 htc hg h hsI
  have he0 := Ext.refl w
  obtain ⟨k0, k1, k2, k3, k4, k5⟩ := HF.out
  go_enter Tryz.func155, Tryz.ntmps155
  go_upto_region 5 with (fail)
  go_cut [27] (fun s27 wx => s27 = .bool false ∧ Ext w wx)
  case first =>
    as_aux_lemma =>
      go_quiet (fail)
      go_wp2
      go_meet
      exact ⟨rfl, ext_drewN _ _⟩
  case rest =>
    obtain ⟨rfl, he1⟩ := hcut
    clear k0 k1 k2 k3 k4 k5
    obtain ⟨k0, k1, k2, k3, k4, k5⟩ := HF.out.ext he1
    go_upto_region 9 with (fail)
    go_cut [52] (fun s52 wx => s52 = .bool false ∧ Ext w wx)
    case first =>
      as_aux_lemma =>
        go_quiet (fail)
        go_wp2
        go_meet
        exact ⟨rfl, he1.trans (ext_drewN _ _)⟩
    case rest =>
      obtain ⟨rfl, he2⟩ := hcut
      clear k0 k1 k2 k3 k4 k5 he1
      obtain ⟨k0, k1, k2, k3, k4, k5⟩ := HF.out.ext he2
      go_upto_region 11 with (fail)
      go_cut [76] (fun s76 wx => s76 = .bool false ∧ Ext w wx)
      case first =>
        as_aux_lemma =>
          have HM : Hid (Calls Tryz.prog 194 #[.slice (some ⟨wc.heap.size, 0, none⟩) t1.size (grownCap wc.drew t1.size 0 5), .slice (some ⟨gv, 0, none⟩) L L] (Lib.bytesWorld wc.drew 5 t1) fun e w' => e = .returned (.bool true) ∧ Lib.bytesWorld wc.drew 5 t1 = w') := Lib.hid (by
            have h1 := by_bytesWorld wc.drew t1 uv Ht1.out
            have h2 : By (Lib.bytesWorld wc.drew 5 t1) uv (.slice (some ⟨gv, 0, none⟩) L L) := by
              rw [HL.out]
              exact By.of_row (((he2.trans (Ext.drew (Ext.refl _))).trans (ext_bytesWorld _ _ _)).row HB.out) (Nat.le_refl _)
            have h3 := bytesEqual_ok uv uv _ _ _ h1 h2
            rw [decide_eq_true rfl] at h3
            exact h3)
          have kS := And.intro k0 (And.intro k1 (And.intro k2 (And.intro k3 he2)))
          refine wp_region_noPanic ?_
          refine wp_region_held_drew (S := fun w' => w'.cell? ⟨g, o, none⟩ = some (.string s) ∧ w'.cell? ⟨g, o + 1, none⟩ = some (.pointer (some ⟨b, 0, none⟩)) ∧ w'.cell? ⟨g, o + 2, none⟩ = some (.int .i64 (L : Int)) ∧ w'.cell? ⟨b, 2, none⟩ = some (.slice (some ⟨gv, 0, none⟩) L L) ∧ Ext w w') (by kernel_rfl) ?_ (fun hHeld => ?_)
          · exact keep5 (Ext.drew (Ext.refl _)) kS
          refine wpAnyH_take (i := 0) (v := ?_) (by simp only [List.getElem?_toArray, List.getElem?_cons_zero]; rfl) (by kernel_rfl) (by kernel_rfl) (by kernel_rfl) (fun _ _ _ h => h) (Or.inl ⟨by rfl, ?_⟩) hHeld ?_
          rotate_left
          · ((intro wS hSw; (try dsimp only at hSw); go_simp) <;> (try with_reducible rfl))
          (try simp only [Act.put, List.setIfInBounds_toArray, List.set_cons_zero, List.set_cons_succ])
          refine wpAnyH_take (i := 1) (v := ?_) (by simp only [List.getElem?_toArray, List.getElem?_cons_zero, List.getElem?_cons_succ]; rfl) (by kernel_rfl) (by kernel_rfl) (by kernel_rfl) (fun _ _ _ h => h) (Or.inl ⟨by rfl, ?_⟩) hHeld ?_
          rotate_left
          · ((intro wS hSw; (try dsimp only at hSw); go_simp) <;> (try with_reducible rfl))
          (try simp only [Act.put, List.setIfInBounds_toArray, List.set_cons_zero, List.set_cons_succ])
          refine wpAnyH_take (i := 2) (v := ?_) (by simp only [List.getElem?_toArray, List.getElem?_cons_zero, List.getElem?_cons_succ]; rfl) (by kernel_rfl) (by kernel_rfl) (by kernel_rfl) (fun _ _ _ h => h) (Or.inl ⟨by rfl, ?_⟩) hHeld ?_
          rotate_left
          · ((intro wS hSw; (try dsimp only at hSw); go_simp) <;> (try with_reducible rfl))
          (try simp only [Act.put, List.setIfInBounds_toArray, List.set_cons_zero, List.set_cons_succ])
          refine wpAnyH_take (i := 3) (v := ?_) (by simp only [List.getElem?_toArray, List.getElem?_cons_zero, List.getElem?_cons_succ]; rfl) (by kernel_rfl) (by kernel_rfl) (by kernel_rfl) (fun _ _ _ h => h) (Or.inl ⟨by rfl, ?_⟩) hHeld ?_
          rotate_left
          · ((intro wS hSw; (try dsimp only at hSw); go_simp) <;> (try with_reducible rfl))
          (try simp only [Act.put, List.setIfInBounds_toArray, List.set_cons_zero, List.set_cons_succ])
          refine wpAnyH_take (i := 4) (v := ?_) (by simp only [List.getElem?_toArray, List.getElem?_cons_zero, List.getElem?_cons_succ]; rfl) (by kernel_rfl) (by kernel_rfl) (by kernel_rfl) (fun _ _ _ h => h) (Or.inl ⟨by rfl, ?_⟩) hHeld ?_
          rotate_left
          · ((intro wS hSw; (try dsimp only at hSw); go_simp) <;> (try with_reducible rfl))
          (try simp only [Act.put, List.setIfInBounds_toArray, List.set_cons_zero, List.set_cons_succ])
          refine wpAnyH_take (i := 5) (v := ?_) (by simp only [List.getElem?_toArray, List.getElem?_cons_zero, List.getElem?_cons_succ]; rfl) (by kernel_rfl) (by kernel_rfl) (by kernel_rfl) (fun _ _ _ h => h) (Or.inl ⟨by rfl, ?_⟩) hHeld ?_
          rotate_left
          · ((intro wS hSw; (try dsimp only at hSw); go_simp) <;> (try with_reducible rfl))
          (try simp only [Act.put, List.setIfInBounds_toArray, List.set_cons_zero, List.set_cons_succ])
          refine wpAnyH_take (i := 6) (v := ?_) (by simp only [List.getElem?_toArray, List.getElem?_cons_zero, List.getElem?_cons_succ]; rfl) (by kernel_rfl) (by kernel_rfl) (by kernel_rfl) (fun _ _ _ h => h) (Or.inl ⟨by rfl, ?_⟩) hHeld ?_
          rotate_left
          · ((intro wS hSw; (try dsimp only at hSw); go_simp) <;> (try with_reducible rfl))
          (try simp only [Act.put, List.setIfInBounds_toArray, List.set_cons_zero, List.set_cons_succ])
          refine wpAnyH_take (i := 7) (v := ?_) (by simp only [List.getElem?_toArray, List.getElem?_cons_zero, List.getElem?_cons_succ]; rfl) (by kernel_rfl) (by kernel_rfl) (by kernel_rfl) (fun _ _ _ h => h) (Or.inl ⟨by rfl, ?_⟩) hHeld ?_
          rotate_left
          · ((intro wS hSw; (try dsimp only at hSw); go_simp) <;> (try with_reducible rfl))
          (try simp only [Act.put, List.setIfInBounds_toArray, List.set_cons_zero, List.set_cons_succ])
          refine wpAnyH_take (i := 8) (v := ?_) (by simp only [List.getElem?_toArray, List.getElem?_cons_zero, List.getElem?_cons_succ]; rfl) (by kernel_rfl) (by kernel_rfl) (by kernel_rfl) (fun _ _ _ h => h) (Or.inl ⟨by rfl, ?_⟩) hHeld ?_
          rotate_left
          · ((intro wS hSw; (try dsimp only at hSw); go_simp) <;> (try with_reducible rfl))
          (try simp only [Act.put, List.setIfInBounds_toArray, List.set_cons_zero, List.set_cons_succ])
          refine wpAnyH_take (i := 9) (v := ?_) (by simp only [List.getElem?_toArray, List.getElem?_cons_zero, List.getElem?_cons_succ]; rfl) (by kernel_rfl) (by kernel_rfl) (by kernel_rfl) (fun _ _ _ h => h) (Or.inl ⟨by rfl, ?_⟩) hHeld ?_
          rotate_left
          · ((intro wS hSw; (try dsimp only at hSw); go_simp) <;> (try with_reducible rfl))
          (try simp only [Act.put, List.setIfInBounds_toArray, List.set_cons_zero, List.set_cons_succ])
          refine wpAnyH_take (i := 10) (v := ?_) (by simp only [List.getElem?_toArray, List.getElem?_cons_zero, List.getElem?_cons_succ]; rfl) (by kernel_rfl) (by kernel_rfl) (by kernel_rfl) (fun _ _ _ h => h) (Or.inl ⟨by rfl, ?_⟩) hHeld ?_
          rotate_left
          · ((intro wS hSw; (try dsimp only at hSw); go_simp) <;> (try with_reducible rfl))
          (try simp only [Act.put, List.setIfInBounds_toArray, List.set_cons_zero, List.set_cons_succ])
          refine wpAnyH_take (i := 11) (v := ?_) (by simp only [List.getElem?_toArray, List.getElem?_cons_zero, List.getElem?_cons_succ]; rfl) (by kernel_rfl) (by kernel_rfl) (by kernel_rfl) (fun _ _ _ h => h) (Or.inl ⟨by rfl, ?_⟩) hHeld ?_
          rotate_left
          · ((intro wS hSw; (try dsimp only at hSw); go_simp) <;> (try with_reducible rfl))
          (try simp only [Act.put, List.setIfInBounds_toArray, List.set_cons_zero, List.set_cons_succ])
          refine wpAnyH_take (i := 12) (v := ?_) (by simp only [List.getElem?_toArray, List.getElem?_cons_zero, List.getElem?_cons_succ]; rfl) (by kernel_rfl) (by kernel_rfl) (by kernel_rfl) (fun _ _ _ h => h) (Or.inl ⟨by rfl, ?_⟩) hHeld ?_
          rotate_left
          · ((intro wS hSw; (try dsimp only at hSw); go_simp) <;> (try with_reducible rfl))
          (try simp only [Act.put, List.setIfInBounds_toArray, List.set_cons_zero, List.set_cons_succ])
          refine wpAnyH_take (i := 14) (v := ?_) (by simp only [List.getElem?_toArray, List.getElem?_cons_zero, List.getElem?_cons_succ]; rfl) (by kernel_rfl) (by kernel_rfl) (by kernel_rfl) (fun _ _ _ h => h) (Or.inl ⟨by rfl, ?_⟩) hHeld ?_
          rotate_left
          · ((intro wS hSw; (try dsimp only at hSw); go_simp) <;> (try with_reducible rfl))
          (try simp only [Act.put, List.setIfInBounds_toArray, List.set_cons_zero, List.set_cons_succ])
          refine wpAnyH_take (i := 15) (v := ?_) (by simp only [List.getElem?_toArray, List.getElem?_cons_zero, List.getElem?_cons_succ]; rfl) (by kernel_rfl) (by kernel_rfl) (by kernel_rfl) (fun _ _ _ h => h) (Or.inl ⟨by rfl, ?_⟩) hHeld ?_
          rotate_left
          · ((intro wS hSw; (try dsimp only at hSw); go_simp) <;> (try with_reducible rfl))
          (try simp only [Act.put, List.setIfInBounds_toArray, List.set_cons_zero, List.set_cons_succ])
          refine wpAnyH_take (i := 16) (v := ?_) (by simp only [List.getElem?_toArray, List.getElem?_cons_zero, List.getElem?_cons_succ]; rfl) (by kernel_rfl) (by kernel_rfl) (by kernel_rfl) (fun _ _ _ h => h) (Or.inl ⟨by rfl, ?_⟩) hHeld ?_
          rotate_left
          · ((intro wS hSw; (try dsimp only at hSw); go_simp) <;> (try with_reducible rfl))
          (try simp only [Act.put, List.setIfInBounds_toArray, List.set_cons_zero, List.set_cons_succ])
          refine wpAnyH_take (i := 17) (v := ?_) (by simp only [List.getElem?_toArray, List.getElem?_cons_zero, List.getElem?_cons_succ]; rfl) (by kernel_rfl) (by kernel_rfl) (by kernel_rfl) (fun _ _ _ h => h) (Or.inl ⟨by rfl, ?_⟩) hHeld ?_
          rotate_left
          · ((intro wS hSw; (try dsimp only at hSw); go_simp) <;> (try with_reducible rfl))
          (try simp only [Act.put, List.setIfInBounds_toArray, List.set_cons_zero, List.set_cons_succ])
          refine wpAnyH_take (i := 18) (v := ?_) (by simp only [List.getElem?_toArray, List.getElem?_cons_zero, List.getElem?_cons_succ]; rfl) (by kernel_rfl) (by kernel_rfl) (by kernel_rfl) (fun _ _ _ h => h) (Or.inl ⟨by rfl, ?_⟩) hHeld ?_
          rotate_left
          · ((intro wS hSw; (try dsimp only at hSw); go_simp) <;> (try with_reducible rfl))
          (try simp only [Act.put, List.setIfInBounds_toArray, List.set_cons_zero, List.set_cons_succ])
          refine wpAnyH_take (i := 19) (v := ?_) (by simp only [List.getElem?_toArray, List.getElem?_cons_zero, List.getElem?_cons_succ]; rfl) (by kernel_rfl) (by kernel_rfl) (by kernel_rfl) (fun _ _ _ h => h) (Or.inl ⟨by rfl, ?_⟩) hHeld ?_
          rotate_left
          · ((intro wS hSw; (try dsimp only at hSw); go_simp) <;> (try with_reducible rfl))
          (try simp only [Act.put, List.setIfInBounds_toArray, List.set_cons_zero, List.set_cons_succ])
          refine wpAnyH_take (i := 20) (v := ?_) (by simp only [List.getElem?_toArray, List.getElem?_cons_zero, List.getElem?_cons_succ]; rfl) (by kernel_rfl) (by kernel_rfl) (by kernel_rfl) (fun _ _ _ h => h) (Or.inl ⟨by rfl, ?_⟩) hHeld ?_
          rotate_left
          · ((intro wS hSw; (try dsimp only at hSw); go_simp) <;> (try with_reducible rfl))
          (try simp only [Act.put, List.setIfInBounds_toArray, List.set_cons_zero, List.set_cons_succ])
          refine wpAnyH_ready (rs := [13]) (by kernel_rfl) (by simp) ?_
          refine AllReadyH.cons (by simp only [List.getElem?_toArray, List.getElem?_cons_zero, List.getElem?_cons_succ]; rfl) (fun K hK => ?_) AllReadyH.nil
          go_simp
          refine hK.out _ _ ?_ (fun hHeld2 => ?_)
          · exact keep5 (ext_bytesWorld _ _ _) hHeld
          clear hK K hHeld
          have hHeld := hHeld2
          clear hHeld2
          (try simp only [Act.put, List.setIfInBounds_toArray, List.set_cons_zero, List.set_cons_succ])
          refine wpAnyH_ready (rs := [21]) (by kernel_rfl) (by simp) ?_
          refine AllReadyH.cons (by simp only [List.getElem?_toArray, List.getElem?_cons_zero, List.getElem?_cons_succ]; rfl) (fun K hK => ?_) AllReadyH.nil
          go_simp
          (try go_upon)
          go_at_call 194
          ((with_reducible refine HM.out.mono ?_); rintro e w' ⟨rfl, rfl⟩)
          refine hK.out _ _ ?_ (fun hHeld2 => ?_)
          · exact hHeld
          clear hK K hHeld
          have hHeld := hHeld2
          clear hHeld2
          (try simp only [Act.put, List.setIfInBounds_toArray, List.set_cons_zero, List.set_cons_succ])
          refine wpAnyH_take (i := 22) (v := ?_) (by simp only [List.getElem?_toArray, List.getElem?_cons_zero, List.getElem?_cons_succ]; rfl) (by kernel_rfl) (by kernel_rfl) (by kernel_rfl) (fun _ _ _ h => h) (Or.inl ⟨by rfl, ?_⟩) hHeld ?_
          rotate_left
          · ((intro wS hSw; (try dsimp only at hSw); go_simp) <;> (try with_reducible rfl))
          (try simp only [Act.put, List.setIfInBounds_toArray, List.set_cons_zero, List.set_cons_succ])
          refine wpAnyH_done (by kernel_rfl) ?_ _
          refine NoPanic.normal ?_
          have hE := hHeld.2.2.2.2
          clear hHeld
          go_wp2
          go_meet
          exact ⟨rfl, hE⟩
      case rest =>
        obtain ⟨rfl, he3⟩ := hcut
        clear k0 k1 k2 k3 k4 k5 he2
        obtain ⟨k0, k1, k2, k3, k4, k5⟩ := HF.out.ext he3
        have hsz0 : ¬ (8 * (m : Int) < 0) := by omega
        go_upto_region 21 with (fail)
        go_cut [6] (fun s6 wx => s6 = .int .i64 (m : Int) ∧ Ext w wx)
        case first =>
          as_aux_lemma =>
            go_wp2
            go_meet
            exact ⟨by go_num, he3⟩
        case rest =>
          obtain ⟨rfl, he4⟩ := hcut
          clear k0 k1 k2 k3 k4 k5 he3 hsz0
          obtain ⟨k0, k1, k2, k3, k4, k5⟩ := HF.out.ext he4
          go_upto_region 22 with (fail)
          go_cut [159] (fun s wx => s = .bool false ∧ Ext w wx)
          case first =>
            as_aux_lemma =>
              go_quiet (fail)
              go_wp2
              go_meet
              exact ⟨rfl, he4.trans (ext_drewN _ _)⟩
          case rest =>
            obtain ⟨rfl, he5⟩ := hcut
            clear k0 k1 k2 k3 k4 k5 he4
            obtain ⟨k0, k1, k2, k3, k4, k5⟩ := HF.out.ext he5
            go_upto_region 24 with (fail)
            go_cut [176] (fun s wx => s = .bool false ∧ Ext w wx)
            case first =>
              as_aux_lemma =>
                obtain ⟨hsum, hwr⟩ := HSum.out
                go_quiet (fail)
                go_wp2
                go_meet
                exact ⟨rfl, he5.trans (ext_drewN _ _)⟩
            case rest =>
              obtain ⟨rfl, he6⟩ := hcut
              clear k0 k1 k2 k3 k4 k5 he5
              obtain ⟨k0, k1, k2, k3, k4, k5⟩ := HF.out.ext he6
              go_upto_region 26 with (fail)
              go_cut [8] (fun s wx => s = .nilIface ∧ Ext w wx)
              case first =>
                as_aux_lemma =>
                  go_wp2_with (go_at_call 195; refine (HV.out _ he6).mono ?_; rintro e w' ⟨sv, rfl, hev⟩)
                  go_meet
                  exact ⟨rfl, he6.trans hev⟩
              case rest =>
                obtain ⟨rfl, he7⟩ := hcut
                clear k0 k1 k2 k3 k4 k5 he6
                obtain ⟨k0, k1, k2, k3, k4, k5⟩ := HF.out.ext he7
                go_upto_region 30 with (fail)
                go_cut [8] (fun s wx => s = .nilIface ∧ Ext w wx)
                case first =>
                  as_aux_lemma =>
                    have HM : Hid (Calls Tryz.prog 352 #[.agg #[a1, a2, a3], .slice (some ⟨wc.heap.size, 0, none⟩) t.size (grownCap wc.drew t.size 0 5)] (Lib.bytesWorld wc.drew 5 t) fun e w' => e = .returned .nilIface ∧ Ext (Lib.bytesWorld wc.drew 5 t) w') :=
                      Lib.hid (HW.out _ _ (by_bytesWorld wc.drew t c.val Ht.out))
                    rw [htz] at HM
                    have kS := And.intro k0 (And.intro k1 (And.intro k2 (And.intro k5 he7)))
                    refine wp_region_noPanic ?_
                    refine wp_region_held_drew (S := fun w' => w'.cell? ⟨g, o, none⟩ = some (.string s) ∧ w'.cell? ⟨g, o + 1, none⟩ = some (.pointer (some ⟨b, 0, none⟩)) ∧ w'.cell? ⟨g, o + 2, none⟩ = some (.int .i64 (L : Int)) ∧ w'.cell? ⟨b, 5, none⟩ = some (tcV a1 a2 a3) ∧ Ext w w') (by kernel_rfl) ?_ (fun hHeld => ?_)
                    · exact keep5 (Ext.drew (Ext.refl _)) kS
                    refine wpAnyH_take (i := 0) (v := ?_) (by simp only [List.getElem?_toArray, List.getElem?_cons_zero]; rfl) (by kernel_rfl) (by kernel_rfl) (by kernel_rfl) (fun _ _ _ h => h) (Or.inl ⟨by rfl, ?_⟩) hHeld ?_
                    rotate_left
                    · ((intro wS hSw; (try dsimp only at hSw); go_simp) <;> (try with_reducible rfl))
                    (try simp only [Act.put, List.setIfInBounds_toArray, List.set_cons_zero, List.set_cons_succ])
                    refine wpAnyH_take (i := 1) (v := ?_) (by simp only [List.getElem?_toArray, List.getElem?_cons_zero, List.getElem?_cons_succ]; rfl) (by kernel_rfl) (by kernel_rfl) (by kernel_rfl) (fun _ _ _ h => h) (Or.inl ⟨by rfl, ?_⟩) hHeld ?_
                    rotate_left
                    · ((intro wS hSw; (try dsimp only at hSw); go_simp) <;> (try with_reducible rfl))
                    (try simp only [Act.put, List.setIfInBounds_toArray, List.set_cons_zero, List.set_cons_succ])
                    refine wpAnyH_take (i := 2) (v := ?_) (by simp only [List.getElem?_toArray, List.getElem?_cons_zero, List.getElem?_cons_succ]; rfl) (by kernel_rfl) (by kernel_rfl) (by kernel_rfl) (fun _ _ _ h => h) (Or.inl ⟨by rfl, ?_⟩) hHeld ?_
                    rotate_left
                    · ((intro wS hSw; (try dsimp only at hSw); go_simp) <;> (try with_reducible rfl))
                    (try simp only [Act.put, List.setIfInBounds_toArray, List.set_cons_zero, List.set_cons_succ])
                    refine wpAnyH_take (i := 3) (v := ?_) (by simp only [List.getElem?_toArray, List.getElem?_cons_zero, List.getElem?_cons_succ]; rfl) (by kernel_rfl) (by kernel_rfl) (by kernel_rfl) (fun _ _ _ h => h) (Or.inl ⟨by rfl, ?_⟩) hHeld ?_
                    rotate_left
                    · ((intro wS hSw; (try dsimp only at hSw); go_simp) <;> (try with_reducible rfl))
                    (try simp only [Act.put, List.setIfInBounds_toArray, List.set_cons_zero, List.set_cons_succ])
                    refine wpAnyH_take (i := 4) (v := ?_) (by simp only [List.getElem?_toArray, List.getElem?_cons_zero, List.getElem?_cons_succ]; rfl) (by kernel_rfl) (by kernel_rfl) (by kernel_rfl) (fun _ _ _ h => h) (Or.inl ⟨by rfl, ?_⟩) hHeld ?_
                    rotate_left
                    · ((intro wS hSw; (try dsimp only at hSw); go_simp) <;> (try with_reducible rfl))
                    (try simp only [Act.put, List.setIfInBounds_toArray, List.set_cons_zero, List.set_cons_succ])
                    refine wpAnyH_take (i := 5) (v := ?_) (by simp only [List.getElem?_toArray, List.getElem?_cons_zero, List.getElem?_cons_succ]; rfl) (by kernel_rfl) (by kernel_rfl) (by kernel_rfl) (fun _ _ _ h => h) (Or.inl ⟨by rfl, ?_⟩) hHeld ?_
                    rotate_left
                    · ((intro wS hSw; (try dsimp only at hSw); go_simp) <;> (try with_reducible rfl))
                    (try simp only [Act.put, List.setIfInBounds_toArray, List.set_cons_zero, List.set_cons_succ])
                    refine wpAnyH_take (i := 6) (v := ?_) (by simp only [List.getElem?_toArray, List.getElem?_cons_zero, List.getElem?_cons_succ]; rfl) (by kernel_rfl) (by kernel_rfl) (by kernel_rfl) (fun _ _ _ h => h) (Or.inl ⟨by rfl, ?_⟩) hHeld ?_
                    rotate_left
                    · ((intro wS hSw; (try dsimp only at hSw); go_simp) <;> (try with_reducible rfl))
                    (try simp only [Act.put, List.setIfInBounds_toArray, List.set_cons_zero, List.set_cons_succ])
                    refine wpAnyH_take (i := 7) (v := ?_) (by simp only [List.getElem?_toArray, List.getElem?_cons_zero, List.getElem?_cons_succ]; rfl) (by kernel_rfl) (by kernel_rfl) (by kernel_rfl) (fun _ _ _ h => h) (Or.inl ⟨by rfl, ?_⟩) hHeld ?_
                    rotate_left
                    · ((intro wS hSw; (try dsimp only at hSw); go_simp) <;> (try with_reducible rfl))
                    (try simp only [Act.put, List.setIfInBounds_toArray, List.set_cons_zero, List.set_cons_succ])
                    refine wpAnyH_take (i := 8) (v := ?_) (by simp only [List.getElem?_toArray, List.getElem?_cons_zero, List.getElem?_cons_succ]; rfl) (by kernel_rfl) (by kernel_rfl) (by kernel_rfl) (fun _ _ _ h => h) (Or.inl ⟨by rfl, ?_⟩) hHeld ?_
                    rotate_left
                    · ((intro wS hSw; (try dsimp only at hSw); go_simp) <;> (try with_reducible rfl))
                    (try simp only [Act.put, List.setIfInBounds_toArray, List.set_cons_zero, List.set_cons_succ])
                    refine wpAnyH_take (i := 9) (v := ?_) (by simp only [List.getElem?_toArray, List.getElem?_cons_zero, List.getElem?_cons_succ]; rfl) (by kernel_rfl) (by kernel_rfl) (by kernel_rfl) (fun _ _ _ h => h) (Or.inl ⟨by rfl, ?_⟩) hHeld ?_
                    rotate_left
                    · ((intro wS hSw; (try dsimp only at hSw); go_simp) <;> (try with_reducible rfl))
                    (try simp only [Act.put, List.setIfInBounds_toArray, List.set_cons_zero, List.set_cons_succ])
                    refine wpAnyH_take (i := 10) (v := ?_) (by simp only [List.getElem?_toArray, List.getElem?_cons_zero, List.getElem?_cons_succ]; rfl) (by kernel_rfl) (by kernel_rfl) (by kernel_rfl) (fun _ _ _ h => h) (Or.inl ⟨by rfl, ?_⟩) hHeld ?_
                    rotate_left
                    · ((intro wS hSw; (try dsimp only at hSw); go_simp) <;> (try with_reducible rfl))
                    (try simp only [Act.put, List.setIfInBounds_toArray, List.set_cons_zero, List.set_cons_succ])
                    refine wpAnyH_take (i := 11) (v := ?_) (by simp only [List.getElem?_toArray, List.getElem?_cons_zero, List.getElem?_cons_succ]; rfl) (by kernel_rfl) (by kernel_rfl) (by kernel_rfl) (fun _ _ _ h => h) (Or.inl ⟨by rfl, ?_⟩) hHeld ?_
                    rotate_left
                    · ((intro wS hSw; (try dsimp only at hSw); go_simp) <;> (try with_reducible rfl))
                    (try simp only [Act.put, List.setIfInBounds_toArray, List.set_cons_zero, List.set_cons_succ])
                    refine wpAnyH_take (i := 12) (v := ?_) (by simp only [List.getElem?_toArray, List.getElem?_cons_zero, List.getElem?_cons_succ]; rfl) (by kernel_rfl) (by kernel_rfl) (by kernel_rfl) (fun _ _ _ h => h) (Or.inl ⟨by rfl, ?_⟩) hHeld ?_
                    rotate_left
                    · ((intro wS hSw; (try dsimp only at hSw); go_simp) <;> (try with_reducible rfl))
                    (try simp only [Act.put, List.setIfInBounds_toArray, List.set_cons_zero, List.set_cons_succ])
                    refine wpAnyH_take (i := 13) (v := ?_) (by simp only [List.getElem?_toArray, List.getElem?_cons_zero, List.getElem?_cons_succ]; rfl) (by kernel_rfl) (by kernel_rfl) (by kernel_rfl) (fun _ _ _ h => h) (Or.inl ⟨by rfl, ?_⟩) hHeld ?_
                    rotate_left
                    · ((intro wS hSw; (try dsimp only at hSw); go_simp) <;> (try with_reducible rfl))
                    (try simp only [Act.put, List.setIfInBounds_toArray, List.set_cons_zero, List.set_cons_succ])
                    refine wpAnyH_take (i := 14) (v := ?_) (by simp only [List.getElem?_toArray, List.getElem?_cons_zero, List.getElem?_cons_succ]; rfl) (by kernel_rfl) (by kernel_rfl) (by kernel_rfl) (fun _ _ _ h => h) (Or.inl ⟨by rfl, ?_⟩) hHeld ?_
                    rotate_left
                    · ((intro wS hSw; (try dsimp only at hSw); go_simp) <;> (try with_reducible rfl))
                    (try simp only [Act.put, List.setIfInBounds_toArray, List.set_cons_zero, List.set_cons_succ])
                    refine wpAnyH_take (i := 15) (v := ?_) (by simp only [List.getElem?_toArray, List.getElem?_cons_zero, List.getElem?_cons_succ]; rfl) (by kernel_rfl) (by kernel_rfl) (by kernel_rfl) (fun _ _ _ h => h) (Or.inl ⟨by rfl, ?_⟩) hHeld ?_
                    rotate_left
                    · ((intro wS hSw; (try dsimp only at hSw); go_simp) <;> (try with_reducible rfl))
                    (try simp only [Act.put, List.setIfInBounds_toArray, List.set_cons_zero, List.set_cons_succ])
                    refine wpAnyH_take (i := 17) (v := ?_) (by simp only [List.getElem?_toArray, List.getElem?_cons_zero, List.getElem?_cons_succ]; rfl) (by kernel_rfl) (by kernel_rfl) (by kernel_rfl) (fun _ _ _ h => h) (Or.inl ⟨by rfl, ?_⟩) hHeld ?_
                    rotate_left
                    · ((intro wS hSw; (try dsimp only at hSw); go_simp) <;> (try with_reducible rfl))
                    (try simp only [Act.put, List.setIfInBounds_toArray, List.set_cons_zero, List.set_cons_succ])
                    refine wpAnyH_take (i := 18) (v := ?_) (by simp only [List.getElem?_toArray, List.getElem?_cons_zero, List.getElem?_cons_succ]; rfl) (by kernel_rfl) (by kernel_rfl) (by kernel_rfl) (fun _ _ _ h => h) (Or.inl ⟨by rfl, ?_⟩) hHeld ?_
                    rotate_left
                    · ((intro wS hSw; (try dsimp only at hSw); go_simp) <;> (try with_reducible rfl))
                    (try simp only [Act.put, List.setIfInBounds_toArray, List.set_cons_zero, List.set_cons_succ])
                    refine wpAnyH_ready (rs := [16]) (by kernel_rfl) (by simp) ?_
                    refine AllReadyH.cons (by simp only [List.getElem?_toArray, List.getElem?_cons_zero, List.getElem?_cons_succ]; rfl) (fun K hK => ?_) AllReadyH.nil
                    go_simp
                    refine hK.out _ _ ?_ (fun hHeld2 => ?_)
                    · exact keep5 (ext_bytesWorld _ _ _) hHeld
                    clear hK K hHeld
                    have hHeld := hHeld2
                    clear hHeld2
                    (try simp only [Act.put, List.setIfInBounds_toArray, List.set_cons_zero, List.set_cons_succ])
                    refine wpAnyH_ready (rs := [19]) (by kernel_rfl) (by simp) ?_
                    refine AllReadyH.cons (by simp only [List.getElem?_toArray, List.getElem?_cons_zero, List.getElem?_cons_succ]; rfl) (fun K hK => ?_) AllReadyH.nil
                    go_simp
                    go_upon
                    go_at_call 352
                    ((with_reducible refine HM.out.mono ?_); rintro e w' ⟨rfl, he⟩)
                    refine hK.out _ _ ?_ (fun hHeld2 => ?_)
                    · exact keep5 he hHeld
                    clear hK K hHeld
                    have hHeld := hHeld2
                    clear hHeld2
                    (try simp only [Act.put, List.setIfInBounds_toArray, List.set_cons_zero, List.set_cons_succ])
                    refine wpAnyH_take (i := 20) (v := ?_) (by simp only [List.getElem?_toArray, List.getElem?_cons_zero, List.getElem?_cons_succ]; rfl) (by kernel_rfl) (by kernel_rfl) (by kernel_rfl) (fun _ _ _ h => h) (Or.inl ⟨by rfl, ?_⟩) hHeld ?_
                    rotate_left
                    · ((intro wS hSw; (try dsimp only at hSw); go_simp) <;> (try with_reducible rfl))
                    (try simp only [Act.put, List.setIfInBounds_toArray, List.set_cons_zero, List.set_cons_succ])
                    refine wpAnyH_done (by kernel_rfl) ?_ _
                    refine NoPanic.normal ?_
                    have hE := hHeld.2.2.2.2
                    clear hHeld
                    go_wp2
                    go_meet
                    exact ⟨rfl, hE⟩
                case rest =>
                  obtain ⟨rfl, he8⟩ := hcut
                  go_wp2
                  go_ret
                  exact ⟨rfl, he8⟩
end Go.Proofs.YtchlkclpikdbjaaGreatDoor
