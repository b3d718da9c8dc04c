/-
  The contracts of valueAndErr and validateComponent at a component that is in order.
-/
import Derived.Test.YtdlmmaolacjnaaaGreatDoorComp
import Derived.Deep.QuietTactic
import Derived.BigQuiet
import Derived.Deep.DeepCutAuto
namespace Go.Proofs.YtdlmmaolacjnaaaGreatDoor
set_option linter.unusedVariables false
set_option linter.unusedSimpArgs false
open Go.RowKit Go.Sort

/-- a component's transcoder takes its value's bytes to a text without an error -/
def HasB2S (c : Cmp) : Prop := ∃ f a b, c.p.tc = tcV a (fnV f) b ∧ Enters f ∧ B2S f c.val
/-- .. and finds nothing wrong with them -/
def HasVal (c : Cmp) : Prop := ∃ a b f, c.p.tc = tcV a b f ∧ (f = .nilFunc ∨ ∃ n, f = fnV n ∧ Enters n ∧ VBs n c.val)

theorem keep5 {w0 w w' : World} {p0 p1 p2 p3 : Addr} {v0 v1 v2 v3 : Value} (he : Ext w w') (h : w.cell? p0 = some v0 ∧ w.cell? p1 = some v1 ∧ w.cell? p2 = some v2 ∧ w.cell? p3 = some v3 ∧ Ext w0 w) :
    w'.cell? p0 = some v0 ∧ w'.cell? p1 = some v1 ∧ w'.cell? p2 = some v2 ∧ w'.cell? p3 = some v3 ∧ Ext w0 w' :=
  ⟨he.cell h.1, he.cell h.2.1, he.cell h.2.2.1, he.cell h.2.2.2.1, h.2.2.2.2.trans he⟩

set_option maxHeartbeats 1000000 in
set_option maxRecDepth 100000 in
theorem valueAndErr_ok (c : Cmp) (hb : HasB2S c) (g o : Nat) (w : World) (h : CmpAt w c g o) (ht : Tab w) : Calls Tryz.prog 75 #[.pointer (some ⟨g, o, none⟩)] w fun e w' => ∃ s, e = .returned (.tuple #[.string s, .nilIface]) ∧ Ext w w' := by
  obtain ⟨b, gv, hr, hp⟩ := h
  obtain ⟨f, a1, a3, htc, hen, hbs⟩ := hb
  have k0 : w.cell? ⟨g, o, none⟩ = some (.string c.str) := hr 0 _ rfl
  have k1 : w.cell? ⟨g, o + 1, none⟩ = some (.pointer (some ⟨b, 0, none⟩)) := hr 1 _ rfl
  have k2 : w.cell? ⟨g, o + 2, none⟩ = some (.int .i64 (c.pre.length : Int)) := hr 2 _ rfl
  have k5 : w.cell? ⟨b, 5, none⟩ = some (tcV a1 (fnV f) a3) := (hp.cell 5).trans (congrArg some htc)
  have hv := Lib.hid (cmp_val c)
  have hs := cmp_size c
  generalize c.str = s at k0 hv hs
  generalize c.pre.length = n at k2 hv hs
  have hns : n ≤ s.size := by omega
  obtain ⟨t, ht'⟩ : ∃ t, t = s.extract n s.size := ⟨_, rfl⟩
  have Ht := Lib.hid (show t.data.toList = c.val by rw [ht']; exact hv.out)
  have hsl : ∀ w, (Instr.slice 9 (.string s) (some (.int .i64 (n : Int))) none none).run Tryz.prog w = .ok (.string t) w := by
    intro w
    rw [ht']
    exact slice_from s n hns w
  have hcv := fun w => run_bytes w t
  have HM : Hid (Calls Tryz.prog 382 #[.agg #[a1, fnV f, a3], .slice (some ⟨w.heap.size, 0, none⟩) t.size (grownCap w.drew t.size 0 5)] (Lib.bytesWorld w.drew 5 t) fun e w' => ∃ s, e = .returned (.tuple #[.string s, .nilIface]) ∧ Ext (Lib.bytesWorld w.drew 5 t) w') :=
    Lib.hid (twrp_b2s f hen a1 a3 c.val hbs (Lib.bytesWorld w.drew 5 t) (Ext.tab (Ext.trans (Ext.drew (Ext.refl w)) (ext_bytesWorld _ _ _)) ht) _ (by_bytesWorld w.drew t c.val Ht.out))
  clear ht' hr hs hv hp htc hen hbs
  have kS := And.intro k0 (And.intro k1 (And.intro k2 (And.intro k5 (Ext.refl w))))
  go_enter Tryz.func75, Tryz.ntmps75
  go_wp2
  refine wp_region_noPanic ?_
  refine wp_region_held_drew (S := fun w' => w'.cell? ⟨g, o, none⟩ = some (.string s) ∧ w'.cell? ⟨g, o + 1, none⟩ = some (.pointer (some ⟨b, 0, none⟩)) ∧ w'.cell? ⟨g, o + 2, none⟩ = some (.int .i64 (n : Int)) ∧ w'.cell? ⟨b, 5, none⟩ = some (tcV a1 (fnV f) a3) ∧ Ext w w') (by kernel_rfl) ?_ (fun hHeld => ?_)
  · exact keep5 (Ext.drew (Ext.refl _)) kS
  refine wpAnyH_take (i := 0) (v := ?_) (by simp only [List.getElem?_toArray, List.getElem?_cons_zero]; rfl) (by kernel_rfl) (by kernel_rfl) (by kernel_rfl) (fun _ _ _ h => h) (Or.inl ⟨by rfl, ?_⟩) hHeld ?_
  rotate_left
  · ((intro wS hSw; (try dsimp only at hSw); go_simp) <;> (try with_reducible rfl))
  (try simp only [Act.put, List.setIfInBounds_toArray, List.set_cons_zero, List.set_cons_succ])
  refine wpAnyH_take (i := 1) (v := ?_) (by simp only [List.getElem?_toArray, List.getElem?_cons_zero, List.getElem?_cons_succ]; rfl) (by kernel_rfl) (by kernel_rfl) (by kernel_rfl) (fun _ _ _ h => h) (Or.inl ⟨by rfl, ?_⟩) hHeld ?_
  rotate_left
  · ((intro wS hSw; (try dsimp only at hSw); go_simp) <;> (try with_reducible rfl))
  (try simp only [Act.put, List.setIfInBounds_toArray, List.set_cons_zero, List.set_cons_succ])
  refine wpAnyH_take (i := 2) (v := ?_) (by simp only [List.getElem?_toArray, List.getElem?_cons_zero, List.getElem?_cons_succ]; rfl) (by kernel_rfl) (by kernel_rfl) (by kernel_rfl) (fun _ _ _ h => h) (Or.inl ⟨by rfl, ?_⟩) hHeld ?_
  rotate_left
  · ((intro wS hSw; (try dsimp only at hSw); go_simp) <;> (try with_reducible rfl))
  (try simp only [Act.put, List.setIfInBounds_toArray, List.set_cons_zero, List.set_cons_succ])
  refine wpAnyH_take (i := 3) (v := ?_) (by simp only [List.getElem?_toArray, List.getElem?_cons_zero, List.getElem?_cons_succ]; rfl) (by kernel_rfl) (by kernel_rfl) (by kernel_rfl) (fun _ _ _ h => h) (Or.inl ⟨by rfl, ?_⟩) hHeld ?_
  rotate_left
  · ((intro wS hSw; (try dsimp only at hSw); go_simp) <;> (try with_reducible rfl))
  (try simp only [Act.put, List.setIfInBounds_toArray, List.set_cons_zero, List.set_cons_succ])
  refine wpAnyH_take (i := 4) (v := ?_) (by simp only [List.getElem?_toArray, List.getElem?_cons_zero, List.getElem?_cons_succ]; rfl) (by kernel_rfl) (by kernel_rfl) (by kernel_rfl) (fun _ _ _ h => h) (Or.inl ⟨by rfl, ?_⟩) hHeld ?_
  rotate_left
  · ((intro wS hSw; (try dsimp only at hSw); go_simp) <;> (try with_reducible rfl))
  (try simp only [Act.put, List.setIfInBounds_toArray, List.set_cons_zero, List.set_cons_succ])
  refine wpAnyH_take (i := 5) (v := ?_) (by simp only [List.getElem?_toArray, List.getElem?_cons_zero, List.getElem?_cons_succ]; rfl) (by kernel_rfl) (by kernel_rfl) (by kernel_rfl) (fun _ _ _ h => h) (Or.inl ⟨by rfl, ?_⟩) hHeld ?_
  rotate_left
  · ((intro wS hSw; (try dsimp only at hSw); go_simp) <;> (try with_reducible rfl))
  (try simp only [Act.put, List.setIfInBounds_toArray, List.set_cons_zero, List.set_cons_succ])
  refine wpAnyH_take (i := 6) (v := ?_) (by simp only [List.getElem?_toArray, List.getElem?_cons_zero, List.getElem?_cons_succ]; rfl) (by kernel_rfl) (by kernel_rfl) (by kernel_rfl) (fun _ _ _ h => h) (Or.inl ⟨by rfl, ?_⟩) hHeld ?_
  rotate_left
  · ((intro wS hSw; (try dsimp only at hSw); go_simp) <;> (try with_reducible rfl))
  (try simp only [Act.put, List.setIfInBounds_toArray, List.set_cons_zero, List.set_cons_succ])
  refine wpAnyH_take (i := 7) (v := ?_) (by simp only [List.getElem?_toArray, List.getElem?_cons_zero, List.getElem?_cons_succ]; rfl) (by kernel_rfl) (by kernel_rfl) (by kernel_rfl) (fun _ _ _ h => h) (Or.inl ⟨by rfl, ?_⟩) hHeld ?_
  rotate_left
  · ((intro wS hSw; (try dsimp only at hSw); go_simp) <;> (try with_reducible rfl))
  (try simp only [Act.put, List.setIfInBounds_toArray, List.set_cons_zero, List.set_cons_succ])
  refine wpAnyH_take (i := 8) (v := ?_) (by simp only [List.getElem?_toArray, List.getElem?_cons_zero, List.getElem?_cons_succ]; rfl) (by kernel_rfl) (by kernel_rfl) (by kernel_rfl) (fun _ _ _ h => h) (Or.inl ⟨by rfl, ?_⟩) hHeld ?_
  rotate_left
  · ((intro wS hSw; (try dsimp only at hSw); go_simp) <;> (try with_reducible rfl))
  (try simp only [Act.put, List.setIfInBounds_toArray, List.set_cons_zero, List.set_cons_succ])
  refine wpAnyH_take (i := 9) (v := ?_) (by simp only [List.getElem?_toArray, List.getElem?_cons_zero, List.getElem?_cons_succ]; rfl) (by kernel_rfl) (by kernel_rfl) (by kernel_rfl) (fun _ _ _ h => h) (Or.inl ⟨by rfl, ?_⟩) hHeld ?_
  rotate_left
  · ((intro wS hSw; (try dsimp only at hSw); go_simp) <;> (try with_reducible rfl))
  (try simp only [Act.put, List.setIfInBounds_toArray, List.set_cons_zero, List.set_cons_succ])
  refine wpAnyH_take (i := 10) (v := ?_) (by simp only [List.getElem?_toArray, List.getElem?_cons_zero, List.getElem?_cons_succ]; rfl) (by kernel_rfl) (by kernel_rfl) (by kernel_rfl) (fun _ _ _ h => h) (Or.inl ⟨by rfl, ?_⟩) hHeld ?_
  rotate_left
  · ((intro wS hSw; (try dsimp only at hSw); go_simp) <;> (try with_reducible rfl))
  (try simp only [Act.put, List.setIfInBounds_toArray, List.set_cons_zero, List.set_cons_succ])
  refine wpAnyH_take (i := 11) (v := ?_) (by simp only [List.getElem?_toArray, List.getElem?_cons_zero, List.getElem?_cons_succ]; rfl) (by kernel_rfl) (by kernel_rfl) (by kernel_rfl) (fun _ _ _ h => h) (Or.inl ⟨by rfl, ?_⟩) hHeld ?_
  rotate_left
  · ((intro wS hSw; (try dsimp only at hSw); go_simp) <;> (try with_reducible rfl))
  (try simp only [Act.put, List.setIfInBounds_toArray, List.set_cons_zero, List.set_cons_succ])
  refine wpAnyH_take (i := 12) (v := ?_) (by simp only [List.getElem?_toArray, List.getElem?_cons_zero, List.getElem?_cons_succ]; rfl) (by kernel_rfl) (by kernel_rfl) (by kernel_rfl) (fun _ _ _ h => h) (Or.inl ⟨by rfl, ?_⟩) hHeld ?_
  rotate_left
  · ((intro wS hSw; (try dsimp only at hSw); go_simp) <;> (try with_reducible rfl))
  (try simp only [Act.put, List.setIfInBounds_toArray, List.set_cons_zero, List.set_cons_succ])
  refine wpAnyH_take (i := 13) (v := ?_) (by simp only [List.getElem?_toArray, List.getElem?_cons_zero, List.getElem?_cons_succ]; rfl) (by kernel_rfl) (by kernel_rfl) (by kernel_rfl) (fun _ _ _ h => h) (Or.inl ⟨by rfl, ?_⟩) hHeld ?_
  rotate_left
  · ((intro wS hSw; (try dsimp only at hSw); go_simp) <;> (try with_reducible rfl))
  (try simp only [Act.put, List.setIfInBounds_toArray, List.set_cons_zero, List.set_cons_succ])
  refine wpAnyH_take (i := 14) (v := ?_) (by simp only [List.getElem?_toArray, List.getElem?_cons_zero, List.getElem?_cons_succ]; rfl) (by kernel_rfl) (by kernel_rfl) (by kernel_rfl) (fun _ _ _ h => h) (Or.inl ⟨by rfl, ?_⟩) hHeld ?_
  rotate_left
  · ((intro wS hSw; (try dsimp only at hSw); go_simp) <;> (try with_reducible rfl))
  (try simp only [Act.put, List.setIfInBounds_toArray, List.set_cons_zero, List.set_cons_succ])
  refine wpAnyH_take (i := 15) (v := ?_) (by simp only [List.getElem?_toArray, List.getElem?_cons_zero, List.getElem?_cons_succ]; rfl) (by kernel_rfl) (by kernel_rfl) (by kernel_rfl) (fun _ _ _ h => h) (Or.inl ⟨by rfl, ?_⟩) hHeld ?_
  rotate_left
  · ((intro wS hSw; (try dsimp only at hSw); go_simp) <;> (try with_reducible rfl))
  (try simp only [Act.put, List.setIfInBounds_toArray, List.set_cons_zero, List.set_cons_succ])
  refine wpAnyH_take (i := 17) (v := ?_) (by simp only [List.getElem?_toArray, List.getElem?_cons_zero, List.getElem?_cons_succ]; rfl) (by kernel_rfl) (by kernel_rfl) (by kernel_rfl) (fun _ _ _ h => h) (Or.inl ⟨by rfl, ?_⟩) hHeld ?_
  rotate_left
  · ((intro wS hSw; (try dsimp only at hSw); go_simp) <;> (try with_reducible rfl))
  (try simp only [Act.put, List.setIfInBounds_toArray, List.set_cons_zero, List.set_cons_succ])
  refine wpAnyH_take (i := 18) (v := ?_) (by simp only [List.getElem?_toArray, List.getElem?_cons_zero, List.getElem?_cons_succ]; rfl) (by kernel_rfl) (by kernel_rfl) (by kernel_rfl) (fun _ _ _ h => h) (Or.inl ⟨by rfl, ?_⟩) hHeld ?_
  rotate_left
  · ((intro wS hSw; (try dsimp only at hSw); go_simp) <;> (try with_reducible rfl))
  (try simp only [Act.put, List.setIfInBounds_toArray, List.set_cons_zero, List.set_cons_succ])
  refine wpAnyH_ready (rs := [16]) (by kernel_rfl) (by simp) ?_
  refine AllReadyH.cons (by simp only [List.getElem?_toArray, List.getElem?_cons_zero, List.getElem?_cons_succ]; rfl) (fun K hK => ?_) AllReadyH.nil
  go_simp
  refine hK.out _ _ ?_ (fun hHeld2 => ?_)
  · exact keep5 (ext_bytesWorld _ _ _) hHeld
  clear hK K hHeld
  have hHeld := hHeld2
  clear hHeld2
  (try simp only [Act.put, List.setIfInBounds_toArray, List.set_cons_zero, List.set_cons_succ])
  refine wpAnyH_ready (rs := [19]) (by kernel_rfl) (by simp) ?_
  refine AllReadyH.cons (by simp only [List.getElem?_toArray, List.getElem?_cons_zero, List.getElem?_cons_succ]; rfl) (fun K hK => ?_) AllReadyH.nil
  go_simp
  go_upon
  go_at_call 382
  ((with_reducible refine HM.out.mono ?_); rintro e w' ⟨s', rfl, he⟩)
  refine hK.out _ _ ?_ (fun hHeld2 => ?_)
  · exact keep5 he hHeld
  clear hK K hHeld
  have hHeld := hHeld2
  clear hHeld2
  (try simp only [Act.put, List.setIfInBounds_toArray, List.set_cons_zero, List.set_cons_succ])
  refine wpAnyH_take (i := 20) (v := ?_) (by simp only [List.getElem?_toArray, List.getElem?_cons_zero, List.getElem?_cons_succ]; rfl) (by kernel_rfl) (by kernel_rfl) (by kernel_rfl) (fun _ _ _ h => h) (Or.inl ⟨by rfl, ?_⟩) hHeld ?_
  rotate_left
  · ((intro wS hSw; (try dsimp only at hSw); go_simp) <;> (try with_reducible rfl))
  (try simp only [Act.put, List.setIfInBounds_toArray, List.set_cons_zero, List.set_cons_succ])
  refine wpAnyH_take (i := 21) (v := ?_) (by simp only [List.getElem?_toArray, List.getElem?_cons_zero, List.getElem?_cons_succ]; rfl) (by kernel_rfl) (by kernel_rfl) (by kernel_rfl) (fun _ _ _ h => h) (Or.inl ⟨by rfl, ?_⟩) hHeld ?_
  rotate_left
  · ((intro wS hSw; (try dsimp only at hSw); go_simp) <;> (try with_reducible rfl))
  (try simp only [Act.put, List.setIfInBounds_toArray, List.set_cons_zero, List.set_cons_succ])
  refine wpAnyH_take (i := 22) (v := ?_) (by simp only [List.getElem?_toArray, List.getElem?_cons_zero, List.getElem?_cons_succ]; rfl) (by kernel_rfl) (by kernel_rfl) (by kernel_rfl) (fun _ _ _ h => h) (Or.inl ⟨by rfl, ?_⟩) hHeld ?_
  rotate_left
  · ((intro wS hSw; (try dsimp only at hSw); go_simp) <;> (try with_reducible rfl))
  (try simp only [Act.put, List.setIfInBounds_toArray, List.set_cons_zero, List.set_cons_succ])
  refine wpAnyH_take (i := 23) (v := ?_) (by simp only [List.getElem?_toArray, List.getElem?_cons_zero, List.getElem?_cons_succ]; rfl) (by kernel_rfl) (by kernel_rfl) (by kernel_rfl) (fun _ _ _ h => h) (Or.inl ⟨by rfl, ?_⟩) hHeld ?_
  rotate_left
  · ((intro wS hSw; (try dsimp only at hSw); go_simp) <;> (try with_reducible rfl))
  (try simp only [Act.put, List.setIfInBounds_toArray, List.set_cons_zero, List.set_cons_succ])
  refine wpAnyH_take (i := 24) (v := ?_) (by simp only [List.getElem?_toArray, List.getElem?_cons_zero, List.getElem?_cons_succ]; rfl) (by kernel_rfl) (by kernel_rfl) (by kernel_rfl) (fun _ _ _ h => h) (Or.inl ⟨by rfl, ?_⟩) hHeld ?_
  rotate_left
  · ((intro wS hSw; (try dsimp only at hSw); go_simp) <;> (try with_reducible rfl))
  (try simp only [Act.put, List.setIfInBounds_toArray, List.set_cons_zero, List.set_cons_succ])
  refine wpAnyH_done (by kernel_rfl) ?_ _
  refine NoPanic.normal ?_
  have hE := hHeld.2.2.2.2
  clear hHeld
  go_wp2
  go_ret2
  exact ⟨_, rfl, hE⟩

theorem or0 : ∀ y : Fin 128, bits BinOp.or IntKind.u64 0 (y.val : Int) = (y.val : Int) := by decide +kernel
set_option maxRecDepth 100000 in
/-- The varint of a small number is read. -/
theorem fromUvarint_small (x : UInt8) (hx : x.toNat < 128) (rest : List UInt8) (hr : rest.length ≤ 4294967296) (v : Value) (w : World) (hv : By w (x :: rest) v) :
    Calls Tryz.prog 147 #[v] w fun e w' => e = .returned (.tuple #[.int .u64 (x.toNat : Int), .int .i64 1, .nilIface]) ∧ w = w' := by
  obtain ⟨a, c, rfl, h2, h4⟩ := hv
  obtain ⟨g, o, rfl, hrow⟩ := h4 (by simp)
  have k0 : w.cell? ⟨g, o, none⟩ = some (.int .u8 (x.toNat : Int)) := hrow 0 _ rfl
  obtain ⟨n, hn⟩ : ∃ n, n = (x :: rest).length := ⟨_, rfl⟩
  rw [← hn]
  have hn1 : 0 < n := by rw [hn]; simp
  have hn2 : n ≤ 4294967297 := by rw [hn]; simp; omega
  have hx2 : (x.toNat : Int) < 128 := by omega
  generalize x.toNat = y at k0 hx hx2
  clear hn hrow h4 h2 hr
  go_enter Tryz.func147, Tryz.ntmps147
  go_wp2
  refine wp_loop_rounds 1 ?_
  rw [rounds_succ]
  go_wp2
  · have hy0 : (y : Int) = 0 := by assumption
    go_ret3
    refine ⟨?_, rfl⟩
    show Ending.returned (.tuple #[.int .u64 (bits BinOp.or IntKind.u64 0 0), .int .i64 1, .nilIface]) = _
    rw [hy0, show bits BinOp.or IntKind.u64 0 0 = 0 from or0 ⟨0, by decide⟩]
  · go_ret3
    refine ⟨?_, rfl⟩
    show Ending.returned (.tuple #[.int .u64 (bits BinOp.or IntKind.u64 0 (y : Int)), .int .i64 1, .nilIface]) = _
    rw [show bits BinOp.or IntKind.u64 0 (y : Int) = (y : Int) from or0 ⟨y, hx⟩]
set_option maxRecDepth 100000 in
theorem readVarint_small (x : UInt8) (hx : x.toNat < 128) (rest : List UInt8) (hr : rest.length ≤ 4294967296) (v : Value) (w : World) (hv : By w (x :: rest) v) :
    Calls Tryz.prog 129 #[v] w fun e w' => e = .returned (.tuple #[.int .i64 (x.toNat : Int), .int .i64 1, .nilIface]) ∧ w = w' := by
  have H := Lib.hid (fromUvarint_small x hx rest hr v w hv)
  have hx2 : (x.toNat : Int) < 128 := by omega
  generalize x.toNat = y at H hx2
  clear hx hr hv
  go_enter Tryz.func129, Tryz.ntmps129
  go_wp2_with (go_at_call 147; refine H.out.mono ?_; rintro e w' ⟨rfl, rfl⟩)
  go_ret3
  exact ⟨rfl, rfl⟩
end Go.Proofs.YtdlmmaolacjnaaaGreatDoor
