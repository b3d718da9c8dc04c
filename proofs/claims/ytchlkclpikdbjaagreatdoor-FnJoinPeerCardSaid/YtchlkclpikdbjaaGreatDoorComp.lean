/-
  Components in memory, and the contracts of their small methods: Code, RawValue, Protocol, Multiaddr.
-/
import Derived.Test.YtchlkclpikdbjaaGreatDoorTextA
import Derived.Deep.RegionHeld3
import Derived.StillTailTactics
import Derived.Test.YtchlkclpikdbjaaGreatDoorMore
import Derived.Deep.QuietTactic
import Derived.BigQuiet
import Derived.Deep.DeepCutAuto
namespace Go.Proofs.YtchlkclpikdbjaaGreatDoor
set_option linter.unusedVariables false
set_option linter.unusedSimpArgs false
open Go.RowKit Go.Sort

/-- The protocol p lies in block b, the varint of its code in block gv. -/
def PrAt (w : World) (p : Pr) (b gv : Nat) : Prop := w.heap[b]? = some (.cells (p.cells (vc gv p.code)) 46 (0, 0)) ∧ Row w gv 0 ((Lib.uvarint p.code).map B)
/-- A component: its protocol and its value. -/
structure Cmp where
  p : Pr
  val : List UInt8
def Cmp.pre (c : Cmp) : List UInt8 := Lib.uvarint c.p.code ++ (if c.p.size < 0 then Lib.uvarint c.val.length else [])
def Cmp.str (c : Cmp) : ByteArray := ⟨(c.pre ++ c.val).toArray⟩
def Cmp.cells (c : Cmp) (b : Nat) : List Value := [.string c.str, .pointer (some ⟨b, 0, none⟩), .int .i64 (c.pre.length : Int)]
/-- The component c lies in block g from cell o on. -/
def CmpAt (w : World) (c : Cmp) (g o : Nat) : Prop := ∃ b gv, Row w g o (c.cells b) ∧ PrAt w c.p b gv

theorem Ext.prAt {w w' : World} (h : Ext w w') {p : Pr} {b gv : Nat} (hp : PrAt w p b gv) : PrAt w' p b gv := ⟨h.block hp.1, h.row hp.2⟩
theorem Ext.cmpAt {w w' : World} (h : Ext w w') {c : Cmp} {g o : Nat} (hc : CmpAt w c g o) : CmpAt w' c g o := by
  obtain ⟨b, gv, h1, h2⟩ := hc
  exact ⟨b, gv, h.row h1, h.prAt h2⟩
theorem PrAt.cell {w : World} {p : Pr} {b gv : Nat} (h : PrAt w p b gv) (j : Nat) : w.cell? ⟨b, j, none⟩ = (p.cells (vc gv p.code))[j]? := cell_of_row w b j _ _ _ h.1
theorem PrAt.by {w : World} {p : Pr} {b gv : Nat} (h : PrAt w p b gv) : By w (Lib.uvarint p.code) (vc gv p.code) := By.of_row h.2 (Nat.le_refl _)
theorem cmp_str (c : Cmp) : c.str.data.toList = c.pre ++ c.val := rfl
theorem cmp_size (c : Cmp) : c.str.size = c.pre.length + c.val.length := by rw [str_len (cmp_str c), List.length_append]
theorem cmp_val (c : Cmp) : (c.str.extract c.pre.length c.str.size).data.toList = c.val := str_tail (cmp_str c) _ rfl

theorem by_bytesWorld (w : World) (s : ByteArray) (l : List UInt8) (h : s.data.toList = l) : By (Lib.bytesWorld w 5 s) l (.slice (some ⟨w.heap.size, 0, none⟩) s.size (grownCap w s.size 0 5)) := by
  have := row_bytesWorld w 5 s
  rw [h] at this
  rw [str_len h]
  exact By.of_row this (grownCap_ge w l.length 0 5)

theorem slice_from (s : ByteArray) (n : Nat) (h : n ≤ s.size) (w : World) : (Instr.slice 9 (.string s) (some (.int .i64 (n : Int))) none none).run Tryz.prog w = .ok (.string (s.extract n s.size)) w := by
  have h' : (n : Int) ≤ (s.size : Int) := by omega
  have := Tryz.underlying9
  simp [go_sem, h', this]
section
variable {P : Program}
/-- A struct (or array) is loaded that lies somewhere in a block. -/
theorem run_loadVar_at (w : World) (g o : Nat) (cs : List Value) (hr : Row w g o cs) (ty : TypeId) (d : TypeDesc)
    (hu : P.underlying ty = some d) (hd : (match d with | .struct _ | .array _ _ => true | _ => false) = true) (hi : (P.info? ty).map (·.size) = some cs.length) :
    (loadVar ty ⟨g, o, none⟩).run P w = .ok (.agg cs.toArray) w := by
  have hl : (loadCells ⟨g, o, none⟩ cs.length).run P w = .ok cs.toArray w :=
    run_loadCells_list (P := P) w ⟨g, o, none⟩ cs (fun j v hv => by rw [addr_add]; exact hr j v hv)
  cases hq : P.info? ty with
  | none => simp [hq] at hi
  | some i =>
    have hs : i.size = cs.length := by simpa [hq] using hi
    have hagg : (isAgg ty).run P w = .ok true w := by
      unfold isAgg
      rw [Sem.run_bind, run_underlying hu w]
      cases d <;> simp_all
    simp [loadVar, Sem.run_bind, hagg, sizeOf, typeInfo, hq, hs, hl]
end

theorem allocP (ρ : Operand → Value) (w : World) (o : Oper) (h : o.op = .alloc 46) : (execOp ρ o).run Tryz.prog w = .ok (.value (.pointer (some ⟨w.heap.size, 0, none⟩))) (w.alloc (.cells #[.string ⟨#[]⟩, .int .i64 0, .slice none 0 0, .int .i64 0, .bool false, .nilIface] 46 (0, 0))) := by
  unfold execOp
  simp only [h]
  simp [go_sem]
theorem allocC (ρ : Operand → Value) (w : World) (o : Oper) (h : o.op = .alloc 67) : (execOp ρ o).run Tryz.prog w = .ok (.value (.pointer (some ⟨w.heap.size, 0, none⟩))) (w.alloc (.cells #[.string ⟨#[]⟩, .pointer none, .int .i64 0] 67 (0, 0))) := by
  unfold execOp
  simp only [h]
  simp [go_sem]

/-- A list of components. -/
def MaAt (w : World) (cs : List Cmp) (v : Value) : Prop :=
  ∃ g o cap, v = .slice (some ⟨g, o, none⟩) cs.length cap ∧ cs.length ≤ cap ∧ ∀ i, (hi : i < cs.length) → CmpAt w cs[i] g (o + 3 * i)
theorem Ext.maAt {w w' : World} (h : Ext w w') {cs : List Cmp} {v : Value} (hm : MaAt w cs v) : MaAt w' cs v := by
  obtain ⟨g, o, cap, h1, h2, h3⟩ := hm
  exact ⟨g, o, cap, h1, h2, fun i hi => h.cmpAt (h3 i hi)⟩

end Go.Proofs.YtchlkclpikdbjaaGreatDoor
namespace Go.Proofs.YtchlkclpikdbjaaGreatDoor
set_option linter.unusedVariables false
set_option linter.unusedSimpArgs false
open Go.RowKit Go.Sort

/-- a component's transcoder takes its value's bytes to a text without an error -/
def HasB2S (c : Cmp) : Prop := ∃ f a b, c.p.tc = tcV a (fnV f) b ∧ Enters f ∧ B2S f c.val
/-- .. and finds nothing wrong with them -/
def HasVal (c : Cmp) : Prop := ∃ a b f, c.p.tc = tcV a b f ∧ (f = .nilFunc ∨ ∃ n, f = fnV n ∧ Enters n ∧ VBs n c.val)

set_option maxHeartbeats 1000000 in
set_option maxRecDepth 100000 in
theorem valueAndErr_ok (c : Cmp) (hb : HasB2S c) (g o : Nat) (w : World) (h : CmpAt w c g o) (ht : Tab w) : Calls Tryz.prog 195 #[.pointer (some ⟨g, o, none⟩)] w fun e w' => ∃ s, e = .returned (.tuple #[.string s, .nilIface]) ∧ Ext w w' := by
  obtain ⟨b, gv, hr, hp⟩ := h
  obtain ⟨f, a1, a3, htc, hen, hbs⟩ := hb
  have k0 : w.cell? ⟨g, o, none⟩ = some (.string c.str) := hr 0 _ rfl
  have k1 : w.cell? ⟨g, o + 1, none⟩ = some (.pointer (some ⟨b, 0, none⟩)) := hr 1 _ rfl
  have k2 : w.cell? ⟨g, o + 2, none⟩ = some (.int .i64 (c.pre.length : Int)) := hr 2 _ rfl
  have k5 : w.cell? ⟨b, 5, none⟩ = some (tcV a1 (fnV f) a3) := (hp.cell 5).trans (congrArg some htc)
  have hv := Lib.hid (cmp_val c)
  have hs := cmp_size c
  generalize c.str = s at k0 hv hs
  generalize c.pre.length = n at k2 hv hs
  have hns : n ≤ s.size := by omega
  obtain ⟨t, ht'⟩ : ∃ t, t = s.extract n s.size := ⟨_, rfl⟩
  have Ht := Lib.hid (show t.data.toList = c.val by rw [ht']; exact hv.out)
  have hsl : ∀ w, (Instr.slice 9 (.string s) (some (.int .i64 (n : Int))) none none).run Tryz.prog w = .ok (.string t) w := by
    intro w
    rw [ht']
    exact slice_from s n hns w
  have hcv := fun w => run_bytes w t
  have HM : Hid (Calls Tryz.prog 350 #[.agg #[a1, fnV f, a3], .slice (some ⟨w.heap.size, 0, none⟩) t.size (grownCap w.drew t.size 0 5)] (Lib.bytesWorld w.drew 5 t) fun e w' => ∃ s, e = .returned (.tuple #[.string s, .nilIface]) ∧ Ext (Lib.bytesWorld w.drew 5 t) w') :=
    Lib.hid (twrp_b2s f hen a1 a3 c.val hbs (Lib.bytesWorld w.drew 5 t) (Ext.tab (Ext.trans (Ext.drew (Ext.refl w)) (ext_bytesWorld _ _ _)) ht) _ (by_bytesWorld w.drew t c.val Ht.out))
  clear ht' hr hs hv hp htc hen hbs
  have kS := And.intro k0 (And.intro k1 (And.intro k2 (And.intro k5 (Ext.refl w))))
  go_enter Tryz.func195, Tryz.ntmps195
  go_wp2
  refine wp_region_noPanic ?_
  refine wp_region_held_drew (S := fun w' => w'.cell? ⟨g, o, none⟩ = some (.string s) ∧ w'.cell? ⟨g, o + 1, none⟩ = some (.pointer (some ⟨b, 0, none⟩)) ∧ w'.cell? ⟨g, o + 2, none⟩ = some (.int .i64 (n : Int)) ∧ w'.cell? ⟨b, 5, none⟩ = some (tcV a1 (fnV f) a3) ∧ Ext w w') (by kernel_rfl) ?_ (fun hHeld => ?_)
  · exact keep5 (Ext.drew (Ext.refl _)) kS
  refine wpAnyH_take (i := 0) (v := ?_) (by simp only [List.getElem?_toArray, List.getElem?_cons_zero]; rfl) (by kernel_rfl) (by kernel_rfl) (by kernel_rfl) (fun _ _ _ h => h) (Or.inl ⟨by rfl, ?_⟩) hHeld ?_
  rotate_left
  · ((intro wS hSw; (try dsimp only at hSw); go_simp) <;> (try with_reducible rfl))
  (try simp only [Act.put, List.setIfInBounds_toArray, List.set_cons_zero, List.set_cons_succ])
  refine wpAnyH_take (i := 1) (v := ?_) (by simp only [List.getElem?_toArray, List.getElem?_cons_zero, List.getElem?_cons_succ]; rfl) (by kernel_rfl) (by kernel_rfl) (by kernel_rfl) (fun _ _ _ h => h) (Or.inl ⟨by rfl, ?_⟩) hHeld ?_
  rotate_left
  · ((intro wS hSw; (try dsimp only at hSw); go_simp) <;> (try with_reducible rfl))
  (try simp only [Act.put, List.setIfInBounds_toArray, List.set_cons_zero, List.set_cons_succ])
  refine wpAnyH_take (i := 2) (v := ?_) (by simp only [List.getElem?_toArray, List.getElem?_cons_zero, List.getElem?_cons_succ]; rfl) (by kernel_rfl) (by kernel_rfl) (by kernel_rfl) (fun _ _ _ h => h) (Or.inl ⟨by rfl, ?_⟩) hHeld ?_
  rotate_left
  · ((intro wS hSw; (try dsimp only at hSw); go_simp) <;> (try with_reducible rfl))
  (try simp only [Act.put, List.setIfInBounds_toArray, List.set_cons_zero, List.set_cons_succ])
  refine wpAnyH_take (i := 3) (v := ?_) (by simp only [List.getElem?_toArray, List.getElem?_cons_zero, List.getElem?_cons_succ]; rfl) (by kernel_rfl) (by kernel_rfl) (by kernel_rfl) (fun _ _ _ h => h) (Or.inl ⟨by rfl, ?_⟩) hHeld ?_
  rotate_left
  · ((intro wS hSw; (try dsimp only at hSw); go_simp) <;> (try with_reducible rfl))
  (try simp only [Act.put, List.setIfInBounds_toArray, List.set_cons_zero, List.set_cons_succ])
  refine wpAnyH_take (i := 4) (v := ?_) (by simp only [List.getElem?_toArray, List.getElem?_cons_zero, List.getElem?_cons_succ]; rfl) (by kernel_rfl) (by kernel_rfl) (by kernel_rfl) (fun _ _ _ h => h) (Or.inl ⟨by rfl, ?_⟩) hHeld ?_
  rotate_left
  · ((intro wS hSw; (try dsimp only at hSw); go_simp) <;> (try with_reducible rfl))
  (try simp only [Act.put, List.setIfInBounds_toArray, List.set_cons_zero, List.set_cons_succ])
  refine wpAnyH_take (i := 5) (v := ?_) (by simp only [List.getElem?_toArray, List.getElem?_cons_zero, List.getElem?_cons_succ]; rfl) (by kernel_rfl) (by kernel_rfl) (by kernel_rfl) (fun _ _ _ h => h) (Or.inl ⟨by rfl, ?_⟩) hHeld ?_
  rotate_left
  · ((intro wS hSw; (try dsimp only at hSw); go_simp) <;> (try with_reducible rfl))
  (try simp only [Act.put, List.setIfInBounds_toArray, List.set_cons_zero, List.set_cons_succ])
  refine wpAnyH_take (i := 6) (v := ?_) (by simp only [List.getElem?_toArray, List.getElem?_cons_zero, List.getElem?_cons_succ]; rfl) (by kernel_rfl) (by kernel_rfl) (by kernel_rfl) (fun _ _ _ h => h) (Or.inl ⟨by rfl, ?_⟩) hHeld ?_
  rotate_left
  · ((intro wS hSw; (try dsimp only at hSw); go_simp) <;> (try with_reducible rfl))
  (try simp only [Act.put, List.setIfInBounds_toArray, List.set_cons_zero, List.set_cons_succ])
  refine wpAnyH_take (i := 7) (v := ?_) (by simp only [List.getElem?_toArray, List.getElem?_cons_zero, List.getElem?_cons_succ]; rfl) (by kernel_rfl) (by kernel_rfl) (by kernel_rfl) (fun _ _ _ h => h) (Or.inl ⟨by rfl, ?_⟩) hHeld ?_
  rotate_left
  · ((intro wS hSw; (try dsimp only at hSw); go_simp) <;> (try with_reducible rfl))
  (try simp only [Act.put, List.setIfInBounds_toArray, List.set_cons_zero, List.set_cons_succ])
  refine wpAnyH_take (i := 8) (v := ?_) (by simp only [List.getElem?_toArray, List.getElem?_cons_zero, List.getElem?_cons_succ]; rfl) (by kernel_rfl) (by kernel_rfl) (by kernel_rfl) (fun _ _ _ h => h) (Or.inl ⟨by rfl, ?_⟩) hHeld ?_
  rotate_left
  · ((intro wS hSw; (try dsimp only at hSw); go_simp) <;> (try with_reducible rfl))
  (try simp only [Act.put, List.setIfInBounds_toArray, List.set_cons_zero, List.set_cons_succ])
  refine wpAnyH_take (i := 9) (v := ?_) (by simp only [List.getElem?_toArray, List.getElem?_cons_zero, List.getElem?_cons_succ]; rfl) (by kernel_rfl) (by kernel_rfl) (by kernel_rfl) (fun _ _ _ h => h) (Or.inl ⟨by rfl, ?_⟩) hHeld ?_
  rotate_left
  · ((intro wS hSw; (try dsimp only at hSw); go_simp) <;> (try with_reducible rfl))
  (try simp only [Act.put, List.setIfInBounds_toArray, List.set_cons_zero, List.set_cons_succ])
  refine wpAnyH_take (i := 10) (v := ?_) (by simp only [List.getElem?_toArray, List.getElem?_cons_zero, List.getElem?_cons_succ]; rfl) (by kernel_rfl) (by kernel_rfl) (by kernel_rfl) (fun _ _ _ h => h) (Or.inl ⟨by rfl, ?_⟩) hHeld ?_
  rotate_left
  · ((intro wS hSw; (try dsimp only at hSw); go_simp) <;> (try with_reducible rfl))
  (try simp only [Act.put, List.setIfInBounds_toArray, List.set_cons_zero, List.set_cons_succ])
  refine wpAnyH_take (i := 11) (v := ?_) (by simp only [List.getElem?_toArray, List.getElem?_cons_zero, List.getElem?_cons_succ]; rfl) (by kernel_rfl) (by kernel_rfl) (by kernel_rfl) (fun _ _ _ h => h) (Or.inl ⟨by rfl, ?_⟩) hHeld ?_
  rotate_left
  · ((intro wS hSw; (try dsimp only at hSw); go_simp) <;> (try with_reducible rfl))
  (try simp only [Act.put, List.setIfInBounds_toArray, List.set_cons_zero, List.set_cons_succ])
  refine wpAnyH_take (i := 12) (v := ?_) (by simp only [List.getElem?_toArray, List.getElem?_cons_zero, List.getElem?_cons_succ]; rfl) (by kernel_rfl) (by kernel_rfl) (by kernel_rfl) (fun _ _ _ h => h) (Or.inl ⟨by rfl, ?_⟩) hHeld ?_
  rotate_left
  · ((intro wS hSw; (try dsimp only at hSw); go_simp) <;> (try with_reducible rfl))
  (try simp only [Act.put, List.setIfInBounds_toArray, List.set_cons_zero, List.set_cons_succ])
  refine wpAnyH_take (i := 13) (v := ?_) (by simp only [List.getElem?_toArray, List.getElem?_cons_zero, List.getElem?_cons_succ]; rfl) (by kernel_rfl) (by kernel_rfl) (by kernel_rfl) (fun _ _ _ h => h) (Or.inl ⟨by rfl, ?_⟩) hHeld ?_
  rotate_left
  · ((intro wS hSw; (try dsimp only at hSw); go_simp) <;> (try with_reducible rfl))
  (try simp only [Act.put, List.setIfInBounds_toArray, List.set_cons_zero, List.set_cons_succ])
  refine wpAnyH_take (i := 14) (v := ?_) (by simp only [List.getElem?_toArray, List.getElem?_cons_zero, List.getElem?_cons_succ]; rfl) (by kernel_rfl) (by kernel_rfl) (by kernel_rfl) (fun _ _ _ h => h) (Or.inl ⟨by rfl, ?_⟩) hHeld ?_
  rotate_left
  · ((intro wS hSw; (try dsimp only at hSw); go_simp) <;> (try with_reducible rfl))
  (try simp only [Act.put, List.setIfInBounds_toArray, List.set_cons_zero, List.set_cons_succ])
  refine wpAnyH_take (i := 15) (v := ?_) (by simp only [List.getElem?_toArray, List.getElem?_cons_zero, List.getElem?_cons_succ]; rfl) (by kernel_rfl) (by kernel_rfl) (by kernel_rfl) (fun _ _ _ h => h) (Or.inl ⟨by rfl, ?_⟩) hHeld ?_
  rotate_left
  · ((intro wS hSw; (try dsimp only at hSw); go_simp) <;> (try with_reducible rfl))
  (try simp only [Act.put, List.setIfInBounds_toArray, List.set_cons_zero, List.set_cons_succ])
  refine wpAnyH_take (i := 17) (v := ?_) (by simp only [List.getElem?_toArray, List.getElem?_cons_zero, List.getElem?_cons_succ]; rfl) (by kernel_rfl) (by kernel_rfl) (by kernel_rfl) (fun _ _ _ h => h) (Or.inl ⟨by rfl, ?_⟩) hHeld ?_
  rotate_left
  · ((intro wS hSw; (try dsimp only at hSw); go_simp) <;> (try with_reducible rfl))
  (try simp only [Act.put, List.setIfInBounds_toArray, List.set_cons_zero, List.set_cons_succ])
  refine wpAnyH_take (i := 18) (v := ?_) (by simp only [List.getElem?_toArray, List.getElem?_cons_zero, List.getElem?_cons_succ]; rfl) (by kernel_rfl) (by kernel_rfl) (by kernel_rfl) (fun _ _ _ h => h) (Or.inl ⟨by rfl, ?_⟩) hHeld ?_
  rotate_left
  · ((intro wS hSw; (try dsimp only at hSw); go_simp) <;> (try with_reducible rfl))
  (try simp only [Act.put, List.setIfInBounds_toArray, List.set_cons_zero, List.set_cons_succ])
  refine wpAnyH_ready (rs := [16]) (by kernel_rfl) (by simp) ?_
  refine AllReadyH.cons (by simp only [List.getElem?_toArray, List.getElem?_cons_zero, List.getElem?_cons_succ]; rfl) (fun K hK => ?_) AllReadyH.nil
  go_simp
  refine hK.out _ _ ?_ (fun hHeld2 => ?_)
  · exact keep5 (ext_bytesWorld _ _ _) hHeld
  clear hK K hHeld
  have hHeld := hHeld2
  clear hHeld2
  (try simp only [Act.put, List.setIfInBounds_toArray, List.set_cons_zero, List.set_cons_succ])
  refine wpAnyH_ready (rs := [19]) (by kernel_rfl) (by simp) ?_
  refine AllReadyH.cons (by simp only [List.getElem?_toArray, List.getElem?_cons_zero, List.getElem?_cons_succ]; rfl) (fun K hK => ?_) AllReadyH.nil
  go_simp
  go_upon
  go_at_call 350
  ((with_reducible refine HM.out.mono ?_); rintro e w' ⟨s', rfl, he⟩)
  refine hK.out _ _ ?_ (fun hHeld2 => ?_)
  · exact keep5 he hHeld
  clear hK K hHeld
  have hHeld := hHeld2
  clear hHeld2
  (try simp only [Act.put, List.setIfInBounds_toArray, List.set_cons_zero, List.set_cons_succ])
  refine wpAnyH_take (i := 20) (v := ?_) (by simp only [List.getElem?_toArray, List.getElem?_cons_zero, List.getElem?_cons_succ]; rfl) (by kernel_rfl) (by kernel_rfl) (by kernel_rfl) (fun _ _ _ h => h) (Or.inl ⟨by rfl, ?_⟩) hHeld ?_
  rotate_left
  · ((intro wS hSw; (try dsimp only at hSw); go_simp) <;> (try with_reducible rfl))
  (try simp only [Act.put, List.setIfInBounds_toArray, List.set_cons_zero, List.set_cons_succ])
  refine wpAnyH_take (i := 21) (v := ?_) (by simp only [List.getElem?_toArray, List.getElem?_cons_zero, List.getElem?_cons_succ]; rfl) (by kernel_rfl) (by kernel_rfl) (by kernel_rfl) (fun _ _ _ h => h) (Or.inl ⟨by rfl, ?_⟩) hHeld ?_
  rotate_left
  · ((intro wS hSw; (try dsimp only at hSw); go_simp) <;> (try with_reducible rfl))
  (try simp only [Act.put, List.setIfInBounds_toArray, List.set_cons_zero, List.set_cons_succ])
  refine wpAnyH_take (i := 22) (v := ?_) (by simp only [List.getElem?_toArray, List.getElem?_cons_zero, List.getElem?_cons_succ]; rfl) (by kernel_rfl) (by kernel_rfl) (by kernel_rfl) (fun _ _ _ h => h) (Or.inl ⟨by rfl, ?_⟩) hHeld ?_
  rotate_left
  · ((intro wS hSw; (try dsimp only at hSw); go_simp) <;> (try with_reducible rfl))
  (try simp only [Act.put, List.setIfInBounds_toArray, List.set_cons_zero, List.set_cons_succ])
  refine wpAnyH_take (i := 23) (v := ?_) (by simp only [List.getElem?_toArray, List.getElem?_cons_zero, List.getElem?_cons_succ]; rfl) (by kernel_rfl) (by kernel_rfl) (by kernel_rfl) (fun _ _ _ h => h) (Or.inl ⟨by rfl, ?_⟩) hHeld ?_
  rotate_left
  · ((intro wS hSw; (try dsimp only at hSw); go_simp) <;> (try with_reducible rfl))
  (try simp only [Act.put, List.setIfInBounds_toArray, List.set_cons_zero, List.set_cons_succ])
  refine wpAnyH_take (i := 24) (v := ?_) (by simp only [List.getElem?_toArray, List.getElem?_cons_zero, List.getElem?_cons_succ]; rfl) (by kernel_rfl) (by kernel_rfl) (by kernel_rfl) (fun _ _ _ h => h) (Or.inl ⟨by rfl, ?_⟩) hHeld ?_
  rotate_left
  · ((intro wS hSw; (try dsimp only at hSw); go_simp) <;> (try with_reducible rfl))
  (try simp only [Act.put, List.setIfInBounds_toArray, List.set_cons_zero, List.set_cons_succ])
  refine wpAnyH_done (by kernel_rfl) ?_ _
  refine NoPanic.normal ?_
  have hE := hHeld.2.2.2.2
  clear hHeld
  go_wp2
  go_ret2
  exact ⟨_, rfl, hE⟩

theorem or0 : ∀ y : Fin 128, bits BinOp.or IntKind.u64 0 (y.val : Int) = (y.val : Int) := by decide +kernel
set_option maxRecDepth 100000 in
/-- The varint of a small number is read. -/
theorem fromUvarint_small (x : UInt8) (hx : x.toNat < 128) (rest : List UInt8) (hr : rest.length ≤ 4294967296) (v : Value) (w : World) (hv : By w (x :: rest) v) :
    Calls Tryz.prog 193 #[v] w fun e w' => e = .returned (.tuple #[.int .u64 (x.toNat : Int), .int .i64 1, .nilIface]) ∧ w = w' := by
  obtain ⟨a, c, rfl, h2, h4⟩ := hv
  obtain ⟨g, o, rfl, hrow⟩ := h4 (by simp)
  have k0 : w.cell? ⟨g, o, none⟩ = some (.int .u8 (x.toNat : Int)) := hrow 0 _ rfl
  obtain ⟨n, hn⟩ : ∃ n, n = (x :: rest).length := ⟨_, rfl⟩
  rw [← hn]
  have hn1 : 0 < n := by rw [hn]; simp
  have hn2 : n ≤ 4294967297 := by rw [hn]; simp; omega
  have hx2 : (x.toNat : Int) < 128 := by omega
  generalize x.toNat = y at k0 hx hx2
  clear hn hrow h4 h2 hr
  go_enter Tryz.func193, Tryz.ntmps193
  go_wp2
  refine wp_loop_rounds 1 ?_
  rw [rounds_succ]
  go_wp2
  · have hy0 : (y : Int) = 0 := by assumption
    go_ret3
    refine ⟨?_, rfl⟩
    show Ending.returned (.tuple #[.int .u64 (bits BinOp.or IntKind.u64 0 0), .int .i64 1, .nilIface]) = _
    rw [hy0, show bits BinOp.or IntKind.u64 0 0 = 0 from or0 ⟨0, by decide⟩]
  · go_ret3
    refine ⟨?_, rfl⟩
    show Ending.returned (.tuple #[.int .u64 (bits BinOp.or IntKind.u64 0 (y : Int)), .int .i64 1, .nilIface]) = _
    rw [show bits BinOp.or IntKind.u64 0 (y : Int) = (y : Int) from or0 ⟨y, hx⟩]
set_option maxRecDepth 100000 in
theorem readVarint_small (x : UInt8) (hx : x.toNat < 128) (rest : List UInt8) (hr : rest.length ≤ 4294967296) (v : Value) (w : World) (hv : By w (x :: rest) v) :
    Calls Tryz.prog 153 #[v] w fun e w' => e = .returned (.tuple #[.int .i64 (x.toNat : Int), .int .i64 1, .nilIface]) ∧ w = w' := by
  have H := Lib.hid (fromUvarint_small x hx rest hr v w hv)
  have hx2 : (x.toNat : Int) < 128 := by omega
  generalize x.toNat = y at H hx2
  clear hx hr hv
  go_enter Tryz.func153, Tryz.ntmps153
  go_wp2_with (go_at_call 193; refine H.out.mono ?_; rintro e w' ⟨rfl, rfl⟩)
  go_ret3
  exact ⟨rfl, rfl⟩
end Go.Proofs.YtchlkclpikdbjaaGreatDoor
