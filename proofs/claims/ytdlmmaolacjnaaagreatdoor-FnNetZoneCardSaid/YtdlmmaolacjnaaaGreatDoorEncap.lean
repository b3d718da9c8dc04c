/-
  The contracts of Join and Encapsulate at two addresses of one component each.
-/
import Derived.Test.YtdlmmaolacjnaaaGreatDoorDoor
namespace Go.Proofs.YtdlmmaolacjnaaaGreatDoor
set_option linter.unusedVariables false
set_option linter.unusedSimpArgs false
open Go.RowKit Go.Sort

section
variable {P : Program}
theorem append_types {t x1 x2 ty e : TypeId} {i : TypeInfo} (h0 : P.underlying t = some (.slice e)) (h1 : P.underlying x1 = some (.slice e)) (h2 : P.underlying x2 = some (.slice e)) (hi : P.info? e = some i) (b : Option Addr) (l c : Nat) (x : Value) (w : World) :
    (Builtin.append_ #[t, x1] ty #[.slice b l c, x]).run P w = (Builtin.append_ #[t, x2] ty #[.slice b l c, x]).run P w := by
  simp [Builtin.append_, Sem.run_bind, run_underlying h0, run_underlying h1, run_underlying h2, sizeOf, typeInfo, hi]
theorem wpList_append_where2 {w : World} {ops : Array Oper} {rest : List Oper} {o : Oper} {a : Act} {Q : Exit → Act → World → Prop} (hgd : o.guard = none) (s x : Operand) (t t2 : TypeId)
    (ho : o.op = .call { callee := .builtin .append, args := #[s, x], argTypes := #[t, t2] })
    (base : Nat) (e : TypeId) (i : TypeInfo) (z : Value) (size bytes : Nat) (ht : P.underlying t = some (.slice e)) (ht2 : P.underlying t2 = some (.slice e)) (hi : P.info? e = some i) (hz : i.zero = some z)
    (hsize : i.size = size) (hby : i.bytes = bytes) (hzs : z.cells.size = size) (hsz : 0 < size) (vb : Option Addr) (vc n : Nat) (xs : List Value) (hs : a.eval s = .slice vb n vc) (hown : w.ownsRow base e size (.slice vb n vc) n xs)
    (ad : Addr) (m c : Nat) (news : List Value) (hx : a.eval x = .slice (some ad) m c) (hl : news.length = m * size) (hm : 0 < m) (hnews : ∀ j u, news[j]? = some u → w.cell? (ad.add j) = some u) (h1 : ∀ u ∈ news, u.oneCell' = true)
    (h63 : n + m ≤ maxLen) (hbytes : (n + m) * bytes ≤ 140737488355328) (hbase : base ≤ w.heap.size)
    (h : ∀ v' w', w'.ownsRow base e size v' (n + m) (xs ++ news) → w.grownBy w' (Value.slice vb n vc).ownBlock → wpList P ops Q rest (a.put o.dst v') w') : wpList P ops Q (o :: rest) a w :=
  wpList_plain hgd fun K hK => by
    obtain ⟨v', w', hr, h2, h3, -⟩ := run_append_where (P := P) w base t o.type e i z size bytes ht hi hz hsize hby hzs hsz (.slice vb n vc) n xs hown ad m c news hl hm hnews h1 h63 hbytes hbase
    rw [append_types ht ht ht2 hi] at hr
    unfold Oper.wp execOp
    simp only [ho, resolve, invoke, builtin, Sem.run_bind, Sem.run_pure, Result.andThen_ok, List.map_toArray, List.map_cons, List.map_nil, hs, hx, hr]
    exact hK _ _ (h v' w' h2 h3)
end

theorem maMethod_ok (v : Value) (w : World) : Calls Tryz.prog 373 #[v] w fun e w' => e = .returned v ∧ w = w' := by
  go_enter Tryz.func373, Tryz.ntmps373
  go_wp2
  go_ret
  exact ⟨rfl, rfl⟩

theorem info_M : (Tryz.prog.info? 39).map (fun i => (i.zero, i.size, i.bytes)) = some (some (.slice none 0 0), 1, 24) := by kernel_rfl
/-- Two values in the row of addresses. -/
def Ms (w1 wx : World) (gM k : Nat) (v1 v2 : Value) : Prop := (k = 0 ∧ Put w1 wx gM #[.slice none 0 0, .slice none 0 0] 39) ∨ (k = 1 ∧ Put w1 wx gM #[v1, .slice none 0 0] 39) ∨ (k = 2 ∧ Put w1 wx gM #[v1, v2] 39)

theorem ma_two {w : World} {base : Nat} {c d : Cmp} {b1 gv1 b2 gv2 : Nat} {u : Value} (h : w.ownsRow base 61 3 u 2 (c.cells b1 ++ d.cells b2)) (h1 : PrAt w c.p b1 gv1) (h2 : PrAt w d.p b2 gv2) : MaAt w [c, d] u := by
  rcases id h.2 with ⟨-, h1⟩ | ⟨g, cap, cur, rfl, hb, hg, hn, hm, hs, ht⟩
  · omega
  · have hrow := row_of_own h
    have e : c.cells b1 ++ d.cells b2 = flatA [(c, b1, gv1), (d, b2, gv2)] := by simp [flatA]
    rw [e] at hrow
    refine ⟨g, 0, cap, rfl, hn, fun i hi => ?_⟩
    match i, hi with
    | 0, _ => exact ⟨b1, gv1, fun j v hj => by have := hrow _ _ (flatA_at _ 0 _ rfl j v hj); simpa using this, h1⟩
    | 1, _ => exact ⟨b2, gv2, fun j v hj => by have := hrow _ _ (flatA_at _ 1 _ rfl j v hj); simpa using this, h2⟩
theorem own_shape {w : World} {base k : Nat} {e : TypeId} {size : Nat} {u : Value} {xs : List Value} (h : w.ownsRow base e size u k xs) (hk : 0 < k) : ∃ g cap, u = .slice (some ⟨g, 0, none⟩) k cap := by
  rcases h.2 with ⟨-, h1⟩ | ⟨g, cap, cur, rfl, -⟩
  · omega
  · exact ⟨g, cap, rfl⟩

set_option maxHeartbeats 2000000 in
set_option maxRecDepth 100000 in
theorem join2_ok (c d : Cmp) (g1 o1 cap1 g2 o2 cap2 gs os : Nat) (w : World) (h1 : CmpAt w c g1 o1) (h2 : CmpAt w d g2 o2) (hb1 : 1 ≤ cap1) (hb2 : 1 ≤ cap2)
    (k0 : w.cell? ⟨gs, os, none⟩ = some (.iface 39 (.slice (some ⟨g1, o1, none⟩) 1 cap1))) (k1 : w.cell? ⟨gs, os + 1, none⟩ = some (.iface 39 (.slice (some ⟨g2, o2, none⟩) 1 cap2))) :
    Calls Tryz.prog 83 #[.slice (some ⟨gs, os, none⟩) 2 2] w fun e w' => ∃ u, e = .returned u ∧ MaAt w' [c, d] u ∧ Ext w w' := by
  obtain ⟨i0, hi, hz0, hz1, hz2⟩ := info_parts info_M
  obtain ⟨i1, hi1, hy0, hy1, hy2⟩ := info_parts info_C
  have b2 : i0.bytes * 2 ≤ 281474976710656 := by rw [hz2]; omega
  have b3 : 2 ≤ maxLen := by unfold maxLen; omega
  have HC := Lib.hid (And.intro h1 h2)
  clear h1 h2
  go_enter Tryz.func83, Tryz.ntmps83
  go_wp2_with (refine wpList_make_full _ rfl _ _ 125 rfl w.heap.size 39 i0 (.slice none 0 0) 1 Tryz.underlying125 hi hz0 hz1 _ _ _ _ 2 rfl rfl rfl rfl b2 b3 (Nat.le_refl _) ?_; intro w1 hown hgr)
  have hput : Put w1 w1 w.heap.size #[.slice none 0 0, .slice none 0 0] 39 := by
    have e : (madeCells (Value.slice none 0 0).cells (2 * 1)).toList = List.replicate 2 (.slice none 0 0) := toList_madeCells_one _ _
    rw [e] at hown
    exact Put.start (own_block hown)
  have he1 : Ext w w1 := below_of_grown hgr
  have hgs : gs < w.heap.size := block_lt_of_cell k0
  have hold : ∀ wx cs, Put w1 wx w.heap.size cs 39 → Ext w wx := fun wx cs h => h.below (Nat.le_refl _) he1
  have HOld := Lib.hid hold
  clear hown hgr hold
  go_loopg [17] 3 (fun gk s17 wx => ∃ k : Nat, s17 = .int .i64 (k : Int) ∧ gk = 3 - k ∧ Ms w1 wx w.heap.size k (.slice (some ⟨g1, o1, none⟩) 1 cap1) (.slice (some ⟨g2, o2, none⟩) 1 cap2))
  case atStart => exact ⟨0, rfl, rfl, .inl ⟨rfl, hput⟩⟩
  case round =>
    obtain ⟨k, rfl, hgk, hms⟩ := hrel
    rcases hms with ⟨rfl, hp⟩ | ⟨rfl, hp⟩ | ⟨rfl, hp⟩
    · have k0' : wr.cell? ⟨gs, os, none⟩ = some (.iface 39 (.slice (some ⟨g1, o1, none⟩) 1 cap1)) := (HOld.out _ _ hp).cell k0
      have m0 : wr.cell? ⟨w.heap.size, 0, none⟩ = some (.slice none 0 0) := hp.cells 0
      have f0 := hp.free 0
      go_wp2_with (go_at_call 373; refine (maMethod_ok _ _).mono ?_; rintro e w' ⟨rfl, rfl⟩)
      go_roundg 2
      case measure => omega
      case rel => exact ⟨1, rfl, rfl, .inr (.inl ⟨rfl, hp.set 0 _⟩)⟩
    · have k0' : wr.cell? ⟨gs, os + 1, none⟩ = some (.iface 39 (.slice (some ⟨g2, o2, none⟩) 1 cap2)) := (HOld.out _ _ hp).cell k1
      have m0 : wr.cell? ⟨w.heap.size, 1, none⟩ = some (.slice none 0 0) := hp.cells 1
      have f0 := hp.free 1
      go_wp2_with (go_at_call 373; refine (maMethod_ok _ _).mono ?_; rintro e w' ⟨rfl, rfl⟩)
      go_roundg 1
      case measure => omega
      case rel => exact ⟨2, rfl, rfl, .inr (.inr ⟨rfl, hp.set 1 _⟩)⟩
    · have hE := HOld.out _ _ hp
      have m0 : wr.cell? ⟨w.heap.size, 0, none⟩ = some (.slice (some ⟨g1, o1, none⟩) 1 cap1) := hp.cells 0
      have m1 : wr.cell? ⟨w.heap.size, 1, none⟩ = some (.slice (some ⟨g2, o2, none⟩) 1 cap2) := hp.cells 1
      clear hp
      obtain ⟨w2, rfl⟩ : ∃ w2 : World, w2 = wr := ⟨_, rfl⟩
      go_wp2
      go_loopg [6, 32] 3 (fun gk s6 s32 wx => w2 = wx ∧ ∃ k : Nat, s32 = .int .i64 (k : Int) ∧ s6 = .int .i64 (k : Int) ∧ gk = 3 - k ∧ (k = 0 ∨ k = 1 ∨ k = 2))
      case atStart => exact ⟨rfl, 0, rfl, rfl, rfl, .inl rfl⟩
      case round =>
        obtain ⟨rfl, k, rfl, rfl, hgk, hk⟩ := hrel
        rcases hk with rfl | rfl | rfl
        · go_wp2
          go_roundg 2
          case measure => omega
          case rel => exact ⟨rfl, 1, rfl, rfl, rfl, .inr (.inl rfl)⟩
        · go_wp2
          go_roundg 1
          case measure => omega
          case rel => exact ⟨rfl, 2, rfl, rfl, rfl, .inr (.inr rfl)⟩
        · have hmk : ∀ w, (Instr.makeSlice 38 (.int .i64 0) (.int .i64 2)).run Tryz.prog w = .ok (.slice (some ⟨w.heap.size, 0, none⟩) 0 2) (w.alloc (.cells #[.string ⟨#[]⟩, .pointer none, .int .i64 0, .string ⟨#[]⟩, .pointer none, .int .i64 0] 61)) := fun _ => by kernel_rfl
          obtain ⟨⟨b1, gv1, hr1, hp1⟩, ⟨b2, gv2, hr2, hp2⟩⟩ := HC.out
          have hown0 : (w2.alloc (.cells #[.string ⟨#[]⟩, .pointer none, .int .i64 0, .string ⟨#[]⟩, .pointer none, .int .i64 0] 61)).ownsRow w2.heap.size 61 3 (.slice (some ⟨w2.heap.size, 0, none⟩) 0 2) 0 [] := World.ownsRow_made w2 _ 2 (Nat.le_refl _) (by unfold maxLen; omega) rfl
          have HE := Lib.hid (And.intro hE (And.intro hr1 (And.intro hp1 (And.intro hr2 hp2))))
          clear hE hr1 hp1 hr2 hp2
          go_wp2
          go_loopg [9, 47] 3 (fun gk s9 s47 wx => ∃ k : Nat, s47 = .int .i64 (k : Int) ∧ gk = 3 - k ∧ Ext w2 wx ∧ ((k = 0 ∧ s9 = .slice (some ⟨w2.heap.size, 0, none⟩) 0 2 ∧ wx.ownsRow w2.heap.size 61 3 s9 0 []) ∨ (k = 1 ∧ wx.ownsRow w2.heap.size 61 3 s9 1 (c.cells b1)) ∨ (k = 2 ∧ wx.ownsRow w2.heap.size 61 3 s9 2 (c.cells b1 ++ d.cells b2))))
          case atStart => exact ⟨0, rfl, rfl, Ext.alloc (Ext.refl w2) _, .inl ⟨rfl, rfl, hown0⟩⟩
          case round =>
            obtain ⟨k, rfl, hgk, he2, hk⟩ := hrel
            have m0' : wr.cell? ⟨w.heap.size, 0, none⟩ = some (.slice (some ⟨g1, o1, none⟩) 1 cap1) := he2.cell m0
            have m1' : wr.cell? ⟨w.heap.size, 1, none⟩ = some (.slice (some ⟨g2, o2, none⟩) 1 cap2) := he2.cell m1
            have hbs := he2.size
            clear hown0
            rcases hk with ⟨rfl, rfl, hown⟩ | ⟨rfl, hown⟩ | ⟨rfl, hown⟩
            · go_wp2_with (at_builtin; refine wpList_append_where2 rfl _ _ 38 39 rfl w2.heap.size 61 i1 _ 3 32 Tryz.underlying38 Tryz.underlying39 hi1 hy0 hy1 hy2 rfl (by decide) _ _ 0 [] rfl hown ⟨g1, o1, none⟩ 1 cap1 (c.cells b1) rfl rfl (by decide) ?c5 ?c6 ?c7 ?c8 hbs ?_; (case c5 => intro j u hj; rw [addr_add]; exact (HE.out.1.trans he2).row HE.out.2.1 j u hj); (case c6 => simp [Cmp.cells, Value.oneCell']); (case c7 => unfold maxLen; omega); (case c8 => omega); intro u' w5 hown5 hgr5)
              have he5 : Ext w2 w5 := below_grown he2 hbs hgr5 (fun k hk => (hown.lt k hk).1)
              go_roundg 2
              case measure => omega
              case rel => exact ⟨1, rfl, rfl, he5, .inr (.inl ⟨rfl, hown5⟩)⟩
            · obtain ⟨g', cap', rfl⟩ := own_shape hown (by decide)
              go_wp2_with (at_builtin; refine wpList_append_where2 rfl _ _ 38 39 rfl w2.heap.size 61 i1 _ 3 32 Tryz.underlying38 Tryz.underlying39 hi1 hy0 hy1 hy2 rfl (by decide) _ _ 1 (c.cells b1) rfl hown ⟨g2, o2, none⟩ 1 cap2 (d.cells b2) rfl rfl (by decide) ?c5 ?c6 ?c7 ?c8 hbs ?_; (case c5 => intro j u hj; rw [addr_add]; exact (HE.out.1.trans he2).row HE.out.2.2.2.1 j u hj); (case c6 => simp [Cmp.cells, Value.oneCell']); (case c7 => unfold maxLen; omega); (case c8 => omega); intro u' w5 hown5 hgr5)
              have he5 : Ext w2 w5 := below_grown he2 hbs hgr5 (fun k hk => (hown.lt k hk).1)
              go_roundg 1
              case measure => omega
              case rel => exact ⟨2, rfl, rfl, he5, .inr (.inr ⟨rfl, hown5⟩)⟩
            · have HD : Hid (MaAt wr [c, d] u9 ∧ Ext w wr) := Lib.hid (by
                have hEE := HE.out.1.trans he2
                exact ⟨ma_two hown (hEE.prAt HE.out.2.2.1) (hEE.prAt HE.out.2.2.2.2), hEE⟩)
              clear hown
              go_wp2
              go_ret
              exact ⟨_, rfl, HD.out.1, HD.out.2⟩
end Go.Proofs.YtdlmmaolacjnaaaGreatDoor
