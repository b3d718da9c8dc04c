/-
  gomultihash: decode, Decode, Cast, MHFromBytes, FromB58String; the peer's transcoder behind them.
-/
import Derived.Test.YtchlkclpikdbjaaGreatDoorUv
import Derived.Test.YtchlkclpikdbjaaGreatDoorB58d
import Derived.Test.YtchlkclpikdbjaaGreatDoorB58e
namespace Go.Proofs.YtchlkclpikdbjaaGreatDoor
set_option linter.unusedVariables false
set_option linter.unusedSimpArgs false
open Go.RowKit Go.Sort

theorem wpList_newz {ops : Array Oper} {rest : List Oper} {o : Oper} {a : Act} {w : World} {Q : Exit → Act → World → Prop} (hg : o.guard = none) (t : TypeId) (ho : o.op = .alloc t) (cs : Array Value)
    (hz : (Tryz.prog.info? t).map (fun i => (i.zero.map (·.cells))) = some (some cs))
    (h : ∀ w1, New w w1 cs t → wpList Tryz.prog ops Q rest (a.put o.dst (.pointer (some ⟨w.heap.size, 0, none⟩))) w1) : wpList Tryz.prog ops Q (o :: rest) a w := by
  obtain ⟨i, hi, h2⟩ := Option.map_eq_some_iff.1 hz
  obtain ⟨z, hz1, hz2⟩ := Option.map_eq_some_iff.1 h2
  refine wpList_new hg cs t ?_ h
  rw [← hz2]
  exact run_alloc_of w a.eval o t i z ho hi hz1
theorem wpList_load_blk {P : Program} {ops : Array Oper} {rest : List Oper} {o : Oper} {a : Act} {w : World} {Q : Exit → Act → World → Prop} (hgd : o.guard = none) (ty : TypeId) (x : Operand) (ho : o.op = .load ty x)
    (g : Nat) (hx : a.eval x = .pointer (some ⟨g, 0, none⟩)) (cs : Array Value) (t : TypeId) (fr : Nat × Nat) (hr : w.heap[g]? = some (.cells cs t fr)) (d : TypeDesc)
    (hu : P.underlying ty = some d) (hd : (match d with | .struct _ | .array _ _ => true | _ => false) = true) (hi : (P.info? ty).map (·.size) = some cs.size)
    (h : wpList P ops Q rest (a.put o.dst (.agg cs)) w) : wpList P ops Q (o :: rest) a w :=
  wpList_plain hgd fun K hK => by
    unfold Oper.wp execOp
    simp only [ho, hx, Instr.loadAt, Instr.sureAddr, Sem.run_bind, Sem.run_pure, Result.andThen_ok, run_loadVar_row w g t ty cs fr d hr hu hd hi]
    exact hK _ _ h
theorem results_cell_tmpM {P : Program} {fn : Func} {p u : Tmp} {ty : TypeId} (h : fn.results = #[.cell p ty, .tmp u]) (tmps : Array Value) (w : World) (g : Nat) (t : TypeId) (cs : Array Value) (fr : Nat × Nat) (d : TypeDesc)
    (hp : tmps.getD p undef = .pointer (some ⟨g, 0, none⟩)) (hg : w.heap[g]? = some (.cells cs t fr))
    (hu : P.underlying ty = some d) (hd : (match d with | .struct _ | .array _ _ => true | _ => false) = true) (hi : (P.info? ty).map (·.size) = some cs.size) :
    (results fn tmps).run P w = .ok (.tuple #[.agg cs, tmps.getD u undef]) w := by
  have hp' : tmps[p]?.getD undef = .pointer (some ⟨g, 0, none⟩) := by simpa using hp
  simp [results, h, hp', asAddr, run_loadVar_row w g t ty cs fr d hg hu hd hi]

/-- a decoded multihash -/
abbrev mhCells (c : Nat) (n : Nat) (s : Value) : Array Value := #[.int .u64 (c : Int), .string ⟨#[]⟩, .int .i64 (n : Int), s]
theorem mh_zero : (Tryz.prog.info? 153).map (fun i => (i.zero.map (·.cells))) = some (some #[.int .u64 0, .string ⟨#[]⟩, .int .i64 0, .slice none 0 0]) := by kernel_rfl

set_option maxHeartbeats 1000000 in
set_option maxRecDepth 100000 in
theorem mhdecode_ok (c : Nat) (r l : List UInt8) (h : Mh c r l) (v : Value) (w : World) (hv : By w l v) :
    Calls Tryz.prog 230 #[v] w fun e w' => ∃ a cc, e = .returned (.tuple #[.agg (mhCells c r.length (.slice a r.length cc)), .nilIface]) ∧ Ext w w' := by
  have HC := Lib.hid (fun w1 (h1 : Ext w w1) => mhRead_ok c r l h v w1 (Ext.by h1 hv))
  obtain ⟨hc, h1, h2, hl⟩ := h
  obtain ⟨a, cc, rfl, h3, h4⟩ := hv
  obtain ⟨n, hn⟩ : ∃ n, n = r.length := ⟨_, rfl⟩
  have hn2 : l.length = n + 2 := by rw [hl, hn]; simp
  rw [← hn] at h1 h2 HC ⊢
  rw [hn2] at HC h3 ⊢
  clear h4 hn2 hn hl
  go_enter Tryz.func230, Tryz.ntmps230
  go_wp2_with (refine wpList_newz rfl _ rfl _ mh_zero ?_; intro w1 hn1)
  refine (HC.out w1 hn1.ext).mono ?_
  rintro e w2 ⟨a2, c2, rfl, hby, he2⟩
  have hblk := Ext.block he2 hn1.blk
  have HE2 := Lib.hid (hn1.ext.trans he2)
  clear hby he2
  go_wp2_with (first
    | (refine wpList_put (w := w2) rfl 153 _ _ rfl w.heap.size (mhCells c n (.slice a2 n c2)) rfl rfl 153 _ hblk ?c2 ?c3 ?c4 ?_; (case c2 => kernel_rfl); (case c3 => rfl); (case c4 => simp [Value.oneCell']); intro w3 hp3)
    | (refine wpList_load_blk (w := w3) rfl 153 _ rfl w.heap.size rfl _ _ _ hp3.blk _ Tryz.underlying153 rfl ?c1 ?_; (case c1 => kernel_rfl))
    | (refine wpList_put (w := w3) rfl 153 _ _ rfl w.heap.size (mhCells c n (.slice a2 n c2)) rfl rfl 153 _ hp3.blk ?c2 ?c3 ?c4 ?_; (case c2 => kernel_rfl); (case c3 => rfl); (case c4 => simp [Value.oneCell']); intro w4 hp4))
  refine bodyPost_ret (results_cell_tmpM Tryz.results230 _ _ w.heap.size 153 _ (0, 0) _ rfl hp4.blk Tryz.underlying153 rfl (by kernel_rfl)) rfl ⟨_, _, rfl, hp4.below (Nat.le_refl _) (hp3.below (Nat.le_refl _) HE2.out)⟩

/-- a decoded multihash lies at g -/
def MhAt (c n : Nat) (g : Nat) (w : World) : Prop := ∃ s, w.heap[g]? = some (.cells (mhCells c n s) 153 (0, 0))

set_option maxHeartbeats 1000000 in
set_option maxRecDepth 100000 in
theorem mhDecode_ok (c : Nat) (r l : List UInt8) (h : Mh c r l) (v : Value) (w : World) (hv : By w l v) :
    Calls Tryz.prog 177 #[v] w fun e w' => ∃ g, e = .returned (.tuple #[.pointer (some ⟨g, 0, none⟩), .nilIface]) ∧ MhAt c r.length g w' ∧ Ext w w' := by
  have HC := Lib.hid (mhdecode_ok c r l h v w hv)
  obtain ⟨n, hn⟩ : ∃ n, n = r.length := ⟨_, rfl⟩
  rw [← hn] at HC ⊢
  obtain ⟨a, cc, rfl, h3, h4⟩ := hv
  clear h4 hn h
  go_enter Tryz.func177, Tryz.ntmps177
  go_wp2_with (fail)
  refine HC.out.mono ?_
  rintro e w1 ⟨a2, c2, rfl, he1⟩
  have HE1 := Lib.hid he1
  clear he1
  go_wp2_with (first
    | (refine wpList_newz rfl _ rfl _ mh_zero ?_; intro w2 hn2)
    | (refine wpList_put (w := w2) rfl 153 _ _ rfl w1.heap.size (mhCells c n (.slice a2 n c2)) rfl rfl 153 _ hn2.blk ?c2 ?c3 ?c4 ?_; (case c2 => kernel_rfl); (case c3 => rfl); (case c4 => simp [Value.oneCell']); intro w3 hp3))
  go_ret2
  exact ⟨_, rfl, ⟨_, hp3.blk⟩, HE1.out.trans (hp3.below (Nat.le_refl _) hn2.ext)⟩

set_option maxHeartbeats 1000000 in
set_option maxRecDepth 100000 in
theorem mhCast_ok (c : Nat) (r l : List UInt8) (h : Mh c r l) (v : Value) (w : World) (hv : By w l v) :
    Calls Tryz.prog 186 #[v] w fun e w' => e = .returned (.tuple #[v, .nilIface]) ∧ Ext w w' := by
  have HC := Lib.hid (mhDecode_ok c r l h v w hv)
  obtain ⟨a, cc, rfl, h3, h4⟩ := hv
  clear h4 h
  go_enter Tryz.func186, Tryz.ntmps186
  go_wp2_with (fail)
  refine HC.out.mono ?_
  rintro e w1 ⟨g, rfl, -, he1⟩
  have HE1 := Lib.hid he1
  clear he1
  go_wp2_with (fail)
  go_ret2
  exact ⟨rfl, HE1.out⟩
end Go.Proofs.YtchlkclpikdbjaaGreatDoor
namespace Go.Proofs.YtchlkclpikdbjaaGreatDoor
set_option linter.unusedVariables false
set_option linter.unusedSimpArgs false
open Go.RowKit Go.Sort

set_option maxHeartbeats 1000000 in
set_option maxRecDepth 100000 in
theorem mhFrom_ok (c : Nat) (r l : List UInt8) (h : Mh c r l) (v : Value) (w : World) (hv : By w l v) :
    Calls Tryz.prog 323 #[v] w fun e w' => e = .returned (.tuple #[.int .i64 (l.length : Int), v, .nilIface]) ∧ Ext w w' := by
  have HC := Lib.hid (mhRead_ok c r l h v w hv)
  obtain ⟨hc, h1, h2, hl⟩ := h
  obtain ⟨a, cc, rfl, h3, h4⟩ := hv
  obtain ⟨g, o, rfl, hrow⟩ := h4 (by rw [hl]; simp)
  obtain ⟨n, hn⟩ : ∃ n, n = r.length := ⟨_, rfl⟩
  have hn2 : l.length = n + 2 := by rw [hl, hn]; simp
  rw [← hn] at h1 h2 HC
  rw [hn2] at HC h3 ⊢
  clear h4 hrow hn2 hn hl
  go_enter Tryz.func323, Tryz.ntmps323
  go_wp2_with (fail)
  refine HC.out.mono ?_
  rintro e w1 ⟨a2, c2, rfl, -, he1⟩
  have HE1 := Lib.hid he1
  clear he1
  go_wp2_with (fail)
  go_quiet (fail)
  go_wp2_with (fail)
  go_ret3
  exact ⟨rfl, HE1.out.trans (ext_drewN _ _)⟩

set_option maxHeartbeats 1000000 in
set_option maxRecDepth 100000 in
theorem fromB58_ok (c : Nat) (r l : List UInt8) (h : Mh c r l) (hlen : l.length ≤ 1000) (hz : leadZ l < l.length) (w : World) :
    Calls Tryz.prog 182 #[.string ⟨(numText (charsL 122) 58 l).toArray⟩] w fun e w' => ∃ v, e = .returned (.tuple #[v, .nilIface]) ∧ By w' l v ∧ Ext w w' := by
  have HD := Lib.hid (b58DecodeD_ok l hlen hz w)
  obtain ⟨S, hS⟩ : ∃ S : ByteArray, S = ⟨(numText (charsL 122) 58 l).toArray⟩ := ⟨_, rfl⟩
  rw [← hS] at HD ⊢
  clear hS hlen hz
  go_enter Tryz.func182, Tryz.ntmps182
  go_wp2_with (fail)
  refine HD.out.mono ?_
  rintro e w1 ⟨v, rfl, hby, he1⟩
  have HC := Lib.hid (mhCast_ok c r l h v w1 hby)
  have HB := Lib.hid hby
  have HE1 := Lib.hid he1
  clear he1 hby
  go_wp2_with (fail)
  refine HC.out.mono ?_
  rintro e w2 ⟨rfl, he2⟩
  have HE2 := Lib.hid he2
  clear he2
  go_wp2_with (fail)
  go_ret2
  exact ⟨_, rfl, Ext.by HE2.out HB.out, HE1.out.trans HE2.out⟩

set_option maxHeartbeats 1000000 in
set_option maxRecDepth 100000 in
theorem p2pVal_ok (c : Nat) (r l : List UInt8) (h : Mh c r l) (hc : (c = 18 ∧ r.length = 32) ∨ c = 0) (v : Value) (w : World) (hv : By w l v) :
    Calls Tryz.prog 140 #[v] w fun e w' => e = .returned .nilIface ∧ Ext w w' := by
  have HC := Lib.hid (mhDecode_ok c r l h v w hv)
  obtain ⟨n, hn⟩ : ∃ n, n = r.length := ⟨_, rfl⟩
  rw [← hn] at HC hc
  obtain ⟨a, cc, rfl, h3, h4⟩ := hv
  clear h4 h hn
  rcases hc with ⟨rfl, rfl⟩ | rfl
  all_goals
    go_enter Tryz.func140, Tryz.ntmps140
    go_wp2_with (fail)
    refine HC.out.mono ?_
    rintro e w1 ⟨g, rfl, ⟨s, hs⟩, he1⟩
    have c0 := cell_of_row w1 g 0 _ _ _ hs
    have c2 := cell_of_row w1 g 2 _ _ _ hs
    simp only [List.getElem?_toArray, List.getElem?_cons_zero, List.getElem?_cons_succ] at c0 c2
    have HE1 := Lib.hid he1
    clear he1 hs
    go_wp2_with (fail)
    go_ret
    exact ⟨rfl, HE1.out⟩

set_option maxHeartbeats 1000000 in
set_option maxRecDepth 100000 in
theorem p2pBtS_ok (c : Nat) (r l : List UInt8) (h : Mh c r l) (hlen : l.length ≤ 1000) (hz : leadZ l < l.length) (v : Value) (w : World) (hv : By w l v) :
    Calls Tryz.prog 139 #[v] w fun e w' => e = .returned (.tuple #[.string ⟨(numText (charsL 122) 58 l).toArray⟩, .nilIface]) ∧ Ext w w' := by
  have HC := Lib.hid (mhCast_ok c r l h v w hv)
  have HB := Lib.hid (fun w1 (he : Ext w w1) => b58String_ok l hlen hz v w1 (Ext.by he hv))
  obtain ⟨S, hS⟩ : ∃ S : ByteArray, S = ⟨(numText (charsL 122) 58 l).toArray⟩ := ⟨_, rfl⟩
  rw [← hS] at HB ⊢
  obtain ⟨a, cc, rfl, h3, h4⟩ := hv
  clear h4 h hS
  go_enter Tryz.func139, Tryz.ntmps139
  go_wp2_with (fail)
  refine HC.out.mono ?_
  rintro e w1 ⟨rfl, he1⟩
  have HE1 := Lib.hid he1
  clear he1
  go_wp2_with (fail)
  refine (HB.out w1 HE1.out).mono ?_
  rintro e w2 ⟨rfl, he2⟩
  have HE2 := Lib.hid he2
  clear he2
  go_wp2_with (fail)
  go_ret2
  exact ⟨rfl, HE1.out.trans HE2.out⟩
end Go.Proofs.YtchlkclpikdbjaaGreatDoor
