/-
  gocid: CidFromBytes of a CID of version 1 with a multihash of a peer.
-/
import Derived.Test.YtchlkclpikdbjaaGreatDoorMd
import Derived.Test.YtchlkclpikdbjaaGreatDoorUv
import Derived.StillTailTactics
import Derived.Test.YtchlkclpikdbjaaGreatDoorMb
import Derived.Test.YtchlkclpikdbjaaGreatDoorShelf
namespace Go.Proofs.YtchlkclpikdbjaaGreatDoor
set_option linter.unusedVariables false
set_option linter.unusedSimpArgs false
open Go.RowKit Go.Sort

/-- the bytes of a CID of version 1 -/
def cidL (x : Nat) (l : List UInt8) : List UInt8 := Lib.uvarint 1 ++ (Lib.uvarint x ++ l)
theorem uv_one : Lib.uvarint 1 = [1] := by rw [Lib.uvarint_small (by decide)]; rfl
theorem cidL_eq (x : Nat) (l : List UInt8) : cidL x l = 1 :: (Lib.uvarint x ++ l) := by unfold cidL; rw [uv_one]; rfl
theorem cid_zero : (Tryz.prog.info? 146).map (fun i => (i.zero.map (·.cells))) = some (some #[.string ⟨#[]⟩]) := by kernel_rfl
theorem results_tmp_cell_tmp {P : Program} {fn : Func} {p u u2 : Tmp} {ty : TypeId} (h : fn.results = #[.tmp u, .cell p ty, .tmp u2]) (tmps : Array Value) (w : World) (g : Nat) (t : TypeId) (cs : Array Value) (fr : Nat × Nat) (d : TypeDesc)
    (hp : tmps.getD p undef = .pointer (some ⟨g, 0, none⟩)) (hg : w.heap[g]? = some (.cells cs t fr))
    (hu : P.underlying ty = some d) (hd : (match d with | .struct _ | .array _ _ => true | _ => false) = true) (hi : (P.info? ty).map (·.size) = some cs.size) :
    (results fn tmps).run P w = .ok (.tuple #[tmps.getD u undef, .agg cs, tmps.getD u2 undef]) w := by
  have hp' : tmps[p]?.getD undef = .pointer (some ⟨g, 0, none⟩) := by simpa using hp
  simp [results, h, hp', asAddr, run_loadVar_row w g t ty cs fr d hg hu hd hi]

set_option maxHeartbeats 1000000 in
set_option maxRecDepth 100000 in
theorem cidFrom_ok (x : Nat) (hx : x < 9223372036854775808) (c : Nat) (r l : List UInt8) (h : Mh c r l) (v : Value) (w : World) (hv : By w (cidL x l) v) :
    Calls Tryz.prog 306 #[v] w fun e w' => e = .returned (.tuple #[.int .i64 ((cidL x l).length : Int), .agg #[.string ⟨(cidL x l).toArray⟩], .nilIface]) ∧ Ext w w' := by
  obtain ⟨X, hX⟩ : ∃ X : Int, X = (x : Int) := ⟨_, rfl⟩
  obtain ⟨k, hk⟩ : ∃ k, k = (Lib.uvarint x).length := ⟨_, rfl⟩
  have hk9 := uv_le9 hx
  have hk1 := Lib.uvarint_pos x
  have hl : l.length = r.length + 2 ∧ r.length < 128 := by obtain ⟨-, -, h2, h3⟩ := h; exact ⟨by rw [h3]; simp, h2⟩
  have hN : (cidL x l).length = 1 + k + l.length := by rw [cidL_eq, hk]; simp; omega
  have HU1 := Lib.hid (fun w1 (h1 : Ext w w1) => fromUv_ok 1 (by decide) (Lib.uvarint x ++ l) (by simp; omega) v w1 (Ext.by h1 hv))
  have HU2 := Lib.hid (fun v w hv => fromUv_ok x hx l (by omega) v w hv)
  have HM := Lib.hid (fun v w hv => mhFrom_ok c r l h v w hv)
  rw [uv_one] at HU1
  rw [← hk, ← hX] at HU2
  have HV := Lib.hid hv
  obtain ⟨a, cap, rfl, h3, h4⟩ := hv
  obtain ⟨g, o, rfl, hrow⟩ := h4 (by rw [cidL_eq]; simp)
  have hc0 : w.cell? ⟨g, o, none⟩ = some (.int .u8 1) := hrow 0 _ (by rw [cidL_eq]; rfl)
  obtain ⟨m, hm⟩ : ∃ m, m = l.length := ⟨_, rfl⟩
  rw [← hm] at hN hl HM
  obtain ⟨N, hNN⟩ : ∃ N, N = (cidL x l).length := ⟨_, rfl⟩
  rw [← hNN] at HV h3 hN HU1 ⊢
  have HN := Lib.hid hN
  have HNN := Lib.hid hNN
  have HK := Lib.hid hk
  have hb : 3 ≤ N ∧ N ≤ 1000 ∧ k ≤ 9 ∧ 1 ≤ k ∧ 1 + k < N ∧ N - (1 + k) = m := by omega
  have HBY1 : ∀ w1, Ext w w1 → By w1 (Lib.uvarint x ++ l) (.slice (some ⟨g, o + 1, none⟩) (N - 1) (cap - 1)) := fun w1 h1 => by
    have := by_drop (Ext.by h1 HV.out) 1 (by omega)
    rwa [cidL_eq] at this
  have HBY2 : ∀ w1, Ext w w1 → By w1 l (.slice (some ⟨g, o + (1 + k), none⟩) (N - (1 + k)) (cap - (1 + k))) := fun w1 h1 => by
    have := by_drop (Ext.by h1 HV.out) (1 + k) (by omega)
    rwa [cidL_eq, show 1 + k = k + 1 by omega, List.drop_succ_cons, HK.out, List.drop_left, ← HK.out, show k + 1 = 1 + k by omega] at this
  have HB1 := Lib.hid HBY1
  have HB2 := Lib.hid HBY2
  clear hrow h4 hN hNN hk hk9 hk1 hl hm hX hx h HBY1 HBY2
  have hNI : 2 < (N : Int) := by omega
  have hcapI : (N : Int) ≤ (cap : Int) := by omega
  have hcap1 : 1 < cap := by omega
  have hcap2 : 1 + k < cap := by omega
  have hk1 : 1 ≤ k ∧ k ≤ 9 := by omega
  have hkN : 1 + k < N := by omega
  go_enter Tryz.func306, Tryz.ntmps306
  go_wp2_with (refine wpList_newz rfl _ rfl _ cid_zero ?_; intro w1 hn1; have hc1 := hn1.ext.cell hc0)
  refine (HU1.out w1 hn1.ext).mono ?_
  rintro e w2 ⟨rfl, rfl⟩
  go_wp2_with (fail)
  refine (HU2.out _ w1 (HB1.out w1 hn1.ext)).mono ?_
  rintro e w2 ⟨rfl, rfl⟩
  go_wp2_with (fail)
  have hby2 := HB2.out w1 hn1.ext
  rw [hb.2.2.2.2.2] at hby2
  refine (HM.out _ w1 hby2).mono ?_
  rintro e w2 ⟨rfl, he2⟩
  have hblk := Ext.block he2 hn1.blk
  have HE2 := Lib.hid (hn1.ext.trans he2)
  clear he2 hby2
  have hsum : (1 : Int) + (k : Int) + (m : Int) = (N : Int) := by omega
  have hconv : ∀ w', Ext w w' → (convert 22 9 (.slice (some ⟨g, o, none⟩) N cap)).run Tryz.prog w' = .ok (.string ⟨(cidL x l).toArray⟩) w' := fun w' h' => conv_str (Ext.by h' HV.out)
  go_wp2_with (fail)
  have hcv := hconv w2.drew (Ext.drew HE2.out)
  go_still_tail 7, (by kernel_rfl)
  change wpList _ _ _ _ _ w2.drew
  have hblk2 := Ext.block (Ext.drew (Ext.refl w2)) hblk
  have HE3 := Lib.hid (Ext.drew HE2.out)
  generalize w2.drew = w3 at hblk2 HE3
  clear hcv hconv hblk
  obtain ⟨S, hS⟩ : ∃ S : ByteArray, S = ⟨(cidL x l).toArray⟩ := ⟨_, rfl⟩
  rw [← hS]
  have HS := Lib.hid hS
  clear hS
  go_wp2_with (refine wpList_put (w := w3) rfl 146 _ _ rfl w.heap.size #[.string S] rfl rfl 146 _ hblk2 ?c2 ?c3 ?c4 ?_; (case c2 => kernel_rfl); (case c3 => rfl); (case c4 => simp [Value.oneCell']); intro w4 hp4)
  refine bodyPost_ret (results_tmp_cell_tmp Tryz.results306 _ _ w.heap.size 146 _ (0, 0) _ rfl hp4.blk Tryz.underlying146 rfl (by kernel_rfl)) rfl ⟨by rw [← HS.out]; rfl, hp4.below (Nat.le_refl _) HE3.out⟩
end Go.Proofs.YtchlkclpikdbjaaGreatDoor
namespace Go.Proofs.YtchlkclpikdbjaaGreatDoor
set_option linter.unusedVariables false
set_option linter.unusedSimpArgs false
open Go.RowKit Go.Sort

abbrev cidV (x : Nat) (l : List UInt8) : Value := .agg #[.string ⟨(cidL x l).toArray⟩]

set_option maxHeartbeats 1000000 in
set_option maxRecDepth 100000 in
theorem cidCast_ok (x : Nat) (hx : x < 9223372036854775808) (c : Nat) (r l : List UInt8) (h : Mh c r l) (v : Value) (w : World) (hv : By w (cidL x l) v) :
    Calls Tryz.prog 252 #[v] w fun e w' => e = .returned (.tuple #[cidV x l, .nilIface]) ∧ Ext w w' := by
  have HC := Lib.hid (fun w1 (h1 : Ext w w1) => cidFrom_ok x hx c r l h v w1 (Ext.by h1 hv))
  obtain ⟨a, cap, rfl, h3, h4⟩ := hv
  obtain ⟨S, hS⟩ : ∃ S : ByteArray, S = ⟨(cidL x l).toArray⟩ := ⟨_, rfl⟩
  obtain ⟨N, hNN⟩ : ∃ N, N = (cidL x l).length := ⟨_, rfl⟩
  unfold cidV
  rw [← hS, ← hNN] at HC
  rw [← hS, ← hNN]
  clear h3 h4 h hNN hS hx
  go_enter Tryz.func252, Tryz.ntmps252
  go_wp2_with (refine wpList_newz rfl _ rfl _ cid_zero ?_; intro w1 hn1)
  refine (HC.out w1 hn1.ext).mono ?_
  rintro e w2 ⟨rfl, he2⟩
  have hblk := Ext.block he2 hn1.blk
  have hlt := hn1.size
  have hlt2 := he2.size
  have HE2 := Lib.hid (hn1.ext.trans he2)
  clear he2
  go_wp2_with (first
    | (refine wpList_newz (w := w2) rfl _ rfl _ cid_zero ?_; intro w3 hn3; have hblk3 := Ext.block hn3.ext hblk)
    | (refine wpList_put (w := w3) rfl 146 _ _ rfl w2.heap.size #[.string S] rfl rfl 146 _ hn3.blk ?c2 ?c3 ?c4 ?_; (case c2 => kernel_rfl); (case c3 => rfl); (case c4 => simp [Value.oneCell']); intro w4 hp4; have hblk4 := (hp4.other w.heap.size (by omega)).trans hblk3)
    | (refine wpList_load_blk (w := w4) rfl 146 _ rfl w2.heap.size rfl _ _ _ hp4.blk _ Tryz.underlying146 rfl ?c1 ?_; (case c1 => kernel_rfl))
    | (refine wpList_put (w := w4) rfl 146 _ _ rfl w.heap.size #[.string S] rfl rfl 146 _ hblk4 ?c2 ?c3 ?c4 ?_; (case c2 => kernel_rfl); (case c3 => rfl); (case c4 => simp [Value.oneCell']); intro w5 hp5))
  refine bodyPost_ret (results_cell_tmpM Tryz.results252 _ _ w.heap.size 146 _ (0, 0) _ rfl hp5.blk Tryz.underlying146 rfl (by kernel_rfl)) rfl ⟨rfl, hp5.below (Nat.le_refl _) (HE2.out.trans (hp4.below (Nat.le_refl _) hn3.ext))⟩

/-- the text's first two bytes -/
theorem cid_first (x : Nat) (l : List UInt8) (S : ByteArray) (hS : S = ⟨(cidL x l).toArray⟩) : ∃ h : 0 < S.size, S[0].toNat = 1 := by
  have h : 0 < S.size := by rw [Lib.size_eq, hS, cidL_eq]; simp
  exact ⟨h, by rw [getElem_eq hS h, cidL_eq]; rfl⟩

set_option maxHeartbeats 1000000 in
set_option maxRecDepth 100000 in
theorem cidVersion_ok (x : Nat) (l : List UInt8) (w : World) :
    Calls Tryz.prog 253 #[cidV x l] w fun e w' => e = .returned (.int .u64 1) ∧ Ext w w' := by
  obtain ⟨S, hS⟩ : ∃ S : ByteArray, S = ⟨(cidL x l).toArray⟩ := ⟨_, rfl⟩
  unfold cidV
  rw [← hS]
  obtain ⟨h0, h1⟩ := cid_first x l S hS
  have h1I : (S[0].toNat : Int) = 1 := by omega
  clear hS
  go_enter Tryz.func253, Tryz.ntmps253
  go_wp2_with (fail)
  all_goals
    go_ret
    exact ⟨rfl, Ext.alloc (Ext.refl _) _⟩

set_option maxHeartbeats 1000000 in
set_option maxRecDepth 100000 in
theorem cidDefined_ok (x : Nat) (l : List UInt8) (w : World) :
    Calls Tryz.prog 307 #[cidV x l] w fun e w' => e = .returned (.bool true) ∧ Ext w w' := by
  obtain ⟨S, hS⟩ : ∃ S : ByteArray, S = ⟨(cidL x l).toArray⟩ := ⟨_, rfl⟩
  unfold cidV
  rw [← hS]
  have hne : S.toList.isEmpty = false := by
    obtain ⟨h0, -⟩ := cid_first x l S hS
    cases h : S.toList with
    | nil =>
      exfalso
      have h1 : S.data.toList = [] := by rw [← ByteArray.toList_eq]; exact h
      have := Lib.size_eq S
      rw [h1] at this
      exact absurd h0 (by rw [this]; decide)
    | cons a r => rfl
  clear hS
  go_enter Tryz.func307, Tryz.ntmps307
  go_wp2_with (fail)
  go_ret
  exact ⟨rfl, Ext.alloc (Ext.refl _) _⟩
end Go.Proofs.YtchlkclpikdbjaaGreatDoor
namespace Go.Proofs.YtchlkclpikdbjaaGreatDoor
set_option linter.unusedVariables false
set_option linter.unusedSimpArgs false
open Go.RowKit Go.Sort
/-- what a method keeps of its receiver -/
theorem box_cell {w w2 : World} {S : ByteArray} {t : TypeId} (h : Ext (w.alloc (Obj.cells #[Value.string S] t (0, 0))) w2) : w2.cell? ⟨w.heap.size, 0, none⟩ = some (.string S) :=
  h.cell (cell_of_row _ _ 0 _ _ _ (heap_alloc_new w _))
theorem box_ext {w w2 : World} {S : ByteArray} {t : TypeId} (h : Ext (w.alloc (Obj.cells #[Value.string S] t (0, 0))) w2) : Ext w w2 := (Ext.alloc (Ext.refl w) _).trans h

set_option maxHeartbeats 1000000 in
set_option maxRecDepth 100000 in
theorem cidBytes_ok (x : Nat) (l : List UInt8) (w : World) :
    Calls Tryz.prog 255 #[cidV x l] w fun e w' => ∃ v, e = .returned v ∧ By w' (cidL x l) v ∧ Ext w w' := by
  have HD := Lib.hid (fun w => cidDefined_ok x l w)
  obtain ⟨S, hS⟩ : ∃ S : ByteArray, S = ⟨(cidL x l).toArray⟩ := ⟨_, rfl⟩
  unfold cidV at HD ⊢
  rw [← hS] at HD ⊢
  have Ht := Lib.hid (show S.data.toList = cidL x l by rw [hS])
  clear hS
  go_enter Tryz.func255, Tryz.ntmps255
  go_wp2_with (fail)
  refine (HD.out _).mono ?_
  rintro e w2 ⟨rfl, he2⟩
  have hc2 := box_cell he2
  have HE2 := Lib.hid (box_ext he2)
  clear he2
  go_wp2_with (refine wpList_bytes rfl _ rfl S rfl ?_; intro cc w3 hc3 hr3 he3 _hsz3)
  go_ret
  have hl := str_len Ht.out
  rw [Ht.out] at hr3
  exact ⟨_, rfl, hl ▸ By.of_row hr3 (by rw [← hl]; exact hc3), HE2.out.trans he3⟩

/-- the behind of a CID's bytes -/
theorem cid_drop1 (x : Nat) (l : List UInt8) : (cidL x l).drop 1 = Lib.uvarint x ++ l := by rw [cidL_eq]; rfl
theorem cid_drop2 (x : Nat) (l : List UInt8) : (cidL x l).drop (1 + (Lib.uvarint x).length) = l := by
  rw [cidL_eq, Nat.add_comm, List.drop_succ_cons, List.drop_left]

set_option maxHeartbeats 1000000 in
set_option maxRecDepth 100000 in
theorem cidHash_ok (x : Nat) (hx : x < 9223372036854775808) (l : List UInt8) (hl1 : 1 ≤ l.length) (hl : l.length ≤ 1000) (w : World) :
    Calls Tryz.prog 185 #[cidV x l] w fun e w' => ∃ v, e = .returned v ∧ By w' l v ∧ Ext w w' := by
  have HB := Lib.hid (fun w => cidBytes_ok x l w)
  have HVn := Lib.hid (fun w => cidVersion_ok x l w)
  obtain ⟨S, hS⟩ : ∃ S : ByteArray, S = ⟨(cidL x l).toArray⟩ := ⟨_, rfl⟩
  unfold cidV at HB HVn ⊢
  rw [← hS] at HB HVn ⊢
  clear hS
  obtain ⟨X, hX⟩ : ∃ X : Int, X = (x : Int) := ⟨_, rfl⟩
  obtain ⟨k, hk⟩ : ∃ k, k = (Lib.uvarint x).length := ⟨_, rfl⟩
  have hk9 := uv_le9 hx
  have hk1 := Lib.uvarint_pos x
  have hN : (cidL x l).length = 1 + k + l.length := by rw [cidL_eq, hk]; simp; omega
  have HU1 := Lib.hid (fun v w (hv : By w (cidL x l) v) => fromUv_ok 1 (by decide) (Lib.uvarint x ++ l) (by simp; omega) v w hv)
  have HU2 := Lib.hid (fun v w hv => fromUv_ok x hx l (by omega) v w hv)
  rw [uv_one] at HU1
  rw [← hk, ← hX] at HU2
  have HK := Lib.hid hk
  rw [← hk] at hk1 hk9
  have hkb : 1 ≤ k ∧ k ≤ 9 := by omega
  clear hk hX hk1 hk9 hx
  go_enter Tryz.func185, Tryz.ntmps185
  go_wp2_with (fail)
  refine (HB.out _).mono ?_
  rintro e w2 ⟨v, rfl, hby, he2⟩
  have hc2 := box_cell he2
  have HE2 := Lib.hid (box_ext he2)
  have HV := Lib.hid hby
  obtain ⟨a, cap, rfl, h3, h4⟩ := hby
  obtain ⟨g, o, rfl, hrow⟩ := h4 (by rw [cidL_eq]; simp)
  obtain ⟨N, hNN⟩ : ∃ N, N = (cidL x l).length := ⟨_, rfl⟩
  rw [← hNN] at HV h3 hN ⊢
  have hcap2 : 1 + k < cap := by omega
  have hcap1 : 1 < cap := by omega
  have hNb : 1 + k < N ∧ N ≤ 2000 := by omega
  have hNk : (N : Int) - 1 = (N : Int) - 1 := rfl
  have HB1 : Hid (∀ w1, Ext w2 w1 → By w1 (Lib.uvarint x ++ l) (.slice (some ⟨g, o + 1, none⟩) (N - 1) (cap - 1))) := Lib.hid (fun w1 h1 => by
    have := by_drop (Ext.by h1 HV.out) 1 (by omega)
    rwa [cid_drop1] at this)
  have HB2 : Hid (∀ w1, Ext w2 w1 → By w1 l (.slice (some ⟨g, o + (1 + k), none⟩) (N - (1 + k)) (cap - (1 + k)))) := Lib.hid (fun w1 h1 => by
    have := by_drop (Ext.by h1 HV.out) (1 + k) (by omega)
    rwa [HK.out, cid_drop2, ← HK.out] at this)
  clear he2 h4 hrow hNN hl hl1 hN hNk
  go_wp2_with (fail)
  refine (HVn.out w2).mono ?_
  rintro e w3 ⟨rfl, he3⟩
  have HE3 := Lib.hid he3
  clear he3
  go_wp2_with (fail)
  refine (HU1.out _ w3 (Ext.by HE3.out HV.out)).mono ?_
  rintro e w4 ⟨rfl, rfl⟩
  go_wp2_with (fail)
  refine (HU2.out _ w3 (HB1.out w3 HE3.out)).mono ?_
  rintro e w4 ⟨rfl, rfl⟩
  go_wp2_with (fail)
  go_ret
  exact ⟨_, rfl, HB2.out w3 HE3.out, HE2.out.trans HE3.out⟩
set_option maxHeartbeats 1000000 in
set_option maxRecDepth 100000 in
theorem cidType_ok (x : Nat) (hx : x < 9223372036854775808) (l : List UInt8) (hl : l.length ≤ 1000) (w : World) :
    Calls Tryz.prog 184 #[cidV x l] w fun e w' => e = .returned (.int .u64 (x : Int)) ∧ Ext w w' := by
  have HVn := Lib.hid (fun w => cidVersion_ok x l w)
  have HU1 := Lib.hid (fun w => cidUv_ok 1 (by decide) (Lib.uvarint x ++ l) (by have := uv_le9 hx; simp; omega) w)
  have HU2 := Lib.hid (fun w => cidUv_ok x hx l (by omega) w)
  obtain ⟨S, hS⟩ : ∃ S : ByteArray, S = ⟨(cidL x l).toArray⟩ := ⟨_, rfl⟩
  rw [show Lib.uvarint 1 ++ (Lib.uvarint x ++ l) = cidL x l from rfl, ← hS] at HU1
  have hex : S.extract 1 S.size = ⟨(Lib.uvarint x ++ l).toArray⟩ := by
    rw [extract_list hS, hS, cidL_eq]
    simp only [ByteArray.size, List.size_toArray, List.length_cons, List.drop_succ_cons, List.drop_zero, Nat.add_sub_cancel]
    rw [List.take_of_length_le (Nat.le_refl _)]
  have hS1 : (1 : Int) ≤ (S.size : Int) := by obtain ⟨h0, -⟩ := cid_first x l S hS; omega
  obtain ⟨S2, hS2⟩ : ∃ S2 : ByteArray, S2 = ⟨(Lib.uvarint x ++ l).toArray⟩ := ⟨_, rfl⟩
  rw [← hS2] at HU2 hex
  unfold cidV at HVn ⊢
  rw [← hS] at HVn ⊢
  rw [uv_one] at HU1
  obtain ⟨k, hk⟩ : ∃ k, k = (Lib.uvarint x).length := ⟨_, rfl⟩
  obtain ⟨X, hX⟩ : ∃ X : Int, X = (x : Int) := ⟨_, rfl⟩
  rw [← hk, ← hX] at HU2
  rw [← hX]
  clear hS hS2 hk hX hx hl
  go_enter Tryz.func184, Tryz.ntmps184
  go_wp2_with (fail)
  refine (HVn.out _).mono ?_
  rintro e w2 ⟨rfl, he2⟩
  have hc2 := box_cell he2
  have HE2 := Lib.hid (box_ext he2)
  clear he2
  go_wp2_with (fail)
  refine (HU1.out w2).mono ?_
  rintro e w3 ⟨rfl, rfl⟩
  go_wp2_with (fail)
  refine (HU2.out w2).mono ?_
  rintro e w3 ⟨rfl, rfl⟩
  go_wp2_with (fail)
  go_ret
  exact ⟨rfl, HE2.out⟩
end Go.Proofs.YtchlkclpikdbjaaGreatDoor
namespace Go.Proofs.YtchlkclpikdbjaaGreatDoor
set_option linter.unusedVariables false
set_option linter.unusedSimpArgs false
open Go.RowKit Go.Sort

theorem not_Qm : ∀ b ∈ basesL, UInt8.ofNat b ≠ 81 ∧ UInt8.ofNat b ≠ 49 ∧ b < 128 := by decide
theorem cid_lead (x : Nat) (l : List UInt8) : leadZ (cidL x l) < (cidL x l).length := by
  rw [cidL_eq]
  simp [leadZ]

theorem basesK : ∀ b ∈ basesL, bitsL b ≤ 6 ∧ (bitsL b = 0 → 2 ≤ (charsL b).length ∧ (charsL b).length ≤ 256) := by decide
theorem mb_long (b : Nat) (hb : b ∈ basesL) (x : Nat) (l : List UInt8) : 2 ≤ (mbText b (cidL x l)).length := by
  have hlen : 1 ≤ (cidL x l).length := by rw [cidL_eq]; simp
  obtain ⟨h6, hK⟩ := basesK b hb
  unfold mbText mbBody
  split
  · rename_i h0
    obtain ⟨k2, k256⟩ := hK h0
    have := numDigs_many k2 k256 (l := cidL x l) (by rw [cidL_eq]; simp [NZ])
    simp only [List.length_cons, numText, List.length_append, List.length_map]
    omega
  · rename_i h0
    simp only [List.length_cons, List.length_append, bitText_len]
    have : 1 ≤ charCount (bitsL b) (cidL x l).length := by
      unfold charCount
      rw [Nat.le_div_iff_mul_le (by omega)]
      omega
    omega

set_option maxHeartbeats 1000000 in
set_option maxRecDepth 100000 in
theorem cidDecode_ok (b : Nat) (hb : b ∈ basesL) (x : Nat) (hx : x < 9223372036854775808) (c : Nat) (r l : List UInt8) (h : Mh c r l) (w : World) (hp : PreV w) :
    Calls Tryz.prog 183 #[.string ⟨(mbText b (cidL x l)).toArray⟩] w fun e w' => e = .returned (.tuple #[cidV x l, .nilIface]) ∧ Ext w w' := by
  have hk9 := uv_le9 hx
  have hl : l.length = r.length + 2 ∧ r.length < 128 := by obtain ⟨-, -, h2, h3⟩ := h; exact ⟨by rw [h3]; simp, h2⟩
  have hN : (cidL x l).length ≤ 1000 := by rw [cidL_eq]; simp; omega
  have HM := Lib.hid (fun w1 (h1 : Ext w w1) => mbDecode_ok b hb (cidL x l) hN (cid_lead x l) w1 (h1.preV hp))
  have HC := Lib.hid (fun v w hv => cidCast_ok x hx c r l h v w hv)
  have hlo := mb_long b hb x l
  obtain ⟨S, hS⟩ : ∃ S : ByteArray, S = ⟨(mbText b (cidL x l)).toArray⟩ := ⟨_, rfl⟩
  rw [← hS] at HM ⊢
  have hsz : S.size = (mbText b (cidL x l)).length := by rw [hS]; simp [ByteArray.size]
  have hS2 : 2 ≤ (S.size : Int) := by omega
  have hS3 : ¬ ((S.size : Int) < 2) := by omega
  have hQ : ((S.extract 0 2).toList == [81, 109]) = false := by
    rw [beq_eq_false_iff_ne]
    intro he
    rw [extract_list hS, ByteArray.toList_eq] at he
    simp [mbText] at he
    exact (not_Qm b hb).1 he.1
  unfold cidV at HC ⊢
  obtain ⟨S2, hS2⟩ : ∃ S2 : ByteArray, S2 = ⟨(cidL x l).toArray⟩ := ⟨_, rfl⟩
  rw [← hS2] at HC ⊢
  clear hS hsz hlo hN hl hk9 hS2 hp hb h
  go_enter Tryz.func183, Tryz.ntmps183
  go_wp2_with (refine wpList_newz rfl _ rfl _ cid_zero ?_; intro w1 hn1)
  all_goals
    refine (HM.out w1 hn1.ext).mono ?_
    rintro e w2 ⟨enc, v, rfl, hby, he2⟩
    have hblk := Ext.block he2 hn1.blk
    have HE2 := Lib.hid (hn1.ext.trans he2)
    have HBY := Lib.hid hby
    clear he2 hby
    go_wp2_with (fail)
    refine (HC.out v w2 HBY.out).mono ?_
    rintro e w3 ⟨rfl, he3⟩
    have hblk3 := Ext.block he3 hblk
    have HE3 := Lib.hid (HE2.out.trans he3)
    clear he3
    go_wp2_with (refine wpList_put (w := w3) rfl 146 _ _ rfl w.heap.size #[.string S2] rfl rfl 146 _ hblk3 ?c2 ?c3 ?c4 ?_; (case c2 => kernel_rfl); (case c3 => rfl); (case c4 => simp [Value.oneCell']); intro w4 hp4)
    refine bodyPost_ret (results_cell_tmpM Tryz.results183 _ _ w.heap.size 146 _ (0, 0) _ rfl hp4.blk Tryz.underlying146 rfl (by kernel_rfl)) rfl ⟨rfl, hp4.below (Nat.le_refl _) HE3.out⟩
end Go.Proofs.YtchlkclpikdbjaaGreatDoor
namespace Go.Proofs.YtchlkclpikdbjaaGreatDoor
set_option linter.unusedVariables false
set_option linter.unusedSimpArgs false
open Go.RowKit Go.Sort

theorem errMade_ok (s : ByteArray) (w : World) : Calls Tryz.prog 28 #[.string s] w fun e w' => ∃ t p, e = .returned (.iface t (.pointer (some p))) ∧ Ext w w' := by
  go_enter Tryz.func28, Tryz.ntmps28
  go_wp2_with (fail)
  go_ret
  exact ⟨_, _, rfl, Ext.alloc (Ext.refl _) _⟩

theorem no_prefix (b : Nat) (hb : b ∈ basesL) (t : List UInt8) (S : ByteArray) (hS : S = ⟨(UInt8.ofNat b :: t).toArray⟩) : Lib.hasPrefix S.data.toList [81, 109] = false ∧ Lib.hasPrefix S.data.toList [49] = false := by
  obtain ⟨h1, h2, -⟩ := not_Qm b hb
  rw [hS]
  constructor
  · simp [Lib.hasPrefix, List.isPrefixOf]
    intro h; exact absurd h.symm h1
  · simp [Lib.hasPrefix, List.isPrefixOf]
    intro h; exact absurd h.symm h2

set_option maxHeartbeats 1000000 in
set_option maxRecDepth 100000 in
theorem p2pCid_ok (b : Nat) (hb : b ∈ basesL) (c : Nat) (r l : List UInt8) (h : Mh c r l) (hc : (c = 18 ∧ r.length = 32) ∨ c = 0) (w : World) (hp : PreV w) :
    Calls Tryz.prog 138 #[.string ⟨(mbText b (cidL 114 l)).toArray⟩] w fun e w' => ∃ v, e = .returned (.tuple #[v, .nilIface]) ∧ By w' l v ∧ Ext w w' := by
  have hl : l.length = r.length + 2 ∧ r.length < 128 := by obtain ⟨-, -, h2, h3⟩ := h; exact ⟨by rw [h3]; simp, h2⟩
  have HD := Lib.hid (fun w1 (h1 : Ext w w1) => cidDecode_ok b hb 114 (by decide) c r l h w1 (h1.preV hp))
  have HT := Lib.hid (fun w => cidType_ok 114 (by decide) l (by omega) w)
  have HH := Lib.hid (fun w => cidHash_ok 114 (by decide) l (by omega) (by omega) w)
  have HV := Lib.hid (fun v w hv => p2pVal_ok c r l h hc v w hv)
  obtain ⟨S, hS⟩ : ∃ S : ByteArray, S = ⟨(mbText b (cidL 114 l)).toArray⟩ := ⟨_, rfl⟩
  obtain ⟨hp1, hp2⟩ := no_prefix b hb (mbBody b (cidL 114 l)) S hS
  unfold cidV at HD HT HH
  obtain ⟨S2, hS2⟩ : ∃ S2 : ByteArray, S2 = ⟨(cidL 114 l).toArray⟩ := ⟨_, rfl⟩
  rw [← hS2] at HD HT HH
  rw [← hS] at HD ⊢
  clear hS hS2 h hc hb hp hl
  go_enter Tryz.func138, Tryz.ntmps138
  go_wp2_with (go_at_call 181; refine (Tryz.strings_HasPrefix S _ _).mono ?_; rintro e w0 ⟨rfl, rfl⟩)
  refine (HD.out w0 (Ext.refl _)).mono ?_
  rintro e w1 ⟨rfl, he1⟩
  have HE1 := Lib.hid he1
  clear he1
  go_wp2_with (first
    | (refine wpList_newz (w := w1) rfl _ rfl _ cid_zero ?_; intro w2 hn2)
    | (refine wpList_put (w := w2) rfl 146 _ _ rfl w1.heap.size #[.string S2] rfl rfl 146 _ hn2.blk ?c2 ?c3 ?c4 ?_; (case c2 => kernel_rfl); (case c3 => rfl); (case c4 => simp [Value.oneCell']); intro w3 hp3; have hblk := hp3.blk; have hE3 : Ext w0 w3 := hp3.below HE1.out.size (HE1.out.trans hn2.ext); have HE3 := Lib.hid hE3; clear hE3)
    | (refine wpList_load_blk (w := w3) rfl 146 _ rfl w1.heap.size rfl _ _ _ hblk _ Tryz.underlying146 rfl ?_ ?_; (· kernel_rfl))
    | (go_at_call 184; refine (HT.out w3).mono ?_; rintro e w4 ⟨rfl, he4⟩; have hblk4 := Ext.block he4 hblk; have HE4 := Lib.hid (HE3.out.trans he4); clear he4)
    | (refine wpList_load_blk (w := w4) rfl 146 _ rfl w1.heap.size rfl _ _ _ hblk4 _ Tryz.underlying146 rfl ?_ ?_; (· kernel_rfl))
    | fail)
  refine (HH.out w4).mono ?_
  rintro e w5 ⟨v, rfl, hv, he5⟩
  have hblk5 := Ext.block he5 hblk4
  have HE5 := Lib.hid (HE4.out.trans he5)
  have HVc := Lib.hid (HV.out v w5 hv)
  clear he5 hv
  go_wp2_with (first
    | (go_at_call 140; refine HVc.out.mono ?_; rintro e w6 ⟨rfl, he6⟩; have hblk6 := Ext.block he6 hblk5; have HE6 := Lib.hid (HE5.out.trans he6); clear he6)
    | (refine wpList_load_blk (w := w6) rfl 146 _ rfl w1.heap.size rfl _ _ _ hblk6 _ Tryz.underlying146 rfl ?_ ?_; (· kernel_rfl))
    | fail)
  refine (HH.out w6).mono ?_
  rintro e w7 ⟨v', rfl, hv', he7⟩
  have HE7 := Lib.hid (HE6.out.trans he7)
  clear he7
  go_wp2_with (fail)
  go_ret2
  exact ⟨_, rfl, hv', HE7.out⟩

set_option maxHeartbeats 1000000 in
set_option maxRecDepth 100000 in
theorem p2pOther_ok (b : Nat) (hb : b ∈ basesL) (x : Nat) (hx : x < 9223372036854775808) (hne : x ≠ 114) (c : Nat) (r l : List UInt8) (h : Mh c r l) (w : World) (hp : PreV w) :
    Calls Tryz.prog 138 #[.string ⟨(mbText b (cidL x l)).toArray⟩] w fun e w' => ∃ v t p, e = .returned (.tuple #[v, .iface t (.pointer (some p))]) ∧ Ext w w' := by
  have hl : l.length = r.length + 2 ∧ r.length < 128 := by obtain ⟨-, -, h2, h3⟩ := h; exact ⟨by rw [h3]; simp, h2⟩
  have HD := Lib.hid (fun w1 (h1 : Ext w w1) => cidDecode_ok b hb x hx c r l h w1 (h1.preV hp))
  have HT := Lib.hid (fun w => cidType_ok x hx l (by omega) w)
  obtain ⟨S, hS⟩ : ∃ S : ByteArray, S = ⟨(mbText b (cidL x l)).toArray⟩ := ⟨_, rfl⟩
  obtain ⟨hp1, hp2⟩ := no_prefix b hb (mbBody b (cidL x l)) S hS
  unfold cidV at HD HT
  obtain ⟨S2, hS2⟩ : ∃ S2 : ByteArray, S2 = ⟨(cidL x l).toArray⟩ := ⟨_, rfl⟩
  rw [← hS2] at HD HT
  rw [← hS] at HD ⊢
  have hxe : ((x : Int) == 114) = false := by simp; omega
  clear hS hS2 h hb hp hl hx hne
  go_enter Tryz.func138, Tryz.ntmps138
  go_wp2_with (go_at_call 181; refine (Tryz.strings_HasPrefix S _ _).mono ?_; rintro e w0 ⟨rfl, rfl⟩)
  refine (HD.out w0 (Ext.refl _)).mono ?_
  rintro e w1 ⟨rfl, he1⟩
  have HE1 := Lib.hid he1
  clear he1
  go_wp2_with (first
    | (refine wpList_newz (w := w1) rfl _ rfl _ cid_zero ?_; intro w2 hn2)
    | (refine wpList_put (w := w2) rfl 146 _ _ rfl w1.heap.size #[.string S2] rfl rfl 146 _ hn2.blk ?c2 ?c3 ?c4 ?_; (case c2 => kernel_rfl); (case c3 => rfl); (case c4 => simp [Value.oneCell']); intro w3 hp3; have hblk := hp3.blk; have hE3 : Ext w0 w3 := hp3.below HE1.out.size (HE1.out.trans hn2.ext); have HE3 := Lib.hid hE3; clear hE3)
    | (refine wpList_load_blk (w := w3) rfl 146 _ rfl w1.heap.size rfl _ _ _ hblk _ Tryz.underlying146 rfl ?_ ?_; (· kernel_rfl))
    | (go_at_call 184; refine (HT.out w3).mono ?_; rintro e w4 ⟨rfl, he4⟩; have HE4 := Lib.hid (HE3.out.trans he4); clear he4)
    | (go_at_call 28; refine (errMade_ok _ w4).mono ?_; rintro e w5 ⟨t, p, rfl, he5⟩; have HE5 := Lib.hid (HE4.out.trans he5); clear he5)
    | fail)
  go_ret2
  exact ⟨_, _, _, rfl, HE5.out⟩

set_option maxHeartbeats 1000000 in
set_option maxRecDepth 100000 in
theorem p2pOld_ok (c : Nat) (r l : List UInt8) (h : Mh c r l) (hc : (c = 18 ∧ r.length = 32) ∨ c = 0) (hz : leadZ l < l.length) (w : World)
    (hpre : Lib.hasPrefix (numText (charsL 122) 58 l) [81, 109] = true ∨ (Lib.hasPrefix (numText (charsL 122) 58 l) [81, 109] = false ∧ Lib.hasPrefix (numText (charsL 122) 58 l) [49] = true)) :
    Calls Tryz.prog 138 #[.string ⟨(numText (charsL 122) 58 l).toArray⟩] w fun e w' => ∃ v, e = .returned (.tuple #[v, .nilIface]) ∧ By w' l v ∧ Ext w w' := by
  have hl : l.length = r.length + 2 ∧ r.length < 128 := by obtain ⟨-, -, h2, h3⟩ := h; exact ⟨by rw [h3]; simp, h2⟩
  have HF := Lib.hid (fun w => fromB58_ok c r l h (by omega) hz w)
  have HV := Lib.hid (fun v w hv => p2pVal_ok c r l h hc v w hv)
  obtain ⟨S, hS⟩ : ∃ S : ByteArray, S = ⟨(numText (charsL 122) 58 l).toArray⟩ := ⟨_, rfl⟩
  have hSl : S.data.toList = numText (charsL 122) 58 l := by rw [hS]
  rw [← hSl] at hpre
  rw [← hS] at HF ⊢
  clear hS hSl h hc hz hl
  go_enter Tryz.func138, Tryz.ntmps138
  rcases hpre with hp1 | ⟨hp1, hp2⟩
  all_goals
    go_wp2_with (first
      | (go_at_call 181; refine (Tryz.strings_HasPrefix S _ _).mono ?_; rintro e w0 ⟨rfl, rfl⟩)
      | (go_at_call 182; refine (HF.out _).mono ?_; rintro e w1 ⟨v, rfl, hv, he1⟩; have HE1 := Lib.hid he1; have HB1 := Lib.hid hv; clear hv he1)
      | (go_at_call 140; refine (HV.out v w1 HB1.out).mono ?_; rintro e w2 ⟨rfl, he2⟩; have HE2 := Lib.hid (HE1.out.trans he2); have HB2 := Lib.hid (he2.by HB1.out); clear he2)
      | fail)
    go_ret2
    exact ⟨_, rfl, HB2.out, HE2.out⟩
end Go.Proofs.YtchlkclpikdbjaaGreatDoor
