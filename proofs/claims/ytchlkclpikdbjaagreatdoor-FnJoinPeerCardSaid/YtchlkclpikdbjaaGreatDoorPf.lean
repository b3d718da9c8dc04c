/-
  How the base58 text of a peer's hash begins: plain Lean.
-/
import Derived.Test.YtchlkclpikdbjaaGreatDoorDig
import Derived.Test.YtchlkclpikdbjaaGreatDoorMore
import Derived.Test.YtchlkclpikdbjaaGreatDoorCf
import Derived.Test.YtchlkclpikdbjaaGreatDoorProto
import Derived.Test.YtchlkclpikdbjaaGreatDoorTextA
import Derived.Defers
import Derived.Recover
import Derived.Test.YtchlkclpikdbjaaGreatDoorUv
namespace Go.Proofs.YtchlkclpikdbjaaGreatDoor
set_option linter.unusedVariables false
set_option linter.unusedSimpArgs false

theorem numDigs_high {K : Nat} (hK : 2 ≤ K) : ∀ (j N : Nat), N / K ^ j ≠ 0 → ∃ t, numDigs K N = numDigs K (N / K ^ j) ++ t
  | 0, N, _ => ⟨[], by simp⟩
  | j + 1, N, h => by
    have h1 : N / K ^ (j + 1) = N / K / K ^ j := by rw [Nat.div_div_eq_div_mul, Nat.pow_succ, Nat.mul_comm]
    have h0 : N ≠ 0 := by rintro rfl; simp at h
    obtain ⟨t, ht⟩ := numDigs_high hK j (N / K) (by rw [← h1]; exact h)
    exact ⟨t ++ [N % K], by rw [numDigs_pos hK h0, ht, h1, List.append_assoc]⟩

theorem numDigs_1378 : numDigs 58 1378 = [23, 44] := by
  rw [numDigs_pos (by decide) (by decide), numDigs_pos (by decide) (by decide)]
  rw [show 1378 / 58 / 58 = 0 by decide, numDigs_zero]
  rfl

theorem val_sha (r : List UInt8) (hr : r.length = 32) : val (18 :: 32 :: r) / 58 ^ 44 = 1378 := by
  have h := val_lt r
  rw [hr] at h
  have hv : val (18 :: 32 :: r) = 18 * 256 ^ 33 + (32 * 256 ^ 32 + val r) := by
    rw [val_cons, val_cons, hr, List.length_cons, hr]; rfl
  rw [hv]
  apply Nat.div_eq_of_lt_le <;> omega

/-- sha2-256 begins with "Qm" -/
theorem text_sha (r : List UInt8) (hr : r.length = 32) : ∃ t, numText (charsL 122) 58 (18 :: 32 :: r) = 81 :: 109 :: t := by
  obtain ⟨t, ht⟩ := numDigs_high (K := 58) (by decide) 44 (val (18 :: 32 :: r)) (by rw [val_sha r hr]; decide)
  rw [val_sha r hr, numDigs_1378] at ht
  refine ⟨t.map fun d => (charsL 122).getD d 0, ?_⟩
  unfold numText
  rw [ht, show leadZ (18 :: 32 :: r) = 0 by simp [leadZ]]
  rfl

/-- the identity begins with "1" -/
theorem text_id (r : List UInt8) (n : UInt8) : ∃ t, numText (charsL 122) 58 (0 :: n :: r) = 49 :: t := by
  unfold numText
  rw [show leadZ (0 :: n :: r) = leadZ (n :: r) + 1 by simp [leadZ], List.replicate_succ]
  exact ⟨_, rfl⟩
end Go.Proofs.YtchlkclpikdbjaaGreatDoor
namespace Go.Proofs.YtchlkclpikdbjaaGreatDoor
set_option linter.unusedVariables false
set_option linter.unusedSimpArgs false
open Go.RowKit Go.Sort

theorem enters_p2pStB : Enters 138 := enters_of Tryz.func138 (by kernel_rfl) rfl
theorem enters_p2pBtS : Enters 139 := enters_of Tryz.func139 (by kernel_rfl) rfl

theorem enters_clB : Enters 20 := enters_of Tryz.func20 (by kernel_rfl) rfl
theorem enters_clT : Enters 21 := enters_of Tryz.func21 (by kernel_rfl) rfl
/-- what a function from a text to bytes gives: bytes, or an error -/
def Gives (ok : Bool) (l : List UInt8) (w : World) (e : Ending) (w' : World) : Prop :=
  Ext w w' ∧ ((ok = true ∧ ∃ v, e = .returned (.tuple #[v, .nilIface]) ∧ By w' l v) ∨ (ok = false ∧ ∃ v t p, e = .returned (.tuple #[v, .iface t (.pointer (some p))])))

set_option maxRecDepth 100000 in
theorem tw_s2b (f : Nat) (hf : Enters f) (b c : Value) (s : ByteArray) (ok : Bool) (l : List UInt8) (w : World) (h : ∀ w1, Ext w w1 → Calls Tryz.prog f #[.string s] w1 (Gives ok l w1)) :
    Calls Tryz.prog 351 #[.agg #[fnV f, b, c], .string s] w (Gives ok l w) := by
  have H := Lib.hid h
  clear h
  unfold Enters at hf
  go_enter Tryz.func351, Tryz.ntmps351
  go_wp2_with (refine (H.out _ (Ext.alloc (Ext.refl w) _)).mono ?_; rintro e w' ⟨he, ⟨hok, v, rfl, hb⟩ | ⟨hok, v, t, p, rfl⟩⟩)
  · go_ret2
    exact ⟨(Ext.alloc (Ext.refl w) _).trans he, .inl ⟨hok, _, rfl, hb⟩⟩
  · go_ret2
    exact ⟨(Ext.alloc (Ext.refl w) _).trans he, .inr ⟨hok, _, _, _, rfl⟩⟩
set_option maxRecDepth 100000 in
theorem tw_b2s (f : Nat) (hf : Enters f) (a c : Value) (s : ByteArray) (v : Value) (w : World) (h : ∀ w1, Ext w w1 → Calls Tryz.prog f #[v] w1 fun e w' => e = .returned (.tuple #[.string s, .nilIface]) ∧ Ext w1 w') :
    Calls Tryz.prog 350 #[.agg #[a, fnV f, c], v] w fun e w' => e = .returned (.tuple #[.string s, .nilIface]) ∧ Ext w w' := by
  have H := Lib.hid h
  clear h
  unfold Enters at hf
  go_enter Tryz.func350, Tryz.ntmps350
  go_wp2_with (refine (H.out _ (Ext.alloc (Ext.refl w) _)).mono ?_; rintro e w' ⟨rfl, he⟩)
  go_ret2
  exact ⟨rfl, (Ext.alloc (Ext.refl w) _).trans he⟩

theorem catch_idle (p : Addr) (w : World) : CallsD Tryz.prog 26 #[.pointer (some p)] .returning w fun e u' w' => e = .returned (.tuple #[]) ∧ u' = .returning ∧ w' = w := by
  refine callsD_of_wpS Tryz.func26 rfl fun c₀ cs hu => ?_
  apply wpS_seq
  apply wpS_region
  simp [wpOpsS, go_sem, recoverD, hu, Tryz.ntmps26, Exit.thenS]
  refine wpS_cond (t := false) (by simp [Act.eval, Array.replicate]) ?_
  simp only [Bool.false_eq_true, if_false]
  refine wpS_of_wp (wp_skip ?_)
  cases c₀
  simp_all [bodyPostS, results, Tryz.results26]

/-- safe over a closure that returns and leaves safe's own cell alone -/
theorem safe_any (f : Nat) (hf : Enters f) (cap : Array Value) (w : World) (Q : World → Prop)
    (h : ∀ o, Calls Tryz.prog f cap (w.alloc o) fun e w' => e = .returned (.tuple #[]) ∧ w'.heap[w.heap.size]? = (w.alloc o).heap[w.heap.size]? ∧ Q w') :
    Calls Tryz.prog 19 #[.func (.func f) #[] cap] w fun e w' =>
      e = .returned (.bool true) ∧ ∃ w1, Q w1 ∧ w1.cell? ⟨w.heap.size, 0, none⟩ = some (.bool false) ∧ w' = w1.setCell ⟨w.heap.size, 0, none⟩ (.bool true) := by
  have hmf : ∀ (fn : Fn) (first cap : Array Value) (w : World), (Instr.makeFunc fn first cap).run Tryz.prog w = .ok (.func fn first cap) w := fun _ _ _ _ => rfl
  have H := Lib.hid h
  clear h
  unfold Enters at hf
  go_enter_defers Tryz.func19, Tryz.ntmps19
  go_wp2_with (fail)
  refine (H.out _).mono ?_
  rintro e w1 ⟨rfl, hblk, hQ⟩
  have hb : w1.heap[w.heap.size]? = some (.cells #[.bool false] 4 (0, 0)) := by rw [hblk]; exact heap_alloc_new w _
  have hc1 : w1.cell? ⟨w.heap.size, 0, none⟩ = some (.bool false) := cell_of_row w1 w.heap.size 0 _ _ _ hb
  have hf1 : w1.frozen? ⟨w.heap.size, 0, none⟩ = false := by simp [World.frozen?, hb]
  go_wp2
  refine leaves_cons (f := 26) (args := #[.pointer (some ⟨w.heap.size, 0, none⟩)]) (by simp) (by simp [go_sem]) ?_
  refine (catch_idle ⟨w.heap.size, 0, none⟩ _).mono ?_
  rintro e u' w'' ⟨rfl, rfl, rfl⟩
  simp [Leaves, settle, results, Tryz.results19, go_sem]
  have hc2 : (w1.setCell ⟨w.heap.size, 0, none⟩ (.bool true)).cell? ⟨w.heap.size, 0, none⟩ = some (.bool true) := World.cell?_setCell_same _ _ _ hc1
  rw [hc2]
  exact ⟨_, rfl, rfl, w1, hQ, hc1, rfl⟩

theorem heap_set_ne (w : World) (p k : Nat) (v : Value) (h : k ≠ p) : (w.setCell ⟨p, 0, none⟩ v).heap[k]? = w.heap[k]? := by
  simp only [World.setCell, Array.getElem?_modify]
  rw [if_neg (fun e => h e.symm)]
theorem cell_set_ne (w : World) (p k : Nat) (v : Value) (h : k ≠ p) : (w.setCell ⟨p, 0, none⟩ v).cell? ⟨k, 0, none⟩ = w.cell? ⟨k, 0, none⟩ :=
  World.cell?_setCell_other _ _ _ _ (fun e => h (Addr.mk.inj e).1.symm)
theorem By.set {w : World} {l : List UInt8} {v x y : Value} {p : Nat} (h : By w l v) (hx : w.cell? ⟨p, 0, none⟩ = some x) (hn : ∀ b : UInt8, x ≠ B b) : By (w.setCell ⟨p, 0, none⟩ y) l v := by
  obtain ⟨a, c, he, h2, h4⟩ := h
  refine ⟨a, c, he, h2, fun hne => ?_⟩
  obtain ⟨g, o, ha, hr⟩ := h4 hne
  refine ⟨g, o, ha, fun j u hj => ?_⟩
  have hj2 := hr j u hj
  rw [World.cell?_setCell_other]
  · exact hj2
  · intro e
    rw [List.getElem?_map] at hj
    obtain ⟨b, -, hb⟩ := Option.map_eq_some_iff.1 hj
    rw [← e, hx] at hj2
    exact hn b ((Option.some.inj hj2).trans hb.symm)
theorem srcC_by {w : World} {l : List UInt8} {v : Value} (h : By w l v) : SrcC w 1 v l.length (l.map B) := by
  obtain ⟨a, c, rfl, h2, h4⟩ := h
  refine ⟨a, c, rfl, by simp, fun hp => ?_⟩
  obtain ⟨g, o, rfl, hr⟩ := h4 (by intro h; rw [h] at hp; simp at hp)
  exact ⟨_, rfl, fun i u hi => by rw [addr_add]; exact hr i u hi⟩

set_option maxHeartbeats 1000000 in
set_option maxRecDepth 100000 in
/-- the closure of MaToBytes, where bytes come -/
theorem clBok_ok (p0 p1 p2 p3 : Nat) (S : ByteArray) (l : List UInt8) (hl : l.length ≤ 1000) (o2 o3 : Value) (w : World) (h0 : w.cell? ⟨p0, 0, none⟩ = some tcP2P) (h1 : w.cell? ⟨p1, 0, none⟩ = some (.string S))
    (h2 : w.cell? ⟨p2, 0, none⟩ = some o2) (z2 : w.frozen? ⟨p2, 0, none⟩ = false) (h3 : w.cell? ⟨p3, 0, none⟩ = some o3) (z3 : w.frozen? ⟨p3, 0, none⟩ = false) (h23 : p2 ≠ p3)
    (h : ∀ w1, Ext w w1 → Calls Tryz.prog 138 #[.string S] w1 (Gives true l w1)) :
    Calls Tryz.prog 20 #[.pointer (some ⟨p0, 0, none⟩), .pointer (some ⟨p1, 0, none⟩), .pointer (some ⟨p2, 0, none⟩), .pointer (some ⟨p3, 0, none⟩)] w fun e w' =>
      e = .returned (.tuple #[]) ∧ ∃ w1 v, Ext w w1 ∧ By w1 l v ∧ w' = (w1.setCell ⟨p2, 0, none⟩ v).setCell ⟨p3, 0, none⟩ (.bool true) := by
  obtain ⟨i0, hi, hz0, hz1, hz2⟩ := info_parts info_u8
  have H := Lib.hid (tw_s2b 138 enters_p2pStB (fnV 139) (fnV 140) S true l w h)
  have b2 := block_lt_of_cell h2
  have b3 := block_lt_of_cell h3
  have hLL : ∃ L, L = l.length := ⟨_, rfl⟩
  obtain ⟨L, hL⟩ := hLL
  have HL := Lib.hid hL
  rw [← hL] at hl
  clear h hL
  go_enter Tryz.func20, Tryz.ntmps20
  go_wp2_with (first
    | (go_at_call 351; refine H.out.mono ?_; rintro e w1 ⟨he1, ⟨-, v, rfl, hb⟩ | ⟨hf, -⟩⟩; rotate_left; exact absurd hf (by decide); have HS := Lib.hid (srcC_by hb); rw [← HL.out] at HS; clear hb)
    | (at_builtin; refine wpList_append_any rfl _ _ 22 rfl w1.heap.size 5 i0 _ 1 1 Tryz.underlying22 hi hz0 hz1 hz2 rfl (by decide) _ 0 [] rfl (own_zero w1 w1.heap.size _ (Nat.le_refl _)) _ L (l.map B) rfl (Ext.srcC (Ext.alloc (Ext.refl w1) _) HS.out) (fun u hu => by obtain ⟨x, -, rfl⟩ := List.mem_map.1 hu; rfl) (by unfold maxLen; omega) (by omega) (by simp) ?_; intro u' w5 hown5 hgr5 hwh5; have hB5 : By w5 l u' := own_by (by rw [Nat.zero_add, HL.out, List.nil_append] at hown5; exact hown5); obtain ⟨a5, c5, rfl, -, -⟩ := id hB5; have HB5 := Lib.hid hB5; clear hB5 hown5; have hE5 : Ext w w5 := below_grown (Ext.alloc he1 _) (Ext.alloc he1 _).size hgr5 (fun k hk => by injection hk with hk; exact Nat.le_trans he1.size (Nat.le_of_eq hk)); have c2 := hE5.cell h2; have c3 := hE5.cell h3; have f2 := (Below.frozen hE5 (p := ⟨p2, 0, none⟩) b2).trans z2; have f3 := (Below.frozen hE5 (p := ⟨p3, 0, none⟩) b3).trans z3))
  go_end0
  exact ⟨rfl, w5, _, hE5, HB5.out, rfl⟩

set_option maxHeartbeats 1000000 in
set_option maxRecDepth 100000 in
/-- the closure of MaToBytes, where an error comes -/
theorem clBno_ok (p0 p1 p2 p3 : Nat) (S : ByteArray) (l : List UInt8) (w : World) (h0 : w.cell? ⟨p0, 0, none⟩ = some tcP2P) (h1 : w.cell? ⟨p1, 0, none⟩ = some (.string S))
    (h : ∀ w1, Ext w w1 → Calls Tryz.prog 138 #[.string S] w1 (Gives false l w1)) :
    Calls Tryz.prog 20 #[.pointer (some ⟨p0, 0, none⟩), .pointer (some ⟨p1, 0, none⟩), .pointer (some ⟨p2, 0, none⟩), .pointer (some ⟨p3, 0, none⟩)] w fun e w' =>
      e = .returned (.tuple #[]) ∧ Ext w w' := by
  have H := Lib.hid (tw_s2b 138 enters_p2pStB (fnV 139) (fnV 140) S false l w h)
  clear h
  go_enter Tryz.func20, Tryz.ntmps20
  go_wp2_with (go_at_call 351; refine H.out.mono ?_; rintro e w1 ⟨he1, ⟨hf, -⟩ | ⟨-, v, t, p, rfl⟩⟩; exact absurd hf (by decide))
  go_end0
  exact ⟨rfl, he1⟩

set_option maxHeartbeats 1000000 in
set_option maxRecDepth 100000 in
/-- the closure of MaToText -/
theorem clT_ok (p0 p1 p2 p3 : Nat) (S : ByteArray) (bv : Value) (o2 o3 : Value) (w : World) (h0 : w.cell? ⟨p0, 0, none⟩ = some tcP2P) (h1 : w.cell? ⟨p1, 0, none⟩ = some bv)
    (h2 : w.cell? ⟨p2, 0, none⟩ = some o2) (z2 : w.frozen? ⟨p2, 0, none⟩ = false) (h3 : w.cell? ⟨p3, 0, none⟩ = some o3) (z3 : w.frozen? ⟨p3, 0, none⟩ = false) (h23 : p2 ≠ p3) (hsl : ∃ a n c, bv = .slice a n c)
    (h : ∀ w1, Ext w w1 → Calls Tryz.prog 139 #[bv] w1 fun e w' => e = .returned (.tuple #[.string S, .nilIface]) ∧ Ext w1 w') :
    Calls Tryz.prog 21 #[.pointer (some ⟨p0, 0, none⟩), .pointer (some ⟨p1, 0, none⟩), .pointer (some ⟨p2, 0, none⟩), .pointer (some ⟨p3, 0, none⟩)] w fun e w' =>
      e = .returned (.tuple #[]) ∧ ∃ w1, Ext w w1 ∧ w' = (w1.setCell ⟨p2, 0, none⟩ (.string S)).setCell ⟨p3, 0, none⟩ (.bool true) := by
  have H := Lib.hid (tw_b2s 139 enters_p2pBtS (fnV 138) (fnV 140) S bv w h)
  have b2 := block_lt_of_cell h2
  have b3 := block_lt_of_cell h3
  obtain ⟨ba, bn, bc, rfl⟩ := hsl
  clear h
  go_enter Tryz.func21, Tryz.ntmps21
  go_wp2_with (go_at_call 350; refine H.out.mono ?_; rintro e w1 ⟨rfl, hE5⟩; have c2 := hE5.cell h2; have c3 := hE5.cell h3; have f2 := (Below.frozen hE5 (p := ⟨p2, 0, none⟩) b2).trans z2; have f3 := (Below.frozen hE5 (p := ⟨p3, 0, none⟩) b3).trans z3)
  go_end0
  exact ⟨rfl, w1, hE5, rfl⟩

set_option maxHeartbeats 1000000 in
set_option maxRecDepth 100000 in
theorem toBytes_ok (S : ByteArray) (l : List UInt8) (hl : l.length ≤ 1000) (w : World) (h : ∀ w1, Ext w w1 → Calls Tryz.prog 138 #[.string S] w1 (Gives true l w1)) :
    Calls Tryz.prog 8 #[.int .i64 421, .string S] w fun e w' => ∃ v, e = .returned (.tuple #[v, .bool true]) ∧ By w' l v ∧ Ext w w' := by
  have hmf : ∀ (fn : Fn) (first cap : Array Value) (w : World), (Instr.makeFunc fn first cap).run Tryz.prog w = .ok (.func fn first cap) w := fun _ _ _ _ => rfl
  have hfl : ∀ (w : World) (v : Value), (Instr.field 46 (.agg #[.string pP2P.name, .int .i64 421, v, .int .i64 (-1), .bool false, tcP2P]) 5).run Tryz.prog w = .ok tcP2P w := fun _ _ => by kernel_rfl
  have HW := Lib.hid (fun w => withCode_ok pP2P coded_421 rfl w)
  have H := Lib.hid h
  clear h
  go_enter Tryz.func8, Tryz.ntmps8
  go_wp2_with (fail)
  have h10 : (((w.alloc (.cells #[.string S] 9)).alloc (.cells #[.slice none 0 0] 22)).alloc (.cells #[.bool false] 4)).cell? ⟨w.heap.size, 0, none⟩ = some (.string S) := by simp [go_sem]
  have h20 : (((w.alloc (.cells #[.string S] 9)).alloc (.cells #[.slice none 0 0] 22)).alloc (.cells #[.bool false] 4)).cell? ⟨w.heap.size + 1, 0, none⟩ = some (.slice none 0 0) := by simp [go_sem]
  have z20 : (((w.alloc (.cells #[.string S] 9)).alloc (.cells #[.slice none 0 0] 22)).alloc (.cells #[.bool false] 4)).frozen? ⟨w.heap.size + 1, 0, none⟩ = false := by simp [go_sem]
  have h30 : (((w.alloc (.cells #[.string S] 9)).alloc (.cells #[.slice none 0 0] 22)).alloc (.cells #[.bool false] 4)).cell? ⟨w.heap.size + 1 + 1, 0, none⟩ = some (.bool false) := by simp [go_sem]
  have z30 : (((w.alloc (.cells #[.string S] 9)).alloc (.cells #[.slice none 0 0] 22)).alloc (.cells #[.bool false] 4)).frozen? ⟨w.heap.size + 1 + 1, 0, none⟩ = false := by simp [go_sem]
  have hE0 : Ext w (((w.alloc (.cells #[.string S] 9)).alloc (.cells #[.slice none 0 0] 22)).alloc (.cells #[.bool false] 4)) := (((Ext.refl w).alloc _).alloc _).alloc _
  have hs0 : (((w.alloc (.cells #[.string S] 9)).alloc (.cells #[.slice none 0 0] 22)).alloc (.cells #[.bool false] 4)).heap.size = w.heap.size + 3 := by simp
  generalize (((w.alloc (.cells #[.string S] 9)).alloc (.cells #[.slice none 0 0] 22)).alloc (.cells #[.bool false] 4)) = w0 at *
  refine (HW.out w0).mono ?_
  rintro e w1 ⟨he, -, he1⟩
  replace he : e = .returned (.agg #[.string pP2P.name, .int .i64 421, vc (w0.heap.size + 3) 421, .int .i64 (-1), .bool false, tcP2P]) := he
  subst he
  have h11 := he1.cell h10
  have h21 := he1.cell h20
  have z21 : w1.frozen? ⟨w.heap.size + 1, 0, none⟩ = false := (Below.frozen he1 (by simp [hs0])).trans z20
  have h31 := he1.cell h30
  have z31 : w1.frozen? ⟨w.heap.size + 1 + 1, 0, none⟩ = false := (Below.frozen he1 (by simp [hs0])).trans z30
  have HE1 := Lib.hid (hE0.trans he1)
  have hs1 : w.heap.size + 3 ≤ w1.heap.size := by have := he1.size; omega
  clear h10 h20 z20 h30 z30 hE0 hs0 he1
  go_wp2_with (fail)
  have hE2 : Ext w1 (w1.alloc (.cells #[tcP2P] 44)) := (Ext.refl w1).alloc _
  have h02 : (w1.alloc (.cells #[tcP2P] 44)).cell? ⟨w1.heap.size, 0, none⟩ = some tcP2P := by simp [go_sem]
  have hs2 : (w1.alloc (.cells #[tcP2P] 44)).heap.size = w1.heap.size + 1 := by simp
  change Calls _ _ _ (w1.alloc (.cells #[tcP2P] 44)) _
  generalize (w1.alloc (.cells #[tcP2P] 44)) = w2 at *
  have h12 := hE2.cell h11
  have h22 := hE2.cell h21
  have z22 : w2.frozen? ⟨w.heap.size + 1, 0, none⟩ = false := (Below.frozen hE2 (by simp; omega)).trans z21
  have h32 := hE2.cell h31
  have z32 : w2.frozen? ⟨w.heap.size + 1 + 1, 0, none⟩ = false := (Below.frozen hE2 (by simp; omega)).trans z31
  have HE2 := Lib.hid (HE1.out.trans hE2)
  clear h11 h21 z21 h31 z31 hE2
  refine (safe_any 20 enters_clB _ w2 (fun w' => ∃ w3 v, Ext w2 w3 ∧ By w3 l v ∧ w' = (w3.setCell ⟨w.heap.size + 1, 0, none⟩ v).setCell ⟨w.heap.size + 1 + 1, 0, none⟩ (.bool true)) (fun o => ?c1)).mono ?_
  case c1 =>
    have hO : Ext w2 (w2.alloc o) := (Ext.refl w2).alloc o
    refine (clBok_ok w1.heap.size w.heap.size (w.heap.size + 1) (w.heap.size + 1 + 1) S l hl (.slice none 0 0) (.bool false) _ (hO.cell h02) (hO.cell h12) (hO.cell h22) ((Below.frozen hO (by simp; omega)).trans z22) (hO.cell h32) ((Below.frozen hO (by simp; omega)).trans z32) (by omega) (fun w' he => H.out w' (HE2.out.trans (hO.trans he)))).mono ?_
    rintro e w' ⟨rfl, w3, v, he3, hb, rfl⟩
    refine ⟨rfl, ?_, w3, v, hO.trans he3, hb, rfl⟩
    rw [heap_set_ne _ _ _ _ (by omega), heap_set_ne _ _ _ _ (by omega), Below.block he3 _ (by simp)]
  rintro e w' ⟨rfl, wq, ⟨w3, v, he3, hb, rfl⟩, hq, rfl⟩
  obtain ⟨va, vc', rfl, -, -⟩ := id hb
  have c2 : (((w3.setCell ⟨w.heap.size + 1, 0, none⟩ (.slice va l.length vc')).setCell ⟨w.heap.size + 1 + 1, 0, none⟩ (.bool true)).setCell ⟨w2.heap.size, 0, none⟩ (.bool true)).cell? ⟨w.heap.size + 1, 0, none⟩ = some (.slice va l.length vc') := by
    rw [cell_set_ne _ _ _ _ (by omega), cell_set_ne _ _ _ _ (by omega)]
    exact World.cell?_setCell_same _ _ _ (he3.cell h22)
  have c3 : (((w3.setCell ⟨w.heap.size + 1, 0, none⟩ (.slice va l.length vc')).setCell ⟨w.heap.size + 1 + 1, 0, none⟩ (.bool true)).setCell ⟨w2.heap.size, 0, none⟩ (.bool true)).cell? ⟨w.heap.size + 1 + 1, 0, none⟩ = some (.bool true) := by
    rw [cell_set_ne _ _ _ _ (by omega)]
    exact World.cell?_setCell_same _ _ _ (by rw [cell_set_ne _ _ _ _ (by omega)]; exact he3.cell h32)
  have f2 : (((w3.setCell ⟨w.heap.size + 1, 0, none⟩ (.slice va l.length vc')).setCell ⟨w.heap.size + 1 + 1, 0, none⟩ (.bool true)).setCell ⟨w2.heap.size, 0, none⟩ (.bool true)).frozen? ⟨w.heap.size + 1, 0, none⟩ = false := by
    simp [(Below.frozen he3 (p := ⟨w.heap.size + 1, 0, none⟩) (by simp; omega)).trans z22]
  have f3 : (((w3.setCell ⟨w.heap.size + 1, 0, none⟩ (.slice va l.length vc')).setCell ⟨w.heap.size + 1 + 1, 0, none⟩ (.bool true)).setCell ⟨w2.heap.size, 0, none⟩ (.bool true)).frozen? ⟨w.heap.size + 1 + 1, 0, none⟩ = false := by
    simp [(Below.frozen he3 (p := ⟨w.heap.size + 1 + 1, 0, none⟩) (by simp; omega)).trans z32]
  have hB4 : By (((w3.setCell ⟨w.heap.size + 1, 0, none⟩ (.slice va l.length vc')).setCell ⟨w.heap.size + 1 + 1, 0, none⟩ (.bool true)).setCell ⟨w2.heap.size, 0, none⟩ (.bool true)) l (.slice va l.length vc') := by
    refine By.set (By.set (By.set hb (he3.cell h22) (fun b => by simp [B])) (by rw [cell_set_ne _ _ _ _ (by omega)]; exact he3.cell h32) (fun b => by simp [B])) hq (fun b => by simp [B])
  have hE4 : Ext w (((w3.setCell ⟨w.heap.size + 1, 0, none⟩ (.slice va l.length vc')).setCell ⟨w.heap.size + 1 + 1, 0, none⟩ (.bool true)).setCell ⟨w2.heap.size, 0, none⟩ (.bool true)) :=
    Below.setCell (Below.setCell (Below.setCell (HE2.out.trans he3) (by simp) _) (by simp; omega) _) (by simp; omega) _
  generalize (((w3.setCell ⟨w.heap.size + 1, 0, none⟩ (.slice va l.length vc')).setCell ⟨w.heap.size + 1 + 1, 0, none⟩ (.bool true)).setCell ⟨w2.heap.size, 0, none⟩ (.bool true)) = w4 at *
  have HE4 := Lib.hid hE4
  have HB4 := Lib.hid hB4
  clear hE4 hB4 hb hq he3
  go_wp2_with (fail)
  have hB5 : By ((w4.setCell ⟨w.heap.size + 1, 0, none⟩ (.slice va l.length vc')).setCell ⟨w.heap.size + 1 + 1, 0, none⟩ (.bool true)) l (.slice va l.length vc') :=
    By.set (By.set HB4.out c2 (fun b => by simp [B])) (by rw [cell_set_ne _ _ _ _ (by omega)]; exact c3) (fun b => by simp [B])
  have hE5 : Ext w ((w4.setCell ⟨w.heap.size + 1, 0, none⟩ (.slice va l.length vc')).setCell ⟨w.heap.size + 1 + 1, 0, none⟩ (.bool true)) := Below.setCell (Below.setCell HE4.out (by simp) _) (by simp; omega) _
  have d2 : ((w4.setCell ⟨w.heap.size + 1, 0, none⟩ (.slice va l.length vc')).setCell ⟨w.heap.size + 1 + 1, 0, none⟩ (.bool true)).cell? ⟨w.heap.size + 1, 0, none⟩ = some (.slice va l.length vc') := by
    rw [cell_set_ne _ _ _ _ (by omega)]
    exact World.cell?_setCell_same _ _ _ c2
  have d3 : ((w4.setCell ⟨w.heap.size + 1, 0, none⟩ (.slice va l.length vc')).setCell ⟨w.heap.size + 1 + 1, 0, none⟩ (.bool true)).cell? ⟨w.heap.size + 1 + 1, 0, none⟩ = some (.bool true) := by
    exact World.cell?_setCell_same _ _ _ (by rw [cell_set_ne _ _ _ _ (by omega)]; exact c3)
  refine bodyPost_ret (v := .tuple #[.slice va l.length vc', .bool true]) (by simp [results, Tryz.results8, go_sem, d2, d3]) rfl ⟨_, rfl, hB5, hE5⟩
set_option maxHeartbeats 1000000 in
set_option maxRecDepth 100000 in
theorem toBytes_no (S : ByteArray) (l : List UInt8) (w : World) (h : ∀ w1, Ext w w1 → Calls Tryz.prog 138 #[.string S] w1 (Gives false l w1)) :
    Calls Tryz.prog 8 #[.int .i64 421, .string S] w fun e w' => ∃ v, e = .returned (.tuple #[v, .bool false]) ∧ Ext w w' := by
  have hmf : ∀ (fn : Fn) (first cap : Array Value) (w : World), (Instr.makeFunc fn first cap).run Tryz.prog w = .ok (.func fn first cap) w := fun _ _ _ _ => rfl
  have hfl : ∀ (w : World) (v : Value), (Instr.field 46 (.agg #[.string pP2P.name, .int .i64 421, v, .int .i64 (-1), .bool false, tcP2P]) 5).run Tryz.prog w = .ok tcP2P w := fun _ _ => by kernel_rfl
  have HW := Lib.hid (fun w => withCode_ok pP2P coded_421 rfl w)
  have H := Lib.hid h
  clear h
  go_enter Tryz.func8, Tryz.ntmps8
  go_wp2_with (fail)
  have h10 : (((w.alloc (.cells #[.string S] 9)).alloc (.cells #[.slice none 0 0] 22)).alloc (.cells #[.bool false] 4)).cell? ⟨w.heap.size, 0, none⟩ = some (.string S) := by simp [go_sem]
  have h20 : (((w.alloc (.cells #[.string S] 9)).alloc (.cells #[.slice none 0 0] 22)).alloc (.cells #[.bool false] 4)).cell? ⟨w.heap.size + 1, 0, none⟩ = some (.slice none 0 0) := by simp [go_sem]
  have z20 : (((w.alloc (.cells #[.string S] 9)).alloc (.cells #[.slice none 0 0] 22)).alloc (.cells #[.bool false] 4)).frozen? ⟨w.heap.size + 1, 0, none⟩ = false := by simp [go_sem]
  have h30 : (((w.alloc (.cells #[.string S] 9)).alloc (.cells #[.slice none 0 0] 22)).alloc (.cells #[.bool false] 4)).cell? ⟨w.heap.size + 1 + 1, 0, none⟩ = some (.bool false) := by simp [go_sem]
  have z30 : (((w.alloc (.cells #[.string S] 9)).alloc (.cells #[.slice none 0 0] 22)).alloc (.cells #[.bool false] 4)).frozen? ⟨w.heap.size + 1 + 1, 0, none⟩ = false := by simp [go_sem]
  have hE0 : Ext w (((w.alloc (.cells #[.string S] 9)).alloc (.cells #[.slice none 0 0] 22)).alloc (.cells #[.bool false] 4)) := (((Ext.refl w).alloc _).alloc _).alloc _
  have hs0 : (((w.alloc (.cells #[.string S] 9)).alloc (.cells #[.slice none 0 0] 22)).alloc (.cells #[.bool false] 4)).heap.size = w.heap.size + 3 := by simp
  generalize (((w.alloc (.cells #[.string S] 9)).alloc (.cells #[.slice none 0 0] 22)).alloc (.cells #[.bool false] 4)) = w0 at *
  refine (HW.out w0).mono ?_
  rintro e w1 ⟨he, -, he1⟩
  replace he : e = .returned (.agg #[.string pP2P.name, .int .i64 421, vc (w0.heap.size + 3) 421, .int .i64 (-1), .bool false, tcP2P]) := he
  subst he
  have h11 := he1.cell h10
  have h21 := he1.cell h20
  have z21 : w1.frozen? ⟨w.heap.size + 1, 0, none⟩ = false := (Below.frozen he1 (by simp [hs0])).trans z20
  have h31 := he1.cell h30
  have z31 : w1.frozen? ⟨w.heap.size + 1 + 1, 0, none⟩ = false := (Below.frozen he1 (by simp [hs0])).trans z30
  have HE1 := Lib.hid (hE0.trans he1)
  have hs1 : w.heap.size + 3 ≤ w1.heap.size := by have := he1.size; omega
  clear h10 h20 z20 h30 z30 hE0 hs0 he1
  go_wp2_with (fail)
  have hE2 : Ext w1 (w1.alloc (.cells #[tcP2P] 44)) := (Ext.refl w1).alloc _
  have h02 : (w1.alloc (.cells #[tcP2P] 44)).cell? ⟨w1.heap.size, 0, none⟩ = some tcP2P := by simp [go_sem]
  have hs2 : (w1.alloc (.cells #[tcP2P] 44)).heap.size = w1.heap.size + 1 := by simp
  change Calls _ _ _ (w1.alloc (.cells #[tcP2P] 44)) _
  generalize (w1.alloc (.cells #[tcP2P] 44)) = w2 at *
  have h12 := hE2.cell h11
  have h22 := hE2.cell h21
  have z22 : w2.frozen? ⟨w.heap.size + 1, 0, none⟩ = false := (Below.frozen hE2 (by simp; omega)).trans z21
  have h32 := hE2.cell h31
  have z32 : w2.frozen? ⟨w.heap.size + 1 + 1, 0, none⟩ = false := (Below.frozen hE2 (by simp; omega)).trans z31
  have HE2 := Lib.hid (HE1.out.trans hE2)
  clear h11 h21 z21 h31 z31 hE2
  refine (safe_any 20 enters_clB _ w2 (fun w' => Ext w2 w') (fun o => ?c1)).mono ?_
  case c1 =>
    have hO : Ext w2 (w2.alloc o) := (Ext.refl w2).alloc o
    refine (clBno_ok w1.heap.size w.heap.size (w.heap.size + 1) (w.heap.size + 1 + 1) S l _ (hO.cell h02) (hO.cell h12) (fun w' he => H.out w' (HE2.out.trans (hO.trans he)))).mono ?_
    rintro e w' ⟨rfl, he3⟩
    exact ⟨rfl, Below.block he3 _ (by simp), hO.trans he3⟩
  rintro e w' ⟨rfl, w3, he3, hq, rfl⟩
  have c2 : (w3.setCell ⟨w2.heap.size, 0, none⟩ (.bool true)).cell? ⟨w.heap.size + 1, 0, none⟩ = some (.slice none 0 0) := by
    rw [cell_set_ne _ _ _ _ (by omega)]; exact he3.cell h22
  have c3 : (w3.setCell ⟨w2.heap.size, 0, none⟩ (.bool true)).cell? ⟨w.heap.size + 1 + 1, 0, none⟩ = some (.bool false) := by
    rw [cell_set_ne _ _ _ _ (by omega)]; exact he3.cell h32
  have f2 : (w3.setCell ⟨w2.heap.size, 0, none⟩ (.bool true)).frozen? ⟨w.heap.size + 1, 0, none⟩ = false := by
    simp [(Below.frozen he3 (p := ⟨w.heap.size + 1, 0, none⟩) (by simp; omega)).trans z22]
  have f3 : (w3.setCell ⟨w2.heap.size, 0, none⟩ (.bool true)).frozen? ⟨w.heap.size + 1 + 1, 0, none⟩ = false := by
    simp [(Below.frozen he3 (p := ⟨w.heap.size + 1 + 1, 0, none⟩) (by simp; omega)).trans z32]
  have hE4 : Ext w (w3.setCell ⟨w2.heap.size, 0, none⟩ (.bool true)) := Below.setCell (HE2.out.trans he3) (by simp; omega) _
  generalize (w3.setCell ⟨w2.heap.size, 0, none⟩ (.bool true)) = w4 at *
  have HE4 := Lib.hid hE4
  clear hE4 hq he3
  go_wp2_with (fail)
  have hE5 : Ext w ((w4.setCell ⟨w.heap.size + 1, 0, none⟩ (.slice none 0 0)).setCell ⟨w.heap.size + 1 + 1, 0, none⟩ (.bool false)) := Below.setCell (Below.setCell HE4.out (by simp) _) (by simp; omega) _
  have d2 : ((w4.setCell ⟨w.heap.size + 1, 0, none⟩ (.slice none 0 0)).setCell ⟨w.heap.size + 1 + 1, 0, none⟩ (.bool false)).cell? ⟨w.heap.size + 1, 0, none⟩ = some (.slice none 0 0) := by
    rw [cell_set_ne _ _ _ _ (by omega)]
    exact World.cell?_setCell_same _ _ _ c2
  have d3 : ((w4.setCell ⟨w.heap.size + 1, 0, none⟩ (.slice none 0 0)).setCell ⟨w.heap.size + 1 + 1, 0, none⟩ (.bool false)).cell? ⟨w.heap.size + 1 + 1, 0, none⟩ = some (.bool false) := by
    exact World.cell?_setCell_same _ _ _ (by rw [cell_set_ne _ _ _ _ (by omega)]; exact c3)
  refine bodyPost_ret (v := .tuple #[.slice none 0 0, .bool false]) (by simp [results, Tryz.results8, go_sem, d2, d3]) rfl ⟨_, rfl, hE5⟩

set_option maxHeartbeats 1000000 in
set_option maxRecDepth 100000 in
theorem toText_ok (S : ByteArray) (ba : Option Addr) (bn bc : Nat) (w : World) (h : ∀ w1, Ext w w1 → Calls Tryz.prog 139 #[.slice ba bn bc] w1 fun e w' => e = .returned (.tuple #[.string S, .nilIface]) ∧ Ext w1 w') :
    Calls Tryz.prog 10 #[.int .i64 421, .slice ba bn bc] w fun e w' => e = .returned (.tuple #[.string S, .bool true]) ∧ Ext w w' := by
  have hmf : ∀ (fn : Fn) (first cap : Array Value) (w : World), (Instr.makeFunc fn first cap).run Tryz.prog w = .ok (.func fn first cap) w := fun _ _ _ _ => rfl
  have hfl : ∀ (w : World) (v : Value), (Instr.field 46 (.agg #[.string pP2P.name, .int .i64 421, v, .int .i64 (-1), .bool false, tcP2P]) 5).run Tryz.prog w = .ok tcP2P w := fun _ _ => by kernel_rfl
  have HW := Lib.hid (fun w => withCode_ok pP2P coded_421 rfl w)
  have H := Lib.hid h
  clear h
  go_enter Tryz.func10, Tryz.ntmps10
  go_wp2_with (fail)
  have h10 : (((w.alloc (.cells #[.slice ba bn bc] 22)).alloc (.cells #[.string ⟨#[]⟩] 9)).alloc (.cells #[.bool false] 4)).cell? ⟨w.heap.size, 0, none⟩ = some (.slice ba bn bc) := by simp [go_sem]
  have h20 : (((w.alloc (.cells #[.slice ba bn bc] 22)).alloc (.cells #[.string ⟨#[]⟩] 9)).alloc (.cells #[.bool false] 4)).cell? ⟨w.heap.size + 1, 0, none⟩ = some (.string ⟨#[]⟩) := by simp [go_sem]
  have z20 : (((w.alloc (.cells #[.slice ba bn bc] 22)).alloc (.cells #[.string ⟨#[]⟩] 9)).alloc (.cells #[.bool false] 4)).frozen? ⟨w.heap.size + 1, 0, none⟩ = false := by simp [go_sem]
  have h30 : (((w.alloc (.cells #[.slice ba bn bc] 22)).alloc (.cells #[.string ⟨#[]⟩] 9)).alloc (.cells #[.bool false] 4)).cell? ⟨w.heap.size + 1 + 1, 0, none⟩ = some (.bool false) := by simp [go_sem]
  have z30 : (((w.alloc (.cells #[.slice ba bn bc] 22)).alloc (.cells #[.string ⟨#[]⟩] 9)).alloc (.cells #[.bool false] 4)).frozen? ⟨w.heap.size + 1 + 1, 0, none⟩ = false := by simp [go_sem]
  have hE0 : Ext w (((w.alloc (.cells #[.slice ba bn bc] 22)).alloc (.cells #[.string ⟨#[]⟩] 9)).alloc (.cells #[.bool false] 4)) := (((Ext.refl w).alloc _).alloc _).alloc _
  have hs0 : (((w.alloc (.cells #[.slice ba bn bc] 22)).alloc (.cells #[.string ⟨#[]⟩] 9)).alloc (.cells #[.bool false] 4)).heap.size = w.heap.size + 3 := by simp
  generalize (((w.alloc (.cells #[.slice ba bn bc] 22)).alloc (.cells #[.string ⟨#[]⟩] 9)).alloc (.cells #[.bool false] 4)) = w0 at *
  refine (HW.out w0).mono ?_
  rintro e w1 ⟨he, -, he1⟩
  replace he : e = .returned (.agg #[.string pP2P.name, .int .i64 421, vc (w0.heap.size + 3) 421, .int .i64 (-1), .bool false, tcP2P]) := he
  subst he
  have h11 := he1.cell h10
  have h21 := he1.cell h20
  have z21 : w1.frozen? ⟨w.heap.size + 1, 0, none⟩ = false := (Below.frozen he1 (by simp [hs0])).trans z20
  have h31 := he1.cell h30
  have z31 : w1.frozen? ⟨w.heap.size + 1 + 1, 0, none⟩ = false := (Below.frozen he1 (by simp [hs0])).trans z30
  have HE1 := Lib.hid (hE0.trans he1)
  have hs1 : w.heap.size + 3 ≤ w1.heap.size := by have := he1.size; omega
  clear h10 h20 z20 h30 z30 hE0 hs0 he1
  go_wp2_with (fail)
  have hE2 : Ext w1 (w1.alloc (.cells #[tcP2P] 44)) := (Ext.refl w1).alloc _
  have h02 : (w1.alloc (.cells #[tcP2P] 44)).cell? ⟨w1.heap.size, 0, none⟩ = some tcP2P := by simp [go_sem]
  have hs2 : (w1.alloc (.cells #[tcP2P] 44)).heap.size = w1.heap.size + 1 := by simp
  change Calls _ _ _ (w1.alloc (.cells #[tcP2P] 44)) _
  generalize (w1.alloc (.cells #[tcP2P] 44)) = w2 at *
  have h12 := hE2.cell h11
  have h22 := hE2.cell h21
  have z22 : w2.frozen? ⟨w.heap.size + 1, 0, none⟩ = false := (Below.frozen hE2 (by simp; omega)).trans z21
  have h32 := hE2.cell h31
  have z32 : w2.frozen? ⟨w.heap.size + 1 + 1, 0, none⟩ = false := (Below.frozen hE2 (by simp; omega)).trans z31
  have HE2 := Lib.hid (HE1.out.trans hE2)
  clear h11 h21 z21 h31 z31 hE2
  refine (safe_any 21 enters_clT _ w2 (fun w' => ∃ w3, Ext w2 w3 ∧ w' = (w3.setCell ⟨w.heap.size + 1, 0, none⟩ (.string S)).setCell ⟨w.heap.size + 1 + 1, 0, none⟩ (.bool true)) (fun o => ?c1)).mono ?_
  case c1 =>
    have hO : Ext w2 (w2.alloc o) := (Ext.refl w2).alloc o
    refine (clT_ok w1.heap.size w.heap.size (w.heap.size + 1) (w.heap.size + 1 + 1) S _ (.string ⟨#[]⟩) (.bool false) _ (hO.cell h02) (hO.cell h12) (hO.cell h22) ((Below.frozen hO (by simp; omega)).trans z22) (hO.cell h32) ((Below.frozen hO (by simp; omega)).trans z32) (by omega) ⟨ba, bn, bc, rfl⟩ (fun w' he => H.out w' (HE2.out.trans (hO.trans he)))).mono ?_
    rintro e w' ⟨rfl, w3, he3, rfl⟩
    refine ⟨rfl, ?_, w3, hO.trans he3, rfl⟩
    rw [heap_set_ne _ _ _ _ (by omega), heap_set_ne _ _ _ _ (by omega), Below.block he3 _ (by simp)]
  rintro e w' ⟨rfl, wq, ⟨w3, he3, rfl⟩, hq, rfl⟩
  have c2 : (((w3.setCell ⟨w.heap.size + 1, 0, none⟩ (.string S)).setCell ⟨w.heap.size + 1 + 1, 0, none⟩ (.bool true)).setCell ⟨w2.heap.size, 0, none⟩ (.bool true)).cell? ⟨w.heap.size + 1, 0, none⟩ = some (.string S) := by
    rw [cell_set_ne _ _ _ _ (by omega), cell_set_ne _ _ _ _ (by omega)]
    exact World.cell?_setCell_same _ _ _ (he3.cell h22)
  have c3 : (((w3.setCell ⟨w.heap.size + 1, 0, none⟩ (.string S)).setCell ⟨w.heap.size + 1 + 1, 0, none⟩ (.bool true)).setCell ⟨w2.heap.size, 0, none⟩ (.bool true)).cell? ⟨w.heap.size + 1 + 1, 0, none⟩ = some (.bool true) := by
    rw [cell_set_ne _ _ _ _ (by omega)]
    exact World.cell?_setCell_same _ _ _ (by rw [cell_set_ne _ _ _ _ (by omega)]; exact he3.cell h32)
  have f2 : (((w3.setCell ⟨w.heap.size + 1, 0, none⟩ (.string S)).setCell ⟨w.heap.size + 1 + 1, 0, none⟩ (.bool true)).setCell ⟨w2.heap.size, 0, none⟩ (.bool true)).frozen? ⟨w.heap.size + 1, 0, none⟩ = false := by
    simp [(Below.frozen he3 (p := ⟨w.heap.size + 1, 0, none⟩) (by simp; omega)).trans z22]
  have f3 : (((w3.setCell ⟨w.heap.size + 1, 0, none⟩ (.string S)).setCell ⟨w.heap.size + 1 + 1, 0, none⟩ (.bool true)).setCell ⟨w2.heap.size, 0, none⟩ (.bool true)).frozen? ⟨w.heap.size + 1 + 1, 0, none⟩ = false := by
    simp [(Below.frozen he3 (p := ⟨w.heap.size + 1 + 1, 0, none⟩) (by simp; omega)).trans z32]
  have hE4 : Ext w (((w3.setCell ⟨w.heap.size + 1, 0, none⟩ (.string S)).setCell ⟨w.heap.size + 1 + 1, 0, none⟩ (.bool true)).setCell ⟨w2.heap.size, 0, none⟩ (.bool true)) :=
    Below.setCell (Below.setCell (Below.setCell (HE2.out.trans he3) (by simp) _) (by simp; omega) _) (by simp; omega) _
  generalize (((w3.setCell ⟨w.heap.size + 1, 0, none⟩ (.string S)).setCell ⟨w.heap.size + 1 + 1, 0, none⟩ (.bool true)).setCell ⟨w2.heap.size, 0, none⟩ (.bool true)) = w4 at *
  have HE4 := Lib.hid hE4
  clear hE4 hq he3
  go_wp2_with (fail)
  have hE5 : Ext w ((w4.setCell ⟨w.heap.size + 1, 0, none⟩ (.string S)).setCell ⟨w.heap.size + 1 + 1, 0, none⟩ (.bool true)) := Below.setCell (Below.setCell HE4.out (by simp) _) (by simp; omega) _
  have d2 : ((w4.setCell ⟨w.heap.size + 1, 0, none⟩ (.string S)).setCell ⟨w.heap.size + 1 + 1, 0, none⟩ (.bool true)).cell? ⟨w.heap.size + 1, 0, none⟩ = some (.string S) := by
    rw [cell_set_ne _ _ _ _ (by omega)]
    exact World.cell?_setCell_same _ _ _ c2
  have d3 : ((w4.setCell ⟨w.heap.size + 1, 0, none⟩ (.string S)).setCell ⟨w.heap.size + 1 + 1, 0, none⟩ (.bool true)).cell? ⟨w.heap.size + 1 + 1, 0, none⟩ = some (.bool true) := by
    exact World.cell?_setCell_same _ _ _ (by rw [cell_set_ne _ _ _ _ (by omega)]; exact c3)
  refine bodyPost_ret (v := .tuple #[.string S, .bool true]) (by simp [results, Tryz.results10, go_sem, d2, d3]) rfl ⟨rfl, hE5⟩
end Go.Proofs.YtchlkclpikdbjaaGreatDoor
namespace Go.Proofs.YtchlkclpikdbjaaGreatDoor
set_option linter.unusedVariables false
set_option linter.unusedSimpArgs false
open Go.RowKit Go.Sort

theorem BaseText_ok (b : Nat) (hb : b ∈ basesL) (bs : List UInt8) (hlen : bs.length ≤ 1000) (hz : leadZ bs < bs.length) (v : Value) (w : World) (hv : By w bs v) :
    Calls Tryz.prog 7 #[.int .i64 (b : Int), v] w fun e w' => e = .returned (.string ⟨(mbText b bs).toArray⟩) ∧ Ext w w' := by
  by_cases h0 : bitsL b = 0
  · have := BaseText_num b hb h0 bs hlen hz v w hv
    unfold mbText mbBody
    rw [if_pos h0]
    exact this
  · have := BaseText_bits b hb h0 bs hlen v w hv
    unfold mbText mbBody
    rw [if_neg h0]
    exact this

/-- what is known of a peer's hash -/
theorem peer_facts (l : List UInt8) (h : peerL l) : ∃ c r, Mh c r l ∧ ((c = 18 ∧ r.length = 32) ∨ c = 0) ∧ leadZ l < l.length ∧ l.length ≤ 102 ∧
    (Lib.hasPrefix (numText (charsL 122) 58 l) [81, 109] = true ∨ (Lib.hasPrefix (numText (charsL 122) 58 l) [81, 109] = false ∧ Lib.hasPrefix (numText (charsL 122) 58 l) [49] = true)) := by
  obtain ⟨r, ⟨h32, rfl⟩ | ⟨h1, h100, rfl⟩⟩ := h
  · refine ⟨18, r, ⟨by decide, by omega, by omega, by rw [h32]; rfl⟩, .inl ⟨rfl, h32⟩, by simp [leadZ], by simp; omega, .inl ?_⟩
    obtain ⟨t, ht⟩ := text_sha r h32
    rw [ht]
    simp [Lib.hasPrefix, List.isPrefixOf]
  · have hn : UInt8.ofNat r.length ≠ 0 := by
      intro h
      have := congrArg UInt8.toNat h
      rw [UInt8.toNat_ofNat'] at this
      have h2 : r.length % 2 ^ 8 = r.length := Nat.mod_eq_of_lt (by omega)
      rw [h2] at this
      simp at this
      rw [this] at h1
      simp at h1
    refine ⟨0, r, ⟨by decide, h1, by omega, rfl⟩, .inr rfl, by simp [leadZ, hn], by simp; omega, .inr ?_⟩
    obtain ⟨t, ht⟩ := text_id r (UInt8.ofNat r.length)
    rw [ht]
    simp [Lib.hasPrefix, List.isPrefixOf]

theorem slice_from1 (s : ByteArray) (h : 1 ≤ s.size) (w : World) : (Instr.slice 9 (.string s) (some (.int .i64 1)) none none).run Tryz.prog w = .ok (.string (s.extract 1 s.size)) w := by
  have h' : (1 : Int) ≤ (s.size : Int) := by omega
  have := Tryz.underlying9
  simp [go_sem, h', this]
theorem gives_of {f : Nat} {S : ByteArray} {l : List UInt8} {w : World} (h : Calls Tryz.prog f #[.string S] w fun e w' => ∃ v, e = .returned (.tuple #[v, .nilIface]) ∧ By w' l v ∧ Ext w w') : Calls Tryz.prog f #[.string S] w (Gives true l w) := by
  refine h.mono ?_
  rintro e w' ⟨v, rfl, hb, he⟩
  exact ⟨he, .inl ⟨rfl, v, rfl, hb⟩⟩
theorem gives_no {f : Nat} {S : ByteArray} {l : List UInt8} {w : World} (h : Calls Tryz.prog f #[.string S] w fun e w' => ∃ v t p, e = .returned (.tuple #[v, .iface t (.pointer (some p))]) ∧ Ext w w') : Calls Tryz.prog f #[.string S] w (Gives false l w) := by
  refine h.mono ?_
  rintro e w' ⟨v, t, p, rfl, he⟩
  exact ⟨he, .inr ⟨rfl, v, t, p, rfl⟩⟩

theorem own_slice_block {g n c k : Nat} (h : (Value.slice (some ⟨g, 0, none⟩) n c).ownBlock = some k) : g = k := by
  injection h
theorem by_cid {w : World} {base : Nat} {v : Value} {x : Nat} {l : List UInt8} (h : w.ownsRow base 5 1 v (1 + (Lib.uvarint x).length + l.length) ([.int .u8 1] ++ (Lib.uvarint x).map B ++ l.map B)) : By w (cidL x l) v := by
  apply own_by (base := base) (e := 5)
  have h1 : (cidL x l).length = 1 + (Lib.uvarint x).length + l.length := by rw [cidL_eq]; simp; omega
  have h2 : (cidL x l).map B = [.int .u8 1] ++ (Lib.uvarint x).map B ++ l.map B := by rw [cidL_eq]; simp [B]
  rw [h1, h2]
  exact h

theorem awl_peer (b : Nat) (hb : b ∈ basesL) (x : Nat) (hx : x < 9223372036854775808) (l : List UInt8) (hl : l.length ≤ 102) (v : Value) (w : World) (hv : By w (cidL x l) v) :
    Calls Tryz.prog 7 #[.int .i64 (b : Int), v] w fun e w' => e = .returned (.string ⟨(mbText b (cidL x l)).toArray⟩) ∧ Ext w w' :=
  BaseText_ok b hb (cidL x l) (by rw [cidL_eq]; have := uv_le9 hx; simp; omega) (cid_lead x l) v w hv

set_option maxHeartbeats 400000 in
set_option maxRecDepth 100000 in
theorem lawP_ok (hA : ∀ w, Calls Tryz.prog 6 #[] w fun e w' => e = .returned (.bool true) ∧ Ext w w')
    (l : List UInt8) (hl : l.length ≤ 281474976710656) (v : Value) (which : Nat) (hw : which < 256) (x : Nat) (hx : x < 18446744073709551616) (w : World) (hv : By w l v) (hp : PreV w) :
    Calls Tryz.prog 3 #[v, .int .u8 (which : Int), .int .u64 (x : Int)] w fun e w' => e = .returned (.bool true) ∧ Ext w w' := by
  obtain ⟨i0, hi, hz0, hz1, hz2⟩ := info_parts info_u8
  have HAw := Lib.hid hA
  have HB := Lib.hid (fun w => baseOf_ok which hw w)
  have hmem := baseAt_mem which
  obtain ⟨b, hbb⟩ : ∃ b, b = baseAt which := ⟨_, rfl⟩
  rw [← hbb] at HB hmem
  have HH := Lib.hid (fun w1 (h : Ext w w1) => peerHash_ok l hl v w1 (h.by hv))
  obtain ⟨a, cap, rfl, hcap, -⟩ := id hv
  obtain ⟨n, hn⟩ : ∃ n, n = l.length := ⟨_, rfl⟩
  rw [← hn] at hl hv HH hcap ⊢
  have HN := Lib.hid hn
  clear hn
  have hbs : b < 256 := by rcases hmem with rfl | h; decide; exact (by decide : ∀ b ∈ basesL, b < 256) b h
  clear hA hbb hw
  by_cases hbig : n > 2147483647
  · have hbigI : (n : Int) > 2147483647 := by omega
    go_enter Tryz.func3, Tryz.ntmps3
    go_wp2_with (fail)
    go_ret
    exact ⟨rfl, Ext.refl _⟩
  · have hbigI : ¬ (n : Int) > 2147483647 := by omega
    go_enter Tryz.func3, Tryz.ntmps3
    go_wp2_with (fail)
    refine (HB.out _).mono ?_
    rintro e w1 ⟨rfl, he1⟩
    have HE1 := Lib.hid he1
    go_wp2_with (fail)
    refine (HH.out w1 he1).mono ?_
    intro e w2 h
    obtain ⟨r, he, hr, he2⟩ := h
    subst he
    have HE2 := Lib.hid (he1.trans he2)
    clear he1 he2
    have hor : (r = true ∧ b ∈ basesL ∧ x < 9223372036854775808) ∨ ¬ (r = true ∧ b ∈ basesL ∧ x < 9223372036854775808) := Classical.em _
    rcases hor with ⟨rfl, hb, hx63⟩ | hno
    · have hpl := hr rfl
      clear hr
      obtain ⟨c, rr, hMh, hc, hz, h102, hpre⟩ := peer_facts l hpl
      have hxk := uv_le9 hx63
      have HBT := Lib.hid (fun (w1 : World) (h : Ext w w1) => BaseText_ok 122 (by decide) l (by omega) hz (.slice a n cap) w1 (h.by hv))
      obtain ⟨TZ, hTZ⟩ : ∃ T : ByteArray, T = ⟨(mbText 122 l).toArray⟩ := ⟨_, rfl⟩
      obtain ⟨TO, hTO⟩ : ∃ T : ByteArray, T = ⟨(numText (charsL 122) 58 l).toArray⟩ := ⟨_, rfl⟩
      have hsl : ∀ w, (Instr.slice 9 (.string TZ) (some (.int .i64 1)) none none).run Tryz.prog w = .ok (.string TO) w := by
        intro w
        have hz' : TZ.data.toList = [122] ++ numText (charsL 122) 58 l := by
          rw [hTZ]
          show mbText 122 l = _
          unfold mbText mbBody
          rw [if_pos (by decide)]
          rfl
        have h1 := slice_from1 TZ (by rw [Lib.size_eq, hz', List.length_append]; simp) w
        rw [h1]
        have h2 : TZ.extract 1 TZ.size = TO := by
          rw [hTO]
          apply ByteArray.ext; apply Array.toList_inj.1
          rw [str_tail hz' 1 rfl]
        rw [h2]
      have HOld := Lib.hid (fun (w1 : World) => toBytes_ok TO l (by omega) w1 (fun w2 _ => by rw [hTO]; exact gives_of (p2pOld_ok c rr l hMh hc hz w2 hpre)))
      have HTxt := Lib.hid (fun (w1 : World) (h : Ext w w1) => toText_ok TO a n cap w1 (fun w2 h2 => by rw [hTO]; exact p2pBtS_ok c rr l hMh (by omega) hz (.slice a n cap) w2 ((h.trans h2).by hv)))
      have HC := Lib.hid (fun (v : Value) (w1 : World) (hv : By w1 (cidL 114 l) v) => awl_peer b hb 114 (by decide) l h102 v w1 hv)
      obtain ⟨TC, hTC⟩ : ∃ T : ByteArray, T = ⟨(mbText b (cidL 114 l)).toArray⟩ := ⟨_, rfl⟩
      have HCid := Lib.hid (fun (w1 : World) (h : Ext w w1) => toBytes_ok TC l (by omega) w1 (fun w2 h2 => by rw [hTC]; exact gives_of (p2pCid_ok b hb c rr l hMh hc w2 ((h.trans h2).preV hp))))
      have HX2 := Lib.hid (fun (v : Value) (w1 : World) (hv : By w1 (cidL x l) v) => awl_peer b hb x hx63 l h102 v w1 hv)
      obtain ⟨TX, hTX⟩ : ∃ T : ByteArray, T = ⟨(mbText b (cidL x l)).toArray⟩ := ⟨_, rfl⟩
      have hoth : ∃ okx : Bool, (x ≠ 114 → okx = false) ∧ ∀ w1, Ext w w1 → Calls Tryz.prog 8 #[.int .i64 421, .string TX] w1 fun e w' => ∃ v, e = .returned (.tuple #[v, .bool okx]) ∧ Ext w1 w' := by
        by_cases h114 : x = 114
        · refine ⟨true, fun h => absurd h114 h, fun w1 h => ?_⟩
          refine (toBytes_ok TX l (by omega) w1 (fun w2 h2 => by rw [hTX, h114]; exact gives_of (p2pCid_ok b hb c rr l hMh hc w2 ((h.trans h2).preV hp)))).mono ?_
          rintro e w' ⟨v, rfl, -, he⟩
          exact ⟨v, rfl, he⟩
        · refine ⟨false, fun _ => rfl, fun w1 h => ?_⟩
          exact toBytes_no TX l w1 (fun w2 h2 => by rw [hTX]; exact gives_no (p2pOther_ok b hb x hx63 h114 c rr l hMh w2 ((h.trans h2).preV hp)))
      obtain ⟨okx, hokx, hoth⟩ := hoth
      have HOth := Lib.hid hoth
      have HV1 := Lib.hid (fun w => maVarint_ok 114 (by decide) w)
      have HV2 := Lib.hid (fun w => maVarint_ok x hx63 w)
      have hk1 : (Lib.uvarint 114).length ≤ 9 := uv_le9 (by decide)
      rw [← hTZ] at HBT
      rw [← hTC] at HC
      rw [← hTX] at HX2
      have HSH : Hid (∀ w1, Ext w w1 → SrcC w1 1 (.slice a n cap) n (l.map B)) := Lib.hid (fun w1 h => by
        have h2 := srcC_by (h.by hv)
        rw [← HN.out] at h2
        exact h2)
      have HHV := Lib.hid hv
      have H102 : n ≤ 102 := by rw [HN.out]; exact h102
      clear hTZ hTO hTC hTX hoth hMh hc hz hpre hpl h102 hv
      have hb0 : ((b : Int) == 0) = false := by
        have : ∀ b ∈ basesL, b ≠ 0 := by decide
        have := this b hb
        simp; omega
      have hxI : ¬ ((x : Int) ≥ 9223372036854775808) := by omega
      have HX := Lib.hid hx63
      have hxe : x ≠ 114 → ((x : Int) == 114) = false := fun h => by simp; omega
      clear hx63 hx hl
      have HMEM := Lib.hid hmem
      clear hmem
      obtain ⟨xi, hxi⟩ : ∃ xi : Int, xi = (x : Int) := ⟨_, rfl⟩
      rw [← hxi] at hxI HV2 hxe ⊢
      have HXI := Lib.hid hxi
      have hbI : ∃ bi : Int, bi = (b : Int) := ⟨_, rfl⟩
      obtain ⟨bi, hbi⟩ := hbI
      rw [← hbi] at hb0 HC HX2 ⊢
      have HBI := Lib.hid hbi
      have HBM := Lib.hid hb
      clear hxi hbi hb hbs
      go_wp2_with (first
        | (go_at_call 7; refine (HBT.out w2 HE2.out).mono ?_; rintro e w3 ⟨rfl, he3⟩; have HE3 := Lib.hid (HE2.out.trans he3); clear he3)
        | (go_at_call 8; refine (HOld.out w3).mono ?_; rintro e w4 ⟨v4, rfl, hb4, he4⟩; have HB4 := Lib.hid hb4; have HE4 := Lib.hid (HE3.out.trans he4); clear he4 hb4)
        | fail)
      refine (HV1.out _).mono ?_
      rintro e w5 ⟨v5, rfl, hb5, he5⟩
      have hown0 : w5.ownsRow w4.heap.size 5 1 (.slice (some ⟨w4.heap.size, 0, none⟩) 1 1) 1 [.int .u8 1] := Ext.own he5 (own_one w4 w4.heap.size 5 (.int .u8 1) (Nat.le_refl _))
      have hE5 : Ext w4 w5 := (Ext.alloc (Ext.refl w4) _).trans he5
      have HS5 := Lib.hid (srcC_by hb5)
      have HO5 := Lib.hid hown0
      clear hb5 he5 hown0
      go_wp2_with (first
        | (at_builtin; refine wpList_append_any rfl _ _ 22 rfl w4.heap.size 5 i0 _ 1 1 Tryz.underlying22 hi hz0 hz1 hz2 rfl (by decide) _ 1 [.int .u8 1] rfl HO5.out _ (Lib.uvarint 114).length ((Lib.uvarint 114).map B) rfl HS5.out (fun u hu => by obtain ⟨x, -, rfl⟩ := List.mem_map.1 hu; rfl) (by unfold maxLen; omega) (by omega) hE5.size ?_; intro u6 w6 hown6 hgr6 hwh6; have hE6 : Ext w4 w6 := below_grown hE5 hE5.size hgr6 (fun k hk => Nat.le_of_eq (own_slice_block hk)))
        | (at_builtin; refine wpList_append_any rfl _ _ 22 rfl w4.heap.size 5 i0 _ 1 1 Tryz.underlying22 hi hz0 hz1 hz2 rfl (by decide) u6 (1 + (Lib.uvarint 114).length) ([Value.int IntKind.u8 1] ++ (Lib.uvarint 114).map B) rfl hown6 _ n (l.map B) rfl (HSH.out _ (HE4.out.trans hE6)) (fun u hu => by obtain ⟨x, -, rfl⟩ := List.mem_map.1 hu; rfl) (by unfold maxLen; omega) (by omega) hE6.size ?_; intro u7 w7 hown7 hgr7 hwh7; have hE7 : Ext w4 w7 := below_grown hE6 hE6.size hgr7 (fun k hk => (hown6.lt k hk).1))
        | fail)
      have HB7 := Lib.hid (by_cid (x := 114) (l := l) (by rw [← HN.out]; exact hown7))
      have HE7 := Lib.hid (HE4.out.trans hE7)
      have HD7 := Lib.hid hE7
      clear hown6 hgr6 hwh6 hown7 hgr7 hwh7 hE5 hE6 hE7
      go_wp2_with (fail)
      refine (HC.out u7 w7 HB7.out).mono ?_
      rintro e w8 ⟨rfl, he8⟩
      have HE8 := Lib.hid (HE7.out.trans he8)
      have HD8 := Lib.hid (HD7.out.trans he8)
      clear he8
      go_wp2_with (first
        | (go_at_call 8; refine (HCid.out w8 HE8.out).mono ?_; rintro e w9 ⟨v9, rfl, hb9, he9⟩; have HB9 := Lib.hid hb9; have HE9 := Lib.hid (HE8.out.trans he9); have HB49 := Lib.hid ((HD8.out.trans he9).by HB4.out); clear he9 hb9)
        | (go_at_call 10; refine (HTxt.out w9 HE9.out).mono ?_; rintro e w10 ⟨rfl, he10⟩; have HE10 := Lib.hid (HE9.out.trans he10); have HG10 := Lib.hid he10; clear he10)
        | fail)
      refine (HV2.out _).mono ?_
      rintro e w11 ⟨v11, rfl, hb5, he5⟩
      have hown0 : w11.ownsRow w10.heap.size 5 1 (.slice (some ⟨w10.heap.size, 0, none⟩) 1 1) 1 [.int .u8 1] := Ext.own he5 (own_one w10 w10.heap.size 5 (.int .u8 1) (Nat.le_refl _))
      have hE5 : Ext w10 w11 := (Ext.alloc (Ext.refl w10) _).trans he5
      have HS5 := Lib.hid (srcC_by hb5)
      have HO5 := Lib.hid hown0
      clear hb5 he5 hown0
      go_wp2_with (first
        | (at_builtin; refine wpList_append_any rfl _ _ 22 rfl w10.heap.size 5 i0 _ 1 1 Tryz.underlying22 hi hz0 hz1 hz2 rfl (by decide) _ 1 [.int .u8 1] rfl HO5.out _ (Lib.uvarint x).length ((Lib.uvarint x).map B) rfl HS5.out (fun u hu => by obtain ⟨x, -, rfl⟩ := List.mem_map.1 hu; rfl) (by unfold maxLen; omega) (by omega) hE5.size ?_; intro u12 w12 hown6 hgr6 hwh6; have hE6 : Ext w10 w12 := below_grown hE5 hE5.size hgr6 (fun k hk => Nat.le_of_eq (own_slice_block hk)))
        | (at_builtin; refine wpList_append_any rfl _ _ 22 rfl w10.heap.size 5 i0 _ 1 1 Tryz.underlying22 hi hz0 hz1 hz2 rfl (by decide) u12 (1 + (Lib.uvarint x).length) ([Value.int IntKind.u8 1] ++ (Lib.uvarint x).map B) rfl hown6 _ n (l.map B) rfl (HSH.out _ (HE10.out.trans hE6)) (fun u hu => by obtain ⟨x, -, rfl⟩ := List.mem_map.1 hu; rfl) (by unfold maxLen; omega) (by omega) hE6.size ?_; intro u13 w13 hown7 hgr7 hwh7; have hE7 : Ext w10 w13 := below_grown hE6 hE6.size hgr7 (fun k hk => (hown6.lt k hk).1))
        | fail)
      have HB13 := Lib.hid (by_cid (x := x) (l := l) (by rw [← HN.out]; exact hown7))
      have HE13 := Lib.hid (HE10.out.trans hE7)
      have HG13 := Lib.hid (HG10.out.trans hE7)
      clear hown6 hgr6 hwh6 hown7 hgr7 hwh7 hE5 hE6 hE7
      go_wp2_with (fail)
      refine (HX2.out u13 w13 HB13.out).mono ?_
      rintro e w14 ⟨rfl, he14⟩
      have HE14 := Lib.hid (HE13.out.trans he14)
      have HG14 := Lib.hid (HG13.out.trans he14)
      clear he14
      go_wp2_with (first
        | (go_at_call 8; refine (HOth.out w14 HE14.out).mono ?_; rintro e w15 ⟨v15, rfl, he15⟩; have HE15 := Lib.hid (HE14.out.trans he15); have HG15 := Lib.hid (HG14.out.trans he15); clear he15)
        | fail)
      refine (HAw.out w15).mono ?_
      rintro e w16 ⟨rfl, he16⟩
      have HE16 := Lib.hid (HE15.out.trans he16)
      have hG := HG15.out.trans he16
      clear he16
      obtain ⟨L, hL⟩ : ∃ L : ByteArray, L = ⟨l.toArray⟩ := ⟨_, rfl⟩
      have cv4 := conv_str (hG.by HB49.out)
      have cv9 := conv_str (hG.by HB9.out)
      have cvh := conv_str (HE16.out.by HHV.out)
      rw [← hL] at cv4 cv9
      rw [← hL] at cvh
      clear hL hG
      by_cases h114 : x = 114
      · have hx1 : (xi == 114) = true := by rw [HXI.out, h114]; rfl
        go_wp2_with (fail)
        go_ret
        exact ⟨rfl, HE16.out⟩
      · have hx1 : (xi == 114) = false := hxe h114
        have hok := hokx h114
        subst hok
        go_wp2_with (fail)
        go_ret
        exact ⟨rfl, HE16.out⟩
    · have hno' : r = false ∨ b = 0 ∨ 9223372036854775808 ≤ x := by
        cases r with
        | false => exact .inl rfl
        | true =>
          rcases hmem with h | h
          · exact .inr (.inl h)
          · exact .inr (.inr (by
              rcases Nat.lt_or_ge x 9223372036854775808 with h2 | h2
              · exact absurd ⟨rfl, h, h2⟩ hno
              · exact h2))
      have hgoal : r = false ∨ (r = true ∧ ((b : Int) == 0) = true) ∨ (r = true ∧ ((b : Int) == 0) = false ∧ (9223372036854775808 : Int) ≤ (x : Int)) := by
        cases r with
        | false => exact .inl rfl
        | true =>
          by_cases h0 : b = 0
          · exact .inr (.inl ⟨rfl, by simp [h0]⟩)
          · refine .inr (.inr ⟨rfl, by simp; omega, ?_⟩)
            rcases hno' with h | h | h
            · exact absurd h (by decide)
            · exact absurd h h0
            · omega
      clear hno hno' hr hmem hbs hx hl
      obtain ⟨xi, hxi⟩ : ∃ xi : Int, xi = (x : Int) := ⟨_, rfl⟩
      obtain ⟨bi, hbi⟩ : ∃ bi : Int, bi = (b : Int) := ⟨_, rfl⟩
      rw [← hxi, ← hbi] at hgoal
      rw [← hxi, ← hbi]
      clear hxi hbi hv hp
      rcases hgoal with rfl | ⟨rfl, h0⟩ | ⟨rfl, h0, h1⟩
      all_goals
        go_wp2_with (go_at_call 6; refine (HAw.out _).mono ?_; rintro e w16 ⟨rfl, he16⟩)
        go_ret
        exact ⟨rfl, HE2.out.trans he16⟩

set_option maxHeartbeats 400000 in
set_option maxRecDepth 100000 in
theorem lawP_big (l : List UInt8) (hl : 2147483647 < l.length) (v : Value) (which x : Nat) (w : World) (hv : By w l v) :
    Calls Tryz.prog 3 #[v, .int .u8 (which : Int), .int .u64 (x : Int)] w fun e w' => e = .returned (.bool true) ∧ Ext w w' := by
  obtain ⟨a, cap, rfl, -, -⟩ := hv
  obtain ⟨n, hn⟩ : ∃ n, n = l.length := ⟨_, rfl⟩
  rw [← hn] at hl ⊢
  clear hn
  have hbigI : (n : Int) > 2147483647 := by omega
  clear hl
  go_enter Tryz.func3, Tryz.ntmps3
  go_wp2_with (fail)
  go_ret
  exact ⟨rfl, Ext.refl _⟩
end Go.Proofs.YtchlkclpikdbjaaGreatDoor
