/-
  Texts of base64 read back: decodeQuantum. Written by gen_b64d.py.
-/
import Derived.Test.YtchlkclpikdbjaaGreatDoorAlph
namespace Go.Proofs.YtchlkclpikdbjaaGreatDoor
set_option linter.unusedVariables false
set_option linter.unusedSimpArgs false
open Go.RowKit Go.Sort

/-- the facts of a text of base64 -/
structure Txt64 (l : List UInt8) (pad : Int) (bs T : List UInt8) (m : Nat) : Prop where
  m_eq : m = (8 * bs.length + 5) / 6
  dig : ∀ i, i < m → emap l 64 (T.getD i 0).toNat = d6 bs i ∧ (T.getD i 0).toNat < 128
  tail : ∀ i, m ≤ i → i < T.length → T.getD i 0 = 61
  unk : emap l 64 61 = 255
  pads : (pad = -1 ∧ T.length = m) ∨ (pad = 61 ∧ T.length = m + (4 - m % 4) % 4)
theorem ret3q (a b : Int) (u v : Value) (h : a = b) : Ending.returned (.tuple #[.int .i64 a, u, v]) = Ending.returned (.tuple #[.int .i64 b, u, v]) := by rw [h]
theorem wr_other {w : World} {b n d : Nat} {f : Nat → Value} (h : Wr w b n f) (hne : ¬ b = d) (i : Nat) (v : Value) : Wr (w.setCell ⟨d, i, none⟩ v) b n f := h.of_block (Below.heap_setCell _ _ _ _ hne)
theorem info_256 : (Tryz.prog.info? 208).map (·.size) = some 256 := by kernel_rfl
/-- the numbers of an encoding as a row -/
theorem E64At.row {w : World} {g : Nat} {l : List UInt8} {pad : Int} (h : E64At w g l pad) : Row w g 64 ((List.range 256).map fun j => e64F l (emap l 64) pad (64 + j)) := fun j v hj => by
  have hj' : j < 256 := by have := (List.getElem?_eq_some_iff.1 hj).1; simpa using this
  rw [(h (64 + j) (by omega)).1, ← hj]
  simp [hj']
theorem zero_dbuf4 : (Tryz.prog.info? 259).map (fun i => (i.zero.map (·.cells))) = some (some ((Array.range 4).map (fun _ => .int .u8 0))) := by kernel_rfl

set_option maxHeartbeats 2000000 in
set_option maxRecDepth 100000 in
theorem quant4_ok (l : List UInt8) (pad : Int) (bs T : List UInt8) (m q : Nat) (ht : Txt64 l pad bs T m) (hq : 4 * q + 4 ≤ m) (hlen : bs.length ≤ 1000) (g b0 c bd n1 c1 Nd : Nat) (F : Nat → Value) (w : World) (hE : E64At w g l pad) (hN : T.length ≤ c)
    (hT : ∀ i, i < T.length → w.cell? ⟨b0, i, none⟩ = some (B (T.getD i 0))) (hW : Wr w bd Nd F) (hNd : 3 * q + 3 ≤ Nd) (hn1 : 3 ≤ n1) (hgd : g ≠ bd) (hbd : b0 ≠ bd) :
    Calls Tryz.prog 273 #[.pointer (some ⟨g, 0, none⟩), .slice (some ⟨bd, 3 * q, none⟩) n1 c1, .slice (some ⟨b0, 0, none⟩) T.length c, .int .i64 ((4 * q : Nat) : Int)] w fun r w' =>
      r = .returned (.tuple #[.int .i64 ((4 * q + 4 : Nat) : Int), .int .i64 3, .nilIface]) ∧ (∃ G : Nat → Value, (∀ j, j < 3 * q → G j = F j) ∧ (∀ k, k < 3 → G (3 * q + k) = B (bs.getD (3 * q + k) 0)) ∧ Wr w' bd Nd G) ∧ w.grownBy w' (some bd) := by
  obtain ⟨N, hNe⟩ : ∃ N, N = T.length := ⟨_, rfl⟩
  have hm := ht.m_eq
  have hpads := ht.pads
  rw [← hNe] at hN hT hpads ⊢
  obtain ⟨i4, hi4⟩ : ∃ i4, i4 = 4 * q := ⟨_, rfl⟩
  obtain ⟨i3, hi3⟩ : ∃ i3, i3 = 3 * q := ⟨_, rfl⟩
  have hback := back6 bs q
  obtain ⟨hg0, hg1, hg2, hg3⟩ := group6 bs q
  rw [← hi4, ← hi3] at hback hg0 hg1 hg2 hg3
  rw [← hi4] at hq ⊢
  rw [← hi3] at hNd ⊢
  have hdig : ∀ t, t < 4 → ∃ xc : Nat, w.cell? ⟨b0, i4 + t, none⟩ = some (.int .u8 (xc : Int)) ∧ w.cell? ⟨g, 64 + xc, none⟩ = some (.int .u8 (d6 bs (i4 + t) : Int)) ∧ xc < 128 ∧ d6 bs (i4 + t) < 64 := fun t h1 => by
    obtain ⟨a1, a2⟩ := ht.dig (i4 + t) (by omega)
    refine ⟨(T.getD (i4 + t) 0).toNat, hT (i4 + t) (by omega), ?_, a2, d6_lt bs _⟩
    rw [(hE (64 + (T.getD (i4 + t) 0).toNat) (by omega)).1]
    simp only [e64F, if_neg (show ¬ 64 + (T.getD (i4 + t) 0).toNat < 64 by omega), if_pos (show 64 + (T.getD (i4 + t) 0).toNat < 320 by omega), show 64 + (T.getD (i4 + t) 0).toNat - 64 = (T.getD (i4 + t) 0).toNat by omega, a1]
  have hval : d6 bs i4 * 262144 + d6 bs (i4 + 1) * 4096 + d6 bs (i4 + 2) * 64 + d6 bs (i4 + 3) = xb bs i3 * 65536 + xb bs (i3 + 1) * 256 + xb bs (i3 + 2) := hback
  have HER := Lib.hid hE.row
  have hcs : w.cell? ⟨g, 321, none⟩ = some (.bool false) := (hE 321 (by decide)).1
  have HD := Lib.hid (And.intro hdig hval)
  have HW := Lib.hid hW
  have hd1 : b0 < w.heap.size ∧ g < w.heap.size ∧ bd < w.heap.size := ⟨block_lt_of_cell (hT 0 (by omega)), block_lt_of_cell hcs, block_lt_of_cell (hW 0 (by omega)).1⟩
  have hNN : i4 + 4 ≤ N := by omega
  have hi4N : (i4 : Int) < (N : Int) := by omega
  have hN3 : N ≤ 3000 := by omega
  have HQ := Lib.hid (And.intro hi4 (And.intro hi3 hNe))
  clear hi4 hi3 hback hg0 hg1 hg2 hg3 hdig hval hT hE hW hm hpads ht hNe
  go_enter Tryz.func273, Tryz.ntmps273
  go_wp2_with (first
    | (refine wpList_newrow rfl 259 rfl 4 _ zero_dbuf4 ?_; intro w1 hr1 he1 hs1; have HR1 := Lib.hid (And.intro (Wr.of_row hr1) he1); clear hr1 he1 hs1)
    | (refine wpList_load_at rfl 208 _ rfl g 64 rfl ((List.range 256).map fun j => e64F l (emap l 64) _ (64 + j)) (HR1.out.2.row HER.out) _ Tryz.underlying208 rfl (by rw [List.length_map, List.length_range]; exact info_256) ?_; intro X HX))
  have hst : Hid (Wr w1 w.heap.size 4 (fun t => if t < 0 then .int .u8 (d6 bs (i4 + t) : Int) else .int .u8 0) ∧ Ext w w1) := Lib.hid ⟨by simpa using HR1.out.1, HR1.out.2⟩
  clear HR1 HX HER
  go_loopg [3, 10, 12, 13] 5 (fun gk s3 s10 s12 s13 wx => s10 = .nilIface ∧ s12 = .int .i64 4 ∧ ∃ j : Nat, s3 = .int .i64 ((i4 + j : Nat) : Int) ∧ s13 = .int .i64 (j : Int) ∧ j ≤ 4 ∧ gk = 5 - j ∧ Hid (Wr wx w.heap.size 4 (fun t => if t < j then .int .u8 (d6 bs (i4 + t) : Int) else .int .u8 0) ∧ Ext w wx))
  case atStart => exact ⟨rfl, rfl, 0, rfl, rfl, by decide, rfl, hst⟩
  case round =>
    obtain ⟨rfl, rfl, j, rfl, rfl, hj, hgk, HH⟩ := hrel
    by_cases hje : j < 4
    · obtain ⟨xc, a1, a2, a3, a4⟩ := HD.out.1 j hje
      obtain ⟨h1, h2⟩ := HH.out
      obtain ⟨p, hp⟩ : ∃ p, p = i4 + j := ⟨_, rfl⟩
      rw [← hp] at a1 a2 a4 ⊢
      obtain ⟨dv, hdv⟩ : ∃ dv, dv = d6 bs p := ⟨_, rfl⟩
      rw [← hdv] at a2 a4
      have a1' := h2.cell a1
      have a2' := h2.cell a2
      have hcd : wr.cell? ⟨w.heap.size, j, none⟩ = some (.int .u8 0) := by rw [(h1 j (by omega)).1]; simp
      have hfd := (h1 j (by omega)).2
      have hpN : p < N := by omega
      have hpI : (p : Int) < (N : Int) := by omega
      have hpn : ((N : Int) == (p : Int)) = false := by rw [beq_eq_false_iff_ne]; omega
      have hj4 : (j : Int) < 4 := by omega
      have hd255 : ((dv : Int) == 255) = false := by rw [beq_eq_false_iff_ne]; omega
      have hxcI : (xc : Int) < 256 := by omega
      have HN : Hid (Wr (wr.setCell ⟨w.heap.size, j, none⟩ (.int .u8 (dv : Int))) w.heap.size 4 (fun t => if t < j + 1 then .int .u8 (d6 bs (i4 + t) : Int) else .int .u8 0) ∧ Ext w (wr.setCell ⟨w.heap.size, j, none⟩ (.int .u8 (dv : Int)))) := Lib.hid ⟨(h1.set j _).congr fun t ht => by
          by_cases h3 : t = j
          · subst h3
            rw [if_pos rfl, if_pos (by omega), hdv, hp]
          · rw [if_neg h3]
            by_cases h4 : t < j
            · rw [if_pos h4, if_pos (by omega)]
            · rw [if_neg h4, if_neg (by omega)], ext_setCell h2 (Nat.le_refl _) j _⟩
      have HP := Lib.hid hp
      clear h1 h2 a1 a2 hp hdv
      go_wp2
      go_roundg (5 - (j + 1))
      case measure => omega
      case rel => exact ⟨rfl, rfl, j + 1, by have := HP.out; go_num, by go_num, by omega, rfl, HN⟩
    · obtain rfl : 4 = j := by omega
      obtain ⟨h1, h2⟩ := HH.out
      have z := fun t (ht : t < 4) => (h1 t ht).1
      have fz := fun t (ht : t < 4) => (h1 t ht).2
      obtain ⟨hdg, hval⟩ := HD.out
      have hdd := fun t => d6_lt bs (i4 + t)
      have z0 : wr.cell? ⟨w.heap.size, 0, none⟩ = some (.int .u8 (d6 bs (i4 + 0) : Int)) := by rw [z 0 (by decide)]; simp
      have z1 : wr.cell? ⟨w.heap.size, 1, none⟩ = some (.int .u8 (d6 bs (i4 + 1) : Int)) := by rw [z 1 (by decide)]; simp
      have z2 : wr.cell? ⟨w.heap.size, 2, none⟩ = some (.int .u8 (d6 bs (i4 + 2) : Int)) := by rw [z 2 (by decide)]; simp
      have z3 : wr.cell? ⟨w.heap.size, 3, none⟩ = some (.int .u8 (d6 bs (i4 + 3) : Int)) := by rw [z 3 (by decide)]; simp
      have fz0 := fz 0 (by decide)
      have fz1 := fz 1 (by decide)
      have fz2 := fz 2 (by decide)
      have fz3 := fz 3 (by decide)
      have dd0 := hdd 0
      have dd1 := hdd 1
      have dd2 := hdd 2
      have dd3 := hdd 3
      have y0 := xb_lt bs i3
      have y1 := xb_lt bs (i3 + 1)
      have y2 := xb_lt bs (i3 + 2)
      simp only [Nat.add_zero] at z0 dd0
      generalize d6 bs i4 = x0 at z0 dd0 hval
      generalize d6 bs (i4 + 1) = x1 at z1 dd1 hval
      generalize d6 bs (i4 + 2) = x2 at z2 dd2 hval
      generalize d6 bs (i4 + 3) = x3 at z3 dd3 hval
      obtain ⟨V, hV⟩ : ∃ V : Int, V = (x0 : Int) * 262144 + (x1 : Int) * 4096 + (x2 : Int) * 64 + (x3 : Int) := ⟨_, rfl⟩
      have o1 : bits .or .u64 ((x0 : Int) * 262144) ((x1 : Int) * 4096) = (x0 : Int) * 262144 + (x1 : Int) * 4096 := by
        rw [bits_join .u64 64 (by decide) w64 18 _ _ (by omega) (by omega) (by omega) (by omega) (by omega) (by omega)]
      have o2 : bits .or .u64 ((x0 : Int) * 262144 + (x1 : Int) * 4096) ((x2 : Int) * 64) = (x0 : Int) * 262144 + (x1 : Int) * 4096 + (x2 : Int) * 64 := by
        rw [bits_join .u64 64 (by decide) w64 12 _ _ (by omega) (by omega) (by omega) (by omega) (by omega) (by omega)]
      have o3 : bits .or .u64 ((x0 : Int) * 262144 + (x1 : Int) * 4096 + (x2 : Int) * 64) ((x3 : Int)) = V := by
        rw [bits_join .u64 64 (by decide) w64 6 _ _ (by omega) (by omega) (by omega) (by omega) (by omega) (by omega)]
        rw [hV]
      have hwd := h2.wr HW.out
      obtain ⟨s0, fs0⟩ := hwd (i3) (by omega)
      obtain ⟨s1, fs1⟩ := hwd (i3 + 1) (by omega)
      obtain ⟨s2, fs2⟩ := hwd (i3 + 2) (by omega)
      generalize hF0 : F i3 = v0 at s0
      clear hF0
      generalize hF1 : F (i3 + 1) = v1 at s1
      clear hF1
      generalize hF2 : F (i3 + 2) = v2 at s2
      clear hF2
      have hne1 : ¬ w.heap.size = bd := by omega
      have hne2 : ¬ bd = w.heap.size := by omega
      have hcs' := h2.cell hcs
      have HV := Lib.hid (And.intro hV hval)
      have hV0 : 0 ≤ V := by omega
      have hV1 : V < 16777216 := by omega
      have HWD := Lib.hid (And.intro hwd h2)
      have hn1I : (3 : Int) ≤ (n1 : Int) := by omega
      clear h1 h2 z fz hdg hdd hval hV hwd y0 y1 y2 hcs
      go_wp2
      go_ret3
      obtain ⟨hV, hval⟩ := HV.out
      obtain ⟨hwd, hE2⟩ := HWD.out
      have hgrow : w.grownBy wr (some bd) := grown_ext (grown_refl _ _) hE2
      refine ⟨ret3q _ _ _ _ (by omega), ⟨?qG, ?qa, ?qb, ?qc⟩, ?qd⟩
      case qd =>
        exact (grown_set (grown_set_new (grown_set (grown_set_new (grown_set (grown_set_new (grown_set_new (grown_set_new hgrow (Nat.le_refl _) _ _) (Nat.le_refl _) _ _) (Nat.le_refl _) _ _) _ _) (Nat.le_refl _) _ _) _ _) (Nat.le_refl _) _ _) _ _)
      case qc =>
        exact (Wr.set (wr_other (Wr.set (wr_other (Wr.set (wr_other (wr_other (wr_other hwd hne2 _ _) hne2 _ _) hne2 _ _) _ _) hne2 _ _) _ _) hne2 _ _) _ _)
      case qa =>
        intro j hj
        simp only [if_neg (show ¬ j = i3 by omega), if_neg (show ¬ j = i3 + 1 by omega), if_neg (show ¬ j = i3 + 2 by omega)]
      case qb =>
        intro k hk
        have yb0 := xb_lt bs i3
        have yb1 := xb_lt bs (i3 + 1)
        have yb2 := xb_lt bs (i3 + 2)
        have hk2 : k = 0 ∨ k = 1 ∨ k = 2 := by omega
        rcases hk2 with rfl | rfl | rfl
        · simp only [Nat.add_zero, if_neg (show ¬ i3 = i3 + 1 by omega), if_neg (show ¬ i3 = i3 + 2 by omega), if_pos]
          show Value.int .u8 _ = Value.int .u8 (xb bs (i3) : Int)
          congr 1; omega
        · simp only [Nat.add_zero, if_neg (show ¬ i3 + 1 = i3 by omega), if_neg (show ¬ i3 + 1 = i3 + 2 by omega), if_pos]
          show Value.int .u8 _ = Value.int .u8 (xb bs (i3 + 1) : Int)
          congr 1; omega
        · simp only [Nat.add_zero, if_neg (show ¬ i3 + 2 = i3 by omega), if_neg (show ¬ i3 + 2 = i3 + 1 by omega), if_pos]
          show Value.int .u8 _ = Value.int .u8 (xb bs (i3 + 2) : Int)
          congr 1; omega

set_option maxHeartbeats 2000000 in
set_option maxRecDepth 100000 in
theorem quant3r_ok (l : List UInt8) (pad : Int) (bs T : List UInt8) (m q : Nat) (ht : Txt64 l pad bs T m) (hq : 4 * q + 3 = m) (hpd : pad = -1) (hlen : bs.length ≤ 1000) (g b0 c bd n1 c1 Nd : Nat) (F : Nat → Value) (w : World) (hE : E64At w g l pad) (hN : T.length ≤ c)
    (hT : ∀ i, i < T.length → w.cell? ⟨b0, i, none⟩ = some (B (T.getD i 0))) (hW : Wr w bd Nd F) (hNd : 3 * q + 2 ≤ Nd) (hn1 : 2 ≤ n1) (hgd : g ≠ bd) (hbd : b0 ≠ bd) :
    Calls Tryz.prog 273 #[.pointer (some ⟨g, 0, none⟩), .slice (some ⟨bd, 3 * q, none⟩) n1 c1, .slice (some ⟨b0, 0, none⟩) T.length c, .int .i64 ((4 * q : Nat) : Int)] w fun r w' =>
      r = .returned (.tuple #[.int .i64 ((T.length : Nat) : Int), .int .i64 2, .nilIface]) ∧ (∃ G : Nat → Value, (∀ j, j < 3 * q → G j = F j) ∧ (∀ k, k < 2 → G (3 * q + k) = B (bs.getD (3 * q + k) 0)) ∧ Wr w' bd Nd G) ∧ w.grownBy w' (some bd) := by
  obtain ⟨N, hNe⟩ : ∃ N, N = T.length := ⟨_, rfl⟩
  have hm := ht.m_eq
  have hpads := ht.pads
  subst hpd
  rw [← hNe] at hN hT hpads ⊢
  obtain ⟨i4, hi4⟩ : ∃ i4, i4 = 4 * q := ⟨_, rfl⟩
  obtain ⟨i3, hi3⟩ : ∃ i3, i3 = 3 * q := ⟨_, rfl⟩
  have hback := back6 bs q
  obtain ⟨hg0, hg1, hg2, hg3⟩ := group6 bs q
  rw [← hi4, ← hi3] at hback hg0 hg1 hg2 hg3
  rw [← hi4] at hq ⊢
  rw [← hi3] at hNd ⊢
  have hdig : ∀ t, t < 3 → ∃ xc : Nat, w.cell? ⟨b0, i4 + t, none⟩ = some (.int .u8 (xc : Int)) ∧ w.cell? ⟨g, 64 + xc, none⟩ = some (.int .u8 (d6 bs (i4 + t) : Int)) ∧ xc < 128 ∧ d6 bs (i4 + t) < 64 := fun t h1 => by
    obtain ⟨a1, a2⟩ := ht.dig (i4 + t) (by omega)
    refine ⟨(T.getD (i4 + t) 0).toNat, hT (i4 + t) (by omega), ?_, a2, d6_lt bs _⟩
    rw [(hE (64 + (T.getD (i4 + t) 0).toNat) (by omega)).1]
    simp only [e64F, if_neg (show ¬ 64 + (T.getD (i4 + t) 0).toNat < 64 by omega), if_pos (show 64 + (T.getD (i4 + t) 0).toNat < 320 by omega), show 64 + (T.getD (i4 + t) 0).toNat - 64 = (T.getD (i4 + t) 0).toNat by omega, a1]
  have hy2 := xb_none bs (i3 + 2) (by omega)
  rw [hy2] at hg3 hback
  rw [hg3] at hback
  have hval : d6 bs i4 * 262144 + d6 bs (i4 + 1) * 4096 + d6 bs (i4 + 2) * 64 = xb bs i3 * 65536 + xb bs (i3 + 1) * 256 := by simpa using hback
  have HER := Lib.hid hE.row
  have hcs : w.cell? ⟨g, 321, none⟩ = some (.bool false) := (hE 321 (by decide)).1
  have hcp : w.cell? ⟨g, 320, none⟩ = some (.int .i32 (-1)) := (hE 320 (by decide)).1
  have HD := Lib.hid (And.intro hdig hval)
  have HW := Lib.hid hW
  have hd1 : b0 < w.heap.size ∧ g < w.heap.size ∧ bd < w.heap.size := ⟨block_lt_of_cell (hT 0 (by omega)), block_lt_of_cell hcs, block_lt_of_cell (hW 0 (by omega)).1⟩
  have hNN : i4 + 3 ≤ N ∧ N ≤ i4 + 3 := by omega
  have hi4N : (i4 : Int) < (N : Int) := by omega
  have hN3 : N ≤ 3000 := by omega
  have HQ := Lib.hid (And.intro hi4 (And.intro hi3 hNe))
  clear hi4 hi3 hback hg0 hg1 hg2 hg3 hdig hval hT hE hW hm hpads ht hNe hy2
  go_enter Tryz.func273, Tryz.ntmps273
  go_wp2_with (first
    | (refine wpList_newrow rfl 259 rfl 4 _ zero_dbuf4 ?_; intro w1 hr1 he1 hs1; have HR1 := Lib.hid (And.intro (Wr.of_row hr1) he1); clear hr1 he1 hs1)
    | (refine wpList_load_at rfl 208 _ rfl g 64 rfl ((List.range 256).map fun j => e64F l (emap l 64) _ (64 + j)) (HR1.out.2.row HER.out) _ Tryz.underlying208 rfl (by rw [List.length_map, List.length_range]; exact info_256) ?_; intro X HX))
  have hst : Hid (Wr w1 w.heap.size 4 (fun t => if t < 0 then .int .u8 (d6 bs (i4 + t) : Int) else .int .u8 0) ∧ Ext w w1) := Lib.hid ⟨by simpa using HR1.out.1, HR1.out.2⟩
  clear HR1 HX HER
  go_loopg [3, 10, 12, 13] 5 (fun gk s3 s10 s12 s13 wx => s10 = .nilIface ∧ s12 = .int .i64 4 ∧ ∃ j : Nat, s3 = .int .i64 ((i4 + j : Nat) : Int) ∧ s13 = .int .i64 (j : Int) ∧ j ≤ 3 ∧ gk = 5 - j ∧ Hid (Wr wx w.heap.size 4 (fun t => if t < j then .int .u8 (d6 bs (i4 + t) : Int) else .int .u8 0) ∧ Ext w wx))
  case atStart => exact ⟨rfl, rfl, 0, rfl, rfl, by decide, rfl, hst⟩
  case round =>
    obtain ⟨rfl, rfl, j, rfl, rfl, hj, hgk, HH⟩ := hrel
    by_cases hje : j < 3
    · obtain ⟨xc, a1, a2, a3, a4⟩ := HD.out.1 j hje
      obtain ⟨h1, h2⟩ := HH.out
      obtain ⟨p, hp⟩ : ∃ p, p = i4 + j := ⟨_, rfl⟩
      rw [← hp] at a1 a2 a4 ⊢
      obtain ⟨dv, hdv⟩ : ∃ dv, dv = d6 bs p := ⟨_, rfl⟩
      rw [← hdv] at a2 a4
      have a1' := h2.cell a1
      have a2' := h2.cell a2
      have hcd : wr.cell? ⟨w.heap.size, j, none⟩ = some (.int .u8 0) := by rw [(h1 j (by omega)).1]; simp
      have hfd := (h1 j (by omega)).2
      have hpN : p < N := by omega
      have hpI : (p : Int) < (N : Int) := by omega
      have hpn : ((N : Int) == (p : Int)) = false := by rw [beq_eq_false_iff_ne]; omega
      have hj4 : (j : Int) < 4 := by omega
      have hd255 : ((dv : Int) == 255) = false := by rw [beq_eq_false_iff_ne]; omega
      have hxcI : (xc : Int) < 256 := by omega
      have HN : Hid (Wr (wr.setCell ⟨w.heap.size, j, none⟩ (.int .u8 (dv : Int))) w.heap.size 4 (fun t => if t < j + 1 then .int .u8 (d6 bs (i4 + t) : Int) else .int .u8 0) ∧ Ext w (wr.setCell ⟨w.heap.size, j, none⟩ (.int .u8 (dv : Int)))) := Lib.hid ⟨(h1.set j _).congr fun t ht => by
          by_cases h3 : t = j
          · subst h3
            rw [if_pos rfl, if_pos (by omega), hdv, hp]
          · rw [if_neg h3]
            by_cases h4 : t < j
            · rw [if_pos h4, if_pos (by omega)]
            · rw [if_neg h4, if_neg (by omega)], ext_setCell h2 (Nat.le_refl _) j _⟩
      have HP := Lib.hid hp
      clear h1 h2 a1 a2 hp hdv
      go_wp2
      go_roundg (5 - (j + 1))
      case measure => omega
      case rel => exact ⟨rfl, rfl, j + 1, by have := HP.out; go_num, by go_num, by omega, rfl, HN⟩
    · obtain rfl : 3 = j := by omega
      obtain ⟨h1, h2⟩ := HH.out
      have z := fun t (ht : t < 4) => (h1 t ht).1
      have fz := fun t (ht : t < 4) => (h1 t ht).2
      obtain ⟨hdg, hval⟩ := HD.out
      have hdd := fun t => d6_lt bs (i4 + t)
      have z0 : wr.cell? ⟨w.heap.size, 0, none⟩ = some (.int .u8 (d6 bs (i4 + 0) : Int)) := by rw [z 0 (by decide)]; simp
      have z1 : wr.cell? ⟨w.heap.size, 1, none⟩ = some (.int .u8 (d6 bs (i4 + 1) : Int)) := by rw [z 1 (by decide)]; simp
      have z2 : wr.cell? ⟨w.heap.size, 2, none⟩ = some (.int .u8 (d6 bs (i4 + 2) : Int)) := by rw [z 2 (by decide)]; simp
      have z3 : wr.cell? ⟨w.heap.size, 3, none⟩ = some (.int .u8 0) := by rw [z 3 (by decide)]; simp
      have fz0 := fz 0 (by decide)
      have fz1 := fz 1 (by decide)
      have fz2 := fz 2 (by decide)
      have fz3 := fz 3 (by decide)
      have dd0 := hdd 0
      have dd1 := hdd 1
      have dd2 := hdd 2
      have y0 := xb_lt bs i3
      have y1 := xb_lt bs (i3 + 1)
      have y2 := xb_lt bs (i3 + 2)
      simp only [Nat.add_zero] at z0 dd0
      generalize d6 bs i4 = x0 at z0 dd0 hval
      generalize d6 bs (i4 + 1) = x1 at z1 dd1 hval
      generalize d6 bs (i4 + 2) = x2 at z2 dd2 hval
      obtain ⟨V, hV⟩ : ∃ V : Int, V = (x0 : Int) * 262144 + (x1 : Int) * 4096 + (x2 : Int) * 64 := ⟨_, rfl⟩
      have o1 : bits .or .u64 ((x0 : Int) * 262144) ((x1 : Int) * 4096) = (x0 : Int) * 262144 + (x1 : Int) * 4096 := by
        rw [bits_join .u64 64 (by decide) w64 18 _ _ (by omega) (by omega) (by omega) (by omega) (by omega) (by omega)]
      have o2 : bits .or .u64 ((x0 : Int) * 262144 + (x1 : Int) * 4096) ((x2 : Int) * 64) = V := by
        rw [bits_join .u64 64 (by decide) w64 12 _ _ (by omega) (by omega) (by omega) (by omega) (by omega) (by omega)]
        rw [hV]
      have oz : bits .or .u64 V 0 = V := by
        rw [bits_join .u64 64 (by decide) w64 6 V 0 (by omega) (by omega) (by omega) (by omega) (by omega) (by omega)]; omega
      have hwd := h2.wr HW.out
      obtain ⟨s0, fs0⟩ := hwd (i3) (by omega)
      obtain ⟨s1, fs1⟩ := hwd (i3 + 1) (by omega)
      generalize hF0 : F i3 = v0 at s0
      clear hF0
      generalize hF1 : F (i3 + 1) = v1 at s1
      clear hF1
      have hne1 : ¬ w.heap.size = bd := by omega
      have hne2 : ¬ bd = w.heap.size := by omega
      have hcs' := h2.cell hcs
      have hcp' := h2.cell hcp
      have hpn : ((N : Int) == ((i4 + 3 : Nat) : Int)) = true := by rw [beq_iff_eq]; omega
      have HV := Lib.hid (And.intro hV hval)
      have hV0 : 0 ≤ V := by omega
      have hV1 : V < 16777216 := by omega
      have HWD := Lib.hid (And.intro hwd h2)
      have hn1I : (2 : Int) ≤ (n1 : Int) := by omega
      clear h1 h2 z fz hdg hdd hval hV hwd y0 y1 y2 hcs
      go_wp2
      go_ret3
      obtain ⟨hV, hval⟩ := HV.out
      obtain ⟨hwd, hE2⟩ := HWD.out
      have hgrow : w.grownBy wr (some bd) := grown_ext (grown_refl _ _) hE2
      refine ⟨ret3q _ _ _ _ (by omega), ⟨?qG, ?qa, ?qb, ?qc⟩, ?qd⟩
      case qd =>
        exact (grown_set (grown_set_new (grown_set (grown_set_new (grown_set_new (grown_set_new hgrow (Nat.le_refl _) _ _) (Nat.le_refl _) _ _) (Nat.le_refl _) _ _) _ _) (Nat.le_refl _) _ _) _ _)
      case qc =>
        exact (Wr.set (wr_other (Wr.set (wr_other (wr_other (wr_other hwd hne2 _ _) hne2 _ _) hne2 _ _) _ _) hne2 _ _) _ _)
      case qa =>
        intro j hj
        simp only [if_neg (show ¬ j = i3 by omega), if_neg (show ¬ j = i3 + 1 by omega)]
      case qb =>
        intro k hk
        have yb0 := xb_lt bs i3
        have yb1 := xb_lt bs (i3 + 1)
        have yb2 := xb_lt bs (i3 + 2)
        have hk2 : k = 0 ∨ k = 1 := by omega
        rcases hk2 with rfl | rfl
        · simp only [Nat.add_zero, if_neg (show ¬ i3 = i3 + 1 by omega), if_pos]
          show Value.int .u8 _ = Value.int .u8 (xb bs (i3) : Int)
          congr 1; omega
        · simp only [Nat.add_zero, if_neg (show ¬ i3 + 1 = i3 by omega), if_pos]
          show Value.int .u8 _ = Value.int .u8 (xb bs (i3 + 1) : Int)
          congr 1; omega

set_option maxHeartbeats 2000000 in
set_option maxRecDepth 100000 in
theorem quant3p_ok (l : List UInt8) (pad : Int) (bs T : List UInt8) (m q : Nat) (ht : Txt64 l pad bs T m) (hq : 4 * q + 3 = m) (hpd : pad = 61) (hlen : bs.length ≤ 1000) (g b0 c bd n1 c1 Nd : Nat) (F : Nat → Value) (w : World) (hE : E64At w g l pad) (hN : T.length ≤ c)
    (hT : ∀ i, i < T.length → w.cell? ⟨b0, i, none⟩ = some (B (T.getD i 0))) (hW : Wr w bd Nd F) (hNd : 3 * q + 2 ≤ Nd) (hn1 : 2 ≤ n1) (hgd : g ≠ bd) (hbd : b0 ≠ bd) :
    Calls Tryz.prog 273 #[.pointer (some ⟨g, 0, none⟩), .slice (some ⟨bd, 3 * q, none⟩) n1 c1, .slice (some ⟨b0, 0, none⟩) T.length c, .int .i64 ((4 * q : Nat) : Int)] w fun r w' =>
      r = .returned (.tuple #[.int .i64 ((T.length : Nat) : Int), .int .i64 2, .nilIface]) ∧ (∃ G : Nat → Value, (∀ j, j < 3 * q → G j = F j) ∧ (∀ k, k < 2 → G (3 * q + k) = B (bs.getD (3 * q + k) 0)) ∧ Wr w' bd Nd G) ∧ w.grownBy w' (some bd) := by
  obtain ⟨N, hNe⟩ : ∃ N, N = T.length := ⟨_, rfl⟩
  have hm := ht.m_eq
  have hpads := ht.pads
  subst hpd
  rw [← hNe] at hN hT hpads ⊢
  obtain ⟨i4, hi4⟩ : ∃ i4, i4 = 4 * q := ⟨_, rfl⟩
  obtain ⟨i3, hi3⟩ : ∃ i3, i3 = 3 * q := ⟨_, rfl⟩
  have hback := back6 bs q
  obtain ⟨hg0, hg1, hg2, hg3⟩ := group6 bs q
  rw [← hi4, ← hi3] at hback hg0 hg1 hg2 hg3
  rw [← hi4] at hq ⊢
  rw [← hi3] at hNd ⊢
  have hdig : ∀ t, t < 3 → ∃ xc : Nat, w.cell? ⟨b0, i4 + t, none⟩ = some (.int .u8 (xc : Int)) ∧ w.cell? ⟨g, 64 + xc, none⟩ = some (.int .u8 (d6 bs (i4 + t) : Int)) ∧ xc < 128 ∧ d6 bs (i4 + t) < 64 := fun t h1 => by
    obtain ⟨a1, a2⟩ := ht.dig (i4 + t) (by omega)
    refine ⟨(T.getD (i4 + t) 0).toNat, hT (i4 + t) (by omega), ?_, a2, d6_lt bs _⟩
    rw [(hE (64 + (T.getD (i4 + t) 0).toNat) (by omega)).1]
    simp only [e64F, if_neg (show ¬ 64 + (T.getD (i4 + t) 0).toNat < 64 by omega), if_pos (show 64 + (T.getD (i4 + t) 0).toNat < 320 by omega), show 64 + (T.getD (i4 + t) 0).toNat - 64 = (T.getD (i4 + t) 0).toNat by omega, a1]
  have hy2 := xb_none bs (i3 + 2) (by omega)
  rw [hy2] at hg3 hback
  rw [hg3] at hback
  have hval : d6 bs i4 * 262144 + d6 bs (i4 + 1) * 4096 + d6 bs (i4 + 2) * 64 = xb bs i3 * 65536 + xb bs (i3 + 1) * 256 := by simpa using hback
  have HER := Lib.hid hE.row
  have hcs : w.cell? ⟨g, 321, none⟩ = some (.bool false) := (hE 321 (by decide)).1
  have hcp : w.cell? ⟨g, 320, none⟩ = some (.int .i32 61) := (hE 320 (by decide)).1
  have hc61 : w.cell? ⟨g, 64 + 61, none⟩ = some (.int .u8 255) := by
    rw [(hE (64 + 61) (by decide)).1]
    simp [e64F, ht.unk]
  have ht3 : w.cell? ⟨b0, i4 + 3, none⟩ = some (.int .u8 61) := by
    rw [hT (i4 + 3) (by omega), ht.tail (i4 + 3) (by omega) (by omega)]; rfl
  have HTL := Lib.hid (ht3)
  have HD := Lib.hid (And.intro hdig hval)
  have HW := Lib.hid hW
  have hd1 : b0 < w.heap.size ∧ g < w.heap.size ∧ bd < w.heap.size := ⟨block_lt_of_cell (hT 0 (by omega)), block_lt_of_cell hcs, block_lt_of_cell (hW 0 (by omega)).1⟩
  have hNN : i4 + 4 ≤ N ∧ N ≤ i4 + 4 := by omega
  have hi4N : (i4 : Int) < (N : Int) := by omega
  have hN3 : N ≤ 3000 := by omega
  have HQ := Lib.hid (And.intro hi4 (And.intro hi3 hNe))
  clear hi4 hi3 hback hg0 hg1 hg2 hg3 hdig hval hT hE hW hm hpads ht hNe hq ht3 hy2
  go_enter Tryz.func273, Tryz.ntmps273
  go_wp2_with (first
    | (refine wpList_newrow rfl 259 rfl 4 _ zero_dbuf4 ?_; intro w1 hr1 he1 hs1; have HR1 := Lib.hid (And.intro (Wr.of_row hr1) he1); clear hr1 he1 hs1)
    | (refine wpList_load_at rfl 208 _ rfl g 64 rfl ((List.range 256).map fun j => e64F l (emap l 64) _ (64 + j)) (HR1.out.2.row HER.out) _ Tryz.underlying208 rfl (by rw [List.length_map, List.length_range]; exact info_256) ?_; intro X HX))
  have hst : Hid (Wr w1 w.heap.size 4 (fun t => if t < 0 then .int .u8 (d6 bs (i4 + t) : Int) else .int .u8 0) ∧ Ext w w1) := Lib.hid ⟨by simpa using HR1.out.1, HR1.out.2⟩
  clear HR1 HX HER
  go_loopg [3, 10, 12, 13] 5 (fun gk s3 s10 s12 s13 wx => s10 = .nilIface ∧ s12 = .int .i64 4 ∧ ∃ j : Nat, s3 = .int .i64 ((i4 + j : Nat) : Int) ∧ s13 = .int .i64 (j : Int) ∧ j ≤ 3 ∧ gk = 5 - j ∧ Hid (Wr wx w.heap.size 4 (fun t => if t < j then .int .u8 (d6 bs (i4 + t) : Int) else .int .u8 0) ∧ Ext w wx))
  case atStart => exact ⟨rfl, rfl, 0, rfl, rfl, by decide, rfl, hst⟩
  case round =>
    obtain ⟨rfl, rfl, j, rfl, rfl, hj, hgk, HH⟩ := hrel
    by_cases hje : j < 3
    · obtain ⟨xc, a1, a2, a3, a4⟩ := HD.out.1 j hje
      obtain ⟨h1, h2⟩ := HH.out
      obtain ⟨p, hp⟩ : ∃ p, p = i4 + j := ⟨_, rfl⟩
      rw [← hp] at a1 a2 a4 ⊢
      obtain ⟨dv, hdv⟩ : ∃ dv, dv = d6 bs p := ⟨_, rfl⟩
      rw [← hdv] at a2 a4
      have a1' := h2.cell a1
      have a2' := h2.cell a2
      have hcd : wr.cell? ⟨w.heap.size, j, none⟩ = some (.int .u8 0) := by rw [(h1 j (by omega)).1]; simp
      have hfd := (h1 j (by omega)).2
      have hpN : p < N := by omega
      have hpI : (p : Int) < (N : Int) := by omega
      have hpn : ((N : Int) == (p : Int)) = false := by rw [beq_eq_false_iff_ne]; omega
      have hj4 : (j : Int) < 4 := by omega
      have hd255 : ((dv : Int) == 255) = false := by rw [beq_eq_false_iff_ne]; omega
      have hxcI : (xc : Int) < 256 := by omega
      have HN : Hid (Wr (wr.setCell ⟨w.heap.size, j, none⟩ (.int .u8 (dv : Int))) w.heap.size 4 (fun t => if t < j + 1 then .int .u8 (d6 bs (i4 + t) : Int) else .int .u8 0) ∧ Ext w (wr.setCell ⟨w.heap.size, j, none⟩ (.int .u8 (dv : Int)))) := Lib.hid ⟨(h1.set j _).congr fun t ht => by
          by_cases h3 : t = j
          · subst h3
            rw [if_pos rfl, if_pos (by omega), hdv, hp]
          · rw [if_neg h3]
            by_cases h4 : t < j
            · rw [if_pos h4, if_pos (by omega)]
            · rw [if_neg h4, if_neg (by omega)], ext_setCell h2 (Nat.le_refl _) j _⟩
      have HP := Lib.hid hp
      clear h1 h2 a1 a2 hp hdv
      go_wp2
      go_roundg (5 - (j + 1))
      case measure => omega
      case rel => exact ⟨rfl, rfl, j + 1, by have := HP.out; go_num, by go_num, by omega, rfl, HN⟩
    · obtain rfl : 3 = j := by omega
      obtain ⟨h1, h2⟩ := HH.out
      have z := fun t (ht : t < 4) => (h1 t ht).1
      have fz := fun t (ht : t < 4) => (h1 t ht).2
      obtain ⟨hdg, hval⟩ := HD.out
      have hdd := fun t => d6_lt bs (i4 + t)
      have z0 : wr.cell? ⟨w.heap.size, 0, none⟩ = some (.int .u8 (d6 bs (i4 + 0) : Int)) := by rw [z 0 (by decide)]; simp
      have z1 : wr.cell? ⟨w.heap.size, 1, none⟩ = some (.int .u8 (d6 bs (i4 + 1) : Int)) := by rw [z 1 (by decide)]; simp
      have z2 : wr.cell? ⟨w.heap.size, 2, none⟩ = some (.int .u8 (d6 bs (i4 + 2) : Int)) := by rw [z 2 (by decide)]; simp
      have z3 : wr.cell? ⟨w.heap.size, 3, none⟩ = some (.int .u8 0) := by rw [z 3 (by decide)]; simp
      have fz0 := fz 0 (by decide)
      have fz1 := fz 1 (by decide)
      have fz2 := fz 2 (by decide)
      have fz3 := fz 3 (by decide)
      have dd0 := hdd 0
      have dd1 := hdd 1
      have dd2 := hdd 2
      have y0 := xb_lt bs i3
      have y1 := xb_lt bs (i3 + 1)
      have y2 := xb_lt bs (i3 + 2)
      simp only [Nat.add_zero] at z0 dd0
      generalize d6 bs i4 = x0 at z0 dd0 hval
      generalize d6 bs (i4 + 1) = x1 at z1 dd1 hval
      generalize d6 bs (i4 + 2) = x2 at z2 dd2 hval
      obtain ⟨V, hV⟩ : ∃ V : Int, V = (x0 : Int) * 262144 + (x1 : Int) * 4096 + (x2 : Int) * 64 := ⟨_, rfl⟩
      have o1 : bits .or .u64 ((x0 : Int) * 262144) ((x1 : Int) * 4096) = (x0 : Int) * 262144 + (x1 : Int) * 4096 := by
        rw [bits_join .u64 64 (by decide) w64 18 _ _ (by omega) (by omega) (by omega) (by omega) (by omega) (by omega)]
      have o2 : bits .or .u64 ((x0 : Int) * 262144 + (x1 : Int) * 4096) ((x2 : Int) * 64) = V := by
        rw [bits_join .u64 64 (by decide) w64 12 _ _ (by omega) (by omega) (by omega) (by omega) (by omega) (by omega)]
        rw [hV]
      have oz : bits .or .u64 V 0 = V := by
        rw [bits_join .u64 64 (by decide) w64 6 V 0 (by omega) (by omega) (by omega) (by omega) (by omega) (by omega)]; omega
      have hwd := h2.wr HW.out
      obtain ⟨s0, fs0⟩ := hwd (i3) (by omega)
      obtain ⟨s1, fs1⟩ := hwd (i3 + 1) (by omega)
      generalize hF0 : F i3 = v0 at s0
      clear hF0
      generalize hF1 : F (i3 + 1) = v1 at s1
      clear hF1
      have hne1 : ¬ w.heap.size = bd := by omega
      have hne2 : ¬ bd = w.heap.size := by omega
      have hcs' := h2.cell hcs
      have hcp' := h2.cell hcp
      have hc61' := h2.cell hc61
      have hpn : ((N : Int) == ((i4 + 3 : Nat) : Int)) = false := by rw [beq_eq_false_iff_ne]; omega
      have hpl : ((i4 + 3 : Nat) : Int) < (N : Int) := by omega
      have hte := h2.cell HTL.out
      have HV := Lib.hid (And.intro hV hval)
      have hV0 : 0 ≤ V := by omega
      have hV1 : V < 16777216 := by omega
      have HWD := Lib.hid (And.intro hwd h2)
      have hn1I : (2 : Int) ≤ (n1 : Int) := by omega
      clear h1 h2 z fz hdg hdd hval hV hwd y0 y1 y2 hcs
      go_wp2
      go_loopg [3] 1 (fun gk s3 wx => wr = wx ∧ s3 = .int .i64 (N : Int))
      case atStart => exact ⟨rfl, by congr 1; omega⟩
      obtain ⟨rfl, rfl⟩ := hrel
      have hNNI : ¬ ((N : Int) < (N : Int)) := by omega
      go_wp2
      go_ret3
      obtain ⟨hV, hval⟩ := HV.out
      obtain ⟨hwd, hE2⟩ := HWD.out
      have hgrow : w.grownBy wr (some bd) := grown_ext (grown_refl _ _) hE2
      refine ⟨ret3q _ _ _ _ (by omega), ⟨?qG, ?qa, ?qb, ?qc⟩, ?qd⟩
      case qd =>
        exact (grown_set (grown_set_new (grown_set (grown_set_new (grown_set_new (grown_set_new hgrow (Nat.le_refl _) _ _) (Nat.le_refl _) _ _) (Nat.le_refl _) _ _) _ _) (Nat.le_refl _) _ _) _ _)
      case qc =>
        exact (Wr.set (wr_other (Wr.set (wr_other (wr_other (wr_other hwd hne2 _ _) hne2 _ _) hne2 _ _) _ _) hne2 _ _) _ _)
      case qa =>
        intro j hj
        simp only [if_neg (show ¬ j = i3 by omega), if_neg (show ¬ j = i3 + 1 by omega)]
      case qb =>
        intro k hk
        have yb0 := xb_lt bs i3
        have yb1 := xb_lt bs (i3 + 1)
        have yb2 := xb_lt bs (i3 + 2)
        have hk2 : k = 0 ∨ k = 1 := by omega
        rcases hk2 with rfl | rfl
        · simp only [Nat.add_zero, if_neg (show ¬ i3 = i3 + 1 by omega), if_pos]
          show Value.int .u8 _ = Value.int .u8 (xb bs (i3) : Int)
          congr 1; omega
        · simp only [Nat.add_zero, if_neg (show ¬ i3 + 1 = i3 by omega), if_pos]
          show Value.int .u8 _ = Value.int .u8 (xb bs (i3 + 1) : Int)
          congr 1; omega

set_option maxHeartbeats 2000000 in
set_option maxRecDepth 100000 in
theorem quant2r_ok (l : List UInt8) (pad : Int) (bs T : List UInt8) (m q : Nat) (ht : Txt64 l pad bs T m) (hq : 4 * q + 2 = m) (hpd : pad = -1) (hlen : bs.length ≤ 1000) (g b0 c bd n1 c1 Nd : Nat) (F : Nat → Value) (w : World) (hE : E64At w g l pad) (hN : T.length ≤ c)
    (hT : ∀ i, i < T.length → w.cell? ⟨b0, i, none⟩ = some (B (T.getD i 0))) (hW : Wr w bd Nd F) (hNd : 3 * q + 1 ≤ Nd) (hn1 : 1 ≤ n1) (hgd : g ≠ bd) (hbd : b0 ≠ bd) :
    Calls Tryz.prog 273 #[.pointer (some ⟨g, 0, none⟩), .slice (some ⟨bd, 3 * q, none⟩) n1 c1, .slice (some ⟨b0, 0, none⟩) T.length c, .int .i64 ((4 * q : Nat) : Int)] w fun r w' =>
      r = .returned (.tuple #[.int .i64 ((T.length : Nat) : Int), .int .i64 1, .nilIface]) ∧ (∃ G : Nat → Value, (∀ j, j < 3 * q → G j = F j) ∧ (∀ k, k < 1 → G (3 * q + k) = B (bs.getD (3 * q + k) 0)) ∧ Wr w' bd Nd G) ∧ w.grownBy w' (some bd) := by
  obtain ⟨N, hNe⟩ : ∃ N, N = T.length := ⟨_, rfl⟩
  have hm := ht.m_eq
  have hpads := ht.pads
  subst hpd
  rw [← hNe] at hN hT hpads ⊢
  obtain ⟨i4, hi4⟩ : ∃ i4, i4 = 4 * q := ⟨_, rfl⟩
  obtain ⟨i3, hi3⟩ : ∃ i3, i3 = 3 * q := ⟨_, rfl⟩
  have hback := back6 bs q
  obtain ⟨hg0, hg1, hg2, hg3⟩ := group6 bs q
  rw [← hi4, ← hi3] at hback hg0 hg1 hg2 hg3
  rw [← hi4] at hq ⊢
  rw [← hi3] at hNd ⊢
  have hdig : ∀ t, t < 2 → ∃ xc : Nat, w.cell? ⟨b0, i4 + t, none⟩ = some (.int .u8 (xc : Int)) ∧ w.cell? ⟨g, 64 + xc, none⟩ = some (.int .u8 (d6 bs (i4 + t) : Int)) ∧ xc < 128 ∧ d6 bs (i4 + t) < 64 := fun t h1 => by
    obtain ⟨a1, a2⟩ := ht.dig (i4 + t) (by omega)
    refine ⟨(T.getD (i4 + t) 0).toNat, hT (i4 + t) (by omega), ?_, a2, d6_lt bs _⟩
    rw [(hE (64 + (T.getD (i4 + t) 0).toNat) (by omega)).1]
    simp only [e64F, if_neg (show ¬ 64 + (T.getD (i4 + t) 0).toNat < 64 by omega), if_pos (show 64 + (T.getD (i4 + t) 0).toNat < 320 by omega), show 64 + (T.getD (i4 + t) 0).toNat - 64 = (T.getD (i4 + t) 0).toNat by omega, a1]
  have hy2 := xb_none bs (i3 + 2) (by omega)
  have hy1 := xb_none bs (i3 + 1) (by omega)
  rw [hy2] at hg3 hg2 hback
  rw [hy1] at hg2 hback
  rw [hg2, hg3] at hback
  have hval : d6 bs i4 * 262144 + d6 bs (i4 + 1) * 4096 = xb bs i3 * 65536 := by simpa using hback
  have HER := Lib.hid hE.row
  have hcs : w.cell? ⟨g, 321, none⟩ = some (.bool false) := (hE 321 (by decide)).1
  have hcp : w.cell? ⟨g, 320, none⟩ = some (.int .i32 (-1)) := (hE 320 (by decide)).1
  have HD := Lib.hid (And.intro hdig hval)
  have HW := Lib.hid hW
  have hd1 : b0 < w.heap.size ∧ g < w.heap.size ∧ bd < w.heap.size := ⟨block_lt_of_cell (hT 0 (by omega)), block_lt_of_cell hcs, block_lt_of_cell (hW 0 (by omega)).1⟩
  have hNN : i4 + 2 ≤ N ∧ N ≤ i4 + 2 := by omega
  have hi4N : (i4 : Int) < (N : Int) := by omega
  have hN3 : N ≤ 3000 := by omega
  have HQ := Lib.hid (And.intro hi4 (And.intro hi3 hNe))
  clear hi4 hi3 hback hg0 hg1 hg2 hg3 hdig hval hT hE hW hm hpads ht hNe hy2 hy1
  go_enter Tryz.func273, Tryz.ntmps273
  go_wp2_with (first
    | (refine wpList_newrow rfl 259 rfl 4 _ zero_dbuf4 ?_; intro w1 hr1 he1 hs1; have HR1 := Lib.hid (And.intro (Wr.of_row hr1) he1); clear hr1 he1 hs1)
    | (refine wpList_load_at rfl 208 _ rfl g 64 rfl ((List.range 256).map fun j => e64F l (emap l 64) _ (64 + j)) (HR1.out.2.row HER.out) _ Tryz.underlying208 rfl (by rw [List.length_map, List.length_range]; exact info_256) ?_; intro X HX))
  have hst : Hid (Wr w1 w.heap.size 4 (fun t => if t < 0 then .int .u8 (d6 bs (i4 + t) : Int) else .int .u8 0) ∧ Ext w w1) := Lib.hid ⟨by simpa using HR1.out.1, HR1.out.2⟩
  clear HR1 HX HER
  go_loopg [3, 10, 12, 13] 5 (fun gk s3 s10 s12 s13 wx => s10 = .nilIface ∧ s12 = .int .i64 4 ∧ ∃ j : Nat, s3 = .int .i64 ((i4 + j : Nat) : Int) ∧ s13 = .int .i64 (j : Int) ∧ j ≤ 2 ∧ gk = 5 - j ∧ Hid (Wr wx w.heap.size 4 (fun t => if t < j then .int .u8 (d6 bs (i4 + t) : Int) else .int .u8 0) ∧ Ext w wx))
  case atStart => exact ⟨rfl, rfl, 0, rfl, rfl, by decide, rfl, hst⟩
  case round =>
    obtain ⟨rfl, rfl, j, rfl, rfl, hj, hgk, HH⟩ := hrel
    by_cases hje : j < 2
    · obtain ⟨xc, a1, a2, a3, a4⟩ := HD.out.1 j hje
      obtain ⟨h1, h2⟩ := HH.out
      obtain ⟨p, hp⟩ : ∃ p, p = i4 + j := ⟨_, rfl⟩
      rw [← hp] at a1 a2 a4 ⊢
      obtain ⟨dv, hdv⟩ : ∃ dv, dv = d6 bs p := ⟨_, rfl⟩
      rw [← hdv] at a2 a4
      have a1' := h2.cell a1
      have a2' := h2.cell a2
      have hcd : wr.cell? ⟨w.heap.size, j, none⟩ = some (.int .u8 0) := by rw [(h1 j (by omega)).1]; simp
      have hfd := (h1 j (by omega)).2
      have hpN : p < N := by omega
      have hpI : (p : Int) < (N : Int) := by omega
      have hpn : ((N : Int) == (p : Int)) = false := by rw [beq_eq_false_iff_ne]; omega
      have hj4 : (j : Int) < 4 := by omega
      have hd255 : ((dv : Int) == 255) = false := by rw [beq_eq_false_iff_ne]; omega
      have hxcI : (xc : Int) < 256 := by omega
      have HN : Hid (Wr (wr.setCell ⟨w.heap.size, j, none⟩ (.int .u8 (dv : Int))) w.heap.size 4 (fun t => if t < j + 1 then .int .u8 (d6 bs (i4 + t) : Int) else .int .u8 0) ∧ Ext w (wr.setCell ⟨w.heap.size, j, none⟩ (.int .u8 (dv : Int)))) := Lib.hid ⟨(h1.set j _).congr fun t ht => by
          by_cases h3 : t = j
          · subst h3
            rw [if_pos rfl, if_pos (by omega), hdv, hp]
          · rw [if_neg h3]
            by_cases h4 : t < j
            · rw [if_pos h4, if_pos (by omega)]
            · rw [if_neg h4, if_neg (by omega)], ext_setCell h2 (Nat.le_refl _) j _⟩
      have HP := Lib.hid hp
      clear h1 h2 a1 a2 hp hdv
      go_wp2
      go_roundg (5 - (j + 1))
      case measure => omega
      case rel => exact ⟨rfl, rfl, j + 1, by have := HP.out; go_num, by go_num, by omega, rfl, HN⟩
    · obtain rfl : 2 = j := by omega
      obtain ⟨h1, h2⟩ := HH.out
      have z := fun t (ht : t < 4) => (h1 t ht).1
      have fz := fun t (ht : t < 4) => (h1 t ht).2
      obtain ⟨hdg, hval⟩ := HD.out
      have hdd := fun t => d6_lt bs (i4 + t)
      have z0 : wr.cell? ⟨w.heap.size, 0, none⟩ = some (.int .u8 (d6 bs (i4 + 0) : Int)) := by rw [z 0 (by decide)]; simp
      have z1 : wr.cell? ⟨w.heap.size, 1, none⟩ = some (.int .u8 (d6 bs (i4 + 1) : Int)) := by rw [z 1 (by decide)]; simp
      have z2 : wr.cell? ⟨w.heap.size, 2, none⟩ = some (.int .u8 0) := by rw [z 2 (by decide)]; simp
      have z3 : wr.cell? ⟨w.heap.size, 3, none⟩ = some (.int .u8 0) := by rw [z 3 (by decide)]; simp
      have fz0 := fz 0 (by decide)
      have fz1 := fz 1 (by decide)
      have fz2 := fz 2 (by decide)
      have fz3 := fz 3 (by decide)
      have dd0 := hdd 0
      have dd1 := hdd 1
      have y0 := xb_lt bs i3
      have y1 := xb_lt bs (i3 + 1)
      have y2 := xb_lt bs (i3 + 2)
      simp only [Nat.add_zero] at z0 dd0
      generalize d6 bs i4 = x0 at z0 dd0 hval
      generalize d6 bs (i4 + 1) = x1 at z1 dd1 hval
      obtain ⟨V, hV⟩ : ∃ V : Int, V = (x0 : Int) * 262144 + (x1 : Int) * 4096 := ⟨_, rfl⟩
      have o1 : bits .or .u64 ((x0 : Int) * 262144) ((x1 : Int) * 4096) = V := by
        rw [bits_join .u64 64 (by decide) w64 18 _ _ (by omega) (by omega) (by omega) (by omega) (by omega) (by omega)]
        rw [hV]
      have oz : bits .or .u64 V 0 = V := by
        rw [bits_join .u64 64 (by decide) w64 6 V 0 (by omega) (by omega) (by omega) (by omega) (by omega) (by omega)]; omega
      have hwd := h2.wr HW.out
      obtain ⟨s0, fs0⟩ := hwd (i3) (by omega)
      generalize hF0 : F i3 = v0 at s0
      clear hF0
      have hne1 : ¬ w.heap.size = bd := by omega
      have hne2 : ¬ bd = w.heap.size := by omega
      have hcs' := h2.cell hcs
      have hcp' := h2.cell hcp
      have hpn : ((N : Int) == ((i4 + 2 : Nat) : Int)) = true := by rw [beq_iff_eq]; omega
      have HV := Lib.hid (And.intro hV hval)
      have hV0 : 0 ≤ V := by omega
      have hV1 : V < 16777216 := by omega
      have HWD := Lib.hid (And.intro hwd h2)
      have hn1I : (1 : Int) ≤ (n1 : Int) := by omega
      clear h1 h2 z fz hdg hdd hval hV hwd y0 y1 y2 hcs
      go_wp2
      go_ret3
      obtain ⟨hV, hval⟩ := HV.out
      obtain ⟨hwd, hE2⟩ := HWD.out
      have hgrow : w.grownBy wr (some bd) := grown_ext (grown_refl _ _) hE2
      refine ⟨ret3q _ _ _ _ (by omega), ⟨?qG, ?qa, ?qb, ?qc⟩, ?qd⟩
      case qd =>
        exact (grown_set (grown_set_new (grown_set_new (grown_set_new hgrow (Nat.le_refl _) _ _) (Nat.le_refl _) _ _) (Nat.le_refl _) _ _) _ _)
      case qc =>
        exact (Wr.set (wr_other (wr_other (wr_other hwd hne2 _ _) hne2 _ _) hne2 _ _) _ _)
      case qa =>
        intro j hj
        simp only [if_neg (show ¬ j = i3 by omega)]
      case qb =>
        intro k hk
        have yb0 := xb_lt bs i3
        have yb1 := xb_lt bs (i3 + 1)
        have yb2 := xb_lt bs (i3 + 2)
        have hk2 : k = 0 := by omega
        subst hk2
        · simp only [Nat.add_zero, if_pos]
          show Value.int .u8 _ = Value.int .u8 (xb bs (i3) : Int)
          congr 1; omega

set_option maxHeartbeats 2000000 in
set_option maxRecDepth 100000 in
theorem quant2p_ok (l : List UInt8) (pad : Int) (bs T : List UInt8) (m q : Nat) (ht : Txt64 l pad bs T m) (hq : 4 * q + 2 = m) (hpd : pad = 61) (hlen : bs.length ≤ 1000) (g b0 c bd n1 c1 Nd : Nat) (F : Nat → Value) (w : World) (hE : E64At w g l pad) (hN : T.length ≤ c)
    (hT : ∀ i, i < T.length → w.cell? ⟨b0, i, none⟩ = some (B (T.getD i 0))) (hW : Wr w bd Nd F) (hNd : 3 * q + 1 ≤ Nd) (hn1 : 1 ≤ n1) (hgd : g ≠ bd) (hbd : b0 ≠ bd) :
    Calls Tryz.prog 273 #[.pointer (some ⟨g, 0, none⟩), .slice (some ⟨bd, 3 * q, none⟩) n1 c1, .slice (some ⟨b0, 0, none⟩) T.length c, .int .i64 ((4 * q : Nat) : Int)] w fun r w' =>
      r = .returned (.tuple #[.int .i64 ((T.length : Nat) : Int), .int .i64 1, .nilIface]) ∧ (∃ G : Nat → Value, (∀ j, j < 3 * q → G j = F j) ∧ (∀ k, k < 1 → G (3 * q + k) = B (bs.getD (3 * q + k) 0)) ∧ Wr w' bd Nd G) ∧ w.grownBy w' (some bd) := by
  obtain ⟨N, hNe⟩ : ∃ N, N = T.length := ⟨_, rfl⟩
  have hm := ht.m_eq
  have hpads := ht.pads
  subst hpd
  rw [← hNe] at hN hT hpads ⊢
  obtain ⟨i4, hi4⟩ : ∃ i4, i4 = 4 * q := ⟨_, rfl⟩
  obtain ⟨i3, hi3⟩ : ∃ i3, i3 = 3 * q := ⟨_, rfl⟩
  have hback := back6 bs q
  obtain ⟨hg0, hg1, hg2, hg3⟩ := group6 bs q
  rw [← hi4, ← hi3] at hback hg0 hg1 hg2 hg3
  rw [← hi4] at hq ⊢
  rw [← hi3] at hNd ⊢
  have hdig : ∀ t, t < 2 → ∃ xc : Nat, w.cell? ⟨b0, i4 + t, none⟩ = some (.int .u8 (xc : Int)) ∧ w.cell? ⟨g, 64 + xc, none⟩ = some (.int .u8 (d6 bs (i4 + t) : Int)) ∧ xc < 128 ∧ d6 bs (i4 + t) < 64 := fun t h1 => by
    obtain ⟨a1, a2⟩ := ht.dig (i4 + t) (by omega)
    refine ⟨(T.getD (i4 + t) 0).toNat, hT (i4 + t) (by omega), ?_, a2, d6_lt bs _⟩
    rw [(hE (64 + (T.getD (i4 + t) 0).toNat) (by omega)).1]
    simp only [e64F, if_neg (show ¬ 64 + (T.getD (i4 + t) 0).toNat < 64 by omega), if_pos (show 64 + (T.getD (i4 + t) 0).toNat < 320 by omega), show 64 + (T.getD (i4 + t) 0).toNat - 64 = (T.getD (i4 + t) 0).toNat by omega, a1]
  have hy2 := xb_none bs (i3 + 2) (by omega)
  have hy1 := xb_none bs (i3 + 1) (by omega)
  rw [hy2] at hg3 hg2 hback
  rw [hy1] at hg2 hback
  rw [hg2, hg3] at hback
  have hval : d6 bs i4 * 262144 + d6 bs (i4 + 1) * 4096 = xb bs i3 * 65536 := by simpa using hback
  have HER := Lib.hid hE.row
  have hcs : w.cell? ⟨g, 321, none⟩ = some (.bool false) := (hE 321 (by decide)).1
  have hcp : w.cell? ⟨g, 320, none⟩ = some (.int .i32 61) := (hE 320 (by decide)).1
  have hc61 : w.cell? ⟨g, 64 + 61, none⟩ = some (.int .u8 255) := by
    rw [(hE (64 + 61) (by decide)).1]
    simp [e64F, ht.unk]
  have ht2 : w.cell? ⟨b0, i4 + 2, none⟩ = some (.int .u8 61) := by
    rw [hT (i4 + 2) (by omega), ht.tail (i4 + 2) (by omega) (by omega)]; rfl
  have ht3 : w.cell? ⟨b0, i4 + 3, none⟩ = some (.int .u8 61) := by
    rw [hT (i4 + 3) (by omega), ht.tail (i4 + 3) (by omega) (by omega)]; rfl
  have HTL := Lib.hid (And.intro ht2 ht3)
  have HD := Lib.hid (And.intro hdig hval)
  have HW := Lib.hid hW
  have hd1 : b0 < w.heap.size ∧ g < w.heap.size ∧ bd < w.heap.size := ⟨block_lt_of_cell (hT 0 (by omega)), block_lt_of_cell hcs, block_lt_of_cell (hW 0 (by omega)).1⟩
  have hNN : i4 + 4 ≤ N ∧ N ≤ i4 + 4 := by omega
  have hi4N : (i4 : Int) < (N : Int) := by omega
  have hN3 : N ≤ 3000 := by omega
  have HQ := Lib.hid (And.intro hi4 (And.intro hi3 hNe))
  clear hi4 hi3 hback hg0 hg1 hg2 hg3 hdig hval hT hE hW hm hpads ht hNe hq ht2 ht3 hy2 hy1
  go_enter Tryz.func273, Tryz.ntmps273
  go_wp2_with (first
    | (refine wpList_newrow rfl 259 rfl 4 _ zero_dbuf4 ?_; intro w1 hr1 he1 hs1; have HR1 := Lib.hid (And.intro (Wr.of_row hr1) he1); clear hr1 he1 hs1)
    | (refine wpList_load_at rfl 208 _ rfl g 64 rfl ((List.range 256).map fun j => e64F l (emap l 64) _ (64 + j)) (HR1.out.2.row HER.out) _ Tryz.underlying208 rfl (by rw [List.length_map, List.length_range]; exact info_256) ?_; intro X HX))
  have hst : Hid (Wr w1 w.heap.size 4 (fun t => if t < 0 then .int .u8 (d6 bs (i4 + t) : Int) else .int .u8 0) ∧ Ext w w1) := Lib.hid ⟨by simpa using HR1.out.1, HR1.out.2⟩
  clear HR1 HX HER
  go_loopg [3, 10, 12, 13] 5 (fun gk s3 s10 s12 s13 wx => s10 = .nilIface ∧ s12 = .int .i64 4 ∧ ∃ j : Nat, s3 = .int .i64 ((i4 + j : Nat) : Int) ∧ s13 = .int .i64 (j : Int) ∧ j ≤ 2 ∧ gk = 5 - j ∧ Hid (Wr wx w.heap.size 4 (fun t => if t < j then .int .u8 (d6 bs (i4 + t) : Int) else .int .u8 0) ∧ Ext w wx))
  case atStart => exact ⟨rfl, rfl, 0, rfl, rfl, by decide, rfl, hst⟩
  case round =>
    obtain ⟨rfl, rfl, j, rfl, rfl, hj, hgk, HH⟩ := hrel
    by_cases hje : j < 2
    · obtain ⟨xc, a1, a2, a3, a4⟩ := HD.out.1 j hje
      obtain ⟨h1, h2⟩ := HH.out
      obtain ⟨p, hp⟩ : ∃ p, p = i4 + j := ⟨_, rfl⟩
      rw [← hp] at a1 a2 a4 ⊢
      obtain ⟨dv, hdv⟩ : ∃ dv, dv = d6 bs p := ⟨_, rfl⟩
      rw [← hdv] at a2 a4
      have a1' := h2.cell a1
      have a2' := h2.cell a2
      have hcd : wr.cell? ⟨w.heap.size, j, none⟩ = some (.int .u8 0) := by rw [(h1 j (by omega)).1]; simp
      have hfd := (h1 j (by omega)).2
      have hpN : p < N := by omega
      have hpI : (p : Int) < (N : Int) := by omega
      have hpn : ((N : Int) == (p : Int)) = false := by rw [beq_eq_false_iff_ne]; omega
      have hj4 : (j : Int) < 4 := by omega
      have hd255 : ((dv : Int) == 255) = false := by rw [beq_eq_false_iff_ne]; omega
      have hxcI : (xc : Int) < 256 := by omega
      have HN : Hid (Wr (wr.setCell ⟨w.heap.size, j, none⟩ (.int .u8 (dv : Int))) w.heap.size 4 (fun t => if t < j + 1 then .int .u8 (d6 bs (i4 + t) : Int) else .int .u8 0) ∧ Ext w (wr.setCell ⟨w.heap.size, j, none⟩ (.int .u8 (dv : Int)))) := Lib.hid ⟨(h1.set j _).congr fun t ht => by
          by_cases h3 : t = j
          · subst h3
            rw [if_pos rfl, if_pos (by omega), hdv, hp]
          · rw [if_neg h3]
            by_cases h4 : t < j
            · rw [if_pos h4, if_pos (by omega)]
            · rw [if_neg h4, if_neg (by omega)], ext_setCell h2 (Nat.le_refl _) j _⟩
      have HP := Lib.hid hp
      clear h1 h2 a1 a2 hp hdv
      go_wp2
      go_roundg (5 - (j + 1))
      case measure => omega
      case rel => exact ⟨rfl, rfl, j + 1, by have := HP.out; go_num, by go_num, by omega, rfl, HN⟩
    · obtain rfl : 2 = j := by omega
      obtain ⟨h1, h2⟩ := HH.out
      have z := fun t (ht : t < 4) => (h1 t ht).1
      have fz := fun t (ht : t < 4) => (h1 t ht).2
      obtain ⟨hdg, hval⟩ := HD.out
      have hdd := fun t => d6_lt bs (i4 + t)
      have z0 : wr.cell? ⟨w.heap.size, 0, none⟩ = some (.int .u8 (d6 bs (i4 + 0) : Int)) := by rw [z 0 (by decide)]; simp
      have z1 : wr.cell? ⟨w.heap.size, 1, none⟩ = some (.int .u8 (d6 bs (i4 + 1) : Int)) := by rw [z 1 (by decide)]; simp
      have z2 : wr.cell? ⟨w.heap.size, 2, none⟩ = some (.int .u8 0) := by rw [z 2 (by decide)]; simp
      have z3 : wr.cell? ⟨w.heap.size, 3, none⟩ = some (.int .u8 0) := by rw [z 3 (by decide)]; simp
      have fz0 := fz 0 (by decide)
      have fz1 := fz 1 (by decide)
      have fz2 := fz 2 (by decide)
      have fz3 := fz 3 (by decide)
      have dd0 := hdd 0
      have dd1 := hdd 1
      have y0 := xb_lt bs i3
      have y1 := xb_lt bs (i3 + 1)
      have y2 := xb_lt bs (i3 + 2)
      simp only [Nat.add_zero] at z0 dd0
      generalize d6 bs i4 = x0 at z0 dd0 hval
      generalize d6 bs (i4 + 1) = x1 at z1 dd1 hval
      obtain ⟨V, hV⟩ : ∃ V : Int, V = (x0 : Int) * 262144 + (x1 : Int) * 4096 := ⟨_, rfl⟩
      have o1 : bits .or .u64 ((x0 : Int) * 262144) ((x1 : Int) * 4096) = V := by
        rw [bits_join .u64 64 (by decide) w64 18 _ _ (by omega) (by omega) (by omega) (by omega) (by omega) (by omega)]
        rw [hV]
      have oz : bits .or .u64 V 0 = V := by
        rw [bits_join .u64 64 (by decide) w64 6 V 0 (by omega) (by omega) (by omega) (by omega) (by omega) (by omega)]; omega
      have hwd := h2.wr HW.out
      obtain ⟨s0, fs0⟩ := hwd (i3) (by omega)
      generalize hF0 : F i3 = v0 at s0
      clear hF0
      have hne1 : ¬ w.heap.size = bd := by omega
      have hne2 : ¬ bd = w.heap.size := by omega
      have hcs' := h2.cell hcs
      have hcp' := h2.cell hcp
      have hc61' := h2.cell hc61
      have hpn : ((N : Int) == ((i4 + 2 : Nat) : Int)) = false := by rw [beq_eq_false_iff_ne]; omega
      have hpl : ((i4 + 2 : Nat) : Int) < (N : Int) := by omega
      have HT3 := Lib.hid (h2.cell HTL.out.2)
      have hte := h2.cell HTL.out.1
      have HV := Lib.hid (And.intro hV hval)
      have hV0 : 0 ≤ V := by omega
      have hV1 : V < 16777216 := by omega
      have HWD := Lib.hid (And.intro hwd h2)
      have hn1I : (1 : Int) ≤ (n1 : Int) := by omega
      clear h1 h2 z fz hdg hdd hval hV hwd y0 y1 y2 hcs
      go_wp2
      obtain ⟨p3, hp3⟩ : ∃ p3, p3 = i4 + 3 := ⟨_, rfl⟩
      have hp3N : p3 < N ∧ N ≤ p3 + 1 := by omega
      go_loopg [3] 1 (fun gk s3 wx => wr = wx ∧ s3 = .int .i64 (p3 : Int))
      case atStart => exact ⟨rfl, by congr 1; omega⟩
      obtain ⟨rfl, rfl⟩ := hrel
      have ht3' := HT3.out
      rw [← hp3] at ht3'
      have hp3I : (p3 : Int) < (N : Int) := by omega
      have hp3E : ((p3 : Int) == (N : Int)) = false := by rw [beq_eq_false_iff_ne]; omega
      clear hp3
      go_wp2
      go_still (by kernel_rfl)
      change Exit.then _ _ _ _ wr.drew
      have hdE : Ext wr wr.drew := Ext.drew (Ext.refl wr)
      have HWD2 := Lib.hid (And.intro (hdE.wr HWD.out.1) (HWD.out.2.trans hdE))
      replace z0 := hdE.cell z0
      replace z1 := hdE.cell z1
      replace z2 := hdE.cell z2
      replace z3 := hdE.cell z3
      replace s0 := hdE.cell s0
      replace hcs' := hdE.cell hcs'
      replace fs0 : wr.drew.frozen? ⟨bd, i3, none⟩ = false := fs0
      replace fz0 : wr.drew.frozen? ⟨w.heap.size, 0, none⟩ = false := fz0
      replace fz1 : wr.drew.frozen? ⟨w.heap.size, 1, none⟩ = false := fz1
      replace fz2 : wr.drew.frozen? ⟨w.heap.size, 2, none⟩ = false := fz2
      clear hcp' hc61' hte ht3' HWD HH HT3 hdE fz3
      have HWD := HWD2
      clear HWD2
      generalize wr.drew = wr at *
      go_wp2
      go_loopg [3] 1 (fun gk s3 wx => wr = wx ∧ s3 = .int .i64 (N : Int))
      case atStart => exact ⟨rfl, by congr 1; omega⟩
      obtain ⟨rfl, rfl⟩ := hrel
      have hNNI : ¬ ((N : Int) < (N : Int)) := by omega
      go_wp2
      go_ret3
      obtain ⟨hV, hval⟩ := HV.out
      obtain ⟨hwd, hE2⟩ := HWD.out
      have hgrow : w.grownBy wr (some bd) := grown_ext (grown_refl _ _) hE2
      refine ⟨ret3q _ _ _ _ (by omega), ⟨?qG, ?qa, ?qb, ?qc⟩, ?qd⟩
      case qd =>
        exact (grown_set (grown_set_new (grown_set_new (grown_set_new hgrow (Nat.le_refl _) _ _) (Nat.le_refl _) _ _) (Nat.le_refl _) _ _) _ _)
      case qc =>
        exact (Wr.set (wr_other (wr_other (wr_other hwd hne2 _ _) hne2 _ _) hne2 _ _) _ _)
      case qa =>
        intro j hj
        simp only [if_neg (show ¬ j = i3 by omega)]
      case qb =>
        have yb0 := xb_lt bs i3
        have hfin : (.int .u8 (V / 65536) : Value) = B (bs.getD i3 0) := by
          show Value.int .u8 _ = Value.int .u8 (xb bs i3 : Int)
          congr 1; omega
        first
        | (intro k hk
           obtain rfl : k = 0 := by omega
           simp only [Nat.add_zero, if_pos]
           exact hfin)
        | (rw [if_pos rfl, ← List.getD_eq_getElem?_getD]
           exact hfin)
end Go.Proofs.YtchlkclpikdbjaaGreatDoor
