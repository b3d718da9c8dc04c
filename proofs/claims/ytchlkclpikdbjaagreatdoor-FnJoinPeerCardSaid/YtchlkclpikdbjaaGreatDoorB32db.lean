/-
  Texts of base 32 read back: the groups, by what is left over. Written by gen_b32d.py.
-/
import Derived.Test.YtchlkclpikdbjaaGreatDoorAlph
namespace Go.Proofs.YtchlkclpikdbjaaGreatDoor
set_option linter.unusedVariables false
set_option linter.unusedSimpArgs false
open Go.RowKit Go.Sort

set_option maxHeartbeats 2000000 in
set_option maxRecDepth 100000 in
theorem b32core_r2 (l : List UInt8) (pad : Int) (bs T : List UInt8) (m : Nat) (ht : Txt32 l pad bs T m) (hr : bs.length % 5 = 2) (hpd : pad = -1) (hlen : bs.length ≤ 1000) (hpos : 0 < bs.length) (g b0 c : Nat) (w : World) (hE : EncAt w g l pad) (hgb : g ≠ b0) (hN : T.length ≤ c)
    (hW : Wr w b0 T.length (fun i => B (T.getD i 0))) :
    Calls Tryz.prog 320 #[.pointer (some ⟨g, 0, none⟩), .slice (some ⟨b0, 0, none⟩) T.length c, .slice (some ⟨b0, 0, none⟩) T.length c] w fun e w' =>
      ∃ be, e = .returned (.tuple #[.int .i64 (bs.length : Int), .bool be, .nilIface]) ∧ (∃ F : Nat → Value, (∀ i, i < bs.length → F i = B (bs.getD i 0)) ∧ Wr w' b0 T.length F) ∧ w.grownBy w' (some b0) := by
  have hpc : pad = -1 ∨ pad = 61 := by rcases ht.pads with h | h <;> simp [h.1]
  obtain ⟨len, hl⟩ : ∃ len, len = bs.length := ⟨_, rfl⟩
  obtain ⟨N, hNe⟩ : ∃ N, N = T.length := ⟨_, rfl⟩
  have hm := ht.m_eq
  rw [← hl] at hm hlen hpos hr ⊢
  rw [← hNe] at hN hW ⊢
  have hNm : m ≤ N ∧ N ≤ m + 7 := by have := ht.pads; omega
  have HT := Lib.hid ht
  have HEN := Lib.hid hE
  have HL := Lib.hid (And.intro hl hNe)
  have hst : Hid (∃ F : Nat → Value, (∀ i, i < min (5 * 0) len → F i = B (bs.getD i 0)) ∧ (∀ i, 8 * 0 ≤ i → i < N → F i = B (T.getD i 0)) ∧ Wr w b0 N F ∧ w.grownBy w (some b0)) := Lib.hid ⟨_, fun i hi => by omega, fun i _ _ => rfl, hW, grown_refl _ _⟩
  have hcpad : w.cell? ⟨g, 257, none⟩ = some (.int .i32 pad) := hE.cell (i := 257) (by decide)
  clear hl hNe hW hE ht
  obtain ⟨G, hG⟩ : ∃ G, G = (len + 4) / 5 := ⟨_, rfl⟩
  have hG1 : 1 ≤ G ∧ 5 * G < len + 5 ∧ len ≤ 5 * G := by omega
  have hGm : 8 * (G - 1) + 2 ≤ m ∧ m ≤ 8 * G := by omega
  have HM := Lib.hid hm
  have HR5 := Lib.hid hr
  have HPD := Lib.hid hpd
  clear hG hm hr hpd
  go_enter Tryz.func320, Tryz.ntmps320
  go_wp2
  go_loopg [1, 2, 6, 7] (G + 1) (fun gk s1 s2 s6 s7 wx => ∃ (q : Nat) (a1 a2 : Option Addr) (n1 n2 c1 c2 : Nat) (be : Bool), s1 = .slice a1 n1 c1 ∧ s2 = .slice a2 n2 c2 ∧ s6 = .int .i64 ((min (5 * q) len : Nat) : Int) ∧ s7 = .bool be ∧ q ≤ G ∧ gk = G + 1 - q ∧
    Hid (q < G → a1 = some ⟨b0, 5 * q, none⟩ ∧ n1 = N - 5 * q ∧ n1 ≤ c1 ∧ a2 = some ⟨b0, 8 * q, none⟩ ∧ n2 = N - 8 * q ∧ n2 ≤ c2 ∧ be = false) ∧ Hid (q = G → n2 = 0 ∨ be = true) ∧
    Hid (∃ F : Nat → Value, (∀ i, i < min (5 * q) len → F i = B (bs.getD i 0)) ∧ (∀ i, 8 * q ≤ i → i < N → F i = B (T.getD i 0)) ∧ Wr wx b0 N F ∧ w.grownBy wx (some b0)))
  case atStart => exact ⟨0, _, _, _, _, _, _, _, rfl, rfl, by simp, rfl, by omega, rfl, Lib.hid (fun _ => ⟨rfl, by omega, hN, rfl, by omega, hN, rfl⟩), Lib.hid (fun h => by omega), hst⟩
  case round =>
    obtain ⟨wp, hwp⟩ : ∃ wp, wp = wr := ⟨_, rfl⟩
    subst hwp
    obtain ⟨q, a1, a2, n1, n2, c1, c2, be, rfl, rfl, rfl, rfl, hq, hgk, H1, H2, H3⟩ := hrel
    by_cases hqG : q < G
    · obtain ⟨rfl, hn1, hc1, rfl, hn2, hc2, rfl⟩ := H1.out hqG
      obtain ⟨i5, hi5⟩ : ∃ i5, i5 = 5 * q := ⟨_, rfl⟩
      obtain ⟨i8, hi8⟩ : ∃ i8, i8 = 8 * q := ⟨_, rfl⟩
      have hmin : min (5 * q) len = i5 := by omega
      rw [hmin, ← hi5, ← hi8]
      rw [hmin, ← hi8] at H3
      have hq5 : i5 < len ∧ i8 < m ∧ i5 ≤ i8 := by omega
      have hnn : i8 + n2 ≤ N ∧ N ≤ i8 + n2 ∧ n2 ≤ c2 ∧ 0 < n2 := by omega
      have hnn1 : i5 + n1 ≤ N ∧ N ≤ i5 + n1 ∧ n1 ≤ c1 := by omega
      have hn0 : 0 < (n2 : Int) := by omega
      have HQ := Lib.hid (And.intro hi5 hi8)
      clear H1 H2 hmin hn1 hc1 hn2 hc2 hi5 hi8
      go_wp2_with (refine wpList_newrow rfl 211 rfl 8 _ zero_dbuf ?_; intro w1 hr1 he1 hs1; have HR1 := Lib.hid (And.intro (Wr.of_row hr1) he1); clear hr1 he1 hs1)
      obtain ⟨F, hF1, hF2, hwF, hgF⟩ := H3.out
      have hwF1 := HR1.out.2.wr hwF
      have hg1 : w.grownBy w1 (some b0) := grown_ext hgF HR1.out.2
      have hdn : b0 < wp.heap.size ∧ g < wp.heap.size := ⟨block_lt_of_cell (hwF 0 (by omega)).1, Nat.lt_of_lt_of_le HEN.out.lt hgF.size⟩
      obtain ⟨e, he⟩ : ∃ e, e = min 8 (m - i8) := ⟨_, rfl⟩
      have he8 : e ≤ 8 ∧ 2 ≤ e ∧ i8 + e ≤ m := by have := HQ.out; omega
      have HF := Lib.hid (And.intro hF1 (And.intro hF2 (And.intro hwF1 hg1)))
      have HE := Lib.hid he
      have HWP := Lib.hid hgF.size
      clear hF1 hF2 hwF hgF hwF1 hg1 H3 he
      have hstart : Hid (Wr w1 wp.heap.size 8 (fun t => if t < 0 then .int .u8 (d5 bs (i8 + t) : Int) else .int .u8 0) ∧ w1.grownBy w1 (some wp.heap.size)) := Lib.hid ⟨by simpa using HR1.out.1, grown_refl _ _⟩
      go_loopg [2, 6, 7, 11, 12] 9 (fun gk s2 s6 s7 s11 s12 wx => s6 = .int .i64 (i5 : Int) ∧ s7 = .bool false ∧ s11 = .int .i64 8 ∧ ∃ (j : Nat) (a2 : Option Addr) (n3 c3 : Nat), s2 = .slice a2 n3 c3 ∧ s12 = .int .i64 (j : Int) ∧ j ≤ e ∧ gk = 9 - j ∧ n3 + j ≤ n2 ∧ n2 ≤ n3 + j ∧ n3 ≤ c3 ∧ Hid (n3 ≠ 0 → a2 = some ⟨b0, i8 + j, none⟩) ∧
        Hid (Wr wx wp.heap.size 8 (fun t => if t < j then .int .u8 (d5 bs (i8 + t) : Int) else .int .u8 0) ∧ w1.grownBy wx (some wp.heap.size)))
      case atStart => exact ⟨rfl, rfl, rfl, 0, _, _, _, rfl, rfl, by omega, rfl, by omega, by omega, by omega, Lib.hid (fun _ => rfl), hstart⟩
      case round =>
        obtain ⟨rfl, rfl, rfl, j, a2, n3, c3, rfl, rfl, hj, hgk2, hn3, hn3b, hn3c, HA2, HD⟩ := hrel
        by_cases hje : j < e
        · as_aux_lemma =>
            obtain rfl := HA2.out (by omega)
            obtain ⟨hF1, hF2, hwF, hg1⟩ := HF.out
            obtain ⟨hwd, hgd⟩ := HD.out
            have hwF2 := hwF.grown (by omega) hgd (by intro h; injection h with h; omega)
            have hj8 : j < 8 := by omega
            have hjI : (j : Int) < 8 := by omega
            have hn30 : ((n3 : Int) == 0) = false := by rw [beq_eq_false_iff_ne]; omega
            have hn3I : (1 : Int) ≤ (n3 : Int) := by omega
            obtain ⟨p, hp⟩ : ∃ p, p = i8 + j := ⟨_, rfl⟩
            obtain ⟨hd1, hd2, hd3⟩ := HT.out.dig p (by omega)
            have hd32 := d5_lt bs p
            have hct := (hwF2 p (by omega)).1
            rw [hF2 p (by omega) (by omega)] at hct
            obtain ⟨xc, hxc⟩ : ∃ xc, xc = (T.getD p 0).toNat := ⟨_, rfl⟩
            rw [← hxc] at hd1 hd2
            have hx61 : xc ≠ 61 := by intro h; apply hd3; apply UInt8.toNat.inj; rw [← hxc, h]; rfl
            replace hct : wr.cell? ⟨b0, p, none⟩ = some (.int .u8 (xc : Int)) := by rw [hct, hxc]
            have henc : EncAt wr g l pad := by
              have h1 := rowIs_grown (rowIs_grown HEN.out hg1 (by intro h; injection h with h; exact hgb h)) hgd (by intro h; injection h with h; omega)
              exact h1
            have hcp : wr.cell? ⟨g, 257, none⟩ = some (.int .i32 pad) := henc.cell (i := 257) (by decide)
            have hcm : wr.cell? ⟨g, 1 + xc, none⟩ = some (.int .u8 (d5 bs p : Int)) := by
              have := henc.cell (i := 1 + xc) (by omega)
              rw [this]
              simp only [encF, if_neg (show ¬ 1 + xc = 0 by omega), if_pos (show 1 + xc < 257 by omega), show 1 + xc - 1 = xc by omega, hd1]
            obtain ⟨dv, hdv⟩ : ∃ dv, dv = d5 bs p := ⟨_, rfl⟩
            rw [← hdv] at hcm hd32
            have hcd : wr.cell? ⟨wp.heap.size, j, none⟩ = some (.int .u8 0) := by rw [(hwd j hj8).1]; simp
            have hfd := (hwd j hj8).2
            have hdI : ((dv : Int) == 255) = false := by rw [beq_eq_false_iff_ne]; omega
            have hpx : ((xc : Int) == pad % 256) = false := by
              rw [beq_eq_false_iff_ne]
              rcases hpc with h | h <;> rw [h] <;> omega
            have HN : Hid (Wr (wr.setCell ⟨wp.heap.size, j, none⟩ (.int .u8 (dv : Int))) wp.heap.size 8 (fun t => if t < j + 1 then .int .u8 (d5 bs (i8 + t) : Int) else .int .u8 0) ∧ w1.grownBy (wr.setCell ⟨wp.heap.size, j, none⟩ (.int .u8 (dv : Int))) (some wp.heap.size)) := Lib.hid ⟨(hwd.set j _).congr fun t ht => by
              by_cases h1 : t = j
              · subst h1
                rw [if_pos rfl, if_pos (by omega), hdv, hp]
              · rw [if_neg h1]
                by_cases h2 : t < j
                · rw [if_pos h2, if_pos (by omega)]
                · rw [if_neg h2, if_neg (by omega)], grown_set hgd j _⟩
            have hxI : (xc : Int) < 256 := by omega
            have HP := Lib.hid hp
            rw [← hp]
            clear hF1 hF2 hwF hg1 hwd hgd hwF2 hd1 hd2 hd3 hxc hx61 henc hdv hp hpc
            go_wp2
            all_goals
              go_roundg (9 - (j + 1))
              case measure => omega
              case rel =>
                have hp := HP.out
                exact ⟨rfl, rfl, rfl, j + 1, _, _, _, rfl, by go_num, by omega, rfl, by omega, by omega, by omega, Lib.hid (fun h => by first | (congr 2; omega) | (exfalso; omega)), HN⟩
        · obtain rfl : e = j := by omega
          have hne1 : ¬ wp.heap.size = b0 := by omega
          have hne2 : ¬ b0 = wp.heap.size := by omega
          obtain ⟨hF1, hF2, hwF, hg1⟩ := HF.out
          obtain ⟨hwd, hgd⟩ := HD.out
          have hwF2 := hwF.grown (by omega) hgd (by intro h; injection h with h; omega)
          have hdb : ∀ t, t < e → wr.cell? ⟨wp.heap.size, t, none⟩ = some (.int .u8 (d5 bs (i8 + t) : Int)) := fun t ht => by
            rw [(hwd t (by omega)).1]; simp only [if_pos ht]
          have hwr : ∀ t, i5 + t < N → wr.cell? ⟨b0, i5 + t, none⟩ = some (F (i5 + t)) ∧ wr.frozen? ⟨b0, i5 + t, none⟩ = false := fun t ht => hwF2 (i5 + t) ht
          have hd32 := fun t => d5_lt bs (i8 + t)
          have hbk := back5 bs q
          rw [← HQ.out.1, ← HQ.out.2] at hbk
          obtain ⟨k0, k1, k2, k3, k4⟩ := hbk
          have HEP : Hid (EncAt wr g l pad) := Lib.hid (rowIs_grown (rowIs_grown HEN.out hg1 (by intro h; injection h with h; exact hgb h)) hgd (by intro h; injection h with h; omega))
          have hgw : w.grownBy wr (some b0) := grown_two hg1 hgd (Nat.le_trans HWP.out (Nat.le_refl _))
          have HB := Lib.hid (And.intro hF1 (And.intro hF2 (And.intro hwF2 hgw)))
          have hec : e = 8 ∨ e = 4 := by
            have h0 := HR5.out
            have h1 := HE.out
            have h2 := HM.out
            have h3 := HQ.out
            omega
          clear hF1 hF2 hwF hg1 hwd hgd hwF2 hgw
          rcases hec with rfl | hec
          · as_aux_lemma =>
              have z0 := hdb 0 (by decide)
              have z1 := hdb 1 (by decide)
              have z2 := hdb 2 (by decide)
              have z3 := hdb 3 (by decide)
              have z4 := hdb 4 (by decide)
              have z5 := hdb 5 (by decide)
              have z6 := hdb 6 (by decide)
              have z7 := hdb 7 (by decide)
              have d0 := hd32 0
              have d1 := hd32 1
              have d2 := hd32 2
              have d3 := hd32 3
              have d4 := hd32 4
              have d5' := hd32 5
              have d6' := hd32 6
              have d7 := hd32 7
              obtain ⟨s0, f0⟩ := hwr 0 (by omega)
              obtain ⟨s1, f1⟩ := hwr 1 (by omega)
              obtain ⟨s2, f2⟩ := hwr 2 (by omega)
              obtain ⟨s3, f3⟩ := hwr 3 (by omega)
              obtain ⟨s4, f4⟩ := hwr 4 (by omega)
              simp only [Nat.add_zero] at z0 s0 f0 d0 k0 k1 k2 k3 k4
              have HK := Lib.hid (And.intro k0 (And.intro k1 (And.intro k2 (And.intro k3 k4))))
              clear k0 k1 k2 k3 k4 hdb hwr hd32
              generalize d5 bs i8 = x0 at z0 d0 HK
              generalize d5 bs (i8 + 1) = x1 at z1 d1 HK
              generalize d5 bs (i8 + 2) = x2 at z2 d2 HK
              generalize d5 bs (i8 + 3) = x3 at z3 d3 HK
              generalize d5 bs (i8 + 4) = x4 at z4 d4 HK
              generalize d5 bs (i8 + 5) = x5 at z5 d5' HK
              generalize d5 bs (i8 + 6) = x6 at z6 d6' HK
              generalize d5 bs (i8 + 7) = x7 at z7 d7 HK
              generalize F i5 = v0 at s0
              generalize F (i5 + 1) = v1 at s1
              generalize F (i5 + 2) = v2 at s2
              generalize F (i5 + 3) = v3 at s3
              generalize F (i5 + 4) = v4 at s4
              have hn18 : (8 : Int) ≤ (n1 : Int) := by omega
              go_wp2
              go_roundg (G + 1 - (q + 1))
              case measure => omega
              case rel =>
                obtain ⟨k0, k1, k2, k3, k4⟩ := HK.out
                obtain ⟨hF1, hF2, hwF2, hgw⟩ := HB.out
                obtain ⟨h5, h8⟩ := HQ.out
                have hle := HE.out
                have hlm := HM.out
                rw [or_a _ _ d7, or_b _ _ _ d5' d6', or_c _ _ d4, or_d _ _ _ d2 d3, or_e _ _ d0 d1, k0, k1, k2, k3, k4]
                obtain ⟨e1, e2⟩ := wrote (k := 5) hF1 (fun t => if t = i5 then .int .u8 (xb bs i5 : Int) else if t = i5 + 1 then .int .u8 (xb bs (i5 + 1) : Int) else if t = i5 + 2 then .int .u8 (xb bs (i5 + 2) : Int) else if t = i5 + 3 then .int .u8 (xb bs (i5 + 3) : Int) else if t = i5 + 4 then .int .u8 (xb bs (i5 + 4) : Int) else F t) (fun t => by
                  by_cases h : i5 ≤ t ∧ t < i5 + 5
                  · rw [if_pos h]
                    have : t = i5 ∨ t = i5 + 1 ∨ t = i5 + 2 ∨ t = i5 + 3 ∨ t = i5 + 4 := by omega
                    rcases this with rfl | rfl | rfl | rfl | rfl <;> simp [xb]
                  · rw [if_neg h, if_neg (by omega), if_neg (by omega), if_neg (by omega), if_neg (by omega), if_neg (by omega)]) hF2 (by omega)
                refine ⟨q + 1, _, _, _, _, _, _, _, rfl, rfl, by congr 1; omega, rfl, by omega, rfl, Lib.hid (fun h => ⟨by congr 2; omega, by omega, by omega, by rw [HA2.out (by omega)]; congr 2; omega, by omega, by omega, rfl⟩), Lib.hid (fun h => .inl ?_),
                  Lib.hid ⟨_, fun t ht => e1 t (by omega), fun t h1 h2 => e2 t (by omega) h2, ((((hwF2.set (i5 + 4) _).set (i5 + 3) _).set (i5 + 2) _).set (i5 + 1) _).set i5 _, grown_set (grown_set (grown_set (grown_set (grown_set hgw _ _) _ _) _ _) _ _) _ _⟩⟩
                have := HT.out.pads
                have hNT := HL.out.2
                omega
          · as_aux_lemma =>
              obtain rfl := hec
              obtain rfl := HPD.out
              have hn0 : n3 = 0 := by
                have h0 := HT.out.pads
                have h1 := HL.out.2
                have h2 := HE.out
                omega
              subst hn0
              have hcp : wr.cell? ⟨g, 257, none⟩ = some (.int .i32 (-1)) := HEP.out.cell (i := 257) (by decide)
              have hN1 : 4 ≤ n1 := by omega
              have z0 := hdb 0 (by decide)
              have z1 := hdb 1 (by decide)
              have z2 := hdb 2 (by decide)
              have z3 := hdb 3 (by decide)
              have d0 := hd32 0
              have d1 := hd32 1
              have d2 := hd32 2
              have d3 := hd32 3
              obtain ⟨s0, f0⟩ := hwr 0 (by omega)
              obtain ⟨s1, f1⟩ := hwr 1 (by omega)
              simp only [Nat.add_zero] at z0 s0 f0 d0 k0 k1 k2 k3 k4
              have HK := Lib.hid (And.intro k0 k1)
              clear k0 k1 k2 k3 k4 hdb hwr hd32
              generalize d5 bs i8 = x0 at z0 d0 HK
              generalize d5 bs (i8 + 1) = x1 at z1 d1 HK
              generalize d5 bs (i8 + 2) = x2 at z2 d2 HK
              generalize d5 bs (i8 + 3) = x3 at z3 d3 HK
              generalize F i5 = v0 at s0
              generalize F (i5 + 1) = v1 at s1
              have hn18 : (4 : Int) ≤ (n1 : Int) := by omega
              go_wp2
              all_goals
                go_roundg (G + 1 - (q + 1))
                case measure => omega
                case rel =>
                  obtain ⟨k0, k1⟩ := HK.out
                  obtain ⟨hF1, hF2, hwF2, hgw⟩ := HB.out
                  obtain ⟨h5, h8⟩ := HQ.out
                  have hle := HE.out
                  have hlm := HM.out
                  rw [or_d _ _ _ d2 d3, or_e _ _ d0 d1, k0, k1]
                  obtain ⟨e1, e2⟩ := wrote (k := 2) hF1 (fun t => if t = i5 then .int .u8 (xb bs (i5) : Int) else if t = i5 + 1 then .int .u8 (xb bs (i5 + 1) : Int) else  F t) (fun t => by
                    by_cases h : i5 ≤ t ∧ t < i5 + 2
                    · rw [if_pos h]
                      have : t = i5 ∨ t = i5 + 1 := by omega
                      rcases this with rfl | rfl <;> simp [xb]
                    · rw [if_neg h, if_neg (by omega), if_neg (by omega)]) hF2 (by omega)
                  exact ⟨q + 1, _, _, _, _, _, _, _, rfl, rfl, by congr 1; omega, rfl, by omega, rfl, Lib.hid (fun h => by omega), Lib.hid (fun h => .inl rfl), Lib.hid ⟨_, fun t ht => e1 t (by omega), fun t h1 h2 => e2 t (by omega) h2, ((hwF2.set (i5 + 1) _).set (i5) _), (grown_set (grown_set hgw _ _) _ _)⟩⟩
    · obtain rfl : q = G := by omega
      have hmin : min (5 * q) len = len := by omega
      rw [hmin]
      rw [hmin] at H3
      rcases H2.out rfl with rfl | rfl
      all_goals
        clear H1 H2 hmin
        go_wp2
        all_goals
          go_ret3
          obtain ⟨F, hF1, -, hwF, hgF⟩ := H3.out
          exact ⟨_, rfl, ⟨F, hF1, hwF⟩, hgF⟩

set_option maxHeartbeats 2000000 in
set_option maxRecDepth 100000 in
theorem b32core_p2 (l : List UInt8) (pad : Int) (bs T : List UInt8) (m : Nat) (ht : Txt32 l pad bs T m) (hr : bs.length % 5 = 2) (hpd : pad = 61) (hlen : bs.length ≤ 1000) (hpos : 0 < bs.length) (g b0 c : Nat) (w : World) (hE : EncAt w g l pad) (hgb : g ≠ b0) (hN : T.length ≤ c)
    (hW : Wr w b0 T.length (fun i => B (T.getD i 0))) :
    Calls Tryz.prog 320 #[.pointer (some ⟨g, 0, none⟩), .slice (some ⟨b0, 0, none⟩) T.length c, .slice (some ⟨b0, 0, none⟩) T.length c] w fun e w' =>
      ∃ be, e = .returned (.tuple #[.int .i64 (bs.length : Int), .bool be, .nilIface]) ∧ (∃ F : Nat → Value, (∀ i, i < bs.length → F i = B (bs.getD i 0)) ∧ Wr w' b0 T.length F) ∧ w.grownBy w' (some b0) := by
  have hpc : pad = -1 ∨ pad = 61 := by rcases ht.pads with h | h <;> simp [h.1]
  obtain ⟨len, hl⟩ : ∃ len, len = bs.length := ⟨_, rfl⟩
  obtain ⟨N, hNe⟩ : ∃ N, N = T.length := ⟨_, rfl⟩
  have hm := ht.m_eq
  rw [← hl] at hm hlen hpos hr ⊢
  rw [← hNe] at hN hW ⊢
  have hNm : m ≤ N ∧ N ≤ m + 7 := by have := ht.pads; omega
  have HT := Lib.hid ht
  have HEN := Lib.hid hE
  have HL := Lib.hid (And.intro hl hNe)
  have hst : Hid (∃ F : Nat → Value, (∀ i, i < min (5 * 0) len → F i = B (bs.getD i 0)) ∧ (∀ i, 8 * 0 ≤ i → i < N → F i = B (T.getD i 0)) ∧ Wr w b0 N F ∧ w.grownBy w (some b0)) := Lib.hid ⟨_, fun i hi => by omega, fun i _ _ => rfl, hW, grown_refl _ _⟩
  have hcpad : w.cell? ⟨g, 257, none⟩ = some (.int .i32 pad) := hE.cell (i := 257) (by decide)
  clear hl hNe hW hE ht
  obtain ⟨G, hG⟩ : ∃ G, G = (len + 4) / 5 := ⟨_, rfl⟩
  have hG1 : 1 ≤ G ∧ 5 * G < len + 5 ∧ len ≤ 5 * G := by omega
  have hGm : 8 * (G - 1) + 2 ≤ m ∧ m ≤ 8 * G := by omega
  have HM := Lib.hid hm
  have HR5 := Lib.hid hr
  have HPD := Lib.hid hpd
  clear hG hm hr hpd
  go_enter Tryz.func320, Tryz.ntmps320
  go_wp2
  go_loopg [1, 2, 6, 7] (G + 1) (fun gk s1 s2 s6 s7 wx => ∃ (q : Nat) (a1 a2 : Option Addr) (n1 n2 c1 c2 : Nat) (be : Bool), s1 = .slice a1 n1 c1 ∧ s2 = .slice a2 n2 c2 ∧ s6 = .int .i64 ((min (5 * q) len : Nat) : Int) ∧ s7 = .bool be ∧ q ≤ G ∧ gk = G + 1 - q ∧
    Hid (q < G → a1 = some ⟨b0, 5 * q, none⟩ ∧ n1 = N - 5 * q ∧ n1 ≤ c1 ∧ a2 = some ⟨b0, 8 * q, none⟩ ∧ n2 = N - 8 * q ∧ n2 ≤ c2 ∧ be = false) ∧ Hid (q = G → n2 = 0 ∨ be = true) ∧
    Hid (∃ F : Nat → Value, (∀ i, i < min (5 * q) len → F i = B (bs.getD i 0)) ∧ (∀ i, 8 * q ≤ i → i < N → F i = B (T.getD i 0)) ∧ Wr wx b0 N F ∧ w.grownBy wx (some b0)))
  case atStart => exact ⟨0, _, _, _, _, _, _, _, rfl, rfl, by simp, rfl, by omega, rfl, Lib.hid (fun _ => ⟨rfl, by omega, hN, rfl, by omega, hN, rfl⟩), Lib.hid (fun h => by omega), hst⟩
  case round =>
    obtain ⟨wp, hwp⟩ : ∃ wp, wp = wr := ⟨_, rfl⟩
    subst hwp
    obtain ⟨q, a1, a2, n1, n2, c1, c2, be, rfl, rfl, rfl, rfl, hq, hgk, H1, H2, H3⟩ := hrel
    by_cases hqG : q < G
    · obtain ⟨rfl, hn1, hc1, rfl, hn2, hc2, rfl⟩ := H1.out hqG
      obtain ⟨i5, hi5⟩ : ∃ i5, i5 = 5 * q := ⟨_, rfl⟩
      obtain ⟨i8, hi8⟩ : ∃ i8, i8 = 8 * q := ⟨_, rfl⟩
      have hmin : min (5 * q) len = i5 := by omega
      rw [hmin, ← hi5, ← hi8]
      rw [hmin, ← hi8] at H3
      have hq5 : i5 < len ∧ i8 < m ∧ i5 ≤ i8 := by omega
      have hnn : i8 + n2 ≤ N ∧ N ≤ i8 + n2 ∧ n2 ≤ c2 ∧ 0 < n2 := by omega
      have hnn1 : i5 + n1 ≤ N ∧ N ≤ i5 + n1 ∧ n1 ≤ c1 := by omega
      have hn0 : 0 < (n2 : Int) := by omega
      have HQ := Lib.hid (And.intro hi5 hi8)
      clear H1 H2 hmin hn1 hc1 hn2 hc2 hi5 hi8
      go_wp2_with (refine wpList_newrow rfl 211 rfl 8 _ zero_dbuf ?_; intro w1 hr1 he1 hs1; have HR1 := Lib.hid (And.intro (Wr.of_row hr1) he1); clear hr1 he1 hs1)
      obtain ⟨F, hF1, hF2, hwF, hgF⟩ := H3.out
      have hwF1 := HR1.out.2.wr hwF
      have hg1 : w.grownBy w1 (some b0) := grown_ext hgF HR1.out.2
      have hdn : b0 < wp.heap.size ∧ g < wp.heap.size := ⟨block_lt_of_cell (hwF 0 (by omega)).1, Nat.lt_of_lt_of_le HEN.out.lt hgF.size⟩
      obtain ⟨e, he⟩ : ∃ e, e = min 8 (m - i8) := ⟨_, rfl⟩
      have he8 : e ≤ 8 ∧ 2 ≤ e ∧ i8 + e ≤ m := by have := HQ.out; omega
      have HF := Lib.hid (And.intro hF1 (And.intro hF2 (And.intro hwF1 hg1)))
      have HE := Lib.hid he
      have HWP := Lib.hid hgF.size
      clear hF1 hF2 hwF hgF hwF1 hg1 H3 he
      have hstart : Hid (Wr w1 wp.heap.size 8 (fun t => if t < 0 then .int .u8 (d5 bs (i8 + t) : Int) else .int .u8 0) ∧ w1.grownBy w1 (some wp.heap.size)) := Lib.hid ⟨by simpa using HR1.out.1, grown_refl _ _⟩
      go_loopg [2, 6, 7, 11, 12] 9 (fun gk s2 s6 s7 s11 s12 wx => s6 = .int .i64 (i5 : Int) ∧ s7 = .bool false ∧ s11 = .int .i64 8 ∧ ∃ (j : Nat) (a2 : Option Addr) (n3 c3 : Nat), s2 = .slice a2 n3 c3 ∧ s12 = .int .i64 (j : Int) ∧ j ≤ e ∧ gk = 9 - j ∧ n3 + j ≤ n2 ∧ n2 ≤ n3 + j ∧ n3 ≤ c3 ∧ Hid (n3 ≠ 0 → a2 = some ⟨b0, i8 + j, none⟩) ∧
        Hid (Wr wx wp.heap.size 8 (fun t => if t < j then .int .u8 (d5 bs (i8 + t) : Int) else .int .u8 0) ∧ w1.grownBy wx (some wp.heap.size)))
      case atStart => exact ⟨rfl, rfl, rfl, 0, _, _, _, rfl, rfl, by omega, rfl, by omega, by omega, by omega, Lib.hid (fun _ => rfl), hstart⟩
      case round =>
        obtain ⟨rfl, rfl, rfl, j, a2, n3, c3, rfl, rfl, hj, hgk2, hn3, hn3b, hn3c, HA2, HD⟩ := hrel
        by_cases hje : j < e
        · as_aux_lemma =>
            obtain rfl := HA2.out (by omega)
            obtain ⟨hF1, hF2, hwF, hg1⟩ := HF.out
            obtain ⟨hwd, hgd⟩ := HD.out
            have hwF2 := hwF.grown (by omega) hgd (by intro h; injection h with h; omega)
            have hj8 : j < 8 := by omega
            have hjI : (j : Int) < 8 := by omega
            have hn30 : ((n3 : Int) == 0) = false := by rw [beq_eq_false_iff_ne]; omega
            have hn3I : (1 : Int) ≤ (n3 : Int) := by omega
            obtain ⟨p, hp⟩ : ∃ p, p = i8 + j := ⟨_, rfl⟩
            obtain ⟨hd1, hd2, hd3⟩ := HT.out.dig p (by omega)
            have hd32 := d5_lt bs p
            have hct := (hwF2 p (by omega)).1
            rw [hF2 p (by omega) (by omega)] at hct
            obtain ⟨xc, hxc⟩ : ∃ xc, xc = (T.getD p 0).toNat := ⟨_, rfl⟩
            rw [← hxc] at hd1 hd2
            have hx61 : xc ≠ 61 := by intro h; apply hd3; apply UInt8.toNat.inj; rw [← hxc, h]; rfl
            replace hct : wr.cell? ⟨b0, p, none⟩ = some (.int .u8 (xc : Int)) := by rw [hct, hxc]
            have henc : EncAt wr g l pad := by
              have h1 := rowIs_grown (rowIs_grown HEN.out hg1 (by intro h; injection h with h; exact hgb h)) hgd (by intro h; injection h with h; omega)
              exact h1
            have hcp : wr.cell? ⟨g, 257, none⟩ = some (.int .i32 pad) := henc.cell (i := 257) (by decide)
            have hcm : wr.cell? ⟨g, 1 + xc, none⟩ = some (.int .u8 (d5 bs p : Int)) := by
              have := henc.cell (i := 1 + xc) (by omega)
              rw [this]
              simp only [encF, if_neg (show ¬ 1 + xc = 0 by omega), if_pos (show 1 + xc < 257 by omega), show 1 + xc - 1 = xc by omega, hd1]
            obtain ⟨dv, hdv⟩ : ∃ dv, dv = d5 bs p := ⟨_, rfl⟩
            rw [← hdv] at hcm hd32
            have hcd : wr.cell? ⟨wp.heap.size, j, none⟩ = some (.int .u8 0) := by rw [(hwd j hj8).1]; simp
            have hfd := (hwd j hj8).2
            have hdI : ((dv : Int) == 255) = false := by rw [beq_eq_false_iff_ne]; omega
            have hpx : ((xc : Int) == pad % 256) = false := by
              rw [beq_eq_false_iff_ne]
              rcases hpc with h | h <;> rw [h] <;> omega
            have HN : Hid (Wr (wr.setCell ⟨wp.heap.size, j, none⟩ (.int .u8 (dv : Int))) wp.heap.size 8 (fun t => if t < j + 1 then .int .u8 (d5 bs (i8 + t) : Int) else .int .u8 0) ∧ w1.grownBy (wr.setCell ⟨wp.heap.size, j, none⟩ (.int .u8 (dv : Int))) (some wp.heap.size)) := Lib.hid ⟨(hwd.set j _).congr fun t ht => by
              by_cases h1 : t = j
              · subst h1
                rw [if_pos rfl, if_pos (by omega), hdv, hp]
              · rw [if_neg h1]
                by_cases h2 : t < j
                · rw [if_pos h2, if_pos (by omega)]
                · rw [if_neg h2, if_neg (by omega)], grown_set hgd j _⟩
            have hxI : (xc : Int) < 256 := by omega
            have HP := Lib.hid hp
            rw [← hp]
            clear hF1 hF2 hwF hg1 hwd hgd hwF2 hd1 hd2 hd3 hxc hx61 henc hdv hp hpc
            go_wp2
            all_goals
              go_roundg (9 - (j + 1))
              case measure => omega
              case rel =>
                have hp := HP.out
                exact ⟨rfl, rfl, rfl, j + 1, _, _, _, rfl, by go_num, by omega, rfl, by omega, by omega, by omega, Lib.hid (fun h => by first | (congr 2; omega) | (exfalso; omega)), HN⟩
        · obtain rfl : e = j := by omega
          have hne1 : ¬ wp.heap.size = b0 := by omega
          have hne2 : ¬ b0 = wp.heap.size := by omega
          obtain ⟨hF1, hF2, hwF, hg1⟩ := HF.out
          obtain ⟨hwd, hgd⟩ := HD.out
          have hwF2 := hwF.grown (by omega) hgd (by intro h; injection h with h; omega)
          have hdb : ∀ t, t < e → wr.cell? ⟨wp.heap.size, t, none⟩ = some (.int .u8 (d5 bs (i8 + t) : Int)) := fun t ht => by
            rw [(hwd t (by omega)).1]; simp only [if_pos ht]
          have hwr : ∀ t, i5 + t < N → wr.cell? ⟨b0, i5 + t, none⟩ = some (F (i5 + t)) ∧ wr.frozen? ⟨b0, i5 + t, none⟩ = false := fun t ht => hwF2 (i5 + t) ht
          have hd32 := fun t => d5_lt bs (i8 + t)
          have hbk := back5 bs q
          rw [← HQ.out.1, ← HQ.out.2] at hbk
          obtain ⟨k0, k1, k2, k3, k4⟩ := hbk
          have HEP : Hid (EncAt wr g l pad) := Lib.hid (rowIs_grown (rowIs_grown HEN.out hg1 (by intro h; injection h with h; exact hgb h)) hgd (by intro h; injection h with h; omega))
          have hgw : w.grownBy wr (some b0) := grown_two hg1 hgd (Nat.le_trans HWP.out (Nat.le_refl _))
          have HB := Lib.hid (And.intro hF1 (And.intro hF2 (And.intro hwF2 hgw)))
          have hec : e = 8 ∨ e = 4 := by
            have h0 := HR5.out
            have h1 := HE.out
            have h2 := HM.out
            have h3 := HQ.out
            omega
          clear hF1 hF2 hwF hg1 hwd hgd hwF2 hgw
          rcases hec with rfl | hec
          · as_aux_lemma =>
              have z0 := hdb 0 (by decide)
              have z1 := hdb 1 (by decide)
              have z2 := hdb 2 (by decide)
              have z3 := hdb 3 (by decide)
              have z4 := hdb 4 (by decide)
              have z5 := hdb 5 (by decide)
              have z6 := hdb 6 (by decide)
              have z7 := hdb 7 (by decide)
              have d0 := hd32 0
              have d1 := hd32 1
              have d2 := hd32 2
              have d3 := hd32 3
              have d4 := hd32 4
              have d5' := hd32 5
              have d6' := hd32 6
              have d7 := hd32 7
              obtain ⟨s0, f0⟩ := hwr 0 (by omega)
              obtain ⟨s1, f1⟩ := hwr 1 (by omega)
              obtain ⟨s2, f2⟩ := hwr 2 (by omega)
              obtain ⟨s3, f3⟩ := hwr 3 (by omega)
              obtain ⟨s4, f4⟩ := hwr 4 (by omega)
              simp only [Nat.add_zero] at z0 s0 f0 d0 k0 k1 k2 k3 k4
              have HK := Lib.hid (And.intro k0 (And.intro k1 (And.intro k2 (And.intro k3 k4))))
              clear k0 k1 k2 k3 k4 hdb hwr hd32
              generalize d5 bs i8 = x0 at z0 d0 HK
              generalize d5 bs (i8 + 1) = x1 at z1 d1 HK
              generalize d5 bs (i8 + 2) = x2 at z2 d2 HK
              generalize d5 bs (i8 + 3) = x3 at z3 d3 HK
              generalize d5 bs (i8 + 4) = x4 at z4 d4 HK
              generalize d5 bs (i8 + 5) = x5 at z5 d5' HK
              generalize d5 bs (i8 + 6) = x6 at z6 d6' HK
              generalize d5 bs (i8 + 7) = x7 at z7 d7 HK
              generalize F i5 = v0 at s0
              generalize F (i5 + 1) = v1 at s1
              generalize F (i5 + 2) = v2 at s2
              generalize F (i5 + 3) = v3 at s3
              generalize F (i5 + 4) = v4 at s4
              have hn18 : (8 : Int) ≤ (n1 : Int) := by omega
              go_wp2
              go_roundg (G + 1 - (q + 1))
              case measure => omega
              case rel =>
                obtain ⟨k0, k1, k2, k3, k4⟩ := HK.out
                obtain ⟨hF1, hF2, hwF2, hgw⟩ := HB.out
                obtain ⟨h5, h8⟩ := HQ.out
                have hle := HE.out
                have hlm := HM.out
                rw [or_a _ _ d7, or_b _ _ _ d5' d6', or_c _ _ d4, or_d _ _ _ d2 d3, or_e _ _ d0 d1, k0, k1, k2, k3, k4]
                obtain ⟨e1, e2⟩ := wrote (k := 5) hF1 (fun t => if t = i5 then .int .u8 (xb bs i5 : Int) else if t = i5 + 1 then .int .u8 (xb bs (i5 + 1) : Int) else if t = i5 + 2 then .int .u8 (xb bs (i5 + 2) : Int) else if t = i5 + 3 then .int .u8 (xb bs (i5 + 3) : Int) else if t = i5 + 4 then .int .u8 (xb bs (i5 + 4) : Int) else F t) (fun t => by
                  by_cases h : i5 ≤ t ∧ t < i5 + 5
                  · rw [if_pos h]
                    have : t = i5 ∨ t = i5 + 1 ∨ t = i5 + 2 ∨ t = i5 + 3 ∨ t = i5 + 4 := by omega
                    rcases this with rfl | rfl | rfl | rfl | rfl <;> simp [xb]
                  · rw [if_neg h, if_neg (by omega), if_neg (by omega), if_neg (by omega), if_neg (by omega), if_neg (by omega)]) hF2 (by omega)
                refine ⟨q + 1, _, _, _, _, _, _, _, rfl, rfl, by congr 1; omega, rfl, by omega, rfl, Lib.hid (fun h => ⟨by congr 2; omega, by omega, by omega, by rw [HA2.out (by omega)]; congr 2; omega, by omega, by omega, rfl⟩), Lib.hid (fun h => .inl ?_),
                  Lib.hid ⟨_, fun t ht => e1 t (by omega), fun t h1 h2 => e2 t (by omega) h2, ((((hwF2.set (i5 + 4) _).set (i5 + 3) _).set (i5 + 2) _).set (i5 + 1) _).set i5 _, grown_set (grown_set (grown_set (grown_set (grown_set hgw _ _) _ _) _ _) _ _) _ _⟩⟩
                have := HT.out.pads
                have hNT := HL.out.2
                omega
          · as_aux_lemma =>
              obtain rfl := hec
              obtain rfl := HPD.out
              have hN8 : i8 + 8 ≤ N ∧ N ≤ i8 + 8 := by
                have hp := HT.out.pads
                have h0 := HL.out.2
                have h1 := HE.out
                have h2 := HQ.out
                omega
              have hN1 : 8 ≤ n1 := by omega
              obtain rfl := HA2.out (by omega)
              have hNt := HL.out.2
              have hT61 : ∀ t, 4 ≤ t → t < 8 → wr.cell? ⟨b0, i8 + t, none⟩ = some (.int .u8 61) := fun t h1 h2 => by
                have h3 := HE.out
                obtain ⟨-, hF2, hwF2, -⟩ := HB.out
                rw [(hwF2 (i8 + t) (by omega)).1, hF2 (i8 + t) (by omega) (by omega), HT.out.tail (i8 + t) (by omega) (by omega)]
                rfl
              have hct := hT61 4 (by decide) (by decide)
              have hcp : wr.cell? ⟨g, 257, none⟩ = some (.int .i32 61) := HEP.out.cell (i := 257) (by decide)
              have h3e : n3 = 4 := by
                have h1 := HE.out
                omega
              subst h3e
              have H61 := Lib.hid hT61
              have HDB := Lib.hid hdb
              have HWR := Lib.hid hwr
              have HKK := Lib.hid (And.intro k0 (And.intro k1 (And.intro k2 (And.intro k3 k4))))
              clear hT61 hNt hdb hwr k0 k1 k2 k3 k4
              go_wp2
              all_goals
                obtain ⟨wz, hwz⟩ : ∃ wz, wz = wr := ⟨_, rfl⟩
                subst hwz
                go_loopg [6, 7, 14] 4 (fun gk s6 s7 s14 wx => s6 = .int .i64 (i5 : Int) ∧ s7 = .bool false ∧ ∃ k : Nat, s14 = .int .i64 (k : Int) ∧ k ≤ 3 ∧ gk = 4 - k ∧ Hid (Ext wz wx))
                case atStart => exact ⟨rfl, rfl, 0, rfl, by decide, rfl, Lib.hid (Ext.refl _)⟩
                case round =>
                  obtain ⟨rfl, rfl, k, rfl, hk, hgk5, HX⟩ := hrel
                  by_cases hk7 : k < 3
                  · have hkI : (k : Int) < 3 := by omega
                    have hck : wr.cell? ⟨b0, i8 + (5 + k), none⟩ = some (.int .u8 61) := HX.out.cell (H61.out (5 + k) (by omega) (by omega))
                    have hpk : wr.cell? ⟨g, 257, none⟩ = some (.int .i32 61) := HX.out.cell hcp
                    have hadd : i8 + 4 + 1 + k = i8 + (5 + k) := by omega
                    have hHX := Lib.hid (Ext.drew HX.out)
                    go_wp2
                    go_quiet (fail)
                    go_wp2
                    go_roundg (4 - (k + 1))
                    case measure => omega
                    case rel => exact ⟨rfl, rfl, k + 1, by go_num, by omega, rfl, Lib.hid (HX.out.trans (ext_drewN _ _))⟩
                  · obtain rfl : k = 3 := by omega
                    have hdb : ∀ t, t < 4 → wr.cell? ⟨wp.heap.size, t, none⟩ = some (.int .u8 (d5 bs (i8 + t) : Int)) := fun t ht => HX.out.cell (HDB.out t ht)
                    have hwr : ∀ t, i5 + t < N → wr.cell? ⟨b0, i5 + t, none⟩ = some (F (i5 + t)) ∧ wr.frozen? ⟨b0, i5 + t, none⟩ = false := fun t ht => (HX.out.wr HB.out.2.2.1) (i5 + t) ht
                    obtain ⟨k0, k1, k2, k3, k4⟩ := HKK.out
                    clear hcp hct
                    have z0 := hdb 0 (by decide)
                    have z1 := hdb 1 (by decide)
                    have z2 := hdb 2 (by decide)
                    have z3 := hdb 3 (by decide)
                    have d0 := hd32 0
                    have d1 := hd32 1
                    have d2 := hd32 2
                    have d3 := hd32 3
                    obtain ⟨s0, f0⟩ := hwr 0 (by omega)
                    obtain ⟨s1, f1⟩ := hwr 1 (by omega)
                    simp only [Nat.add_zero] at z0 s0 f0 d0 k0 k1 k2 k3 k4
                    have HK := Lib.hid (And.intro k0 k1)
                    clear k0 k1 k2 k3 k4 hdb hwr hd32
                    generalize d5 bs i8 = x0 at z0 d0 HK
                    generalize d5 bs (i8 + 1) = x1 at z1 d1 HK
                    generalize d5 bs (i8 + 2) = x2 at z2 d2 HK
                    generalize d5 bs (i8 + 3) = x3 at z3 d3 HK
                    generalize F i5 = v0 at s0
                    generalize F (i5 + 1) = v1 at s1
                    have hn18 : (4 : Int) ≤ (n1 : Int) := by omega
                    go_wp2
                    all_goals
                      go_roundg (G + 1 - (q + 1))
                      case measure => omega
                      case rel =>
                        obtain ⟨k0, k1⟩ := HK.out
                        obtain ⟨hF1, hF2, hwF2, hgw⟩ := HB.out
                        obtain ⟨h5, h8⟩ := HQ.out
                        have hle := HE.out
                        have hlm := HM.out
                        rw [or_d _ _ _ d2 d3, or_e _ _ d0 d1, k0, k1]
                        obtain ⟨e1, e2⟩ := wrote (k := 2) hF1 (fun t => if t = i5 then .int .u8 (xb bs (i5) : Int) else if t = i5 + 1 then .int .u8 (xb bs (i5 + 1) : Int) else  F t) (fun t => by
                          by_cases h : i5 ≤ t ∧ t < i5 + 2
                          · rw [if_pos h]
                            have : t = i5 ∨ t = i5 + 1 := by omega
                            rcases this with rfl | rfl <;> simp [xb]
                          · rw [if_neg h, if_neg (by omega), if_neg (by omega)]) hF2 (by omega)
                        have hEX := HX.out
                        exact ⟨q + 1, _, _, _, _, _, _, _, rfl, rfl, by congr 1; omega, rfl, by omega, rfl, Lib.hid (fun h => by omega), Lib.hid (fun h => .inr rfl), Lib.hid ⟨_, fun t ht => e1 t (by omega), fun t h1 h2 => e2 t (by omega) h2, (((hEX.wr hwF2).set (i5 + 1) _).set (i5) _), (grown_set (grown_set (grown_ext hgw hEX) _ _) _ _)⟩⟩
    · obtain rfl : q = G := by omega
      have hmin : min (5 * q) len = len := by omega
      rw [hmin]
      rw [hmin] at H3
      rcases H2.out rfl with rfl | rfl
      all_goals
        clear H1 H2 hmin
        go_wp2
        all_goals
          go_ret3
          obtain ⟨F, hF1, -, hwF, hgF⟩ := H3.out
          exact ⟨_, rfl, ⟨F, hF1, hwF⟩, hgF⟩

set_option maxHeartbeats 2000000 in
set_option maxRecDepth 100000 in
theorem b32core_r3 (l : List UInt8) (pad : Int) (bs T : List UInt8) (m : Nat) (ht : Txt32 l pad bs T m) (hr : bs.length % 5 = 3) (hpd : pad = -1) (hlen : bs.length ≤ 1000) (hpos : 0 < bs.length) (g b0 c : Nat) (w : World) (hE : EncAt w g l pad) (hgb : g ≠ b0) (hN : T.length ≤ c)
    (hW : Wr w b0 T.length (fun i => B (T.getD i 0))) :
    Calls Tryz.prog 320 #[.pointer (some ⟨g, 0, none⟩), .slice (some ⟨b0, 0, none⟩) T.length c, .slice (some ⟨b0, 0, none⟩) T.length c] w fun e w' =>
      ∃ be, e = .returned (.tuple #[.int .i64 (bs.length : Int), .bool be, .nilIface]) ∧ (∃ F : Nat → Value, (∀ i, i < bs.length → F i = B (bs.getD i 0)) ∧ Wr w' b0 T.length F) ∧ w.grownBy w' (some b0) := by
  have hpc : pad = -1 ∨ pad = 61 := by rcases ht.pads with h | h <;> simp [h.1]
  obtain ⟨len, hl⟩ : ∃ len, len = bs.length := ⟨_, rfl⟩
  obtain ⟨N, hNe⟩ : ∃ N, N = T.length := ⟨_, rfl⟩
  have hm := ht.m_eq
  rw [← hl] at hm hlen hpos hr ⊢
  rw [← hNe] at hN hW ⊢
  have hNm : m ≤ N ∧ N ≤ m + 7 := by have := ht.pads; omega
  have HT := Lib.hid ht
  have HEN := Lib.hid hE
  have HL := Lib.hid (And.intro hl hNe)
  have hst : Hid (∃ F : Nat → Value, (∀ i, i < min (5 * 0) len → F i = B (bs.getD i 0)) ∧ (∀ i, 8 * 0 ≤ i → i < N → F i = B (T.getD i 0)) ∧ Wr w b0 N F ∧ w.grownBy w (some b0)) := Lib.hid ⟨_, fun i hi => by omega, fun i _ _ => rfl, hW, grown_refl _ _⟩
  have hcpad : w.cell? ⟨g, 257, none⟩ = some (.int .i32 pad) := hE.cell (i := 257) (by decide)
  clear hl hNe hW hE ht
  obtain ⟨G, hG⟩ : ∃ G, G = (len + 4) / 5 := ⟨_, rfl⟩
  have hG1 : 1 ≤ G ∧ 5 * G < len + 5 ∧ len ≤ 5 * G := by omega
  have hGm : 8 * (G - 1) + 2 ≤ m ∧ m ≤ 8 * G := by omega
  have HM := Lib.hid hm
  have HR5 := Lib.hid hr
  have HPD := Lib.hid hpd
  clear hG hm hr hpd
  go_enter Tryz.func320, Tryz.ntmps320
  go_wp2
  go_loopg [1, 2, 6, 7] (G + 1) (fun gk s1 s2 s6 s7 wx => ∃ (q : Nat) (a1 a2 : Option Addr) (n1 n2 c1 c2 : Nat) (be : Bool), s1 = .slice a1 n1 c1 ∧ s2 = .slice a2 n2 c2 ∧ s6 = .int .i64 ((min (5 * q) len : Nat) : Int) ∧ s7 = .bool be ∧ q ≤ G ∧ gk = G + 1 - q ∧
    Hid (q < G → a1 = some ⟨b0, 5 * q, none⟩ ∧ n1 = N - 5 * q ∧ n1 ≤ c1 ∧ a2 = some ⟨b0, 8 * q, none⟩ ∧ n2 = N - 8 * q ∧ n2 ≤ c2 ∧ be = false) ∧ Hid (q = G → n2 = 0 ∨ be = true) ∧
    Hid (∃ F : Nat → Value, (∀ i, i < min (5 * q) len → F i = B (bs.getD i 0)) ∧ (∀ i, 8 * q ≤ i → i < N → F i = B (T.getD i 0)) ∧ Wr wx b0 N F ∧ w.grownBy wx (some b0)))
  case atStart => exact ⟨0, _, _, _, _, _, _, _, rfl, rfl, by simp, rfl, by omega, rfl, Lib.hid (fun _ => ⟨rfl, by omega, hN, rfl, by omega, hN, rfl⟩), Lib.hid (fun h => by omega), hst⟩
  case round =>
    obtain ⟨wp, hwp⟩ : ∃ wp, wp = wr := ⟨_, rfl⟩
    subst hwp
    obtain ⟨q, a1, a2, n1, n2, c1, c2, be, rfl, rfl, rfl, rfl, hq, hgk, H1, H2, H3⟩ := hrel
    by_cases hqG : q < G
    · obtain ⟨rfl, hn1, hc1, rfl, hn2, hc2, rfl⟩ := H1.out hqG
      obtain ⟨i5, hi5⟩ : ∃ i5, i5 = 5 * q := ⟨_, rfl⟩
      obtain ⟨i8, hi8⟩ : ∃ i8, i8 = 8 * q := ⟨_, rfl⟩
      have hmin : min (5 * q) len = i5 := by omega
      rw [hmin, ← hi5, ← hi8]
      rw [hmin, ← hi8] at H3
      have hq5 : i5 < len ∧ i8 < m ∧ i5 ≤ i8 := by omega
      have hnn : i8 + n2 ≤ N ∧ N ≤ i8 + n2 ∧ n2 ≤ c2 ∧ 0 < n2 := by omega
      have hnn1 : i5 + n1 ≤ N ∧ N ≤ i5 + n1 ∧ n1 ≤ c1 := by omega
      have hn0 : 0 < (n2 : Int) := by omega
      have HQ := Lib.hid (And.intro hi5 hi8)
      clear H1 H2 hmin hn1 hc1 hn2 hc2 hi5 hi8
      go_wp2_with (refine wpList_newrow rfl 211 rfl 8 _ zero_dbuf ?_; intro w1 hr1 he1 hs1; have HR1 := Lib.hid (And.intro (Wr.of_row hr1) he1); clear hr1 he1 hs1)
      obtain ⟨F, hF1, hF2, hwF, hgF⟩ := H3.out
      have hwF1 := HR1.out.2.wr hwF
      have hg1 : w.grownBy w1 (some b0) := grown_ext hgF HR1.out.2
      have hdn : b0 < wp.heap.size ∧ g < wp.heap.size := ⟨block_lt_of_cell (hwF 0 (by omega)).1, Nat.lt_of_lt_of_le HEN.out.lt hgF.size⟩
      obtain ⟨e, he⟩ : ∃ e, e = min 8 (m - i8) := ⟨_, rfl⟩
      have he8 : e ≤ 8 ∧ 2 ≤ e ∧ i8 + e ≤ m := by have := HQ.out; omega
      have HF := Lib.hid (And.intro hF1 (And.intro hF2 (And.intro hwF1 hg1)))
      have HE := Lib.hid he
      have HWP := Lib.hid hgF.size
      clear hF1 hF2 hwF hgF hwF1 hg1 H3 he
      have hstart : Hid (Wr w1 wp.heap.size 8 (fun t => if t < 0 then .int .u8 (d5 bs (i8 + t) : Int) else .int .u8 0) ∧ w1.grownBy w1 (some wp.heap.size)) := Lib.hid ⟨by simpa using HR1.out.1, grown_refl _ _⟩
      go_loopg [2, 6, 7, 11, 12] 9 (fun gk s2 s6 s7 s11 s12 wx => s6 = .int .i64 (i5 : Int) ∧ s7 = .bool false ∧ s11 = .int .i64 8 ∧ ∃ (j : Nat) (a2 : Option Addr) (n3 c3 : Nat), s2 = .slice a2 n3 c3 ∧ s12 = .int .i64 (j : Int) ∧ j ≤ e ∧ gk = 9 - j ∧ n3 + j ≤ n2 ∧ n2 ≤ n3 + j ∧ n3 ≤ c3 ∧ Hid (n3 ≠ 0 → a2 = some ⟨b0, i8 + j, none⟩) ∧
        Hid (Wr wx wp.heap.size 8 (fun t => if t < j then .int .u8 (d5 bs (i8 + t) : Int) else .int .u8 0) ∧ w1.grownBy wx (some wp.heap.size)))
      case atStart => exact ⟨rfl, rfl, rfl, 0, _, _, _, rfl, rfl, by omega, rfl, by omega, by omega, by omega, Lib.hid (fun _ => rfl), hstart⟩
      case round =>
        obtain ⟨rfl, rfl, rfl, j, a2, n3, c3, rfl, rfl, hj, hgk2, hn3, hn3b, hn3c, HA2, HD⟩ := hrel
        by_cases hje : j < e
        · as_aux_lemma =>
            obtain rfl := HA2.out (by omega)
            obtain ⟨hF1, hF2, hwF, hg1⟩ := HF.out
            obtain ⟨hwd, hgd⟩ := HD.out
            have hwF2 := hwF.grown (by omega) hgd (by intro h; injection h with h; omega)
            have hj8 : j < 8 := by omega
            have hjI : (j : Int) < 8 := by omega
            have hn30 : ((n3 : Int) == 0) = false := by rw [beq_eq_false_iff_ne]; omega
            have hn3I : (1 : Int) ≤ (n3 : Int) := by omega
            obtain ⟨p, hp⟩ : ∃ p, p = i8 + j := ⟨_, rfl⟩
            obtain ⟨hd1, hd2, hd3⟩ := HT.out.dig p (by omega)
            have hd32 := d5_lt bs p
            have hct := (hwF2 p (by omega)).1
            rw [hF2 p (by omega) (by omega)] at hct
            obtain ⟨xc, hxc⟩ : ∃ xc, xc = (T.getD p 0).toNat := ⟨_, rfl⟩
            rw [← hxc] at hd1 hd2
            have hx61 : xc ≠ 61 := by intro h; apply hd3; apply UInt8.toNat.inj; rw [← hxc, h]; rfl
            replace hct : wr.cell? ⟨b0, p, none⟩ = some (.int .u8 (xc : Int)) := by rw [hct, hxc]
            have henc : EncAt wr g l pad := by
              have h1 := rowIs_grown (rowIs_grown HEN.out hg1 (by intro h; injection h with h; exact hgb h)) hgd (by intro h; injection h with h; omega)
              exact h1
            have hcp : wr.cell? ⟨g, 257, none⟩ = some (.int .i32 pad) := henc.cell (i := 257) (by decide)
            have hcm : wr.cell? ⟨g, 1 + xc, none⟩ = some (.int .u8 (d5 bs p : Int)) := by
              have := henc.cell (i := 1 + xc) (by omega)
              rw [this]
              simp only [encF, if_neg (show ¬ 1 + xc = 0 by omega), if_pos (show 1 + xc < 257 by omega), show 1 + xc - 1 = xc by omega, hd1]
            obtain ⟨dv, hdv⟩ : ∃ dv, dv = d5 bs p := ⟨_, rfl⟩
            rw [← hdv] at hcm hd32
            have hcd : wr.cell? ⟨wp.heap.size, j, none⟩ = some (.int .u8 0) := by rw [(hwd j hj8).1]; simp
            have hfd := (hwd j hj8).2
            have hdI : ((dv : Int) == 255) = false := by rw [beq_eq_false_iff_ne]; omega
            have hpx : ((xc : Int) == pad % 256) = false := by
              rw [beq_eq_false_iff_ne]
              rcases hpc with h | h <;> rw [h] <;> omega
            have HN : Hid (Wr (wr.setCell ⟨wp.heap.size, j, none⟩ (.int .u8 (dv : Int))) wp.heap.size 8 (fun t => if t < j + 1 then .int .u8 (d5 bs (i8 + t) : Int) else .int .u8 0) ∧ w1.grownBy (wr.setCell ⟨wp.heap.size, j, none⟩ (.int .u8 (dv : Int))) (some wp.heap.size)) := Lib.hid ⟨(hwd.set j _).congr fun t ht => by
              by_cases h1 : t = j
              · subst h1
                rw [if_pos rfl, if_pos (by omega), hdv, hp]
              · rw [if_neg h1]
                by_cases h2 : t < j
                · rw [if_pos h2, if_pos (by omega)]
                · rw [if_neg h2, if_neg (by omega)], grown_set hgd j _⟩
            have hxI : (xc : Int) < 256 := by omega
            have HP := Lib.hid hp
            rw [← hp]
            clear hF1 hF2 hwF hg1 hwd hgd hwF2 hd1 hd2 hd3 hxc hx61 henc hdv hp hpc
            go_wp2
            all_goals
              go_roundg (9 - (j + 1))
              case measure => omega
              case rel =>
                have hp := HP.out
                exact ⟨rfl, rfl, rfl, j + 1, _, _, _, rfl, by go_num, by omega, rfl, by omega, by omega, by omega, Lib.hid (fun h => by first | (congr 2; omega) | (exfalso; omega)), HN⟩
        · obtain rfl : e = j := by omega
          have hne1 : ¬ wp.heap.size = b0 := by omega
          have hne2 : ¬ b0 = wp.heap.size := by omega
          obtain ⟨hF1, hF2, hwF, hg1⟩ := HF.out
          obtain ⟨hwd, hgd⟩ := HD.out
          have hwF2 := hwF.grown (by omega) hgd (by intro h; injection h with h; omega)
          have hdb : ∀ t, t < e → wr.cell? ⟨wp.heap.size, t, none⟩ = some (.int .u8 (d5 bs (i8 + t) : Int)) := fun t ht => by
            rw [(hwd t (by omega)).1]; simp only [if_pos ht]
          have hwr : ∀ t, i5 + t < N → wr.cell? ⟨b0, i5 + t, none⟩ = some (F (i5 + t)) ∧ wr.frozen? ⟨b0, i5 + t, none⟩ = false := fun t ht => hwF2 (i5 + t) ht
          have hd32 := fun t => d5_lt bs (i8 + t)
          have hbk := back5 bs q
          rw [← HQ.out.1, ← HQ.out.2] at hbk
          obtain ⟨k0, k1, k2, k3, k4⟩ := hbk
          have HEP : Hid (EncAt wr g l pad) := Lib.hid (rowIs_grown (rowIs_grown HEN.out hg1 (by intro h; injection h with h; exact hgb h)) hgd (by intro h; injection h with h; omega))
          have hgw : w.grownBy wr (some b0) := grown_two hg1 hgd (Nat.le_trans HWP.out (Nat.le_refl _))
          have HB := Lib.hid (And.intro hF1 (And.intro hF2 (And.intro hwF2 hgw)))
          have hec : e = 8 ∨ e = 5 := by
            have h0 := HR5.out
            have h1 := HE.out
            have h2 := HM.out
            have h3 := HQ.out
            omega
          clear hF1 hF2 hwF hg1 hwd hgd hwF2 hgw
          rcases hec with rfl | hec
          · as_aux_lemma =>
              have z0 := hdb 0 (by decide)
              have z1 := hdb 1 (by decide)
              have z2 := hdb 2 (by decide)
              have z3 := hdb 3 (by decide)
              have z4 := hdb 4 (by decide)
              have z5 := hdb 5 (by decide)
              have z6 := hdb 6 (by decide)
              have z7 := hdb 7 (by decide)
              have d0 := hd32 0
              have d1 := hd32 1
              have d2 := hd32 2
              have d3 := hd32 3
              have d4 := hd32 4
              have d5' := hd32 5
              have d6' := hd32 6
              have d7 := hd32 7
              obtain ⟨s0, f0⟩ := hwr 0 (by omega)
              obtain ⟨s1, f1⟩ := hwr 1 (by omega)
              obtain ⟨s2, f2⟩ := hwr 2 (by omega)
              obtain ⟨s3, f3⟩ := hwr 3 (by omega)
              obtain ⟨s4, f4⟩ := hwr 4 (by omega)
              simp only [Nat.add_zero] at z0 s0 f0 d0 k0 k1 k2 k3 k4
              have HK := Lib.hid (And.intro k0 (And.intro k1 (And.intro k2 (And.intro k3 k4))))
              clear k0 k1 k2 k3 k4 hdb hwr hd32
              generalize d5 bs i8 = x0 at z0 d0 HK
              generalize d5 bs (i8 + 1) = x1 at z1 d1 HK
              generalize d5 bs (i8 + 2) = x2 at z2 d2 HK
              generalize d5 bs (i8 + 3) = x3 at z3 d3 HK
              generalize d5 bs (i8 + 4) = x4 at z4 d4 HK
              generalize d5 bs (i8 + 5) = x5 at z5 d5' HK
              generalize d5 bs (i8 + 6) = x6 at z6 d6' HK
              generalize d5 bs (i8 + 7) = x7 at z7 d7 HK
              generalize F i5 = v0 at s0
              generalize F (i5 + 1) = v1 at s1
              generalize F (i5 + 2) = v2 at s2
              generalize F (i5 + 3) = v3 at s3
              generalize F (i5 + 4) = v4 at s4
              have hn18 : (8 : Int) ≤ (n1 : Int) := by omega
              go_wp2
              go_roundg (G + 1 - (q + 1))
              case measure => omega
              case rel =>
                obtain ⟨k0, k1, k2, k3, k4⟩ := HK.out
                obtain ⟨hF1, hF2, hwF2, hgw⟩ := HB.out
                obtain ⟨h5, h8⟩ := HQ.out
                have hle := HE.out
                have hlm := HM.out
                rw [or_a _ _ d7, or_b _ _ _ d5' d6', or_c _ _ d4, or_d _ _ _ d2 d3, or_e _ _ d0 d1, k0, k1, k2, k3, k4]
                obtain ⟨e1, e2⟩ := wrote (k := 5) hF1 (fun t => if t = i5 then .int .u8 (xb bs i5 : Int) else if t = i5 + 1 then .int .u8 (xb bs (i5 + 1) : Int) else if t = i5 + 2 then .int .u8 (xb bs (i5 + 2) : Int) else if t = i5 + 3 then .int .u8 (xb bs (i5 + 3) : Int) else if t = i5 + 4 then .int .u8 (xb bs (i5 + 4) : Int) else F t) (fun t => by
                  by_cases h : i5 ≤ t ∧ t < i5 + 5
                  · rw [if_pos h]
                    have : t = i5 ∨ t = i5 + 1 ∨ t = i5 + 2 ∨ t = i5 + 3 ∨ t = i5 + 4 := by omega
                    rcases this with rfl | rfl | rfl | rfl | rfl <;> simp [xb]
                  · rw [if_neg h, if_neg (by omega), if_neg (by omega), if_neg (by omega), if_neg (by omega), if_neg (by omega)]) hF2 (by omega)
                refine ⟨q + 1, _, _, _, _, _, _, _, rfl, rfl, by congr 1; omega, rfl, by omega, rfl, Lib.hid (fun h => ⟨by congr 2; omega, by omega, by omega, by rw [HA2.out (by omega)]; congr 2; omega, by omega, by omega, rfl⟩), Lib.hid (fun h => .inl ?_),
                  Lib.hid ⟨_, fun t ht => e1 t (by omega), fun t h1 h2 => e2 t (by omega) h2, ((((hwF2.set (i5 + 4) _).set (i5 + 3) _).set (i5 + 2) _).set (i5 + 1) _).set i5 _, grown_set (grown_set (grown_set (grown_set (grown_set hgw _ _) _ _) _ _) _ _) _ _⟩⟩
                have := HT.out.pads
                have hNT := HL.out.2
                omega
          · as_aux_lemma =>
              obtain rfl := hec
              obtain rfl := HPD.out
              have hn0 : n3 = 0 := by
                have h0 := HT.out.pads
                have h1 := HL.out.2
                have h2 := HE.out
                omega
              subst hn0
              have hcp : wr.cell? ⟨g, 257, none⟩ = some (.int .i32 (-1)) := HEP.out.cell (i := 257) (by decide)
              have hN1 : 5 ≤ n1 := by omega
              have z0 := hdb 0 (by decide)
              have z1 := hdb 1 (by decide)
              have z2 := hdb 2 (by decide)
              have z3 := hdb 3 (by decide)
              have z4 := hdb 4 (by decide)
              have d0 := hd32 0
              have d1 := hd32 1
              have d2 := hd32 2
              have d3 := hd32 3
              have d4 := hd32 4
              obtain ⟨s0, f0⟩ := hwr 0 (by omega)
              obtain ⟨s1, f1⟩ := hwr 1 (by omega)
              obtain ⟨s2, f2⟩ := hwr 2 (by omega)
              simp only [Nat.add_zero] at z0 s0 f0 d0 k0 k1 k2 k3 k4
              have HK := Lib.hid (And.intro k0 (And.intro k1 k2))
              clear k0 k1 k2 k3 k4 hdb hwr hd32
              generalize d5 bs i8 = x0 at z0 d0 HK
              generalize d5 bs (i8 + 1) = x1 at z1 d1 HK
              generalize d5 bs (i8 + 2) = x2 at z2 d2 HK
              generalize d5 bs (i8 + 3) = x3 at z3 d3 HK
              generalize d5 bs (i8 + 4) = x4 at z4 d4 HK
              generalize F i5 = v0 at s0
              generalize F (i5 + 1) = v1 at s1
              generalize F (i5 + 2) = v2 at s2
              have hn18 : (5 : Int) ≤ (n1 : Int) := by omega
              go_wp2
              all_goals
                go_roundg (G + 1 - (q + 1))
                case measure => omega
                case rel =>
                  obtain ⟨k0, k1, k2⟩ := HK.out
                  obtain ⟨hF1, hF2, hwF2, hgw⟩ := HB.out
                  obtain ⟨h5, h8⟩ := HQ.out
                  have hle := HE.out
                  have hlm := HM.out
                  rw [or_c _ _ d4, or_d _ _ _ d2 d3, or_e _ _ d0 d1, k0, k1, k2]
                  obtain ⟨e1, e2⟩ := wrote (k := 3) hF1 (fun t => if t = i5 then .int .u8 (xb bs (i5) : Int) else if t = i5 + 1 then .int .u8 (xb bs (i5 + 1) : Int) else if t = i5 + 2 then .int .u8 (xb bs (i5 + 2) : Int) else  F t) (fun t => by
                    by_cases h : i5 ≤ t ∧ t < i5 + 3
                    · rw [if_pos h]
                      have : t = i5 ∨ t = i5 + 1 ∨ t = i5 + 2 := by omega
                      rcases this with rfl | rfl | rfl <;> simp [xb]
                    · rw [if_neg h, if_neg (by omega), if_neg (by omega), if_neg (by omega)]) hF2 (by omega)
                  exact ⟨q + 1, _, _, _, _, _, _, _, rfl, rfl, by congr 1; omega, rfl, by omega, rfl, Lib.hid (fun h => by omega), Lib.hid (fun h => .inl rfl), Lib.hid ⟨_, fun t ht => e1 t (by omega), fun t h1 h2 => e2 t (by omega) h2, (((hwF2.set (i5 + 2) _).set (i5 + 1) _).set (i5) _), (grown_set (grown_set (grown_set hgw _ _) _ _) _ _)⟩⟩
    · obtain rfl : q = G := by omega
      have hmin : min (5 * q) len = len := by omega
      rw [hmin]
      rw [hmin] at H3
      rcases H2.out rfl with rfl | rfl
      all_goals
        clear H1 H2 hmin
        go_wp2
        all_goals
          go_ret3
          obtain ⟨F, hF1, -, hwF, hgF⟩ := H3.out
          exact ⟨_, rfl, ⟨F, hF1, hwF⟩, hgF⟩
end Go.Proofs.YtchlkclpikdbjaaGreatDoor
