/-
  Texts of base64 read back: Decode, DecodeString. Written by gen_b64s.py.
-/
import Derived.Test.YtchlkclpikdbjaaGreatDoorB64d
namespace Go.Proofs.YtchlkclpikdbjaaGreatDoor
set_option linter.unusedVariables false
set_option linter.unusedSimpArgs false
open Go.RowKit Go.Sort

/-- the digits at hand in a world -/
theorem Txt64.here {l : List UInt8} {pad : Int} {bs T : List UInt8} {m : Nat} (ht : Txt64 l pad bs T m) {w : World} {g b0 : Nat} (hE : E64At w g l pad) (hT : ∀ i, i < T.length → w.cell? ⟨b0, i, none⟩ = some (B (T.getD i 0))) (i : Nat) (hi : i < m) :
    ∃ xc : Nat, w.cell? ⟨b0, i, none⟩ = some (.int .u8 (xc : Int)) ∧ w.cell? ⟨g, 64 + xc, none⟩ = some (.int .u8 (d6 bs i : Int)) ∧ (xc : Int) < 256 ∧ d6 bs i < 64 := by
  obtain ⟨a1, a2⟩ := ht.dig i hi
  have hp := ht.pads
  refine ⟨(T.getD i 0).toNat, hT i (by omega), ?_, by omega, d6_lt bs _⟩
  rw [(hE (64 + (T.getD i 0).toNat) (by omega)).1]
  simp only [e64F, if_neg (show ¬ 64 + (T.getD i 0).toNat < 64 by omega), if_pos (show 64 + (T.getD i 0).toNat < 320 by omega), show 64 + (T.getD i 0).toNat - 64 = (T.getD i 0).toNat by omega, a1]

theorem quant_last (l : List UInt8) (pad : Int) (bs T : List UInt8) (m q : Nat) (ht : Txt64 l pad bs T m) (hq : 4 * q ≤ m) (hqN : 4 * q < T.length) (hqN4 : T.length ≤ 4 * q + 4) (hlen : bs.length ≤ 1000) (g b0 c bd n1 c1 Nd : Nat) (F : Nat → Value) (w : World) (hE : E64At w g l pad) (hN : T.length ≤ c)
    (hT : ∀ i, i < T.length → w.cell? ⟨b0, i, none⟩ = some (B (T.getD i 0))) (hW : Wr w bd Nd F) (hF : ∀ j, j < 3 * q → F j = B (bs.getD j 0)) (hNd : bs.length ≤ Nd) (hn1 : bs.length ≤ 3 * q + n1) (hgd : g ≠ bd) (hbd : b0 ≠ bd) :
    bs.length ≤ 3 * q + 3 ∧ 3 * q ≤ bs.length ∧ Calls Tryz.prog 273 #[.pointer (some ⟨g, 0, none⟩), .slice (some ⟨bd, 3 * q, none⟩) n1 c1, .slice (some ⟨b0, 0, none⟩) T.length c, .int .i64 ((4 * q : Nat) : Int)] w fun r w' =>
      r = .returned (.tuple #[.int .i64 ((T.length : Nat) : Int), .int .i64 ((bs.length - 3 * q : Nat) : Int), .nilIface]) ∧ (∃ G : Nat → Value, (∀ j, j < bs.length → G j = B (bs.getD j 0)) ∧ Wr w' bd Nd G) ∧ w.grownBy w' (some bd) := by
  have hm := ht.m_eq
  have hp := ht.pads
  have key : ∀ kb : Nat, bs.length = 3 * q + kb → ∀ r : Ending, ∀ w' : World, r = .returned (.tuple #[.int .i64 ((T.length : Nat) : Int), .int .i64 (kb : Int), .nilIface]) ∧ (∃ G : Nat → Value, (∀ j, j < 3 * q → G j = F j) ∧ (∀ k, k < kb → G (3 * q + k) = B (bs.getD (3 * q + k) 0)) ∧ Wr w' bd Nd G) ∧ w.grownBy w' (some bd) →
      r = .returned (.tuple #[.int .i64 ((T.length : Nat) : Int), .int .i64 ((bs.length - 3 * q : Nat) : Int), .nilIface]) ∧ (∃ G : Nat → Value, (∀ j, j < bs.length → G j = B (bs.getD j 0)) ∧ Wr w' bd Nd G) ∧ w.grownBy w' (some bd) := by
    rintro kb hkb r w' ⟨rfl, ⟨G, h1, h2, h3⟩, h4⟩
    refine ⟨by rw [show bs.length - 3 * q = kb by omega], ⟨G, fun j hj => ?_, h3⟩, h4⟩
    by_cases h : j < 3 * q
    · rw [h1 j h, hF j h]
    · have := h2 (j - 3 * q) (by omega)
      rwa [show 3 * q + (j - 3 * q) = j by omega] at this
  by_cases h4 : 4 * q + 4 ≤ m
  · have hge : m ≤ T.length := by rcases hp with ⟨_, h⟩ | ⟨_, h⟩ <;> omega
    have hTl : T.length = 4 * q + 4 := by omega
    refine ⟨by omega, by omega, ?_⟩
    have := quant4_ok l pad bs T m q ht h4 hlen g b0 c bd n1 c1 Nd F w hE hN hT hW (by omega) (by omega) hgd hbd
    refine this.mono fun r w' h => key 3 (by omega) r w' ?_
    rw [hTl]
    exact h
  · by_cases h3 : 4 * q + 3 = m
    · refine ⟨by omega, by omega, ?_⟩
      rcases hp with hp | hp
      · exact (quant3r_ok l pad bs T m q ht h3 hp.1 hlen g b0 c bd n1 c1 Nd F w hE hN hT hW (by omega) (by omega) hgd hbd).mono fun r w' h => key 2 (by omega) r w' h
      · exact (quant3p_ok l pad bs T m q ht h3 hp.1 hlen g b0 c bd n1 c1 Nd F w hE hN hT hW (by omega) (by omega) hgd hbd).mono fun r w' h => key 2 (by omega) r w' h
    · have hne : m ≠ 4 * q := by
        intro h
        rcases hp with ⟨_, hp⟩ | ⟨_, hp⟩ <;> omega
      have h2 : 4 * q + 2 = m := by clear hp; omega
      refine ⟨by omega, by omega, ?_⟩
      rcases hp with hp | hp
      · exact (quant2r_ok l pad bs T m q ht h2 hp.1 hlen g b0 c bd n1 c1 Nd F w hE hN hT hW (by omega) (by omega) hgd hbd).mono fun r w' h => key 1 (by omega) r w' h
      · exact (quant2p_ok l pad bs T m q ht h2 hp.1 hlen g b0 c bd n1 c1 Nd F w hE hN hT hW (by omega) (by omega) hgd hbd).mono fun r w' h => key 1 (by omega) r w' h

set_option maxHeartbeats 16000000 in
set_option maxRecDepth 100000 in
theorem b64core_ok (l : List UInt8) (pad : Int) (bs T : List UInt8) (m : Nat) (ht : Txt64 l pad bs T m) (hlen : bs.length ≤ 1000) (hpos : 0 < bs.length) (g b0 c bd nd : Nat) (w : World) (hE : E64At w g l pad) (hN : T.length ≤ c)
    (hnd : (pad = -1 ∧ nd = T.length / 4 * 3 + T.length % 4 * 6 / 8) ∨ (pad = 61 ∧ nd = T.length / 4 * 3)) (F0 : Nat → Value)
    (hT : ∀ i, i < T.length → w.cell? ⟨b0, i, none⟩ = some (B (T.getD i 0))) (hW : Wr w bd nd F0) (hgd : g ≠ bd) (hbd : b0 ≠ bd) :
    Calls Tryz.prog 213 #[.pointer (some ⟨g, 0, none⟩), .slice (some ⟨bd, 0, none⟩) nd nd, .slice (some ⟨b0, 0, none⟩) T.length c] w fun r w' =>
      r = .returned (.tuple #[.int .i64 (bs.length : Int), .nilIface]) ∧ (∃ G : Nat → Value, (∀ j, j < bs.length → G j = B (bs.getD j 0)) ∧ Wr w' bd nd G) ∧ w.grownBy w' (some bd) := by
  have HT := Lib.hid ht
  obtain ⟨N, hNe⟩ : ∃ N, N = T.length := ⟨_, rfl⟩
  obtain ⟨len, hl⟩ : ∃ len, len = bs.length := ⟨_, rfl⟩
  have hm := ht.m_eq
  have hp := ht.pads
  rw [← hNe] at hN hT hnd hp ⊢
  rw [← hl] at hm hlen hpos ⊢
  have hb : m ≤ N ∧ N ≤ 3000 ∧ 2 ≤ m ∧ len ≤ nd ∧ nd ≤ 3000 := by omega
  have hb8 : ∀ q, 4 * q + 8 ≤ N → 3 * q + 8 ≤ nd → 4 * q + 8 ≤ m := fun q h1 h2 => by omega
  have hb4 : ∀ q, 4 * q + 4 ≤ N → 3 * q + 4 ≤ nd → 4 * q + 4 ≤ m := fun q h1 h2 => by omega
  have hb3 : ∀ q, 4 * q + 4 ≤ m → 3 * q + 3 ≤ nd ∧ 3 * q + 3 ≤ len := fun q h1 => by omega
  have hend : ∀ q, 4 * q ≤ m → N ≤ 4 * q → len = 3 * q := fun q h1 h2 => by omega
  have hlast : ∀ q, 4 * q ≤ m → 4 * q < N → (4 * q + 4 ≤ m ∨ (∃ e, (e = 2 ∨ e = 3) ∧ 4 * q + e = m ∧ len = 3 * q + (e - 1) ∧ ((pad = -1 ∧ N = m) ∨ (pad = 61 ∧ N = 4 * q + 4)))) := fun q h1 h2 => by
    by_cases h : 4 * q + 4 ≤ m
    · exact .inl h
    · exact .inr ⟨m - 4 * q, by omega, by omega, by omega, by omega⟩
  have hq3 : ∀ q, 4 * q ≤ m → 3 * q ≤ len := fun q h1 => by omega
  have hN4 : ∀ q, 4 * q ≤ m → (N < 4 * q + 4 ∨ nd < 3 * q + 4) → N ≤ 4 * q + 4 := fun q h1 h2 => by
    rcases hp with ⟨hp1, hp2⟩ | ⟨hp1, hp2⟩
    · rcases hnd with ⟨_, hn2⟩ | ⟨h3, _⟩
      · omega
      · omega
    · rcases hnd with ⟨h3, _⟩ | ⟨_, hn2⟩
      · omega
      · omega
  have HN4 := Lib.hid hN4
  have HB := Lib.hid (And.intro hb8 (And.intro hb4 (And.intro hb3 (And.intro hend (And.intro hlast hq3)))))
  have HN := Lib.hid (And.intro hNe hl)
  have HE := Lib.hid hE
  have HTT := Lib.hid hT
  have HER := Lib.hid hE.row
  have hst : Hid (∃ F : Nat → Value, (∀ j, j < 3 * 0 → F j = B (bs.getD j 0)) ∧ Wr w bd nd F ∧ w.grownBy w (some bd)) := Lib.hid ⟨F0, fun j hj => by omega, hW, grown_refl _ _⟩
  have hN0 : ((N : Int) == 0) = false := by rw [beq_eq_false_iff_ne]; omega
  clear hNe hl hm hp hnd hE hT hW ht hb8 hb4 hb3 hend hlast hq3 hN4
  go_enter Tryz.func213, Tryz.ntmps213
  go_wp2_with (refine wpList_load_at rfl 208 _ rfl g 64 rfl ((List.range 256).map fun j => e64F l (emap l 64) _ (64 + j)) HER.out _ Tryz.underlying208 rfl (by rw [List.length_map, List.length_range]; exact info_256) ?_; intro X HX)
  go_loopg [6, 7, 8] (N + 1) (fun gk s6 s7 s8 wx => s7 = .nilIface ∧ ∃ q : Nat, s6 = .int .i64 ((3 * q : Nat) : Int) ∧ s8 = .int .i64 ((4 * q : Nat) : Int) ∧ 4 * q ≤ m ∧ gk = N + 1 - 4 * q ∧ Hid (∃ F : Nat → Value, (∀ j, j < 3 * q → F j = B (bs.getD j 0)) ∧ Wr wx bd nd F ∧ w.grownBy wx (some bd)))
  case atStart => exact ⟨rfl, 0, rfl, rfl, by omega, rfl, hst⟩
  case round =>
    obtain ⟨rfl, q, rfl, rfl, hq, hgk, HH⟩ := hrel
    obtain ⟨n, hn⟩ : ∃ n, n = 3 * q := ⟨_, rfl⟩
    obtain ⟨si, hsi⟩ : ∃ si, si = 4 * q := ⟨_, rfl⟩
    rw [← hn, ← hsi]
    by_cases hc8 : si + 8 ≤ N ∧ n + 8 ≤ nd
    · as_aux_lemma =>
      have hm8 : si + 8 ≤ m := by have := HB.out.1 q (by omega) (by omega); omega
      obtain ⟨F, hF, hwF, hgF⟩ := HH.out
      have hE2 : E64At wr g l pad := HE.out.grown (by decide) hgF (by intro h; injection h with h; exact hgd h)
      have hT2 : ∀ i, i < T.length → wr.cell? ⟨b0, i, none⟩ = some (B (T.getD i 0)) := fun i hi => by
        have h1 := HTT.out i (by rw [HN.out.1]; exact hi)
        rw [World.cell?_of_block (w := w) (a := ⟨b0, i, none⟩) (hgF.block b0 (block_lt_of_cell h1) (by intro h; injection h with h; exact hbd h))]
        exact h1
      obtain ⟨c0, ct0, cm0, cI0, dd0⟩ := HT.out.here hE2 hT2 (si) (by omega)
      obtain ⟨c1, ct1, cm1, cI1, dd1⟩ := HT.out.here hE2 hT2 (si + 1) (by omega)
      obtain ⟨c2, ct2, cm2, cI2, dd2⟩ := HT.out.here hE2 hT2 (si + 2) (by omega)
      obtain ⟨c3, ct3, cm3, cI3, dd3⟩ := HT.out.here hE2 hT2 (si + 3) (by omega)
      obtain ⟨c4, ct4, cm4, cI4, dd4⟩ := HT.out.here hE2 hT2 (si + 4) (by omega)
      obtain ⟨c5, ct5, cm5, cI5, dd5⟩ := HT.out.here hE2 hT2 (si + 5) (by omega)
      obtain ⟨c6, ct6, cm6, cI6, dd6⟩ := HT.out.here hE2 hT2 (si + 6) (by omega)
      obtain ⟨c7, ct7, cm7, cI7, dd7⟩ := HT.out.here hE2 hT2 (si + 7) (by omega)
      have hba := back6 bs q
      rw [← hn, ← hsi] at hba
      have hbb := back6 bs (q + 1)
      rw [show 4 * (q + 1) = si + 4 by omega, show 3 * (q + 1) = n + 3 by omega] at hbb
      simp only [Nat.add_assoc, Nat.reduceAdd] at hbb
      generalize d6 bs si = x0 at cm0 dd0 hba
      generalize d6 bs (si + 1) = x1 at cm1 dd1 hba
      generalize d6 bs (si + 2) = x2 at cm2 dd2 hba
      generalize d6 bs (si + 3) = x3 at cm3 dd3 hba
      generalize d6 bs (si + 4) = x4 at cm4 dd4 hbb
      generalize d6 bs (si + 5) = x5 at cm5 dd5 hbb
      generalize d6 bs (si + 6) = x6 at cm6 dd6 hbb
      generalize d6 bs (si + 7) = x7 at cm7 dd7 hbb
      have yb0 := xb_lt bs (n)
      have yb1 := xb_lt bs (n + 1)
      have yb2 := xb_lt bs (n + 2)
      have yb3 := xb_lt bs (n + 3)
      have yb4 := xb_lt bs (n + 4)
      have yb5 := xb_lt bs (n + 5)
      have HBK := Lib.hid (And.intro hba hbb)
      have HF := Lib.hid (And.intro hF (And.intro hwF hgF))
      have hsiI : (8 : Int) ≤ (N : Int) - (si : Int) := by omega
      have hnI : (8 : Int) ≤ (nd : Int) - (n : Int) := by omega
      have HQ := Lib.hid (And.intro hn hsi)
      clear hba hbb hF hwF hgF hE2 hT2 hn hsi
      go_wp2
      refine wp_region_still_lit (by kernel_rfl) (by kernel_rfl) ?_
      repeat still_step
      have HAS := Lib.hid (fun w => assemble64_ok (x0 : Int) x1 x2 x3 x4 x5 x6 x7 (by omega) (by omega) (by omega) (by omega) (by omega) (by omega) (by omega) (by omega) (by omega) (by omega) (by omega) (by omega) (by omega) (by omega) (by omega) (by omega) w)
      still_call ((HAS.out _).mono fun _ _ h => ⟨h.1, h.2.symm⟩)
      repeat still_step
      refine wpStill_nil ?_
      change Exit.then _ _ _ _ wr.drew
      have hdE : Ext wr wr.drew := Ext.drew (Ext.refl wr)
      have HF2 := Lib.hid (And.intro HF.out.1 (And.intro (hdE.wr HF.out.2.1) (grown_ext HF.out.2.2 hdE)))
      obtain ⟨V, hV⟩ : ∃ V : Int, V = (((x0 : Int) * 262144 + x1 * 4096 + x2 * 64 + x3) * 16777216 + ((x4 : Int) * 262144 + x5 * 4096 + x6 * 64 + x7)) * 65536 := ⟨_, rfl⟩
      rw [← hV]
      have hput := fun k c' (hk : 8 ≤ k) => bePut64_ok (xb bs n) (xb bs (n + 1)) (xb bs (n + 2)) (xb bs (n + 3)) (xb bs (n + 4)) (xb bs (n + 5)) yb0 yb1 yb2 yb3 yb4 yb5 V (by have h1 := HBK.out.1; have h2 := HBK.out.2; omega) bd n k c' nd F hk wr.drew HF2.out.2.1 (by omega)
      have HPUT := Lib.hid hput
      clear hput hV HAS ct0 ct1 ct2 ct3 ct4 ct5 ct6 ct7 cm0 cm1 cm2 cm3 cm4 cm5 cm6 cm7 yb0 yb1 yb2 yb3 yb4 yb5 hdE
      generalize wr.drew = wd at HF2 HPUT
      go_wp2_with (fail)
      refine (HPUT.out _ _ (by omega)).mono ?_
      rintro e w2 ⟨rfl, ⟨G, gl, g0, g1, g2, g3, g4, g5, hwG⟩, hgG⟩
      have HN2 : Hid (∃ F : Nat → Value, (∀ j, j < 3 * (q + 2) → F j = B (bs.getD j 0)) ∧ Wr w2 bd nd F ∧ w.grownBy w2 (some bd)) := Lib.hid ⟨G, fun j hj => by
        by_cases h : j < n
        · rw [gl j h]; exact HF2.out.1 j (by have := HQ.out; omega)
        · have h2 : j = n ∨ j = n + 1 ∨ j = n + 2 ∨ j = n + 3 ∨ j = n + 4 ∨ j = n + 5 := by have := HQ.out; omega
          rcases h2 with rfl | rfl | rfl | rfl | rfl | rfl
          · exact g0
          · exact g1
          · exact g2
          · exact g3
          · exact g4
          · exact g5, hwG, HF2.out.2.2.trans hgG⟩
      clear gl g0 g1 g2 g3 g4 g5 hwG hgG
      go_wp2_with (fail)
      go_roundg (N + 1 - 4 * (q + 2))
      case measure => have := HQ.out; omega
      case rel => exact ⟨rfl, q + 2, by have := HQ.out; go_num, by have := HQ.out; go_num, by have := HQ.out; omega, rfl, HN2⟩
    · have hcc : (N : Int) - (si : Int) < 8 ∨ ((8 : Int) ≤ (N : Int) - (si : Int) ∧ (nd : Int) - (n : Int) < 8) := by omega
      have hqq : n ≤ nd := by have := HB.out.2.2.2.2.2 q hq; omega
      have HQ := Lib.hid (And.intro hn hsi)
      have hsm : si ≤ m := by omega
      clear hc8 hn hsi hq
      rcases hcc with hcc | hcc
      all_goals
        go_wp2
        go_loopg [6, 7, 8] (N + 1 - si) (fun gk s6 s7 s8 wx => s7 = .nilIface ∧ ∃ q : Nat, s6 = .int .i64 ((3 * q : Nat) : Int) ∧ s8 = .int .i64 ((4 * q : Nat) : Int) ∧ 4 * q ≤ m ∧ gk = N + 1 - 4 * q ∧ Hid (∃ F : Nat → Value, (∀ j, j < 3 * q → F j = B (bs.getD j 0)) ∧ Wr wx bd nd F ∧ w.grownBy wx (some bd)))
        case atStart => exact ⟨rfl, q, by rw [HQ.out.1], by rw [HQ.out.2], by have := HQ.out; omega, by have := HQ.out; omega, HH⟩
        case round =>
          clear hcc hqq HH hsm HQ hgk
          obtain ⟨rfl, q, rfl, rfl, hq, hgk, HH⟩ := hrel
          obtain ⟨n, hn⟩ : ∃ n, n = 3 * q := ⟨_, rfl⟩
          obtain ⟨si, hsi⟩ : ∃ si, si = 4 * q := ⟨_, rfl⟩
          rw [← hn, ← hsi]
          by_cases hc4 : si + 4 ≤ N ∧ n + 4 ≤ nd
          · as_aux_lemma =>
              have hm4 : si + 4 ≤ m := by have := HB.out.2.1 q (by omega) (by omega); omega
              obtain ⟨F, hF, hwF, hgF⟩ := HH.out
              have hE2 : E64At wr g l pad := HE.out.grown (by decide) hgF (by intro h; injection h with h; exact hgd h)
              have hT2 : ∀ i, i < T.length → wr.cell? ⟨b0, i, none⟩ = some (B (T.getD i 0)) := fun i hi => by
                have h1 := HTT.out i (by rw [HN.out.1]; exact hi)
                rw [World.cell?_of_block (w := w) (a := ⟨b0, i, none⟩) (hgF.block b0 (block_lt_of_cell h1) (by intro h; injection h with h; exact hbd h))]
                exact h1
              obtain ⟨c0, ct0, cm0, cI0, dd0⟩ := HT.out.here hE2 hT2 (si) (by omega)
              obtain ⟨c1, ct1, cm1, cI1, dd1⟩ := HT.out.here hE2 hT2 (si + 1) (by omega)
              obtain ⟨c2, ct2, cm2, cI2, dd2⟩ := HT.out.here hE2 hT2 (si + 2) (by omega)
              obtain ⟨c3, ct3, cm3, cI3, dd3⟩ := HT.out.here hE2 hT2 (si + 3) (by omega)
              have hba := back6 bs q
              rw [← hn, ← hsi] at hba
              generalize d6 bs si = x0 at cm0 dd0 hba
              generalize d6 bs (si + 1) = x1 at cm1 dd1 hba
              generalize d6 bs (si + 2) = x2 at cm2 dd2 hba
              generalize d6 bs (si + 3) = x3 at cm3 dd3 hba
              have yb0 := xb_lt bs (n)
              have yb1 := xb_lt bs (n + 1)
              have yb2 := xb_lt bs (n + 2)
              have HBK := Lib.hid (hba)
              have HF := Lib.hid (And.intro hF (And.intro hwF hgF))
              have hsiI : (4 : Int) ≤ (N : Int) - (si : Int) := by omega
              have hnI : (4 : Int) ≤ (nd : Int) - (n : Int) := by omega
              have HQ := Lib.hid (And.intro hn hsi)
              clear hba  hF hwF hgF hE2 hT2 hn hsi
              go_wp2
              refine wp_region_still_lit (by kernel_rfl) (by kernel_rfl) ?_
              repeat still_step
              have HAS := Lib.hid (fun w => assemble32_ok (x0 : Int) x1 x2 x3 (by omega) (by omega) (by omega) (by omega) (by omega) (by omega) (by omega) (by omega) w)
              still_call ((HAS.out _).mono fun _ _ h => ⟨h.1, h.2.symm⟩)
              repeat still_step
              refine wpStill_nil ?_
              change Exit.then _ _ _ _ wr.drew
              have hdE : Ext wr wr.drew := Ext.drew (Ext.refl wr)
              have HF2 := Lib.hid (And.intro HF.out.1 (And.intro (hdE.wr HF.out.2.1) (grown_ext HF.out.2.2 hdE)))
              obtain ⟨V, hV⟩ : ∃ V : Int, V = ((x0 : Int) * 262144 + x1 * 4096 + x2 * 64 + x3) * 256 := ⟨_, rfl⟩
              rw [← hV]
              have hput := fun k c' (hk : 4 ≤ k) => bePut32_ok (xb bs n) (xb bs (n + 1)) (xb bs (n + 2)) yb0 yb1 yb2 V (by have h1 := HBK.out; omega) bd n k c' nd F hk wr.drew HF2.out.2.1 (by omega)
              have HPUT := Lib.hid hput
              clear hput hV HAS ct0 ct1 ct2 ct3 cm0 cm1 cm2 cm3 yb0 yb1 yb2 hdE
              generalize wr.drew = wd at HF2 HPUT
              go_wp2_with (fail)
              refine (HPUT.out _ _ (by omega)).mono ?_
              rintro e w2 ⟨rfl, ⟨G, gl, g0, g1, g2, hwG⟩, hgG⟩
              have HN2 : Hid (∃ F : Nat → Value, (∀ j, j < 3 * (q + 1) → F j = B (bs.getD j 0)) ∧ Wr w2 bd nd F ∧ w.grownBy w2 (some bd)) := Lib.hid ⟨G, fun j hj => by
                by_cases h : j < n
                · rw [gl j h]; exact HF2.out.1 j (by have := HQ.out; omega)
                · have h2 : j = n ∨ j = n + 1 ∨ j = n + 2 := by have := HQ.out; omega
                  rcases h2 with rfl | rfl | rfl
                  · exact g0
                  · exact g1
                  · exact g2, hwG, HF2.out.2.2.trans hgG⟩
              clear gl g0 g1 g2 hwG hgG
              go_wp2_with (fail)
              go_roundg (N + 1 - 4 * (q + 1))
              case measure => have := HQ.out; omega
              case rel => exact ⟨rfl, q + 1, by have := HQ.out; go_num, by have := HQ.out; go_num, by have := HQ.out; omega, rfl, HN2⟩
          · have hcc : (N : Int) - (si : Int) < 4 ∨ ((4 : Int) ≤ (N : Int) - (si : Int) ∧ (nd : Int) - (n : Int) < 4) := by omega
            have hqq : n ≤ nd := by have := HB.out.2.2.2.2.2 q hq; omega
            have hN4 : N ≤ si + 4 := by have := HN4.out q hq; omega
            have HQ := Lib.hid (And.intro hn hsi)
            have hsm : si ≤ m := by omega
            obtain ⟨F, hF, hwF, hgF⟩ := HH.out
            have hE2 : E64At wr g l pad := HE.out.grown (by decide) hgF (by intro h; injection h with h; exact hgd h)
            have hT2 : ∀ i, i < T.length → wr.cell? ⟨b0, i, none⟩ = some (B (T.getD i 0)) := fun i hi => by
              have h1 := HTT.out i (by rw [HN.out.1]; exact hi)
              rw [World.cell?_of_block (w := w) (a := ⟨b0, i, none⟩) (hgF.block b0 (block_lt_of_cell h1) (by intro h; injection h with h; exact hbd h))]
              exact h1
            have hql : si < N → len ≤ n + 3 ∧ n < len ∧ ∀ n1 c1, len ≤ n + n1 → Calls Tryz.prog 273 #[.pointer (some ⟨g, 0, none⟩), .slice (some ⟨bd, n, none⟩) n1 c1, .slice (some ⟨b0, 0, none⟩) N c, .int .i64 (si : Int)] wr fun r w' =>
                r = .returned (.tuple #[.int .i64 (N : Int), .int .i64 ((len - n : Nat) : Int), .nilIface]) ∧ (∃ G : Nat → Value, (∀ j, j < len → G j = B (bs.getD j 0)) ∧ Wr w' bd nd G) ∧ wr.grownBy w' (some bd) := fun hs => by
              have hlt := HB.out.2.2.2.2.1 q hq (by omega)
              have h3 := HB.out.2.2.1 q
              have hq3 := HB.out.2.2.2.2.2 q hq
              have := fun n1 c1 (hn1 : len ≤ n + n1) => quant_last l pad bs T m q HT.out hq (by rw [← HN.out.1]; omega) (by rw [← HN.out.1]; omega) (by rw [← HN.out.2]; exact hlen) g b0 c bd n1 c1 nd F wr hE2 (by rw [← HN.out.1]; exact hN) hT2 hwF hF (by rw [← HN.out.2]; exact hb.2.2.2.1) (by rw [← HN.out.2, ← hn]; exact hn1) hgd hbd
              rw [← HN.out.1, ← HN.out.2, ← hn, ← hsi] at this
              refine ⟨(this len len (by omega)).1, ?_, fun n1 c1 hn1 => (this n1 c1 hn1).2.2⟩
              rcases hlt with h | ⟨e, he, h5, h6, -⟩
              · have := (h3 h).2; omega
              · omega
            have hse : ¬ si < N → len = n := fun hs => by rw [hn]; exact HB.out.2.2.2.1 q hq (by omega)
            have HQL := Lib.hid (And.intro hql hse)
            clear hc4 hn hsi hq hF hwF hgF hE2 hT2 hql hse
            rcases hcc with hcc | hcc
            all_goals
              as_aux_lemma =>
                go_wp2
                obtain ⟨ws, hws⟩ : ∃ ws, ws = wr := ⟨_, rfl⟩
                subst hws
                go_loopg [6, 7, 8] (if si < N then 2 else 1) (fun gk s6 s7 s8 wx => s7 = .nilIface ∧ ∃ (a b : Nat), s6 = .int .i64 (a : Int) ∧ s8 = .int .i64 (b : Int) ∧ ((gk = 2 ∧ a = n ∧ b = si ∧ si < N ∧ ws = wx) ∨ (gk = 1 ∧ a = len ∧ b = N ∧ Hid (∃ F : Nat → Value, (∀ j, j < len → F j = B (bs.getD j 0)) ∧ Wr wx bd nd F ∧ w.grownBy wx (some bd)))))
                case atStart =>
                  by_cases hs : si < N
                  · exact ⟨rfl, n, si, rfl, rfl, .inl ⟨if_pos hs, rfl, rfl, hs, rfl⟩⟩
                  · have hle := HQL.out.2 hs
                    refine ⟨rfl, n, si, rfl, rfl, .inr ⟨if_neg hs, hle.symm, by omega, Lib.hid ?_⟩⟩
                    rw [hle, HQ.out.1]
                    exact HH.out
                case round =>
                  obtain ⟨rfl, a, b, rfl, rfl, hab⟩ := hrel
                  rcases hab with ⟨rfl, rfl, rfl, hsN, rfl⟩ | ⟨rfl, rfl, rfl, HM⟩
                  · obtain ⟨hl3, hnl, hq4⟩ := HQL.out.1 hsN
                    have HC := Lib.hid (hq4 (nd - a) (nd - a) (by omega))
                    have hbI : (b : Int) < (N : Int) := by omega
                    have haI : (a : Int) < (nd : Int) := by omega
                    have had : a < nd := by omega
                    clear hcc
                    go_wp2_with (fail)
                    refine HC.out.mono ?_
                    rintro r w2 ⟨rfl, hG, hgG⟩
                    have HM2 : Hid (∃ F : Nat → Value, (∀ j, j < len → F j = B (bs.getD j 0)) ∧ Wr w2 bd nd F ∧ w.grownBy w2 (some bd)) := Lib.hid (by
                      obtain ⟨G, k1, k2⟩ := hG
                      obtain ⟨F, -, -, k3⟩ := HH.out
                      exact ⟨G, k1, k2, k3.trans hgG⟩)
                    clear hG hgG
                    have hsum : (a : Int) + ((len - a : Nat) : Int) = (len : Int) := by omega
                    have hlb : ((len - a : Nat) : Int) ≤ 3 := by omega
                    go_wp2_with (fail)
                    go_roundg 1
                    case measure => omega
                    case rel => exact ⟨rfl, len, N, by first | rfl | (congr 1; omega), rfl, .inr ⟨rfl, rfl, rfl, HM2⟩⟩
                  · have hNN : ¬ ((b : Int) < (b : Int)) := by omega
                    clear hcc
                    go_wp2_with (fail)
                    go_ret2
                    obtain ⟨F, h1, h2, h3⟩ := HM.out
                    exact ⟨rfl, ⟨F, h1, h2⟩, h3⟩
end Go.Proofs.YtchlkclpikdbjaaGreatDoor
namespace Go.Proofs.YtchlkclpikdbjaaGreatDoor
set_option linter.unusedVariables false
set_option linter.unusedSimpArgs false
open Go.RowKit Go.Sort

theorem decodedLen_ok (pad : Int) (hp : pad = -1 ∨ pad = 61) (n : Nat) (hn : n ≤ 3000) (w : World) : Calls Tryz.prog 270 #[.int .i64 (n : Int), .int .i32 pad] w fun e w' => e = .returned (.int .i64 (((if pad = -1 then n / 4 * 3 + n % 4 * 6 / 8 else n / 4 * 3) : Nat) : Int)) ∧ w = w' := by
  rcases hp with rfl | rfl
  all_goals
    go_enter Tryz.func270, Tryz.ntmps270
    go_wp2
    go_ret
    refine ⟨ret_int ?_, rfl⟩
    simp
theorem decodedLenM_ok (l : List UInt8) (pad : Int) (hp : pad = -1 ∨ pad = 61) (n : Nat) (hn : n ≤ 3000) (g : Nat) (w : World) (hE : E64At w g l pad) : Calls Tryz.prog 212 #[.pointer (some ⟨g, 0, none⟩), .int .i64 (n : Int)] w fun e w' => e = .returned (.int .i64 (((if pad = -1 then n / 4 * 3 + n % 4 * 6 / 8 else n / 4 * 3) : Nat) : Int)) ∧ w = w' := by
  have hcp : w.cell? ⟨g, 320, none⟩ = some (.int .i32 pad) := (hE 320 (by decide)).1
  have HC := Lib.hid (fun w => decodedLen_ok pad hp n hn w)
  generalize (if pad = -1 then n / 4 * 3 + n % 4 * 6 / 8 else n / 4 * 3) = z at HC ⊢
  clear hE hp hn
  go_enter Tryz.func212, Tryz.ntmps212
  go_wp2_with (fail)
  refine (HC.out _).mono ?_
  rintro e w1 ⟨rfl, rfl⟩
  go_wp2_with (fail)
  go_ret
  exact ⟨rfl, rfl⟩

set_option maxRecDepth 100000 in
theorem b64Decode_ok (l : List UInt8) (pad : Int) (bs T : List UInt8) (m : Nat) (ht : Txt64 l pad bs T m) (hlen : bs.length ≤ 1000) (hpos : 0 < bs.length) (g : Nat) (w : World) (hE : E64At w g l pad) :
    Calls Tryz.prog 173 #[.pointer (some ⟨g, 0, none⟩), .string ⟨T.toArray⟩] w fun e w' =>
      ∃ v, e = .returned (.tuple #[v, .nilIface]) ∧ By w' bs v ∧ Ext w w' := by
  have hpads := ht.pads
  have hm := ht.m_eq
  have hpc : pad = -1 ∨ pad = 61 := by rcases hpads with h | h <;> simp [h.1]
  have hgw : g < w.heap.size := block_lt_of_cell (hE 0 (by decide)).1
  have hTm : m ≤ T.length ∧ T.length ≤ m + 3 := by rcases hpads with ⟨_, h⟩ | ⟨_, h⟩ <;> omega
  obtain ⟨nd, hnd⟩ : ∃ nd, nd = (if pad = -1 then T.length / 4 * 3 + T.length % 4 * 6 / 8 else T.length / 4 * 3) := ⟨_, rfl⟩
  have hnd2 : (pad = -1 ∧ nd = T.length / 4 * 3 + T.length % 4 * 6 / 8) ∨ (pad = 61 ∧ nd = T.length / 4 * 3) := by
    rcases hpc with h | h <;> simp [hnd, h]
  have hndb : bs.length ≤ nd ∧ nd ≤ 3000 := by
    rcases hnd2 with ⟨h1, h2⟩ | ⟨h1, h2⟩ <;> rcases hpads with ⟨h3, h4⟩ | ⟨h3, h4⟩ <;> omega
  have hnd0 : 0 < nd := by omega
  have HDL := Lib.hid (decodedLenM_ok l pad hpc T.length (by omega) g w hE)
  rw [← hnd] at HDL
  have HCC := Lib.hid (fun b0 c bd w hE hN F hT hW hgd hbd => b64core_ok l pad bs T m ht hlen hpos g b0 c bd nd w hE hN hnd2 F hT hW hgd hbd)
  have HEN := Lib.hid hE
  obtain ⟨S, hS⟩ : ∃ S : ByteArray, S = ⟨T.toArray⟩ := ⟨_, rfl⟩
  rw [← hS]
  have hSz : S.size = T.length := by rw [Lib.size_eq, hS]
  have HS := Lib.hid hS
  obtain ⟨len, hl⟩ : ∃ len, len = bs.length := ⟨_, rfl⟩
  rw [← hl] at HCC hndb
  have HL := Lib.hid hl
  obtain ⟨N, hN⟩ : ∃ N, N = T.length := ⟨_, rfl⟩
  rw [← hN] at HCC hSz HDL
  have HN := Lib.hid hN
  obtain ⟨i0, hi, hz0, hz1, hz2⟩ := info_parts info_u8
  have b2 : i0.bytes * nd ≤ 281474976710656 := by rw [hz2]; omega
  have b3 : nd ≤ maxLen := by unfold maxLen; omega
  clear hE hS ht hlen hl hN hpads hm hpc hTm hnd hnd2
  go_enter Tryz.func173, Tryz.ntmps173
  go_wp2_with (fail)
  refine HDL.out.mono ?_
  rintro e w0 ⟨rfl, rfl⟩
  go_wp2_with (first
    | (refine wpList_make_full _ rfl _ _ 22 rfl w.heap.size 5 i0 (.int .u8 0) 1 Tryz.underlying22 hi hz0 hz1 _ _ _ _ nd rfl rfl rfl rfl b2 b3 (Nat.le_refl _) ?_; intro w1 hown hgr; have HO1 := Lib.hid (And.intro (wr_made hown rfl rfl) (below_of_grown hgr)); clear hown hgr)
    | (refine wpList_bytes rfl _ rfl S rfl ?_; intro c w2 hc hr he _hsz; have HR := Lib.hid (And.intro hr he); clear hr he))
  have hlt1 : w.heap.size < w1.heap.size := block_lt_of_cell (HO1.out.1 0 (by omega)).1
  have HCA := Lib.hid (HCC.out w1.heap.size c w.heap.size w2 ((HO1.out.2.trans HR.out.2).wr HEN.out) (by omega) (fun _ => .int .u8 0) (fun i hi => by
    have := HR.out.1 i (B (T.getD i 0)) (by
      rw [HS.out]
      show (T.map B)[i]? = _
      rw [map_at T (by rw [← HN.out]; exact hi)])
    rw [Nat.zero_add] at this
    exact this) (HR.out.2.wr HO1.out.1) (by omega) (by omega))
  clear HCC
  refine HCA.out.mono ?_
  rintro e w3 ⟨rfl, hF, hgr⟩
  have HF := Lib.hid (And.intro hF hgr)
  clear hF hgr
  have hln : (len : Int) ≤ (nd : Int) := by omega
  have hlnN : len ≤ nd := by omega
  go_wp2_with (fail)
  go_ret2
  obtain ⟨G, hG1, hG2⟩ := HF.out.1
  refine ⟨_, rfl, ?_, below_grown (HO1.out.2.trans HR.out.2) (HO1.out.2.trans HR.out.2).size HF.out.2 (fun k hk => by injection hk with hk; omega)⟩
  have := hG2.by bs (by rw [← HL.out]; exact hlnN) nd (by rw [← HL.out]; exact hlnN) (fun i hi => by rw [hG1 i (by rw [HL.out]; exact hi), getD_lt _ _ hi])
  rw [← HL.out] at this
  exact this
end Go.Proofs.YtchlkclpikdbjaaGreatDoor
