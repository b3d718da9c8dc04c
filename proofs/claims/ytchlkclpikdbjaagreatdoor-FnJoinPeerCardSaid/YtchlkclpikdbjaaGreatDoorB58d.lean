/-
  Texts of base 58 read back.
-/
import Derived.Test.YtchlkclpikdbjaaGreatDoorAlph
import Derived.Test.YtchlkclpikdbjaaGreatDoorB36
namespace Go.Proofs.YtchlkclpikdbjaaGreatDoor
set_option linter.unusedVariables false
set_option linter.unusedSimpArgs false
open Go.RowKit Go.Sort

theorem and_none (x y j : Nat) (hx : x < 2 ^ j) : x &&& (y * 2 ^ j) = 0 := by
  apply Nat.eq_of_testBit_eq
  intro i
  rw [Nat.testBit_and, Nat.zero_testBit, Nat.testBit_mul_two_pow]
  by_cases h : j ≤ i
  · rw [Nat.testBit_lt_two_pow (Nat.lt_of_lt_of_le hx (Nat.pow_le_pow_right (by decide) h))]; simp
  · simp [h]
theorem mask58 (r x : Nat) (hr : 1 ≤ r ∧ r ≤ 4) (hx : x < 256 ^ r) (h32 : x < 4294967296) : bits .and .u32 (x : Int) (4294967295 * 2 ^ (r * 8) % 4294967296) = 0 := by
  have hw : ∀ n : Int, 0 ≤ n → n < 2 ^ 32 → IntKind.u32.wrap n = n := fun n h0 h1 => by rw [IntKind.wrap_u32]; omega
  have h : r = 1 ∨ r = 2 ∨ r = 3 ∨ r = 4 := by omega
  rcases h with rfl | rfl | rfl | rfl
  · have := (bits_nat .u32 32 (by decide) hw x (16777215 * 2 ^ 8) (by omega) (by decide)).1
    rw [and_none x 16777215 8 (by omega)] at this
    simpa using this
  · have := (bits_nat .u32 32 (by decide) hw x (65535 * 2 ^ 16) (by omega) (by decide)).1
    rw [and_none x 65535 16 (by omega)] at this
    simpa using this
  · have := (bits_nat .u32 32 (by decide) hw x (255 * 2 ^ 24) (by omega) (by decide)).1
    rw [and_none x 255 24 (by omega)] at this
    simpa using this
  · have := (bits_nat .u32 32 (by decide) hw x 0 (by omega) (by decide)).1
    simpa using this

set_option maxHeartbeats 2000000 in
set_option maxRecDepth 100000 in
theorem b58Decode_ok (b : Nat) (hb : b ∈ [122, 90]) (bs : List UInt8) (hlen : bs.length ≤ 1000) (hz : leadZ bs < bs.length) (g0 : Nat) (w : World) (hA : AlphAt w g0 (charsL b)) : Calls Tryz.prog 285 #[.string ⟨(numText (charsL b) 58 bs).toArray⟩, .pointer (some ⟨g0, 0, none⟩)] w fun e w' =>
    ∃ v, e = .returned (.tuple #[v, .nilIface]) ∧ By w' bs v ∧ Ext w w' := by
  obtain ⟨ds, hds⟩ : ∃ ds, ds = allDigs 58 bs := ⟨_, rfl⟩
  obtain ⟨T, hT⟩ : ∃ T : List UInt8, T = ds.map fun d => (charsL b).getD d 0 := ⟨_, rfl⟩
  rw [numText_eq, ← hds, ← hT]
  have hlt : ∀ d ∈ ds, d < 58 := by rw [hds]; exact allDigs_lt (by decide) bs
  obtain ⟨hs1, hs2⟩ := allDigs_stop (K := 58) (by decide) bs hz
  have hs0 := allDigs_zero 58 bs
  rw [← hds] at hs1 hs2 hs0
  have hL9 : ds.length ≤ 9000 := by
    have := numText_len (charsL b) (K := 58) (by decide) bs
    rw [numText_eq, List.length_map, ← hds] at this; omega
  obtain ⟨L, hL⟩ : ∃ L, L = ds.length := ⟨_, rfl⟩
  have hTL : T.length = L := by rw [hT, List.length_map, hL]
  have hfacts : ∀ i, i < L → ∃ c : Nat, T.getD i 0 = UInt8.ofNat c ∧ c < 128 ∧ amap (charsL b) 58 c = (ds.getD i 0 : Int) ∧ ds.getD i 0 < 58 ∧ (c = 49 ↔ ds.getD i 0 = 0) := by
    intro i hi
    have hi' : i < ds.length := by rw [← hL]; exact hi
    have h2 : ds.getD i 0 < 58 := by rw [getD_lt _ _ hi']; exact hlt _ (List.getElem_mem hi')
    have h1 : T.getD i 0 = (charsL b).getD (ds.getD i 0) 0 := by
      rw [hT, getD_lt _ _ (by rw [List.length_map]; exact hi'), List.getElem_map, getD_lt _ _ hi']
    obtain ⟨a1, a2, a3⟩ := amap_at b hb ⟨_, h2⟩
    refine ⟨((charsL b).getD (ds.getD i 0) 0).toNat, by rw [h1]; simp, a2, a1, h2, ?_⟩
    rw [← a3]
    constructor
    · intro h; apply UInt8.toNat.inj; rw [h]; rfl
    · intro h; rw [h]; rfl
  have h7 : ∀ x ∈ T, x.toNat < 128 := by
    intro x hx
    obtain ⟨i, hi, rfl⟩ := List.mem_iff_getElem.1 hx
    obtain ⟨c, h1, h2, -⟩ := hfacts i (by rw [← hTL]; exact hi)
    rw [getD_lt _ _ hi] at h1
    rw [h1]; simp; omega
  obtain ⟨z, hzz⟩ : ∃ z, z = leadZ bs := ⟨_, rfl⟩
  rw [← hzz] at hs1 hs2 hs0
  rw [← hL] at hs1 hL9
  have h0 : (charsL b).getD 0 0 = 49 := by
    have := (amap_at b hb 0).2.2.2 rfl
    exact this
  obtain ⟨S, hS⟩ : ∃ S : ByteArray, S = ⟨T.toArray⟩ := ⟨_, rfl⟩
  rw [← hS]
  have hSz : S.size = L := by rw [Lib.size_eq, hS]; exact hTL
  have hca : w.cell? ⟨g0, 128, none⟩ = some (.int .u8 49) := by
    rw [(hA 128 (by decide)).1]
    simp only [alphF, if_neg (show ¬ 128 < 128 by decide), Nat.sub_self, h0]
    rfl
  have HF := Lib.hid hfacts
  have HS0 := Lib.hid hs0
  have HS2 := Lib.hid hs2
  have HZ := Lib.hid hzz
  have HDS := Lib.hid hds
  have HLT := Lib.hid hlt
  have HLL := Lib.hid hL
  have HA := Lib.hid hA
  have HT := Lib.hid (And.intro hTL (And.intro h7 (congrArg Value.string hS)))
  obtain ⟨i0, hi, hz0, hz1, hz2⟩ := info_parts info_u8
  obtain ⟨i4, hi4, hz4, hz5, hz6⟩ := info_parts info_u32
  obtain ⟨n, hn⟩ : ∃ n, n = (L + 3) / 4 := ⟨_, rfl⟩
  obtain ⟨m, hm⟩ : ∃ m, m = (L + 3) * 3 := ⟨_, rfl⟩
  have hnI : ((n : Nat) : Int) = ((L : Int) + 3) / 4 := by omega
  have hmI : ((m : Nat) : Int) = ((L : Int) + 3) * 3 := by omega
  have hmL : L ≤ m ∧ m ≤ 30000 := by omega
  have hnL : L ≤ 4 * n ∧ 4 * n ≤ L + 3 ∧ 1 ≤ n := by omega
  have b2 : i0.bytes * m ≤ 281474976710656 := by rw [hz2]; omega
  have b3 : m ≤ maxLen := by unfold maxLen; omega
  have b4 : i4.bytes * n ≤ 281474976710656 := by rw [hz6]; omega
  have b5 : n ≤ maxLen := by unfold maxLen; omega
  have HNM := Lib.hid (And.intro hnI hmI)
  have hlI : 0 < (L : Int) := by omega
  clear hfacts hS hT hTL hlt hds hL hs0 hs2 hzz hn hm hnI hmI hlen h7 hA h0
  have hL4 : (L : Int) % 4 = 0 ∨ 0 < (L : Int) % 4 := by omega
  rcases hL4 with hL4 | hL4
  all_goals
   go_enter Tryz.func285, Tryz.ntmps285
   go_wp2_with (first
     | (refine wpList_runes rfl _ rfl T (by first | exact HT.out.2.2) HT.out.2.1 (by rw [HT.out.1]; omega) ?_; intro c1 w1 hc1 hr1 he1 hs1; rw [HT.out.1] at hc1 ⊢; have HR1 := Lib.hid hr1; have HE1 := Lib.hid he1; clear hr1 he1 hs1)
     | (refine wpList_make_full _ rfl _ _ 22 rfl w1.heap.size 5 i0 (.int .u8 0) 1 Tryz.underlying22 hi hz0 hz1 _ _ _ _ m rfl rfl HNM.out.2.symm HNM.out.2.symm b2 b3 (Nat.le_refl _) ?_; intro w2 hown hgr; have HO1 := Lib.hid hown; have HG1 := Lib.hid hgr; have hca2 := (HE1.out.trans (below_of_grown hgr)).cell hca; clear hown hgr)
     | (refine wpList_make_full _ rfl _ _ 229 rfl w2.heap.size 213 i4 (.int .u32 0) 1 Tryz.underlying229 hi4 hz4 hz5 _ _ _ _ n rfl rfl HNM.out.1.symm HNM.out.1.symm b4 b5 (Nat.le_refl _) ?_; intro w3 hown hgr; have HO2 := Lib.hid hown; have HG2 := Lib.hid hgr; clear hown hgr))
  have HBL := Lib.hid (trivial)
  have HM : Hid (∀ y : Nat, y < 256 ^ (L - 4 * (n - 1)) → y < 4294967296 → bits .and .u32 (y : Int) 0 = 0) := Lib.hid (fun y h1 h2 => by
      have e : L - 4 * (n - 1) = 4 := by omega
      rw [e] at h1
      have := mask58 4 y (by omega) h1 h2
      simpa using this)
  rotate_left
  obtain ⟨zm, hzm⟩ : ∃ zm : Int, zm = 4294967295 * 2 ^ (L % 4 * 8) % 4294967296 := ⟨_, rfl⟩
  have HM : Hid (∀ y : Nat, y < 256 ^ (L - 4 * (n - 1)) → y < 4294967296 → bits .and .u32 (y : Int) zm = 0) := Lib.hid (fun y h1 h2 => by
      have e : L - 4 * (n - 1) = L % 4 := by omega
      rw [e] at h1
      rw [hzm]
      exact mask58 (L % 4) y (by omega) h1 h2)
  rw [← hzm]
  obtain ⟨bl, hbl⟩ : ∃ bl : Nat, bl = L % 4 := ⟨_, rfl⟩
  have hbI : (L : Int) % 4 = (bl : Int) := by omega
  rw [hbI]
  have HBL := Lib.hid hbl
  clear hzm hbI hbl
  rotate_left
  all_goals
    have HL4 := Lib.hid hL4
    clear hL4
    have hW1 := wr_made HO1.out rfl rfl
    have hW2 := wr_made HO2.out rfl rfl
    have hE2 := below_of_grown HG1.out
    have hE3 := below_of_grown HG2.out
    have hlo : w.heap.size < w1.heap.size ∧ w1.heap.size < w2.heap.size ∧ w2.heap.size < w3.heap.size := ⟨HR1.out.lt (by intro h; have := congrArg List.length h; simp [HT.out.1] at this; omega), block_lt_of_cell (hW1 0 (by omega)).1, block_lt_of_cell (hW2 0 (by omega)).1⟩
    have hE13 : Ext w1 w3 := hE2.trans hE3
    have hstart : Hid (Wr w3 w1.heap.size m (fun _ => .int .u8 0) ∧ Words w3 w2.heap.size n 0 ∧ Ext w1 w3) := Lib.hid ⟨hE3.wr hW1, words_zero hW2, hE13⟩
    have hrune : ∀ w', Ext w1 w' → ∀ k, k < L → ∃ c : Nat, w'.cell? ⟨w.heap.size, k, none⟩ = some (.int .i32 (c : Int)) ∧ w'.cell? ⟨g0, c, none⟩ = some (.int .i8 (ds.getD k 0 : Int)) ∧ c < 128 ∧ ds.getD k 0 < 58 ∧ (c = 49 ↔ ds.getD k 0 = 0) := by
      intro w' he k hk
      obtain ⟨c, h1, h2, h3, h4, h5⟩ := HF.out k hk
      refine ⟨c, ?_, ?_, h2, h4, h5⟩
      · have := he.cell (HR1.out k (.int .i32 (c : Int)) (by
          rw [List.getElem?_map, List.getElem?_eq_getElem (by rw [HT.out.1]; exact hk), ← getD_lt _ 0 (by rw [HT.out.1]; exact hk), h1]
          simp; omega))
        rw [Nat.zero_add] at this
        exact this
      · have := ((HE1.out.trans he).wr HA.out c (by omega)).1
        rw [this]
        unfold alphF
        rw [if_pos h2, h3]
    have HRU := Lib.hid hrune
    have HLO := Lib.hid hlo
    clear hW1 hW2 hE2 hE3 hE13 hlo hrune HO1 HO2 HG1 HG2 hca hca2 b2 b3 b4 b5
    go_loopg [9, 17] (L + 1) (fun gk s9 s17 wx => w3 = wx ∧ ∃ i : Nat, s9 = .int .i64 (i : Int) ∧ s17 = .int .i64 (i : Int) ∧ i ≤ z ∧ gk = L + 1 - i)
    case atStart => exact ⟨rfl, 0, rfl, rfl, by omega, rfl⟩
    case round =>
      obtain ⟨rfl, i, rfl, rfl, hiz, hgk⟩ := hrel
      have hiL : i < L := by omega
      have hiI : (i : Int) < (L : Int) := by omega
      obtain ⟨c, hc1, hc2, hc3, hc4, hc5⟩ := HRU.out w3 hstart.out.2.2 i hiL
      by_cases hlt : i < z
      · have h49 : c = 49 := hc5.2 (HS0.out i hlt)
        subst h49
        clear hc2 hc5
        go_wp2
        go_roundg (L + 1 - (i + 1))
        case measure => omega
        case rel => exact ⟨rfl, i + 1, by go_num, by go_num, by omega, rfl⟩
      · obtain rfl : i = z := by omega
        have h49 : ((c : Int) == 49) = false := by
          rw [beq_eq_false_iff_ne]
          intro h
          exact HS2.out (hc5.1 (by exact_mod_cast h))
        clear hc2 hc5
        go_wp2
        clear hc1 hc3 hc4 h49
        go_loopg [75] (L + 1) (fun gk s75 wx => ∃ k : Nat, s75 = .int .i64 (k : Int) ∧ k ≤ L ∧ gk = L + 1 - k ∧ Hid (Wr wx w1.heap.size m (fun _ => .int .u8 0) ∧ Words wx w2.heap.size n (pv 58 (ds.take k)) ∧ Ext w1 wx))
        case atStart => exact ⟨0, rfl, by omega, rfl, hstart⟩
        case round =>
          obtain ⟨k, rfl, hk, hgk, HH⟩ := hrel
          by_cases hkL : k < L
          · have hkI : (k : Int) < (L : Int) := by omega
            obtain ⟨c, hc1, hc2, hc3, hc4, -⟩ := HRU.out _ HH.out.2.2 k hkL
            obtain ⟨di, hdi⟩ : ∃ di : Int, di = (ds.getD k 0 : Int) := ⟨_, rfl⟩
            rw [← hdi] at hc2
            have hd0 : 0 ≤ di := by omega
            have hd1 : di < 58 := by omega
            have hcI : (c : Int) < 128 := by omega
            have hdw : IntKind.u32.wrap di = di := by rw [IntKind.wrap_u32]; omega
            have HDI := Lib.hid hdi
            clear hdi hc4
            go_wp2
            obtain ⟨f, hf, hwf, hsv⟩ := HH.out.2.1
            have HF0 := Lib.hid hf
            have HSV := Lib.hid hsv
            have HWF := Lib.hid hwf
            clear hf hwf hsv hc1 hc2
            obtain ⟨ws, hws⟩ : ∃ ws, ws = wr := ⟨_, rfl⟩
            subst hws
            go_loopg [8, 20] (n + 1) (fun gk s8 s20 wx => ∃ (q : Nat) (ci : Int), s8 = .int .u32 ci ∧ s20 = .int .i64 (if q < n then ((n - 1 - q : Nat) : Int) else -1) ∧ q ≤ n ∧ gk = n + 1 - q ∧ 0 ≤ ci ∧ ci < 64 ∧ Hid (∃ (f' : Nat → Nat) (c : Nat), ci = (c : Int) ∧ c < 58 ∧ (∀ i, i < n - q → f' i = f i) ∧ (∀ i, i < n → f' i < 4294967296) ∧ Wr wx w2.heap.size n (fun i => .int .u32 (f' i : Int)) ∧ sufv f' n q + c * 4294967296 ^ q = sufv f n q * 58 + ds.getD k 0 ∧ ws.grownBy wx (some w2.heap.size)))
            case atStart => exact ⟨0, di, rfl, by rw [if_pos (by omega)]; go_num, by omega, rfl, hd0, by omega, Lib.hid ⟨f, ds.getD k 0, HDI.out, by have := HDI.out; omega, fun _ _ => rfl, HF0.out, HWF.out, by simp [sufv], grown_refl _ _⟩⟩
            case round =>
              obtain ⟨q, ci, rfl, rfl, hq, hgk2, hc0, hc1, HI⟩ := hrel
              by_cases hqn : q < n
              · rw [if_pos hqn]
                obtain ⟨f', cc, hci, hc36, hlow, hf', hw', hsum, hgr⟩ := HI.out
                obtain ⟨p, hp⟩ : ∃ p, p = n - 1 - q := ⟨_, rfl⟩
                have hpn : p < n := by omega
                have hpI : (p : Int) < (n : Int) := by omega
                obtain ⟨xi, hxi⟩ : ∃ xi : Int, xi = (f' p : Int) := ⟨_, rfl⟩
                have hcell := (hw' p hpn).1
                have hfro := (hw' p hpn).2
                simp only [] at hcell
                rw [← hxi] at hcell
                have hx0 : 0 ≤ xi := by omega
                have hx1 : xi < 4294967296 := by have := hf' p hpn; omega
                rw [← hp]
                have HP := Lib.hid hp
                have HX := Lib.hid hxi
                have hc58 : ci < 58 := by omega
                have hand : bits .and .u64 (xi * 58 + ci) 4294967295 = (xi * 58 + ci) % 4294967296 := by
                  have := bits_mask .u64 63 (by decide) (fun n h0 h1 => by rw [IntKind.wrap_u64]; omega) 32 (by decide) (xi * 58 + ci) (by omega) (by omega)
                  simpa using this
                have hand2 : bits .and .u32 ((xi * 58 + ci) / 4294967296) 63 = (xi * 58 + ci) / 4294967296 := by
                  have := bits_mask .u32 32 (by decide) (fun n h0 h1 => by rw [IntKind.wrap_u32]; omega) 6 (by decide) ((xi * 58 + ci) / 4294967296) (by omega) (by omega)
                  have e : (xi * 58 + ci) / 4294967296 % 2 ^ 6 = (xi * 58 + ci) / 4294967296 := by omega
                  rw [e] at this
                  simpa using this
                have HH2 := Lib.hid (And.intro hci (And.intro hc36 (And.intro hlow (And.intro hf' (And.intro hw' (And.intro hsum hgr))))))
                clear hp hxi hci hc36 hlow hf' hw' hsum hgr
                go_wp2
                go_roundg (n + 1 - (q + 1))
                case measure => omega
                case rel =>
                  obtain ⟨hci, hc36, hlow, hf', hw', hsum, hgr⟩ := HH2.out
                  have hp := HP.out
                  have hx := HX.out
                  have hV : (xi * 58 + ci) = ((f' p * 58 + cc : Nat) : Int) := by rw [hx, hci]; omega
                  have hstep := sufv_step (f := f) (f' := f') (n := n) (k := q) (K := 58) hqn (fun i hi => hlow i hi) hsum
                  rw [← hp] at hstep
                  have hq1 : (f' p * 58 + cc) / 4294967296 < 58 := by have := hf' p hpn; omega
                  refine ⟨q + 1, (xi * 58 + ci) / 4294967296, rfl, ?_, by omega, rfl, by omega, by omega, Lib.hid ⟨fun i => if i = p then (f' i * 58 + cc) % 4294967296 else f' i, (f' p * 58 + cc) / 4294967296, by rw [hV]; omega, hq1, ?_, ?_, ?_, hstep, grown_set hgr p _⟩⟩
                  · split <;> go_num
                  · intro i hi
                    simp only []
                    rw [if_neg (by omega)]
                    exact hlow i (by omega)
                  · intro i hi
                    simp only []
                    split
                    · exact Nat.mod_lt _ (by decide)
                    · exact hf' i hi
                  · refine (hw'.set p _).congr fun j hj => ?_
                    by_cases hjp : j = p
                    · subst hjp
                      simp only [if_pos, hV]
                      rw [Int.natCast_emod]
                      rfl
                    · simp only [if_neg hjp]
              · obtain rfl : q = n := by omega
                rw [if_neg hqn]
                obtain ⟨f', cc, hci, hc36, hlow, hf', hw', hsum, hgr⟩ := HI.out
                have hkl : k < ds.length := by rw [← HLL.out]; exact hkL
                rw [HSV.out, Nat.mul_comm (pv 58 (ds.take k)), ← pv_take hkl] at hsum
                obtain ⟨hcc, hval⟩ := carry_none hsum (pv_room (by decide) HLT.out (by omega) (by rw [← HLL.out]; exact hnL.1))
                obtain rfl : ci = 0 := by rw [hci, hcc]; rfl
                have htop : f' 0 < 256 ^ (L - 4 * (q - 1)) := by
                  refine top_word hf' hnL.2.2 ?_
                  rw [hval, show 4 * (q - 1) + (L - 4 * (q - 1)) = L by omega]
                  have := pv_small (K := 58) (by decide) HLT.out (i := k + 1) (by omega)
                  rwa [← HLL.out] at this
                have hmask := HM.out (f' 0) htop (hf' 0 (by omega))
                have hcell := (hw' 0 (by omega)).1
                simp only [] at hcell
                obtain ⟨yi, hyi⟩ : ∃ yi : Int, yi = (f' 0 : Int) := ⟨_, rfl⟩
                rw [← hyi] at hmask hcell
                have hn0 : 0 < (q : Int) := by omega
                have HH2 := Lib.hid (And.intro hf' (And.intro hw' (And.intro hval hgr)))
                clear hyi hci hc36 hlow hf' hw' hsum hval hgr htop hcc
                go_wp2
                go_roundg (L + 1 - (k + 1))
                case measure => omega
                case rel =>
                  obtain ⟨hf', hw', hval, hgr⟩ := HH2.out
                  obtain ⟨h1, -, h4⟩ := HH.out
                  have hlo := HLO.out
                  exact ⟨k + 1, by go_num, by omega, rfl, Lib.hid ⟨Wr.grown (w := ws) h1 (by omega) hgr (by intro h; injection h with h; omega), ⟨f', hf', hw', hval⟩, below_grown h4 h4.size hgr (fun j hj => by injection hj with hj; omega)⟩⟩
          · obtain rfl : k = L := by omega
            obtain ⟨f, hf, hwf, hsv⟩ := HH.out.2.1
            have hV : sufv f n n = val bs := by
              rw [hsv]
              have : ds.take k = ds := by rw [HLL.out]; exact List.take_length
              rw [this, HDS.out]; exact allDigs_pv (by decide) bs
            obtain ⟨wo, hwo⟩ : ∃ wo, wo = wr := ⟨_, rfl⟩
            subst hwo
            have hR0 : Hid (Wr wo w1.heap.size m (fun j => if j < 0 then B ((be (val bs) k).getD j 0) else .int .u8 0) ∧ Ext w1 wo ∧ wo.grownBy wo (some w1.heap.size)) := Lib.hid ⟨by simpa using HH.out.1, HH.out.2.2, grown_refl _ _⟩
            have HFF := Lib.hid (And.intro hf (And.intro hwf hV))
            have hwrap : IntKind.u8.wrap (-8) = 248 := by rw [IntKind.wrap_u8]; decide
            clear hf hwf hsv hV
            go_wp2
            go_loopg [14, 21, 22] (n + 1) (fun gk s14 s21 s22 wx => ∃ (j : Nat) (bi : Int), s14 = .int .i64 bi ∧ s21 = .int .i64 (j : Int) ∧ s22 = .int .i64 ((k - 4 * (n - j) : Nat) : Int) ∧ j ≤ n ∧ gk = n + 1 - j ∧ Hid (j < n → bi = (((k - 4 * (n - (j + 1))) - (k - 4 * (n - j)) : Nat) : Int)) ∧ Hid (Wr wx w1.heap.size m (fun t => if t < k - 4 * (n - j) then B ((be (val bs) k).getD t 0) else .int .u8 0) ∧ Ext w1 wx ∧ wo.grownBy wx (some w1.heap.size)))
            case atStart =>
              refine ⟨0, _, rfl, rfl, by rw [show k - 4 * (n - 0) = 0 by omega]; rfl, by omega, rfl, Lib.hid (fun h => ?_), Lib.hid ?_⟩
              · have h1 := HL4.out
                have h2 := HBL.out
                omega
              · rw [show k - 4 * (n - 0) = 0 by omega]; exact hR0.out
            case round =>
              obtain ⟨j, bi, rfl, rfl, rfl, hj, hgk2, HMK, HH2⟩ := hrel
              by_cases hjn : j < n
              · have hmk := HMK.out hjn
                obtain ⟨e, he⟩ : ∃ e, e = k - 4 * (n - (j + 1)) := ⟨_, rfl⟩
                obtain ⟨p0, hp0⟩ : ∃ p0, p0 = k - 4 * (n - j) := ⟨_, rfl⟩
                rw [← he, ← hp0] at hmk
                rw [← hp0] at HH2 ⊢
                have hpe : p0 < e ∧ e ≤ p0 + 4 ∧ e ≤ k := by omega
                have hek : e + 4 * (n - 1 - j) = k := by omega
                obtain ⟨bq, hbq⟩ : ∃ bq, bq = e - p0 := ⟨_, rfl⟩
                rw [← hbq] at hmk
                have hbq2 : 1 ≤ bq ∧ bq ≤ 4 := by omega
                have hj4 : 0 < j → bq = 4 := by omega
                subst hmk
                have hjI : (j : Int) < (n : Int) := by omega
                have HE := Lib.hid (And.intro hek (And.intro he (And.intro hp0 (And.intro hbq hj4))))
                clear HMK he hp0 hek hbq hj4
                go_wp2
                go_loopg [22, 23] (e + 1 - p0) (fun gk s22 s23 wx => ∃ i : Nat, s22 = .int .i64 (i : Int) ∧ i ≤ e ∧ p0 ≤ i ∧ s23 = .int .u8 (if i < e then 8 * ((e - 1 - i : Nat) : Int) else 248) ∧ gk = e + 1 - i ∧ Hid (Wr wx w1.heap.size m (fun t => if t < i then B ((be (val bs) k).getD t 0) else .int .u8 0) ∧ Ext w1 wx ∧ wo.grownBy wx (some w1.heap.size)))
                case atStart => exact ⟨p0, rfl, by omega, by omega, by rw [if_pos (by omega)]; have := HE.out.2.2.2.1; congr 1; omega, rfl, HH2⟩
                case round =>
                  obtain ⟨i2, rfl, hi2, hp2, rfl, hgk3, HH3⟩ := hrel
                  by_cases hie : i2 < e
                  · rw [if_pos hie]
                    have hlo := HLO.out
                    obtain ⟨hf, hwf, hV⟩ := HFF.out
                    obtain ⟨h1, h2, h3⟩ := HH3.out
                    have him : i2 < m := by omega
                    have himI : (i2 : Int) < (m : Int) := by omega
                    have hwc := hwf.grown (by omega) h3 (by intro h; injection h with h; omega)
                    obtain ⟨xi, hxi⟩ : ∃ xi : Int, xi = (f j : Int) := ⟨_, rfl⟩
                    have hcell : wr.cell? ⟨w2.heap.size, j, none⟩ = some (.int .u32 xi) := by rw [(hwc j hjn).1, hxi]
                    have hc0 : wr.cell? ⟨w1.heap.size, i2, none⟩ = some (.int .u8 0) := by rw [(h1 i2 him).1]; simp
                    have hf0 := (h1 i2 him).2
                    have hx0 : 0 ≤ xi := by omega
                    have hx1 : xi < 4294967296 := by have := hf j hjn; omega
                    have hbe : ∀ q, q < 4 → e - 1 - i2 = q → ((be (val bs) k).getD i2 0).toNat = f j / 2 ^ (8 * q) % 256 := fun q hq hq2 => be_at f n (val bs) k i2 j q hf hV hjn hq (by have := HE.out.1; omega)
                    have HBE := Lib.hid (And.intro hxi hbe)
                    have HH4 := Lib.hid (And.intro h1 (And.intro h2 h3))
                    have hmm : e - 1 - i2 = 0 ∨ e - 1 - i2 = 1 ∨ e - 1 - i2 = 2 ∨ e - 1 - i2 = 3 := by omega
                    clear hlo hf hwf hV h1 h2 h3 hwc hxi hbe HH3
                    rcases hmm with hmm | hmm | hmm | hmm
                    all_goals
                      rw [hmm]
                      have HMM := Lib.hid hmm
                      clear hmm
                      go_wp2
                      go_roundg (e + 1 - (i2 + 1))
                      case measure => omega
                      case rel =>
                        have hm := HMM.out
                        obtain ⟨h1, h2, h3⟩ := HH4.out
                        obtain ⟨hxi, hbe⟩ := HBE.out
                        have hb2 := hbe _ (by decide) hm
                        simp only [Nat.reduceMul, Nat.reducePow, Nat.div_one] at hb2
                        refine ⟨i2 + 1, by go_num, by omega, by omega, ?_, rfl, Lib.hid ⟨(h1.set i2 _).congr fun t ht => ?_, ext_setCell h2 (Nat.le_refl _) i2 _, grown_set h3 i2 _⟩⟩
                        · first
                          | rw [if_neg (by omega)]
                          | (rw [if_pos (by omega)]; congr 1 <;> omega)
                        · by_cases ht2 : t = i2
                          · subst ht2
                            simp only [if_pos, if_pos (Nat.lt_succ_self t)]
                            show Value.int .u8 _ = Value.int .u8 _
                            rw [hb2, hxi]
                            congr 1 <;> omega
                          · rw [if_neg ht2]
                            by_cases ht3 : t < i2
                            · rw [if_pos ht3, if_pos (by omega)]
                            · rw [if_neg ht3, if_neg (by omega)]
                  · obtain rfl : i2 = e := by omega
                    rw [if_neg hie]
                    go_wp2
                    all_goals
                      go_roundg (n + 1 - (j + 1))
                      case measure => omega
                      case rel =>
                        obtain ⟨hek, he, hp0, hbq, hj4⟩ := HE.out
                        refine ⟨j + 1, _, rfl, by go_num, by rw [← he], by omega, rfl, Lib.hid (fun h => ?_), by rw [← he]; exact HH3⟩
                        first
                        | omega
                        | (have h1 : ((j : Int) == 0) = false := by assumption
                           have h2 : j ≠ 0 := by
                             intro h0
                             rw [h0] at h1
                             exact absurd h1 (by decide)
                           have := hj4 (by omega)
                           omega)
              · obtain rfl : j = n := by omega
                have hjj : k - 4 * (j - j) = k := by omega
                rw [hjj] at HH2 ⊢
                obtain ⟨sh, hb1, hhd, hne, hdrop, hlen⟩ := digits_back (K := 58) (by decide) (by decide) bs hz
                rw [← HDS.out, ← HLL.out, ← HZ.out] at hb1
                rw [← HDS.out, ← HLL.out] at hdrop hlen
                rw [← HZ.out] at hhd hne
                have hbz : ∀ t, t < i + sh → (be (val bs) k).getD t 0 = 0 := fun t ht => by
                  rw [hb1, List.getD_eq_getElem?_getD, List.getElem?_append_left (by simpa using ht), List.getElem?_replicate, if_pos ht]; rfl
                have hbn : (be (val bs) k).getD (i + sh) 0 ≠ 0 := by
                  rw [hb1, List.getD_eq_getElem?_getD, List.getElem?_append_right (by simp)]
                  cases hc : bs.drop i with
                  | nil => exact absurd hc hne
                  | cons a r =>
                    rw [hc] at hhd
                    simp
                    intro e; apply hhd; rw [e]; rfl
                have hib : i + sh < k := by have := List.length_pos_iff.2 hne; rw [List.length_drop] at this; omega
                have HB := Lib.hid (And.intro hbz (And.intro hbn (And.intro hdrop hlen)))
                clear hbz hbn hdrop hlen hb1 hhd hne hjj HMK
                go_wp2
                go_loopg [162] (k + 1) (fun gk s162 wx => wr = wx ∧ ∃ t : Nat, s162 = .int .i64 (t : Int) ∧ t ≤ i + sh ∧ gk = k + 1 - t)
                case atStart => exact ⟨rfl, 0, rfl, by omega, rfl⟩
                case round =>
                  obtain ⟨rfl, t, rfl, hti, hgk3⟩ := hrel
                  obtain ⟨h1, h2, h3⟩ := HH2.out
                  have htk : t < k := by omega
                  have htm : t < m := by omega
                  have htI : (t : Int) < (m : Int) := by omega
                  have hc := (h1 t htm).1
                  simp only [if_pos htk] at hc
                  have HH5 := Lib.hid (And.intro h1 h2)
                  clear h1 h2 h3
                  by_cases hts : t < i + sh
                  · rw [HB.out.1 t hts] at hc
                    replace hc : wr.cell? ⟨w1.heap.size, t, none⟩ = some (.int .u8 0) := hc
                    go_wp2
                    go_roundg (k + 1 - (t + 1))
                    case measure => omega
                    case rel => exact ⟨rfl, t + 1, by go_num, by omega, rfl⟩
                  · obtain rfl : t = i + sh := by omega
                    have hpos : 0 < ((be (val bs) k).getD (i + sh) 0).toNat := by
                      rcases Nat.eq_zero_or_pos ((be (val bs) k).getD (i + sh) 0).toNat with h | h
                      · exact absurd (UInt8.toNat.inj (h.trans rfl)) HB.out.2.1
                      · exact h
                    generalize hxb : ((be (val bs) k).getD (i + sh) 0) = xb at hc hpos
                    have hposI : 0 < (xb.toNat : Int) := by omega
                    have hst : ((i + sh : Nat) : Int) - (i : Int) = (sh : Int) := by omega
                    clear hxb hpos
                    go_wp2
                    go_ret2
                    refine ⟨_, rfl, ?_, HE1.out.trans HH5.out.2⟩
                    obtain ⟨-, -, hdrop, hlen⟩ := HB.out
                    have e1 : i + sh - i = sh := by omega
                    have e2 : k - sh = bs.length := by omega
                    show By wr bs (.slice (some ⟨w1.heap.size, i + sh - i, none⟩) (k - (i + sh - i)) (m - (i + sh - i)))
                    rw [e1, e2]
                    refine By.of_row (fun q v hq => ?_) (by omega)
                    have hqb : q < bs.length := by have := (List.getElem?_eq_some_iff.1 hq).1; simpa using this
                    have hcell := (HH5.out.1 (sh + q) (by omega)).1
                    simp only [if_pos (show sh + q < k by omega)] at hcell
                    rw [hcell, ← hq, drop_cell hdrop (by rw [be_len]; omega)]
/-- DecodeAlphabet, the plain decoder of texts of base 58 -/
theorem b58DecodeA_ok (b : Nat) (hb : b ∈ [122, 90]) (bs : List UInt8) (hlen : bs.length ≤ 1000) (hz : leadZ bs < bs.length) (g0 : Nat) (w : World) (hA : AlphAt w g0 (charsL b)) : Calls Tryz.prog 225 #[.string ⟨(numText (charsL b) 58 bs).toArray⟩, .pointer (some ⟨g0, 0, none⟩)] w fun e w' =>
    ∃ v, e = .returned (.tuple #[v, .nilIface]) ∧ By w' bs v ∧ Ext w w' := by
  have HC := Lib.hid (b58Decode_ok b hb bs hlen hz g0 w hA)
  generalize (⟨(numText (charsL b) 58 bs).toArray⟩ : ByteArray) = S at HC
  clear hA hz hlen hb
  go_enter Tryz.func225, Tryz.ntmps225
  go_wp2_with (fail)
  refine HC.out.mono ?_
  rintro e w1 ⟨v, rfl, hv, he⟩
  go_wp2_with (fail)
  go_ret2
  exact ⟨v, rfl, hv, he⟩
theorem b58DecodeF_ok (bs : List UInt8) (hlen : bs.length ≤ 1000) (hz : leadZ bs < bs.length) (w : World) : Calls Tryz.prog 305 #[.string ⟨(numText (charsL 122) 58 bs).toArray⟩] w fun e w' =>
    ∃ v, e = .returned (.tuple #[v, .nilIface]) ∧ By w' bs v ∧ Ext w w' := by
  have HC := Lib.hid (fun g0 w hA => b58Decode_ok 122 (by decide) bs hlen hz g0 w hA)
  generalize (⟨(numText (charsL 122) 58 bs).toArray⟩ : ByteArray) = S at HC
  clear hz hlen
  go_enter Tryz.func305, Tryz.ntmps305
  go_wp2_with (fail)
  refine (btc_ok _).mono ?_
  rintro e w1 ⟨g, rfl, ha, he⟩
  have HA := Lib.hid ha
  clear ha
  go_wp2_with (fail)
  refine (HC.out _ _ HA.out).mono ?_
  rintro e w2 ⟨v, rfl, hv, he2⟩
  go_wp2_with (fail)
  go_ret2
  exact ⟨v, rfl, hv, he.trans he2⟩
theorem b58DecodeD_ok (bs : List UInt8) (hlen : bs.length ≤ 1000) (hz : leadZ bs < bs.length) (w : World) : Calls Tryz.prog 250 #[.string ⟨(numText (charsL 122) 58 bs).toArray⟩] w fun e w' =>
    ∃ v, e = .returned (.tuple #[v, .nilIface]) ∧ By w' bs v ∧ Ext w w' := by
  have HC := Lib.hid (fun w => b58DecodeF_ok bs hlen hz w)
  generalize (⟨(numText (charsL 122) 58 bs).toArray⟩ : ByteArray) = S at HC
  clear hz hlen
  go_enter Tryz.func250, Tryz.ntmps250
  go_wp2_with (fail)
  refine (HC.out _).mono ?_
  rintro e w1 ⟨v, rfl, hv, he⟩
  go_wp2_with (fail)
  go_ret2
  exact ⟨v, rfl, hv, he⟩
end Go.Proofs.YtchlkclpikdbjaaGreatDoor
