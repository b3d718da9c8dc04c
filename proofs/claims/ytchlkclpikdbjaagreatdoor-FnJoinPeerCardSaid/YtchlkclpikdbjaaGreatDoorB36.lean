/-
  Texts of base 36 read back.
-/
import Derived.Test.YtchlkclpikdbjaaGreatDoorDig
namespace Go.Proofs.YtchlkclpikdbjaaGreatDoor
set_option linter.unusedVariables false
set_option linter.unusedSimpArgs false
open Go.RowKit Go.Sort

/-- the digit that a character of base 36 stands for -/
def rev36 (c : Nat) : Nat := if 48 ≤ c ∧ c ≤ 57 then c - 48 else if 65 ≤ c ∧ c ≤ 90 then c - 55 else if 97 ≤ c ∧ c ≤ 122 then c - 87 else 36
theorem rev36_at : ∀ b ∈ [107, 75], ∀ d : Fin 36, rev36 ((charsL b).getD d.val 0).toNat = d.val ∧ ((charsL b).getD d.val 0).toNat ≤ 122 ∧ ((charsL b).getD d.val 0 = 48 ↔ d.val = 0) := by decide
theorem zzRev_ok (c : Nat) (hc : c ≤ 122) (w : World) : Calls Tryz.prog 284 #[.int .i32 (c : Int)] w fun e w' => e = .returned (.int .u8 (rev36 c : Int)) ∧ w = w' := by
  go_enter Tryz.func284, Tryz.ntmps284
  go_wp2
  all_goals
    go_ret
    refine ⟨ret_int ?_, rfl⟩
    unfold rev36
    repeat' split
    all_goals omega
theorem drop_cell {l bs : List UInt8} {s q : Nat} (h : l.drop s = bs) (hq : s + q < l.length) : (bs.map B)[q]? = some (B (l.getD (s + q) 0)) := by
  rw [← h, List.getElem?_map, List.getElem?_drop, List.getD_eq_getElem?_getD, List.getElem?_eq_getElem hq]; rfl
theorem info_u32 : (Tryz.prog.info? 213).map (fun i => (i.zero, i.size, i.bytes)) = some (some (.int .u32 0), 1, 4) := by kernel_rfl
/-- n words of a value -/
def Words (w : World) (b n V : Nat) : Prop := ∃ f : Nat → Nat, (∀ i, i < n → f i < 4294967296) ∧ Wr w b n (fun i => .int .u32 (f i : Int)) ∧ sufv f n n = V
theorem words_zero {w : World} {b n : Nat} (h : Wr w b n (fun _ => .int .u32 0)) : Words w b n 0 := ⟨fun _ => 0, fun _ _ => (by decide : 0 < 4294967296), h, sufv_zero n n⟩

set_option maxHeartbeats 1000000 in
set_option maxRecDepth 100000 in
theorem b36Decode_ok (b : Nat) (hb : b ∈ [107, 75]) (bs : List UInt8) (hlen : bs.length ≤ 1000) (hz : leadZ bs < bs.length) (w : World) : Calls Tryz.prog 224 #[.string ⟨(numText (charsL b) 36 bs).toArray⟩] w fun e w' =>
    ∃ v, e = .returned (.tuple #[v, .nilIface]) ∧ By w' bs v ∧ Ext w w' := by
  obtain ⟨ds, hds⟩ : ∃ ds, ds = allDigs 36 bs := ⟨_, rfl⟩
  obtain ⟨T, hT⟩ : ∃ T : List UInt8, T = ds.map fun d => (charsL b).getD d 0 := ⟨_, rfl⟩
  rw [numText_eq, ← hds, ← hT]
  have hlt : ∀ d ∈ ds, d < 36 := by rw [hds]; exact allDigs_lt (by decide) bs
  obtain ⟨hs1, hs2⟩ := allDigs_stop (K := 36) (by decide) bs hz
  have hs0 := allDigs_zero 36 bs
  rw [← hds] at hs1 hs2 hs0
  have hL9 : ds.length ≤ 9000 := by
    have := numText_len (charsL b) (K := 36) (by decide) bs
    rw [numText_eq, List.length_map, ← hds] at this; omega
  obtain ⟨L, hL⟩ : ∃ L, L = ds.length := ⟨_, rfl⟩
  have hTL : T.length = L := by rw [hT, List.length_map, hL]
  obtain ⟨S, hS⟩ : ∃ S : ByteArray, S = ⟨T.toArray⟩ := ⟨_, rfl⟩
  rw [← hS]
  have hSz : S.size = L := by rw [Lib.size_eq, hS]; exact hTL
  have hchar : ∀ i (hi : i < S.size), S[i] = (charsL b).getD (ds.getD i 0) 0 ∧ ds.getD i 0 < 36 := by
    intro i hi
    have hi' : i < ds.length := by rw [hSz, hL] at hi; exact hi
    refine ⟨?_, by rw [getD_lt _ _ hi']; exact hlt _ (List.getElem_mem hi')⟩
    rw [getElem_eq hS hi, hT, getD_lt _ _ (by rw [List.length_map]; exact hi'), List.getElem_map, getD_lt _ _ hi']
  have hfacts : ∀ i (hi : i < S.size), rev36 S[i].toNat = ds.getD i 0 ∧ S[i].toNat ≤ 122 ∧ (S[i] = 48 ↔ ds.getD i 0 = 0) := by
    intro i hi
    obtain ⟨h1, h2⟩ := hchar i hi
    rw [h1]
    exact rev36_at b hb ⟨_, h2⟩
  obtain ⟨z, hzz⟩ : ∃ z, z = leadZ bs := ⟨_, rfl⟩
  rw [← hzz] at hs1 hs2 hs0
  rw [← hL] at hs1 hL9
  have HF := Lib.hid hfacts
  have HS0 := Lib.hid hs0
  have HS2 := Lib.hid hs2
  have HZ := Lib.hid hzz
  have HDS := Lib.hid hds
  have HLT := Lib.hid hlt
  have HLL := Lib.hid hL
  obtain ⟨i0, hi, hz0, hz1, hz2⟩ := info_parts info_u8
  obtain ⟨i4, hi4, hz4, hz5, hz6⟩ := info_parts info_u32
  obtain ⟨n, hn⟩ : ∃ n, n = (L + 3) / 4 := ⟨_, rfl⟩
  obtain ⟨m, hm⟩ : ∃ m, m = 2 * (L * 179 / 277 + 1) := ⟨_, rfl⟩
  have hnI : ((n : Nat) : Int) = ((L : Int) + 3) / 4 := by omega
  have hmI : ((m : Nat) : Int) = 2 * ((L : Int) * 179 / 277 + 1) := by omega
  have hmL : L ≤ m ∧ m ≤ 20000 := by omega
  have hnL : L ≤ 4 * n ∧ 4 * n ≤ L + 3 ∧ 1 ≤ n := by omega
  have b2 : i0.bytes * m ≤ 281474976710656 := by rw [hz2]; omega
  have b3 : m ≤ maxLen := by unfold maxLen; omega
  have b4 : i4.bytes * n ≤ 281474976710656 := by rw [hz6]; omega
  have b5 : n ≤ maxLen := by unfold maxLen; omega
  have HNM := Lib.hid (And.intro hnI hmI)
  clear hfacts hchar hS hT hTL hlt hds hL hs0 hs2 hzz hn hm hnI hmI hlen
  go_enter Tryz.func224, Tryz.ntmps224
  go_wp2
  go_loopg [4] (L + 1) (fun gk s4 wx => w = wx ∧ ∃ i : Nat, s4 = .int .i64 (i : Int) ∧ i ≤ z ∧ gk = L + 1 - i)
  case atStart => exact ⟨rfl, 0, rfl, by omega, rfl⟩
  case round =>
    obtain ⟨rfl, i, rfl, hiz, hgk⟩ := hrel
    have hiL : i < L := by omega
    have hiI : (i : Int) < (L : Int) := by omega
    have hiS : i < S.size := by rw [hSz]; exact hiL
    have hf := (HF.out i hiS).2.2
    by_cases hlt : i < z
    · have h48 : S[i] = 48 := hf.2 (HS0.out i hlt)
      go_wp2
      go_roundg (L + 1 - (i + 1))
      case measure => omega
      case rel => exact ⟨rfl, i + 1, by go_num, by omega, rfl⟩
    · obtain rfl : i = z := by omega
      have h48 : ((S[i].toNat : Int) == 48) = false := by
        rw [beq_eq_false_iff_ne]
        intro h
        apply HS2.out
        apply hf.1
        apply UInt8.toNat.inj
        have : S[i].toNat = 48 := by exact_mod_cast h
        rw [this]; rfl
      clear hf
      go_wp2_with (first
        | (refine wpList_make_full _ rfl _ _ 22 rfl w.heap.size 5 i0 (.int .u8 0) 1 Tryz.underlying22 hi hz0 hz1 _ _ _ _ m rfl rfl HNM.out.2.symm HNM.out.2.symm b2 b3 (Nat.le_refl _) ?_; intro w1 hown hgr; have HO1 := Lib.hid hown; have HG1 := Lib.hid hgr; clear hown hgr)
        | (refine wpList_make_full _ rfl _ _ 229 rfl w1.heap.size 213 i4 (.int .u32 0) 1 Tryz.underlying229 hi4 hz4 hz5 _ _ _ _ n rfl rfl HNM.out.1.symm HNM.out.1.symm b4 b5 (Nat.le_refl _) ?_; intro w2 hown hgr; have HO2 := Lib.hid hown; have HG2 := Lib.hid hgr; clear hown hgr)
        | (refine wpList_rangeS rfl _ Tryz.underlying9 _ rfl S rfl ?_; intro w3 hit he3 hs3; have HI3 := Lib.hid hit; have HE3 := Lib.hid he3; have HS3 := Lib.hid hs3; clear hit he3 hs3))
      have hW1 := wr_made HO1.out rfl rfl
      have hW2 := wr_made HO2.out rfl rfl
      have hE1 := below_of_grown HG1.out
      have hE2 := below_of_grown HG2.out
      have hlo : w.heap.size < w1.heap.size ∧ w1.heap.size < w2.heap.size := ⟨block_lt_of_cell (hW1 0 (by omega)).1, block_lt_of_cell (hW2 0 (by omega)).1⟩
      have hstart : Hid (w3.heap[w2.heap.size]? = some (.stringIter S 0) ∧ Wr w3 w.heap.size m (fun _ => .int .u8 0) ∧ Words w3 w1.heap.size n 0 ∧ Ext w w3) := Lib.hid ⟨HI3.out, HE3.out.wr (hE2.wr hW1), words_zero (HE3.out.wr hW2), (hE1.trans hE2).trans HE3.out⟩
      have HLO := Lib.hid hlo
      clear hW1 hW2 hE1 hE2 HI3 HE3 HS3 HO1 HO2 HG1 HG2 hlo h48 b2 b3 b4 b5
      simp only [Act.put, List.setIfInBounds_toArray, List.set_cons_succ, List.set_cons_zero]
      go_loopg [8] (L + 1) (fun gk s8 wx => ∃ k : Nat, k ≤ L ∧ gk = L + 1 - k ∧ Hid (wx.heap[w2.heap.size]? = some (.stringIter S k) ∧ Wr wx w.heap.size m (fun _ => .int .u8 0) ∧ Words wx w1.heap.size n (pv 36 (ds.take k)) ∧ Ext w wx))
      case atStart => exact ⟨0, by omega, rfl, hstart⟩
      case round =>
        obtain ⟨k, hk, hgk, HH⟩ := hrel
        by_cases hkL : k < L
        · have hkS : k < S.size := by rw [hSz]; exact hkL
          obtain ⟨hf1, hf2, -⟩ := HF.out k hkS
          have h128 : S[k].toNat < 128 := by omega
          obtain ⟨di, hdi⟩ : ∃ di : Int, di = (ds.getD k 0 : Int) := ⟨_, rfl⟩
          have hdK : ds.getD k 0 < 36 := by have hk' : k < ds.length := by rw [← HLL.out]; exact hkL
                                            rw [getD_lt _ _ hk']; exact HLT.out _ (List.getElem_mem hk')
          have hd0 : 0 ≤ di := by omega
          have hd1 : di < 36 := by omega
          have hrv : ∀ w, Calls Tryz.prog 284 #[.int .i32 (S[k].toNat : Int)] w fun e w' => e = .returned (.int .u8 di) ∧ w = w' := fun w => by
            have := zzRev_ok S[k].toNat hf2 w
            rw [hf1, ← hdi] at this
            exact this
          have HRV := Lib.hid hrv
          have HDI := Lib.hid hdi
          have h122 : (S[k].toNat : Int) ≤ 122 := by omega
          have HIT := Lib.hid HH.out.1
          clear hrv hdi hf1 hdK hf2
          go_wp2_with (first
            | (refine wpList_next rfl _ rfl w2.heap.size rfl S k HIT.out hkS h128 ?_)
            | (go_at_call 284; refine (HRV.out _).mono ?_; rintro e w' ⟨rfl, rfl⟩))
          obtain ⟨f, hf, hwf, hsv⟩ := HH.out.2.2.1
          obtain ⟨ws, hws⟩ : ∃ ws, ws = stepped wr w2.heap.size S (k + 1) := ⟨_, rfl⟩
          have hwf2 : Wr ws w1.heap.size n (fun i => .int .u32 (f i : Int)) := by rw [hws]; exact hwf.stepped (by have := HLO.out; omega) S (k + 1)
          have HF0 := Lib.hid hf
          have HSV := Lib.hid hsv
          have HWS := Lib.hid hws
          have HWF := Lib.hid hwf2
          rw [← hws]
          clear hf hwf hsv hws hwf2 HRV h122 h128 HIT
          go_loopg [9, 10] (n + 1) (fun gk s9 s10 wx => ∃ (q : Nat) (ci : Int), s9 = .int .u64 ci ∧ s10 = .int .i64 (if q < n then ((n - 1 - q : Nat) : Int) else -1) ∧ q ≤ n ∧ gk = n + 1 - q ∧ 0 ≤ ci ∧ ci < 64 ∧ Hid (∃ (f' : Nat → Nat) (c : Nat), ci = (c : Int) ∧ c < 36 ∧ (∀ i, i < n - q → f' i = f i) ∧ (∀ i, i < n → f' i < 4294967296) ∧ Wr wx w1.heap.size n (fun i => .int .u32 (f' i : Int)) ∧ sufv f' n q + c * 4294967296 ^ q = sufv f n q * 36 + ds.getD k 0 ∧ ws.grownBy wx (some w1.heap.size)))
          case atStart => exact ⟨0, di, rfl, by rw [if_pos (by omega)]; go_num, by omega, rfl, hd0, by omega, Lib.hid ⟨f, ds.getD k 0, HDI.out, by have := HDI.out; omega, fun _ _ => rfl, HF0.out, HWF.out, by simp [sufv], grown_refl _ _⟩⟩
          case round =>
            obtain ⟨q, ci, rfl, rfl, hq, hgk2, hc0, hc1, HI⟩ := hrel
            by_cases hqn : q < n
            · rw [if_pos hqn]
              obtain ⟨f', c, hci, hc36, hlow, hf', hw', hsum, hgr⟩ := HI.out
              obtain ⟨p, hp⟩ : ∃ p, p = n - 1 - q := ⟨_, rfl⟩
              have hpn : p < n := by omega
              have hpI : (p : Int) < (n : Int) := by omega
              obtain ⟨xi, hxi⟩ : ∃ xi : Int, xi = (f' p : Int) := ⟨_, rfl⟩
              have hcell := (hw' p hpn).1
              have hfro := (hw' p hpn).2
              simp only [] at hcell
              rw [← hxi] at hcell
              have hx0 : 0 ≤ xi := by omega
              have hx1 : xi < 4294967296 := by have := hf' p hpn; omega
              rw [← hp]
              have HP := Lib.hid hp
              have HX := Lib.hid hxi
              have hand : bits .and .u64 (xi * 36 + ci) 4294967295 = (xi * 36 + ci) % 4294967296 := by
                have := bits_mask .u64 63 (by decide) (fun n h0 h1 => by rw [IntKind.wrap_u64]; omega) 32 (by decide) (xi * 36 + ci) (by omega) (by omega)
                simpa using this
              have HH2 := Lib.hid (And.intro hci (And.intro hc36 (And.intro hlow (And.intro hf' (And.intro hw' (And.intro hsum hgr))))))
              clear hp hxi hci hc36 hlow hf' hw' hsum hgr
              go_wp2
              go_roundg (n + 1 - (q + 1))
              case measure => omega
              case rel =>
                obtain ⟨hci, hc36, hlow, hf', hw', hsum, hgr⟩ := HH2.out
                have hp := HP.out
                have hx := HX.out
                have hV : (xi * 36 + ci) = ((f' p * 36 + c : Nat) : Int) := by rw [hx, hci]; omega
                have hstep := sufv_step (f := f) (f' := f') (n := n) (k := q) (K := 36) hqn (fun i hi => hlow i hi) hsum
                rw [← hp] at hstep
                have hq1 : (f' p * 36 + c) / 4294967296 < 36 := by have := hf' p hpn; omega
                refine ⟨q + 1, (xi * 36 + ci) / 4294967296, rfl, ?_, by omega, rfl, by omega, by omega, Lib.hid ⟨fun i => if i = p then (f' i * 36 + c) % 4294967296 else f' i, (f' p * 36 + c) / 4294967296, by rw [hV]; omega, hq1, ?_, ?_, ?_, hstep, grown_set hgr p _⟩⟩
                · split <;> go_num
                · intro i hi
                  simp only []
                  rw [if_neg (by omega)]
                  exact hlow i (by omega)
                · intro i hi
                  simp only []
                  split
                  · exact Nat.mod_lt _ (by decide)
                  · exact hf' i hi
                · refine (hw'.set p _).congr fun j hj => ?_
                  by_cases hjp : j = p
                  · subst hjp
                    simp only [if_pos, hV]
                    rw [Int.natCast_emod]
                    rfl
                  · simp only [if_neg hjp]
            · obtain rfl : q = n := by omega
              rw [if_neg hqn]
              go_wp2
              go_roundg (L + 1 - (k + 1))
              case measure => omega
              case rel =>
                obtain ⟨f', c, hci, hc36, hlow, hf', hw', hsum, hgr⟩ := HI.out
                have hkl : k < ds.length := by rw [← HLL.out]; exact hkL
                rw [HSV.out, Nat.mul_comm (pv 36 (ds.take k)), ← pv_take hkl] at hsum
                obtain ⟨-, hval⟩ := carry_none hsum (pv_room (by decide) HLT.out (by omega) (by rw [← HLL.out]; exact hnL.1))
                obtain ⟨h1, h2, -, h4⟩ := HH.out
                have hsE : Ext w ws := by rw [HWS.out]; exact stepped_ext h4 (by have := HLO.out; omega)
                have hsI : ws.heap[w2.heap.size]? = some (.stringIter S (k + 1)) := by rw [HWS.out]; exact stepped_same h1
                have hlo := HLO.out
                refine ⟨k + 1, by omega, rfl, Lib.hid ⟨?_, ?_, ⟨f', hf', hw', hval⟩, below_grown hsE hsE.size hgr (fun j hj => by injection hj with hj; omega)⟩⟩
                · rw [hgr.block _ (Array.getElem?_eq_some_iff.1 hsI).1 (by intro h; injection h with h; omega)]
                  exact hsI
                · refine Wr.grown (w := ws) ?_ (by omega) hgr (by intro h; injection h with h; omega)
                  rw [HWS.out]
                  exact h2.stepped (by omega) S (k + 1)
        · obtain rfl : k = L := by omega
          have hnS : ¬ k < S.size := by omega
          have HIT := Lib.hid HH.out.1
          obtain ⟨f, hf, hwf, hsv⟩ := HH.out.2.2.1
          have hV : sufv f n n = val bs := by
            rw [hsv]
            have : ds.take k = ds := by rw [HLL.out]; exact List.take_length
            rw [this, HDS.out]; exact allDigs_pv (by decide) bs
          have hR0 : Hid (Wr wr w.heap.size m (fun j => if j < 0 then B ((be (val bs) k).getD j 0) else .int .u8 0) ∧ Ext w wr ∧ wr.grownBy wr (some w.heap.size)) := Lib.hid ⟨by simpa using HH.out.2.1, HH.out.2.2.2, grown_refl _ _⟩
          have HFF := Lib.hid (And.intro hf (And.intro hwf hV))
          have hwrap : IntKind.u64.wrap (-8) = 18446744073709551608 := by rw [IntKind.wrap_u64]; decide
          clear hf hwf hsv hV
          have hr : k % 4 = 0 ∨ k % 4 = 1 ∨ k % 4 = 2 ∨ k % 4 = 3 := by omega
          rcases hr with hr | hr | hr | hr
          all_goals
            obtain ⟨wo, hwo⟩ : ∃ wo, wo = wr := ⟨_, rfl⟩
            subst hwo
            have hrI : (k : Int) % 4 = ((k % 4 : Nat) : Int) := by omega
            rw [hr] at hrI
            go_wp2_with (refine wpList_over rfl _ rfl w2.heap.size rfl S k HIT.out hnS ?_)
            clear hrI
            go_loopg [12, 13, 14] (n + 1) (fun gk s12 s13 s14 wx => ∃ (j : Nat) (mk : Int), s12 = .int .u64 mk ∧ s13 = .int .i64 ((k - 4 * (n - j) : Nat) : Int) ∧ s14 = .int .i64 (j : Int) ∧ j ≤ n ∧ gk = n + 1 - j ∧ Hid (j < n → mk = 8 * (((k - 4 * (n - (j + 1))) - 1 - (k - 4 * (n - j)) : Nat) : Int)) ∧ Hid (Wr wx w.heap.size m (fun t => if t < k - 4 * (n - j) then B ((be (val bs) k).getD t 0) else .int .u8 0) ∧ Ext w wx ∧ wo.grownBy wx (some w.heap.size)))
            case atStart =>
              refine ⟨0, _, rfl, by rw [show k - 4 * (n - 0) = 0 by omega]; rfl, rfl, by omega, rfl, Lib.hid (fun h => ?_), Lib.hid ?_⟩
              · omega
              · rw [show k - 4 * (n - 0) = 0 by omega]; exact hR0.out
            case round =>
              obtain ⟨j, mk, rfl, rfl, rfl, hj, hgk2, HMK, HH2⟩ := hrel
              by_cases hjn : j < n
              · have hmk := HMK.out hjn
                obtain ⟨e, he⟩ : ∃ e, e = k - 4 * (n - (j + 1)) := ⟨_, rfl⟩
                obtain ⟨p0, hp0⟩ : ∃ p0, p0 = k - 4 * (n - j) := ⟨_, rfl⟩
                rw [← he, ← hp0] at hmk
                rw [← hp0] at HH2 ⊢
                have hpe : p0 < e ∧ e ≤ p0 + 4 ∧ e ≤ k := by omega
                have hek : e + 4 * (n - 1 - j) = k := by omega
                have hmk2 : mk = 8 * ((e - 1 - p0 : Nat) : Int) := hmk
                subst hmk2
                have hjI : (j : Int) < (n : Int) := by omega
                have HE := Lib.hid (And.intro hek (And.intro he hp0))
                clear hmk HMK he hp0 hek
                go_wp2
                go_loopg [12, 13] (e + 1 - p0) (fun gk s12 s13 wx => ∃ i : Nat, s13 = .int .i64 (i : Int) ∧ i ≤ e ∧ p0 ≤ i ∧ s12 = .int .u64 (if i < e then 8 * ((e - 1 - i : Nat) : Int) else 18446744073709551608) ∧ gk = e + 1 - i ∧ Hid (Wr wx w.heap.size m (fun t => if t < i then B ((be (val bs) k).getD t 0) else .int .u8 0) ∧ Ext w wx ∧ wo.grownBy wx (some w.heap.size)))
                case atStart => exact ⟨p0, rfl, by omega, by omega, by rw [if_pos (by omega)], rfl, HH2⟩
                case round =>
                  obtain ⟨i2, rfl, hi2, hp2, rfl, hgk3, HH3⟩ := hrel
                  by_cases hie : i2 < e
                  · rw [if_pos hie]
                    have hlo := HLO.out
                    obtain ⟨hf, hwf, hV⟩ := HFF.out
                    obtain ⟨h1, h2, h3⟩ := HH3.out
                    have him : i2 < m := by omega
                    have himI : (i2 : Int) < (m : Int) := by omega
                    have hwc := hwf.grown (by omega) h3 (by intro h; injection h with h; omega)
                    obtain ⟨xi, hxi⟩ : ∃ xi : Int, xi = (f j : Int) := ⟨_, rfl⟩
                    have hcell : wr.cell? ⟨w1.heap.size, j, none⟩ = some (.int .u32 xi) := by rw [(hwc j hjn).1, hxi]
                    have hc0 : wr.cell? ⟨w.heap.size, i2, none⟩ = some (.int .u8 0) := by rw [(h1 i2 him).1]; simp
                    have hf0 := (h1 i2 him).2
                    have hx0 : 0 ≤ xi := by omega
                    have hx1 : xi < 4294967296 := by have := hf j hjn; omega
                    have hbe : ∀ q, q < 4 → e - 1 - i2 = q → ((be (val bs) k).getD i2 0).toNat = f j / 2 ^ (8 * q) % 256 := fun q hq hq2 => be_at f n (val bs) k i2 j q hf hV hjn hq (by have := HE.out.1; omega)
                    have HBE := Lib.hid (And.intro hxi hbe)
                    have HH4 := Lib.hid (And.intro h1 (And.intro h2 h3))
                    have hmm : e - 1 - i2 = 0 ∨ e - 1 - i2 = 1 ∨ e - 1 - i2 = 2 ∨ e - 1 - i2 = 3 := by omega
                    clear hlo hf hwf hV h1 h2 h3 hwc hxi hbe HH3
                    rcases hmm with hmm | hmm | hmm | hmm
                    all_goals
                      rw [hmm]
                      have HMM := Lib.hid hmm
                      clear hmm
                      go_wp2
                      go_roundg (e + 1 - (i2 + 1))
                      case measure => omega
                      case rel =>
                        have hm := HMM.out
                        obtain ⟨h1, h2, h3⟩ := HH4.out
                        obtain ⟨hxi, hbe⟩ := HBE.out
                        have hb2 := hbe _ (by decide) hm
                        simp only [Nat.reduceMul, Nat.reducePow, Nat.div_one] at hb2
                        refine ⟨i2 + 1, by go_num, by omega, by omega, ?_, rfl, Lib.hid ⟨(h1.set i2 _).congr fun t ht => ?_, ext_setCell h2 (Nat.le_refl _) i2 _, grown_set h3 i2 _⟩⟩
                        · first
                          | rw [if_neg (by omega)]
                          | (rw [if_pos (by omega)]; congr 1 <;> omega)
                        · by_cases ht2 : t = i2
                          · subst ht2
                            simp only [if_pos, if_pos (Nat.lt_succ_self t)]
                            show Value.int .u8 _ = Value.int .u8 _
                            rw [hb2, hxi]
                            congr 1 <;> omega
                          · rw [if_neg ht2]
                            by_cases ht3 : t < i2
                            · rw [if_pos ht3, if_pos (by omega)]
                            · rw [if_neg ht3, if_neg (by omega)]
                  · obtain rfl : i2 = e := by omega
                    rw [if_neg hie]
                    go_wp2
                    go_roundg (n + 1 - (j + 1))
                    case measure => omega
                    case rel =>
                      obtain ⟨hek, he, hp0⟩ := HE.out
                      refine ⟨j + 1, 24, rfl, by rw [← he], by go_num, by omega, rfl, Lib.hid (fun h => by omega), ?_⟩
                      rw [← he]
                      exact HH3
              · obtain rfl : j = n := by omega
                have hjj : k - 4 * (j - j) = k := by omega
                rw [hjj] at HH2 ⊢
                obtain ⟨sh, hb1, hhd, hne, hdrop, hlen⟩ := digits_back (K := 36) (by decide) (by decide) bs hz
                rw [← HDS.out, ← HLL.out, ← HZ.out] at hb1
                rw [← HDS.out, ← HLL.out] at hdrop hlen
                rw [← HZ.out] at hhd hne
                have hbz : ∀ t, t < i + sh → (be (val bs) k).getD t 0 = 0 := fun t ht => by
                  rw [hb1, List.getD_eq_getElem?_getD, List.getElem?_append_left (by simpa using ht), List.getElem?_replicate, if_pos ht]; rfl
                have hbn : (be (val bs) k).getD (i + sh) 0 ≠ 0 := by
                  rw [hb1, List.getD_eq_getElem?_getD, List.getElem?_append_right (by simp)]
                  cases hc : bs.drop i with
                  | nil => exact absurd hc hne
                  | cons a r =>
                    rw [hc] at hhd
                    simp
                    intro e; apply hhd; rw [e]; rfl
                have hib : i + sh < k := by have := List.length_pos_iff.2 hne; rw [List.length_drop] at this; omega
                have HB := Lib.hid (And.intro hbz (And.intro hbn (And.intro hdrop hlen)))
                clear hbz hbn hdrop hlen hb1 hhd hne hjj HMK
                go_wp2
                go_loopg [15] (k + 1 - i) (fun gk s15 wx => wr = wx ∧ ∃ t : Nat, s15 = .int .i64 (t : Int) ∧ i ≤ t ∧ t ≤ i + sh ∧ gk = k + 1 - t)
                case atStart => exact ⟨rfl, i, rfl, by omega, by omega, rfl⟩
                case round =>
                  obtain ⟨rfl, t, rfl, hit, hti, hgk3⟩ := hrel
                  obtain ⟨h1, h2, h3⟩ := HH2.out
                  have htk : t < k := by omega
                  have htI : (t : Int) < (k : Int) := by omega
                  have hc := (h1 t (by omega)).1
                  simp only [if_pos htk] at hc
                  have HH5 := Lib.hid (And.intro h1 h2)
                  clear h1 h2 h3
                  by_cases hts : t < i + sh
                  · rw [HB.out.1 t hts] at hc
                    replace hc : wr.cell? ⟨w.heap.size, t, none⟩ = some (.int .u8 0) := hc
                    go_wp2
                    go_roundg (k + 1 - (t + 1))
                    case measure => omega
                    case rel => exact ⟨rfl, t + 1, by go_num, by omega, by omega, rfl⟩
                  · obtain rfl : t = i + sh := by omega
                    have hpos : 0 < ((be (val bs) k).getD (i + sh) 0).toNat := by
                      rcases Nat.eq_zero_or_pos ((be (val bs) k).getD (i + sh) 0).toNat with h | h
                      · exact absurd (UInt8.toNat.inj (h.trans rfl)) HB.out.2.1
                      · exact h
                    generalize hxb : ((be (val bs) k).getD (i + sh) 0) = xb at hc hpos
                    have hposI : 0 < (xb.toNat : Int) := by omega
                    clear hxb hpos
                    go_wp2
                    go_ret2
                    refine ⟨_, rfl, ?_, HH5.out.2⟩
                    obtain ⟨-, -, hdrop, hlen⟩ := HB.out
                    have e1 : i + sh - i = sh := by omega
                    have e2 : k - sh = bs.length := by omega
                    show By wr bs (.slice (some ⟨w.heap.size, i + sh - i, none⟩) (k - (i + sh - i)) (k - (i + sh - i)))
                    rw [e1, e2]
                    refine By.of_row (fun q v hq => ?_) (Nat.le_refl _)
                    have hqb : q < bs.length := by have := (List.getElem?_eq_some_iff.1 hq).1; simpa using this
                    have hcell := (HH5.out.1 (sh + q) (by omega)).1
                    simp only [if_pos (show sh + q < k by omega)] at hcell
                    rw [hcell, ← hq, drop_cell hdrop (by rw [be_len]; omega)]
end Go.Proofs.YtchlkclpikdbjaaGreatDoor
