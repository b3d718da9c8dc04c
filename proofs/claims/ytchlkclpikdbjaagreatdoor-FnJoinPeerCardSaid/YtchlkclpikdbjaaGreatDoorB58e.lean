/-
  Bytes written in base 58.
-/
import Derived.Test.YtchlkclpikdbjaaGreatDoorB58d
namespace Go.Proofs.YtchlkclpikdbjaaGreatDoor
set_option linter.unusedVariables false
set_option linter.unusedSimpArgs false
open Go.RowKit Go.Sort

/-- the value of the last k of n digits -/
def sufb (β : Nat) (f : Nat → Nat) (n : Nat) : Nat → Nat
  | 0 => 0
  | k + 1 => f (n - 1 - k) * β ^ k + sufb β f n k
theorem sufb_congr {β : Nat} {f g : Nat → Nat} {n : Nat} : ∀ {k : Nat}, (∀ i, n - k ≤ i → i < n → f i = g i) → k ≤ n → sufb β f n k = sufb β g n k
  | 0, _, _ => rfl
  | k + 1, h, hk => by
    rw [sufb, sufb, h (n - 1 - k) (by omega) (by omega), sufb_congr (fun i h1 h2 => h i (by omega) h2) (by omega)]
theorem sufb_zero (β n : Nat) : ∀ k, sufb β (fun _ => 0) n k = 0
  | 0 => rfl
  | k + 1 => by rw [sufb, sufb_zero β n k]; simp
/-- zeros ahead count for nothing -/
theorem sufb_more {β : Nat} {f : Nat → Nat} {n q : Nat} (h : ∀ i, i < n - q → f i = 0) : ∀ {k : Nat}, q ≤ k → k ≤ n → sufb β f n k = sufb β f n q
  | 0, h1, _ => by rw [show q = 0 by omega]
  | k + 1, h1, h2 => by
    by_cases e : q = k + 1
    · rw [e]
    · rw [sufb, h _ (by omega), sufb_more h (by omega) (by omega)]; simp
theorem sufb_step {β : Nat} {f f' : Nat → Nat} {n k M d c : Nat} (hk : k < n) (hlow : ∀ i, i < n - k → f' i = f i) (h : sufb β f' n k + c * β ^ k = sufb β f n k * M + d) :
    sufb β (fun i => if i = n - 1 - k then (c + M * f' i) % β else f' i) n (k + 1) + (c + M * f' (n - 1 - k)) / β * β ^ (k + 1) = sufb β f n (k + 1) * M + d := by
  rw [sufb, sufb, if_pos rfl, sufb_congr (g := f') (fun i h1 h2 => if_neg (by omega)) (by omega), hlow (n - 1 - k) (by omega)]
  have e := Nat.div_add_mod (c + M * f (n - 1 - k)) β
  generalize ht : c + M * f (n - 1 - k) = t at e
  generalize t / β = q at e ⊢
  generalize t % β = r at e ⊢
  have h1 : r * β ^ k + q * β ^ (k + 1) = t * β ^ k := by
    rw [← e, Nat.pow_succ, Nat.add_mul]
    have : q * (β ^ k * β) = β * q * β ^ k := by
      rw [Nat.mul_comm (β ^ k), ← Nat.mul_assoc, Nat.mul_comm q]
    omega
  have h2 : t * β ^ k = f (n - 1 - k) * β ^ k * M + c * β ^ k := by
    rw [← ht, Nat.add_mul, Nat.mul_comm M, Nat.mul_assoc (f (n - 1 - k)), Nat.mul_comm M, ← Nat.mul_assoc]; omega
  rw [Nat.add_mul]
  omega
theorem sufb_pv (β : Nat) (f : Nat → Nat) (n : Nat) : ∀ k, k ≤ n → pv β ((List.range k).map fun t => f (n - k + t)) = sufb β f n k
  | 0, _ => rfl
  | k + 1, h => by
    rw [List.range_succ_eq_map, List.map_cons, pv_cons, sufb, List.map_map]
    have e1 : n - (k + 1) + 0 = n - 1 - k := by omega
    have e2 : ((fun t => f (n - (k + 1) + t)) ∘ Nat.succ) = fun t => f (n - k + t) := by
      funext t
      show f (n - (k + 1) + (t + 1)) = _
      congr 1; omega
    rw [e1, e2, sufb_pv β f n k (by omega)]
    simp
/-- digits without the zeros that lead -/
theorem digs_strip {K : Nat} (hK : 2 ≤ K) (f : Nat → Nat) (hf : ∀ i, f i < K) : ∀ n, ∃ s, (List.range n).map f = List.replicate s 0 ++ numDigs K (pv K ((List.range n).map f))
  | 0 => ⟨0, by simp [pv, numDigs_zero]⟩
  | n + 1 => by
    obtain ⟨s, hs⟩ := digs_strip hK f hf n
    rw [List.range_succ, List.map_append, List.map_singleton, pv_snoc]
    generalize pv K ((List.range n).map f) = V at hs ⊢
    by_cases h0 : K * V + f n = 0
    · have hV : V = 0 := by
        rcases Nat.eq_zero_or_pos V with h | h
        · exact h
        · have := Nat.mul_pos (show 0 < K by omega) h; omega
      have hd : f n = 0 := by omega
      refine ⟨s + 1, ?_⟩
      rw [hs, hV, hd, Nat.mul_zero, Nat.add_zero, numDigs_zero, List.append_nil, List.append_nil, List.replicate_succ']
    · refine ⟨s, ?_⟩
      have h1 : (K * V + f n) / K = V := by rw [Nat.mul_add_div (by omega), Nat.div_eq_of_lt (hf n), Nat.add_zero]
      have h2 : (K * V + f n) % K = f n := by rw [Nat.mul_add_mod, Nat.mod_eq_of_lt (hf n)]
      rw [numDigs_pos hK h0, h1, h2, ← List.append_assoc, ← hs]
theorem strip_facts {K : Nat} (hK : 2 ≤ K) {f : Nat → Nat} {n V : Nat} (hf : ∀ i, f i < K) (hV : sufb K f n n = V) (h0 : V ≠ 0) :
    ∃ s, s < n ∧ (∀ t, t < s → f t = 0) ∧ f s ≠ 0 ∧ numDigs K V = (List.range (n - s)).map fun t => f (s + t) := by
  obtain ⟨s, hs⟩ := digs_strip hK f hf n
  have hpv := sufb_pv K f n n (Nat.le_refl _)
  have e : ((List.range n).map fun t => f (n - n + t)) = (List.range n).map f := by simp
  rw [e, hV] at hpv
  rw [hpv] at hs
  have hlen := congrArg List.length hs
  simp at hlen
  have hne : numDigs K V ≠ [] := by
    intro h
    have := (numDigs_spec hK V).1
    rw [h] at this
    exact h0 this.symm
  have hpos := List.length_pos_iff.2 hne
  have hat : ∀ t, t < n → f t = (List.replicate s 0 ++ numDigs K V).getD t 0 := fun t ht => by
    rw [← hs, List.getD_eq_getElem?_getD, List.getElem?_map, List.getElem?_range ht]; rfl
  have htail : ∀ t, t < n - s → f (s + t) = (numDigs K V).getD t 0 := fun t ht => by
    rw [hat (s + t) (by omega), List.getD_eq_getElem?_getD, List.getElem?_append_right (by simp), List.getD_eq_getElem?_getD]
    simp
  refine ⟨s, by omega, fun t ht => ?_, ?_, ?_⟩
  · rw [hat t (by omega), List.getD_eq_getElem?_getD, List.getElem?_append_left (by simpa using ht), List.getElem?_replicate, if_pos ht]; rfl
  · have h1 := htail 0 (by omega)
    rw [Nat.add_zero] at h1
    rw [h1]
    have h2 := numDigs_head hK V
    cases hc : numDigs K V with
    | nil => exact absurd hc hne
    | cons a r =>
      rw [hc] at h2
      simp
      intro e; apply h2; rw [e]; rfl
  · apply List.ext_getElem
    · simp; omega
    · intro t h1 h2
      have := htail t (by simpa using h2)
      rw [getD_lt _ _ h1] at this
      rw [List.getElem_map, List.getElem_range, this]
theorem val_take_le (l : List UInt8) (i : Nat) : val (l.take i) ≤ val l := by
  have := val_append (l.take i) (l.drop i)
  rw [List.take_append_drop] at this
  have h1 := Nat.le_mul_of_pos_right (val (l.take i)) (Nat.pow_pos (n := (l.drop i).length) (show 0 < 256 by decide))
  omega
theorem room58 (n : Nat) : 256 ^ n ≤ 58 ^ (n * 138 / 100 + 1) := by
  have h1 : (256 : Nat) ^ 100 ≤ 58 ^ 138 := by decide
  have h2 : (256 ^ n) ^ 100 ≤ (58 ^ (n * 138 / 100 + 1)) ^ 100 := by
    rw [← Nat.pow_mul, ← Nat.pow_mul, Nat.mul_comm n 100, Nat.pow_mul]
    refine Nat.le_trans (Nat.pow_le_pow_left h1 n) ?_
    rw [← Nat.pow_mul]
    exact Nat.pow_le_pow_right (by decide) (by omega)
  rcases Nat.lt_or_ge (58 ^ (n * 138 / 100 + 1)) (256 ^ n) with h | h
  · exact absurd h2 (Nat.not_le_of_lt (Nat.pow_lt_pow_left h (by decide)))
  · exact h
theorem val_take_room (bs : List UInt8) (i : Nat) : val (bs.take i) < 58 ^ ((bs.length - leadZ bs) * 138 / 100 + 1) := by
  refine Nat.lt_of_lt_of_le (Nat.lt_of_le_of_lt (val_take_le bs i) ?_) (room58 _)
  rw [← leadZ_val bs]
  have := val_lt (bs.drop (leadZ bs))
  rwa [List.length_drop] at this
theorem val_takeZ (bs : List UInt8) : ∀ i, i ≤ leadZ bs → val (bs.take i) = 0
  | 0, _ => by simp [val]
  | i + 1, h => by
    have hi : i < bs.length := Nat.lt_of_lt_of_le h (leadZ_le bs)
    rw [takeD_snoc hi, val_snoc, val_takeZ bs i (by omega), leadZ_at bs i (by omega)]; rfl

set_option maxHeartbeats 2000000 in
set_option maxRecDepth 100000 in
theorem b58Encode_ok (bs : List UInt8) (hlen : bs.length ≤ 1000) (hz : leadZ bs < bs.length) (g0 : Nat) (v : Value) (w : World) (hv : By w bs v) (hA : AlphAt w g0 (charsL 122)) : Calls Tryz.prog 298 #[v, .pointer (some ⟨g0, 0, none⟩)] w fun e w' =>
    e = .returned (.string ⟨(numText (charsL 122) 58 bs).toArray⟩) ∧ Ext w w' := by
  obtain ⟨a, c, rfl, hc, hcell⟩ := hv
  obtain ⟨g, o, rfl, hrow⟩ := hcell (by intro h; rw [h] at hz; simp at hz)
  obtain ⟨i0, hi, hz0, hz1, hz2⟩ := info_parts info_u8
  have hca : w.cell? ⟨g0, 128, none⟩ = some (.int .u8 49) := (hA 128 (by decide)).1
  obtain ⟨len, hl⟩ : ∃ len, len = bs.length := ⟨_, rfl⟩
  obtain ⟨z, hzz⟩ : ∃ z, z = leadZ bs := ⟨_, rfl⟩
  obtain ⟨n, hn⟩ : ∃ n, n = (len - z) * 138 / 100 + 1 := ⟨_, rfl⟩
  rw [← hl] at hlen hc ⊢
  rw [← hzz, ← hl] at hz
  have hroom := fun i => val_take_room bs i
  have hz00 := val_takeZ bs
  rw [← hl, ← hzz, ← hn] at hroom
  rw [← hzz] at hz00
  have hnI : ((len : Int) - (z : Int)) * 138 / 100 + 1 = (n : Int) := by omega
  have hN : n ≤ 1381 ∧ 1 ≤ n := by omega
  have b2 : i0.bytes * (n * 2 + z) ≤ 281474976710656 := by rw [hz2]; omega
  have b3 : n * 2 + z ≤ maxLen := by unfold maxLen; omega
  have HROW := Lib.hid hrow
  have HL := Lib.hid hl
  have HZ := Lib.hid hzz
  have HROOM := Lib.hid (And.intro hroom hz00)
  have HA := Lib.hid hA
  clear hcell hrow hl hzz hn hroom hz00 hA
  go_enter Tryz.func298, Tryz.ntmps298
  go_wp2
  go_loopg [9] (len + 1) (fun gk s9 wx => w = wx ∧ ∃ j : Nat, s9 = .int .i64 (j : Int) ∧ j ≤ z ∧ gk = len + 1 - j)
  case atStart => exact ⟨rfl, 0, rfl, by omega, rfl⟩
  case round =>
    obtain ⟨rfl, j, rfl, hj, hgk⟩ := hrel
    have hjl : j < len := by omega
    have hjI : (j : Int) < (len : Int) := by omega
    have c1 : w.cell? ⟨g, o + j, none⟩ = some (.int .u8 ((bs.getD j 0).toNat : Int)) := HROW.out j _ (map_at bs (by have := HL.out; omega))
    by_cases hjz : j < z
    · have h0 : bs.getD j 0 = 0 := leadZ_at bs j (by rw [← HZ.out]; exact hjz)
      rw [h0] at c1
      go_wp2
      go_roundg (len + 1 - (j + 1))
      case measure => omega
      case rel => exact ⟨rfl, j + 1, by go_num, by omega, rfl⟩
    · obtain rfl : j = z := by omega
      have h0 : bs.getD j 0 ≠ 0 := by rw [HZ.out]; exact leadZ_stop bs (by rw [← HZ.out, ← HL.out]; exact hz)
      have h1 := B_eq (bs.getD j 0)
      rw [decide_eq_false h0] at h1
      generalize bs.getD j 0 = x at c1 h1
      clear h0
      go_wp2_with (refine wpList_make_full _ rfl _ _ 22 rfl w.heap.size 5 i0 (.int .u8 0) 1 Tryz.underlying22 hi hz0 hz1 _ _ _ _ (n * 2 + j) rfl rfl (by omega) (by omega) b2 b3 (Nat.le_refl _) ?_; intro w1 hown hgr; have HO1 := Lib.hid hown; have HG1 := Lib.hid hgr; clear hown hgr)
      have hnn : n * 2 + j - (n + j) = n := by omega
      rw [hnn]
      have hW1 := wr_made HO1.out rfl rfl
      have hE1 := below_of_grown HG1.out
      have hstart : Hid (∃ f : Nat → Nat, (∀ t, t < n → f t = 0) ∧ (∀ t, f t < 58) ∧ Wr w1 w.heap.size (n * 2 + j) (fun t => if t < n + j then .int .u8 0 else .int .u8 (f (t - (n + j)) : Int)) ∧ sufb 58 f n n = val (bs.take j) ∧ Ext w w1) :=
        Lib.hid ⟨fun _ => 0, fun _ _ => rfl, fun _ => (by decide : 0 < 58), hW1.congr fun t _ => by split <;> rfl, by rw [sufb_zero, HROOM.out.2 j (Nat.le_refl _)], hE1⟩
      clear hW1 hE1 HO1 HG1 hca hnn b2 b3 c1 h1
      go_loopg [7, 10] (len + 1 - j) (fun gk s7 s10 wx => ∃ i h : Nat, s7 = .int .i64 (i : Int) ∧ s10 = .int .i64 ((h : Int) - 1) ∧ j ≤ i ∧ i ≤ len ∧ h ≤ n ∧ gk = len + 1 - i ∧ Hid (∃ f : Nat → Nat, (∀ t, t < h → f t = 0) ∧ (∀ t, f t < 58) ∧ Wr wx w.heap.size (n * 2 + j) (fun t => if t < n + j then .int .u8 0 else .int .u8 (f (t - (n + j)) : Int)) ∧ sufb 58 f n n = val (bs.take i) ∧ Ext w wx))
      case atStart => exact ⟨j, n, rfl, rfl, by omega, by omega, by omega, rfl, hstart⟩
      case round =>
        obtain ⟨i, h, rfl, rfl, hji, hil, hhn, hgk, HH⟩ := hrel
        by_cases hlt : i < len
        · have hltI : (i : Int) < (len : Int) := by omega
          obtain ⟨f, hf0, hf58, hwf, hval, hE⟩ := HH.out
          have hilb : i < bs.length := by rw [← HL.out]; exact hlt
          have c1 : wr.cell? ⟨g, o + i, none⟩ = some (.int .u8 ((bs.getD i 0).toNat : Int)) := hE.cell (HROW.out i _ (map_at bs hilb))
          have htk : val (bs.take (i + 1)) = sufb 58 f n n * 256 + (bs.getD i 0).toNat := by rw [takeD_snoc hilb, val_snoc, hval, Nat.mul_comm]
          obtain ⟨xn, hxn⟩ : ∃ xn, xn = (bs.getD i 0).toNat := ⟨_, rfl⟩
          have hx8 : xn < 256 := by rw [hxn]; exact UInt8.toNat_lt _
          rw [← hxn] at c1 htk
          have HT := Lib.hid (And.intro hf0 (And.intro hf58 (And.intro hwf (And.intro htk hE))))
          clear hf0 hf58 hwf hval hE htk hxn
          go_wp2
          obtain ⟨ws, hws⟩ : ∃ ws, ws = wr := ⟨_, rfl⟩
          subst hws
          go_loopg [8, 11] (n + 1) (fun gk s8 s11 wx => ∃ (q : Nat) (ci : Int), s8 = .int .i64 (((n - q : Nat) : Int) - 1) ∧ s11 = .int .u32 ci ∧ q ≤ n ∧ gk = n + 1 - q ∧ 0 ≤ ci ∧ ci < 256 ∧ Hid (∃ (f' : Nat → Nat) (c : Nat), ci = (c : Int) ∧ c < 256 ∧ (∀ t, t < n - q → f' t = f t) ∧ (∀ t, f' t < 58) ∧ Wr wx w.heap.size (n * 2 + j) (fun t => if t < n + j then .int .u8 0 else .int .u8 (f' (t - (n + j)) : Int)) ∧ sufb 58 f' n q + c * 58 ^ q = sufb 58 f n q * 256 + xn ∧ ws.grownBy wx (some w.heap.size)))
          case atStart => exact ⟨0, (xn : Int), by rw [Nat.sub_zero], rfl, by omega, rfl, by omega, by omega, Lib.hid ⟨f, xn, rfl, hx8, fun _ _ => rfl, HT.out.2.1, HT.out.2.2.1, by simp [sufb], grown_refl _ _⟩⟩
          case round =>
            obtain ⟨q, ci, rfl, rfl, hq, hgk2, hc0, hc1, HI⟩ := hrel
            by_cases hcond : h < n - q ∨ ci ≠ 0
            · obtain ⟨f', cc, hci, hc36, hlow, hf', hw', hsum, hgr⟩ := HI.out
              have hqn : q < n := by
                rcases Nat.lt_or_ge q n with h1 | h1
                · exact h1
                · exfalso
                  have hqe : q = n := by omega
                  subst hqe
                  rw [← HT.out.2.2.2.1] at hsum
                  have h2 := HROOM.out.1 (i + 1)
                  have h3 : cc ≠ 0 := by omega
                  have := Nat.le_mul_of_pos_left (58 ^ q) (Nat.pos_of_ne_zero h3)
                  omega
              obtain ⟨p, hp⟩ : ∃ p, p = n - 1 - q := ⟨_, rfl⟩
              have hpe : ((n - q : Nat) : Int) - 1 = (p : Int) := by omega
              rw [hpe]
              have hpn : p < n := by omega
              have hpI : (p : Int) < (n : Int) := by omega
              obtain ⟨xi, hxi⟩ : ∃ xi : Int, xi = (f' p : Int) := ⟨_, rfl⟩
              have hcell := (hw' (n + j + p) (by omega)).1
              have hfro := (hw' (n + j + p) (by omega)).2
              have he1 : n + j + p - (n + j) = p := by omega
              simp only [if_neg (show ¬ n + j + p < n + j by omega), he1] at hcell
              rw [← hxi] at hcell
              have hx0 : 0 ≤ xi := by omega
              have hx1 : xi < 58 := by have := hf' p; omega
              have hcond2 : (h : Int) - 1 < (p : Int) ∨ (¬ ((h : Int) - 1 < (p : Int)) ∧ (ci == 0) = false) := by
                rcases hcond with h1 | h1
                · left; omega
                · by_cases h2 : (h : Int) - 1 < (p : Int)
                  · exact .inl h2
                  · exact .inr ⟨h2, by rw [beq_eq_false_iff_ne]; exact h1⟩
              have HP := Lib.hid hp
              have HX := Lib.hid hxi
              have HH2 := Lib.hid (And.intro hci (And.intro hc36 (And.intro hlow (And.intro hf' (And.intro hw' (And.intro hsum hgr))))))
              clear hp hpe hxi hci hc36 hlow hf' hw' hsum hgr he1 hcond
              rcases hcond2 with hcnd | ⟨hcnd, hcnd2⟩
              all_goals
                go_wp2
                go_roundg (n + 1 - (q + 1))
                case measure => omega
                case rel =>
                  obtain ⟨hci, hc36, hlow, hf', hw', hsum, hgr⟩ := HH2.out
                  have hp := HP.out
                  have hx := HX.out
                  have hV : ci + 256 * xi = ((cc + 256 * f' p : Nat) : Int) := by rw [hx, hci]; omega
                  have hstep := sufb_step (β := 58) (f := f) (f' := f') (n := n) (k := q) (M := 256) hqn (fun t ht => hlow t ht) hsum
                  rw [← hp] at hstep
                  have hq1 : (cc + 256 * f' p) / 58 < 256 := by have := hf' p; omega
                  refine ⟨q + 1, (ci + 256 * xi) / 58, by congr 1; omega, rfl, by omega, rfl, by omega, by omega, Lib.hid ⟨fun t => if t = p then (cc + 256 * f' t) % 58 else f' t, (cc + 256 * f' p) / 58, by rw [hV]; omega, hq1, ?_, ?_, ?_, hstep, grown_set hgr _ _⟩⟩
                  · intro t ht
                    simp only []
                    rw [if_neg (by omega)]
                    exact hlow t (by omega)
                  · intro t
                    simp only []
                    split
                    · exact Nat.mod_lt _ (by decide)
                    · exact hf' t
                  · refine (hw'.set (n + j + p) _).congr fun t ht => ?_
                    by_cases htp : t = n + j + p
                    · subst htp
                      have he1 : n + j + p - (n + j) = p := by omega
                      simp only [if_pos, if_neg (show ¬ n + j + p < n + j by omega), he1, hV]
                      rw [Int.natCast_emod]
                      rfl
                    · by_cases ht2 : t < n + j
                      · simp only [if_neg htp, if_pos ht2]
                      · simp only [if_neg htp, if_neg ht2, if_neg (show ¬ t - (n + j) = p by omega)]
            · have hnq : n - q ≤ h := by omega
              obtain rfl : ci = 0 := by omega
              have hcnd : ¬ ((h : Int) - 1 < ((n - q : Nat) : Int) - 1) := by omega
              go_wp2
              go_roundg (len + 1 - (i + 1))
              case measure => omega
              case rel =>
                obtain ⟨f', cc, hci, hc36, hlow, hf', hw', hsum, hgr⟩ := HI.out
                obtain ⟨hf0, hf58, hwf, htk, hE⟩ := HT.out
                obtain rfl : cc = 0 := by omega
                refine ⟨i + 1, n - q, by go_num, rfl, by omega, by omega, by omega, rfl, Lib.hid ⟨f', fun t ht => by rw [hlow t ht]; exact hf0 t (by omega), hf', hw', ?_, below_grown hE hE.size hgr (fun k hk => by injection hk with hk; omega)⟩⟩
                rw [htk, sufb_more (f := f') (q := q) (fun t ht => by rw [hlow t ht]; exact hf0 t (by omega)) hq (Nat.le_refl _), sufb_more (f := f) (q := q) (fun t ht => hf0 t (by omega)) hq (Nat.le_refl _)]
                omega
        · obtain rfl : i = len := by omega
          obtain ⟨f, -, hf58, hwf, hval, hE⟩ := HH.out
          rw [HL.out, List.take_length] at hval
          obtain ⟨s, hsn, hs0, hs1, hnd⟩ := strip_facts (by decide) hf58 hval (val_pos_of (by rw [← HZ.out, ← HL.out]; exact hz))
          have HW := Lib.hid (And.intro hwf hE)
          have HS := Lib.hid (And.intro hs0 (And.intro hs1 hnd))
          have HF58 := Lib.hid hf58
          clear hf58 hwf hval hE hs0 hs1 hnd
          obtain ⟨wo, hwo⟩ : ∃ wo, wo = wr := ⟨_, rfl⟩
          subst hwo
          go_wp2
          go_loopg [8] (n + 1) (fun gk s8 wx => wo = wx ∧ ∃ t : Nat, s8 = .int .i64 (t : Int) ∧ t ≤ s ∧ gk = n + 1 - t)
          case atStart => exact ⟨rfl, 0, rfl, by omega, rfl⟩
          case round =>
            obtain ⟨rfl, t, rfl, hts, hgk2⟩ := hrel
            have htn : t < n := by omega
            have htI : (t : Int) < (n : Int) := by omega
            have hcell := (HW.out.1 (n + j + t) (by omega)).1
            have he1 : n + j + t - (n + j) = t := by omega
            simp only [if_neg (show ¬ n + j + t < n + j by omega), he1] at hcell
            clear he1
            by_cases hlt2 : t < s
            · rw [HS.out.1 t hlt2] at hcell
              replace hcell : wo.cell? ⟨w.heap.size, n + j + t, none⟩ = some (.int .u8 0) := hcell
              go_wp2
              go_roundg (n + 1 - (t + 1))
              case measure => omega
              case rel => exact ⟨rfl, t + 1, by go_num, by omega, rfl⟩
            · obtain rfl : t = s := by omega
              have hne : ((f t : Int) == 0) = false := by
                rw [beq_eq_false_iff_ne]
                have := HS.out.2.1
                omega
              generalize hfv : (f t : Int) = fv at hcell hne
              clear hfv
              have hsub : n - t + j ≤ n * 2 + j := by omega
              go_wp2
              · have hjb : ((j : Int) != 0) = true := by assumption
                obtain ⟨M, hM⟩ : ∃ M, M = n - t + j := ⟨_, rfl⟩
                rw [← hM, hjb]
                have hM2 : M + t = n + j := by omega
                clear hM
                go_loopg [7] (j + 1) (fun gk s7 wx => ∃ k : Nat, s7 = .int .i64 (k : Int) ∧ k ≤ j ∧ gk = j + 1 - k ∧ Hid (Wr wx w.heap.size (n * 2 + j) (fun u => if u < k then B ((numText (charsL 122) 58 bs).getD u 0) else if u < n + j then .int .u8 0 else .int .u8 (f (u - (n + j)) : Int)) ∧ Ext w wx))
                case atStart => exact ⟨0, rfl, by omega, rfl, Lib.hid ⟨HW.out.1.congr fun u _ => by simp only [if_neg (Nat.not_lt_zero u)], HW.out.2⟩⟩
                obtain ⟨k, rfl, hkj, hgk3, HK⟩ := hrel
                by_cases hk2 : k < j
                · have hkI : (k : Int) < (j : Int) := by omega
                  have hkI2 : (k : Int) < (M : Int) := by omega
                  obtain ⟨h1, h2⟩ := HK.out
                  have hc0 : wr.cell? ⟨w.heap.size, k, none⟩ = some (.int .u8 0) := by rw [(h1 k (by omega)).1]; simp only [if_neg (Nat.lt_irrefl k), if_pos (show k < n + j by omega)]
                  have hf0 := (h1 k (by omega)).2
                  have htx : (numText (charsL 122) 58 bs).getD k 0 = 49 := by
                    rw [numText, ← HZ.out, List.getD_eq_getElem?_getD, List.getElem?_append_left (by simpa using hk2), List.getElem?_replicate, if_pos hk2]; rfl
                  have HN : Hid (Wr (wr.setCell ⟨w.heap.size, k, none⟩ (.int .u8 49)) w.heap.size (n * 2 + j) (fun u => if u < k + 1 then B ((numText (charsL 122) 58 bs).getD u 0) else if u < n + j then .int .u8 0 else .int .u8 (f (u - (n + j)) : Int)) ∧ Ext w (wr.setCell ⟨w.heap.size, k, none⟩ (.int .u8 49))) := Lib.hid ⟨(h1.set k _).congr fun u hu => by
                      by_cases h3 : u = k
                      · subst h3; rw [if_pos rfl, if_pos (by omega), htx]; rfl
                      · rw [if_neg h3]
                        by_cases h4 : u < k
                        · rw [if_pos h4, if_pos (by omega)]
                        · rw [if_neg h4, if_neg (show ¬ u < k + 1 by omega)], ext_setCell h2 (Nat.le_refl _) k _⟩
                  clear h1 h2 htx
                  go_wp2
                  go_roundg (j + 1 - (k + 1))
                  case measure => omega
                  case rel => exact ⟨k + 1, by go_num, by omega, rfl, HN⟩
                obtain rfl : j = k := by omega
                have hst2 := HK
                clear HK
                go_wp2
                go_loopg [7, 8] (n + 1) (fun gk s7 s8 wx => ∃ k : Nat, s7 = .int .i64 ((j + k : Nat) : Int) ∧ s8 = .int .i64 ((t + k : Nat) : Int) ∧ t + k ≤ n ∧ gk = n + 1 - k ∧ Hid (∃ F : Nat → Value, (∀ u, u < j + k → F u = B ((numText (charsL 122) 58 bs).getD u 0)) ∧ (∀ u, n + j ≤ u → F u = .int .u8 (f (u - (n + j)) : Int)) ∧ Wr wx w.heap.size (n * 2 + j) F ∧ Ext w wx))
                case atStart =>
                  refine ⟨0, rfl, rfl, by omega, rfl, Lib.hid ⟨_, fun u hu => ?_, fun u hu => ?_, hst2.out.1, hst2.out.2⟩⟩
                  · simp only [if_pos (show u < j by omega)]
                  · simp only [if_neg (show ¬ u < j by omega), if_neg (show ¬ u < n + j by omega)]
                case round =>
                  obtain ⟨k, rfl, rfl, hkn, hgk4, HK⟩ := hrel
                  by_cases hk2 : t + k < n
                  · have hkI : ((t + k : Nat) : Int) < (n : Int) := by omega
                    obtain ⟨F, hF1, hF2, hwF, hEF⟩ := HK.out
                    obtain ⟨p, hp⟩ : ∃ p, p = t + k := ⟨_, rfl⟩
                    obtain ⟨u, hu⟩ : ∃ u, u = j + k := ⟨_, rfl⟩
                    rw [← hp] at hkI ⊢
                    rw [← hu]
                    have hcell := (hwF (n + j + p) (by omega)).1
                    rw [hF2 (n + j + p) (by omega), show n + j + p - (n + j) = p by omega] at hcell
                    have hfp := HF58.out p
                    obtain ⟨d, hd⟩ : ∃ d, d = f p := ⟨_, rfl⟩
                    rw [← hd] at hcell hfp
                    have hdI : (d : Int) < 58 := by omega
                    have hch : wr.cell? ⟨g0, 128 + d, none⟩ = some (B ((charsL 122).getD d 0)) := by
                      have := (hEF.wr HA.out (128 + d) (by omega)).1
                      rw [this]
                      unfold alphF
                      rw [if_neg (by omega), show 128 + d - 128 = d by omega]
                    have htx : (numText (charsL 122) 58 bs).getD u 0 = (charsL 122).getD d 0 := by
                      rw [hu, numText, ← HZ.out, HS.out.2.2, List.getD_eq_getElem?_getD, List.getElem?_append_right (by simp), List.length_replicate, show j + k - j = k by omega, List.getElem?_map, List.getElem?_map, List.getElem?_range (by omega), hd, hp]
                      rfl
                    have hc0 := (hwF u (by omega)).1
                    have hf0 := (hwF u (by omega)).2
                    have huI : (u : Int) < (M : Int) := by omega
                    have HB := Lib.hid (And.intro htx (And.intro hp (And.intro hu (And.intro hF1 (And.intro hF2 (And.intro hwF hEF))))))
                    clear htx hp hu hF1 hF2 hwF hEF hd
                    generalize hchd : (charsL 122).getD d 0 = ch at hch HB
                    generalize hold : F u = old at hc0
                    clear hchd hold
                    go_wp2
                    go_still_tail 12, (by kernel_rfl)
                    change wpList _ _ _ _ _ wr.drew
                    have HB2 : Hid (wr.drew.cell? ⟨w.heap.size, u, none⟩ = some old ∧ wr.drew.frozen? ⟨w.heap.size, u, none⟩ = false ∧ Wr wr.drew w.heap.size (n * 2 + j) F ∧ Ext w wr.drew) := Lib.hid ⟨(Ext.drew (Ext.refl wr)).cell hc0, hf0, (Ext.drew (Ext.refl wr)).wr HB.out.2.2.2.2.2.1, Ext.drew HB.out.2.2.2.2.2.2⟩
                    generalize wr.drew = wd at HB2
                    obtain ⟨hc2, hf2, -, -⟩ := id HB2.out
                    clear hcell hch hc0 hf0
                    go_wp2
                    go_roundg (n + 1 - (k + 1))
                    case measure => omega
                    case rel =>
                      obtain ⟨htx, hp, hu, hF1, hF2, -, -⟩ := HB.out
                      obtain ⟨-, -, hwF, hEF⟩ := HB2.out
                      refine ⟨k + 1, by have := hu; go_num, by have := hp; go_num, by omega, rfl, Lib.hid ⟨_, fun y hy => ?_, fun y hy => ?_, hwF.set u _, ext_setCell hEF (Nat.le_refl _) u _⟩⟩
                      · by_cases hyu : y = u
                        · subst hyu
                          simp only [if_pos]
                          rw [htx]
                        · simp only [if_neg hyu]
                          exact hF1 y (by omega)
                      · simp only [if_neg (show ¬ y = u by omega)]
                        exact hF2 y hy
                  · have hkn2 : t + k = n := by omega
                    have hnI : ¬ (((t + k : Nat) : Int) < (n : Int)) := by omega
                    obtain ⟨F, hF1, hF2, hwF, hEF⟩ := HK.out
                    have hML : M = (numText (charsL 122) 58 bs).length := by
                      rw [numText, List.length_append, List.length_replicate, List.length_map, ← HZ.out, HS.out.2.2, List.length_map, List.length_range]
                      omega
                    have hby : By wr (numText (charsL 122) 58 bs) (.slice (some ⟨w.heap.size, 0, none⟩) M (n * 2 + j)) := by
                      have := hwF.by (numText (charsL 122) 58 bs) (by rw [← hML]; omega) (n * 2 + j) (by rw [← hML]; omega) (fun y hy => by rw [hF1 y (by rw [← hML] at hy; omega), getD_lt _ _ hy])
                      rwa [← hML] at this
                    have HBY := Lib.hid hby
                    have HEF := Lib.hid hEF
                    clear hby hML hF1 hF2 hwF hEF
                    go_wp2_with (refine wpList_str rfl _ rfl _ HBY.out ?_)
                    go_ret
                    exact ⟨rfl, HEF.out⟩
              · have hjb : ((j : Int) != 0) = false := by assumption
                obtain ⟨M, hM⟩ : ∃ M, M = n - t + j := ⟨_, rfl⟩
                rw [← hM, hjb]
                have hM2 : M + t = n + j := by omega
                clear hM
                have hst2 : Hid (Wr wo w.heap.size (n * 2 + j) (fun u => if u < j then B ((numText (charsL 122) 58 bs).getD u 0) else if u < n + j then .int .u8 0 else .int .u8 (f (u - (n + j)) : Int)) ∧ Ext w wo) := Lib.hid ⟨HW.out.1.congr fun u _ => by
                  have hj0 : j = 0 := by
                    have h1 : ((j : Int) != 0) = false := by assumption
                    simpa using h1
                  simp only [if_neg (show ¬ u < j by omega)], HW.out.2⟩
                go_loopg [7, 8] (n + 1) (fun gk s7 s8 wx => ∃ k : Nat, s7 = .int .i64 ((j + k : Nat) : Int) ∧ s8 = .int .i64 ((t + k : Nat) : Int) ∧ t + k ≤ n ∧ gk = n + 1 - k ∧ Hid (∃ F : Nat → Value, (∀ u, u < j + k → F u = B ((numText (charsL 122) 58 bs).getD u 0)) ∧ (∀ u, n + j ≤ u → F u = .int .u8 (f (u - (n + j)) : Int)) ∧ Wr wx w.heap.size (n * 2 + j) F ∧ Ext w wx))
                case atStart =>
                  refine ⟨0, rfl, rfl, by omega, rfl, Lib.hid ⟨_, fun u hu => ?_, fun u hu => ?_, hst2.out.1, hst2.out.2⟩⟩
                  · simp only [if_pos (show u < j by omega)]
                  · simp only [if_neg (show ¬ u < j by omega), if_neg (show ¬ u < n + j by omega)]
                case round =>
                  obtain ⟨k, rfl, rfl, hkn, hgk4, HK⟩ := hrel
                  by_cases hk2 : t + k < n
                  · have hkI : ((t + k : Nat) : Int) < (n : Int) := by omega
                    obtain ⟨F, hF1, hF2, hwF, hEF⟩ := HK.out
                    obtain ⟨p, hp⟩ : ∃ p, p = t + k := ⟨_, rfl⟩
                    obtain ⟨u, hu⟩ : ∃ u, u = j + k := ⟨_, rfl⟩
                    rw [← hp] at hkI ⊢
                    rw [← hu]
                    have hcell := (hwF (n + j + p) (by omega)).1
                    rw [hF2 (n + j + p) (by omega), show n + j + p - (n + j) = p by omega] at hcell
                    have hfp := HF58.out p
                    obtain ⟨d, hd⟩ : ∃ d, d = f p := ⟨_, rfl⟩
                    rw [← hd] at hcell hfp
                    have hdI : (d : Int) < 58 := by omega
                    have hch : wr.cell? ⟨g0, 128 + d, none⟩ = some (B ((charsL 122).getD d 0)) := by
                      have := (hEF.wr HA.out (128 + d) (by omega)).1
                      rw [this]
                      unfold alphF
                      rw [if_neg (by omega), show 128 + d - 128 = d by omega]
                    have htx : (numText (charsL 122) 58 bs).getD u 0 = (charsL 122).getD d 0 := by
                      rw [hu, numText, ← HZ.out, HS.out.2.2, List.getD_eq_getElem?_getD, List.getElem?_append_right (by simp), List.length_replicate, show j + k - j = k by omega, List.getElem?_map, List.getElem?_map, List.getElem?_range (by omega), hd, hp]
                      rfl
                    have hc0 := (hwF u (by omega)).1
                    have hf0 := (hwF u (by omega)).2
                    have huI : (u : Int) < (M : Int) := by omega
                    have HB := Lib.hid (And.intro htx (And.intro hp (And.intro hu (And.intro hF1 (And.intro hF2 (And.intro hwF hEF))))))
                    clear htx hp hu hF1 hF2 hwF hEF hd
                    generalize hchd : (charsL 122).getD d 0 = ch at hch HB
                    generalize hold : F u = old at hc0
                    clear hchd hold
                    go_wp2
                    go_still_tail 12, (by kernel_rfl)
                    change wpList _ _ _ _ _ wr.drew
                    have HB2 : Hid (wr.drew.cell? ⟨w.heap.size, u, none⟩ = some old ∧ wr.drew.frozen? ⟨w.heap.size, u, none⟩ = false ∧ Wr wr.drew w.heap.size (n * 2 + j) F ∧ Ext w wr.drew) := Lib.hid ⟨(Ext.drew (Ext.refl wr)).cell hc0, hf0, (Ext.drew (Ext.refl wr)).wr HB.out.2.2.2.2.2.1, Ext.drew HB.out.2.2.2.2.2.2⟩
                    generalize wr.drew = wd at HB2
                    obtain ⟨hc2, hf2, -, -⟩ := id HB2.out
                    clear hcell hch hc0 hf0
                    go_wp2
                    go_roundg (n + 1 - (k + 1))
                    case measure => omega
                    case rel =>
                      obtain ⟨htx, hp, hu, hF1, hF2, -, -⟩ := HB.out
                      obtain ⟨-, -, hwF, hEF⟩ := HB2.out
                      refine ⟨k + 1, by have := hu; go_num, by have := hp; go_num, by omega, rfl, Lib.hid ⟨_, fun y hy => ?_, fun y hy => ?_, hwF.set u _, ext_setCell hEF (Nat.le_refl _) u _⟩⟩
                      · by_cases hyu : y = u
                        · subst hyu
                          simp only [if_pos]
                          rw [htx]
                        · simp only [if_neg hyu]
                          exact hF1 y (by omega)
                      · simp only [if_neg (show ¬ y = u by omega)]
                        exact hF2 y hy
                  · have hkn2 : t + k = n := by omega
                    have hnI : ¬ (((t + k : Nat) : Int) < (n : Int)) := by omega
                    obtain ⟨F, hF1, hF2, hwF, hEF⟩ := HK.out
                    have hML : M = (numText (charsL 122) 58 bs).length := by
                      rw [numText, List.length_append, List.length_replicate, List.length_map, ← HZ.out, HS.out.2.2, List.length_map, List.length_range]
                      omega
                    have hby : By wr (numText (charsL 122) 58 bs) (.slice (some ⟨w.heap.size, 0, none⟩) M (n * 2 + j)) := by
                      have := hwF.by (numText (charsL 122) 58 bs) (by rw [← hML]; omega) (n * 2 + j) (by rw [← hML]; omega) (fun y hy => by rw [hF1 y (by rw [← hML] at hy; omega), getD_lt _ _ hy])
                      rwa [← hML] at this
                    have HBY := Lib.hid hby
                    have HEF := Lib.hid hEF
                    clear hby hML hF1 hF2 hwF hEF
                    go_wp2_with (refine wpList_str rfl _ rfl _ HBY.out ?_)
                    go_ret
                    exact ⟨rfl, HEF.out⟩
theorem b58EncodeF_ok (bs : List UInt8) (hlen : bs.length ≤ 1000) (hz : leadZ bs < bs.length) (v : Value) (w : World) (hv : By w bs v) : Calls Tryz.prog 308 #[v] w fun e w' =>
    e = .returned (.string ⟨(numText (charsL 122) 58 bs).toArray⟩) ∧ Ext w w' := by
  have HC := Lib.hid (fun g0 w hv hA => b58Encode_ok bs hlen hz g0 v w hv hA)
  have HV := Lib.hid hv
  clear hv hz hlen
  go_enter Tryz.func308, Tryz.ntmps308
  go_wp2_with (fail)
  refine (btc_ok _).mono ?_
  rintro e w1 ⟨g, rfl, ha, he⟩
  have HA := Lib.hid ha
  clear ha
  go_wp2_with (fail)
  refine (HC.out _ _ (he.by HV.out) HA.out).mono ?_
  rintro e w2 ⟨rfl, he2⟩
  go_wp2_with (fail)
  go_ret
  exact ⟨rfl, he.trans he2⟩
theorem b58EncodeE_ok (bs : List UInt8) (hlen : bs.length ≤ 1000) (hz : leadZ bs < bs.length) (v : Value) (w : World) (hv : By w bs v) : Calls Tryz.prog 256 #[v] w fun e w' =>
    e = .returned (.string ⟨(numText (charsL 122) 58 bs).toArray⟩) ∧ Ext w w' := by
  have HC := Lib.hid (b58EncodeF_ok bs hlen hz v w hv)
  clear hv hz hlen
  go_enter Tryz.func256, Tryz.ntmps256
  go_wp2_with (fail)
  refine HC.out.mono ?_
  rintro e w2 ⟨rfl, he2⟩
  go_wp2_with (fail)
  go_ret
  exact ⟨rfl, he2⟩
theorem b58String_ok (bs : List UInt8) (hlen : bs.length ≤ 1000) (hz : leadZ bs < bs.length) (v : Value) (w : World) (hv : By w bs v) : Calls Tryz.prog 187 #[v] w fun e w' =>
    e = .returned (.string ⟨(numText (charsL 122) 58 bs).toArray⟩) ∧ Ext w w' := by
  have HC := Lib.hid (b58EncodeE_ok bs hlen hz v w hv)
  clear hv hz hlen
  go_enter Tryz.func187, Tryz.ntmps187
  go_wp2_with (fail)
  refine HC.out.mono ?_
  rintro e w2 ⟨rfl, he2⟩
  go_wp2_with (fail)
  go_ret
  exact ⟨rfl, he2⟩
end Go.Proofs.YtchlkclpikdbjaaGreatDoor
