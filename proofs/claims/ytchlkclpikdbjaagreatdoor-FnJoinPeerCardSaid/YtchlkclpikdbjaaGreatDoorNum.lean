/-
  Bytes as whole numbers and numbers as digits, in plain Lean. No program in it.
-/
import Derived.Test.YtchlkclpikdbjaaGreatDoorMore
import Derived.Lib.AppendStr
import Derived.Lib.BufferOwn
import Derived.Lib.HexFns2
namespace Go.Proofs.YtchlkclpikdbjaaGreatDoor
set_option linter.unusedVariables false
set_option linter.unusedSimpArgs false

/-- bytes as a whole number -/
def val (l : List UInt8) : Nat := l.foldl (fun a x => 256 * a + x.toNat) 0
theorem val_snoc (l : List UInt8) (x : UInt8) : val (l ++ [x]) = 256 * val l + x.toNat := by unfold val; rw [List.foldl_append]; rfl
theorem val_nil : val [] = 0 := rfl
theorem val_fold : ∀ (l : List UInt8) (a : Nat), l.foldl (fun a x => 256 * a + x.toNat) a = a * 256 ^ l.length + val l
  | [], a => by simp [val]
  | x :: r, a => by
    have h0 : val (x :: r) = x.toNat * 256 ^ r.length + val r := by
      have := val_fold r (256 * 0 + x.toNat)
      simpa [val] using this
    rw [List.foldl_cons, val_fold r, h0, List.length_cons, Nat.pow_succ, Nat.add_mul, Nat.mul_comm 256 a, Nat.mul_assoc, Nat.mul_comm 256, Nat.add_assoc]
theorem val_append (a b : List UInt8) : val (a ++ b) = val a * 256 ^ b.length + val b := by
  conv => lhs; unfold val
  rw [List.foldl_append, val_fold]
  rfl
theorem val_cons (x : UInt8) (r : List UInt8) : val (x :: r) = x.toNat * 256 ^ r.length + val r := by
  have := val_append [x] r
  simpa [val] using this
theorem val_lt : ∀ l : List UInt8, val l < 256 ^ l.length
  | [] => by simp [val]
  | x :: r => by
    rw [val_cons, List.length_cons, Nat.pow_succ]
    have h1 := val_lt r
    have h2 := x.toNat_lt
    have h3 : x.toNat * 256 ^ r.length ≤ 255 * 256 ^ r.length := Nat.mul_le_mul_right _ (by omega)
    omega
/-- no zero leads -/
def NZ (l : List UInt8) : Prop := l.head? ≠ some 0
theorem val_pos {l : List UInt8} (h : NZ l) (hne : l ≠ []) : 256 ^ (l.length - 1) ≤ val l := by
  cases l with
  | nil => exact absurd rfl hne
  | cons x r =>
    have hx : x ≠ 0 := fun e => h (by rw [e]; rfl)
    have hx0 : x.toNat ≠ 0 := fun e => hx (by apply UInt8.toNat.inj; simpa using e)
    rw [val_cons]
    have := Nat.le_mul_of_pos_left (256 ^ r.length) (Nat.pos_of_ne_zero hx0)
    simp; omega
theorem val_zero {l : List UInt8} (h : NZ l) (hne : l ≠ []) : val l ≠ 0 := by
  have := val_pos h hne
  have := Nat.pow_pos (n := l.length - 1) (show 0 < 256 by decide)
  omega
/-- a number's digits, the most significant first -/
def numDigs (k N : Nat) : List Nat := if h : 2 ≤ k ∧ N ≠ 0 then numDigs k (N / k) ++ [N % k] else []
  termination_by N
  decreasing_by exact Nat.div_lt_self (Nat.pos_of_ne_zero h.2) h.1
theorem numDigs_zero (k : Nat) : numDigs k 0 = [] := by rw [numDigs]; simp
theorem numDigs_pos {k N : Nat} (hk : 2 ≤ k) (h : N ≠ 0) : numDigs k N = numDigs k (N / k) ++ [N % k] := by rw [numDigs, dif_pos ⟨hk, h⟩]
theorem numDigs_len {k : Nat} (hk : 2 ≤ k) : ∀ (L N : Nat), N < 2 ^ L → (numDigs k N).length ≤ L
  | 0, N, h => by
    have : N = 0 := by simpa using h
    rw [this, numDigs_zero]; simp
  | L + 1, N, h => by
    by_cases h0 : N = 0
    · rw [h0, numDigs_zero]; simp
    · rw [numDigs_pos hk h0, List.length_append]
      have : N / k < 2 ^ L := by
        rw [Nat.div_lt_iff_lt_mul (by omega)]
        rw [Nat.pow_succ] at h
        exact Nat.lt_of_lt_of_le h (Nat.mul_le_mul_left _ hk)
      have := numDigs_len hk L (N / k) this
      simp; omega
/-- one division of a number: what is there after the bytes p -/
structure Divd (K : Nat) (p next : List UInt8) (n : Nat) : Prop where
  rem : n = val p % K
  quo : val next = val p / K
  nz : NZ next
  len : next.length ≤ p.length
theorem Divd.zero (K : Nat) : Divd K [] [] 0 := ⟨by simp [val_nil], by simp [val_nil], by simp [NZ], Nat.le_refl _⟩
theorem Divd.facts {K : Nat} (hK : 0 < K) {p next : List UInt8} {n : Nat} (h : Divd K p next n) (x : UInt8) :
    (256 * n + x.toNat) / K < 256 ∧ 256 * val p + x.toNat = K * (256 * val next + (256 * n + x.toNat) / K) + (256 * n + x.toNat) % K := by
  have hn : n < K := by rw [h.rem]; exact Nat.mod_lt _ hK
  have hx := x.toNat_lt
  constructor
  · rw [Nat.div_lt_iff_lt_mul hK]
    omega
  · have h1 := Nat.div_add_mod (val p) K
    rw [← h.rem, ← h.quo] at h1
    have h2 := Nat.div_add_mod (256 * n + x.toNat) K
    rw [Nat.mul_add, Nat.add_assoc, h2, ← Nat.mul_assoc, Nat.mul_comm K 256, Nat.mul_assoc]
    generalize K * val next = z at h1 ⊢
    omega
theorem Divd.next {K : Nat} (hK : 0 < K) {p next : List UInt8} {n : Nat} (h : Divd K p next n) (x : UInt8) (hq : 0 < (256 * n + x.toNat) / K ∨ next ≠ []) :
    Divd K (p ++ [x]) (next ++ [UInt8.ofNat ((256 * n + x.toNat) / K)]) ((256 * n + x.toNat) % K) := by
  obtain ⟨h1, h2⟩ := h.facts hK x
  have hv : (UInt8.ofNat ((256 * n + x.toNat) / K)).toNat = (256 * n + x.toNat) / K := by simp; omega
  have hm := Nat.mod_lt (256 * n + x.toNat) hK
  refine ⟨?_, ?_, ?_, by simp [h.len]⟩
  · rw [val_snoc, h2, Nat.mul_add_mod, Nat.mod_mod]
  · rw [val_snoc, val_snoc, hv, h2, Nat.mul_add_div hK, Nat.div_eq_of_lt hm, Nat.add_zero]
  · unfold NZ
    cases hnx : next with
    | nil =>
      have h0 : 0 < (256 * n + x.toNat) / K := by
        rcases hq with h | h
        · exact h
        · exact absurd hnx h
      rw [List.nil_append, List.head?_cons]
      intro e
      rw [Option.some.inj e] at hv
      have hv0 : (0 : Nat) = (256 * n + x.toNat) / K := hv
      omega
    | cons a r =>
      have := h.nz
      rw [hnx] at this
      simpa [NZ] using this
theorem Divd.skip {K : Nat} (hK : 0 < K) {p : List UInt8} {n : Nat} (h : Divd K p [] n) (x : UInt8) (hq : (256 * n + x.toNat) / K = 0) :
    Divd K (p ++ [x]) [] ((256 * n + x.toNat) % K) := by
  obtain ⟨h1, h2⟩ := h.facts hK x
  have hm := Nat.mod_lt (256 * n + x.toNat) hK
  refine ⟨?_, ?_, by simp [NZ], by simp⟩
  · rw [val_snoc, h2, Nat.mul_add_mod, Nat.mod_mod]
  · rw [val_snoc, h2, hq, val_nil, Nat.mul_add_div hK, Nat.div_eq_of_lt hm]
/-- zeros that lead -/
def leadZ : List UInt8 → Nat
  | [] => 0
  | x :: r => if x = 0 then leadZ r + 1 else 0
theorem leadZ_le : ∀ l : List UInt8, leadZ l ≤ l.length
  | [] => Nat.le_refl _
  | x :: r => by unfold leadZ; have := leadZ_le r; split <;> simp <;> omega
theorem leadZ_at : ∀ (l : List UInt8) (j : Nat), j < leadZ l → l.getD j 0 = 0
  | [], j, h => by simp [leadZ] at h
  | x :: r, j, h => by
    unfold leadZ at h
    split at h
    · cases j with
      | zero => simpa using ‹x = 0›
      | succ j => simpa using leadZ_at r j (by omega)
    · omega
theorem leadZ_stop : ∀ (l : List UInt8), leadZ l < l.length → l.getD (leadZ l) 0 ≠ 0
  | [], h => by simp at h
  | x :: r, h => by
    unfold leadZ at h ⊢
    split
    · rename_i hx
      rw [if_pos hx] at h
      simpa using leadZ_stop r (by simpa using h)
    · simpa using ‹¬ x = 0›
theorem leadZ_drop (l : List UInt8) : NZ (l.drop (leadZ l)) := by
  unfold NZ
  by_cases h : leadZ l < l.length
  · rw [List.drop_eq_getElem_cons h]
    have := leadZ_stop l h
    rw [getD_lt _ _ h] at this
    rw [List.head?_cons]
    intro e
    exact this (Option.some.inj e)
  · rw [List.drop_of_length_le (by omega)]; simp
theorem leadZ_val : ∀ l : List UInt8, val (l.drop (leadZ l)) = val l
  | [] => rfl
  | x :: r => by
    unfold leadZ
    split
    · rename_i hx
      rw [List.drop_succ_cons, leadZ_val r, hx]
      simp [val]
    · rfl
/-- the text of bytes as a whole number -/
def numText (cs : List UInt8) (K : Nat) (bs : List UInt8) : List UInt8 := List.replicate (leadZ bs) (cs.getD 0 0) ++ (numDigs K (val bs)).map fun d => cs.getD d 0
end Go.Proofs.YtchlkclpikdbjaaGreatDoor
namespace Go.Proofs.YtchlkclpikdbjaaGreatDoor
set_option linter.unusedVariables false
set_option linter.unusedSimpArgs false
open Go.RowKit Go.Sort

theorem i64_join (n x : Nat) (hn : n < 100000) (hx : x < 256) : bits .or .i64 ((n : Int) * 256) (x : Int) = ((256 * n + x : Nat) : Int) := by
  rw [bits_join .i64 63 (by decide) (fun n h0 h1 => by rw [IntKind.wrap_i64]; omega) 8 _ _ (by omega) (by omega) (by omega) (by omega) (by omega) (by omega)]
  omega
theorem step_facts (K n x Sz : Nat) (hK2 : 2 ≤ K) (hK : K ≤ 64) (hn : n < K) (hx : x < 256) (hS : Sz = K) :
    ∃ t q r : Nat, t = 256 * n + x ∧ q = t / K ∧ r = t % K ∧ bits .or .i64 ((n : Int) * 256) (x : Int) = (t : Int) ∧ wrap64 ((t : Int) / (Sz : Int)) = (q : Int) ∧ (t : Int) % (Sz : Int) = (r : Int) ∧ t < 16384 ∧ q < 256 ∧ r < K ∧ IntKind.u8.wrap (q : Int) = (q : Int) ∧ 0 < (Sz : Int) := by
  subst hS
  refine ⟨256 * n + x, (256 * n + x) / Sz, (256 * n + x) % Sz, rfl, rfl, rfl, i64_join n x (by omega) hx, ?_, ?_, by omega, ?_, Nat.mod_lt _ (by omega), ?_, by omega⟩
  · rw [← Int.natCast_ediv]
    have := Nat.div_le_self (256 * n + x) Sz
    generalize (256 * n + x) / Sz = z at this ⊢
    unfold wrap64; omega
  · rw [← Int.natCast_emod]
  · rw [Nat.div_lt_iff_lt_mul (by omega)]; omega
  · have : (256 * n + x) / Sz < 256 := by rw [Nat.div_lt_iff_lt_mul (by omega)]; omega
    generalize (256 * n + x) / Sz = z at this ⊢
    rw [IntKind.wrap_u8]; omega
theorem own_zero (w : World) (base : Nat) (e : TypeId) (hb : base ≤ w.heap.size) : (w.alloc (.cells #[] e (0, 0))).ownsRow base e 1 (.slice (some ⟨w.heap.size, 0, none⟩) 0 0) 0 [] :=
  ⟨rfl, .inr ⟨w.heap.size, 0, #[], rfl, hb, heap_alloc_new w _, Nat.le_refl _, by decide, rfl, rfl⟩⟩
theorem by_nil (w : World) : By w [] (.slice none 0 0) := ⟨none, 0, rfl, Nat.le_refl _, fun h => absurd rfl h⟩
theorem B_eq (z : UInt8) : ((z.toNat : Int) == 0) = decide (z = 0) := by
  rw [Bool.eq_iff_iff]; simp
  constructor
  · intro h; apply UInt8.toNat.inj; simpa using h
  · intro h; rw [h]; rfl

set_option maxHeartbeats 4000000 in
set_option maxRecDepth 100000 in
theorem numberText_ok (cs : List UInt8) (K : Nat) (hK2 : 2 ≤ K) (hK : K ≤ 64) (hcs : cs.length = K) (bs : List UInt8) (hlen : bs.length ≤ 1000) (hnz : leadZ bs < bs.length) (v : Value) (w : World) (hv : By w bs v) :
    Calls Tryz.prog 16 #[.string ⟨cs.toArray⟩, v] w fun e w' => e = .returned (.string ⟨(numText cs K bs).toArray⟩) ∧ Ext w w' := by
  obtain ⟨a, c, rfl, hc, hcell⟩ := hv
  obtain ⟨g, o, rfl, hrow⟩ := hcell (by intro h; rw [h] at hnz; simp at hnz)
  obtain ⟨i0, hi, hz0, hz1, hz2⟩ := info_parts info_u8
  obtain ⟨S, hS⟩ : ∃ S : ByteArray, S = ⟨cs.toArray⟩ := ⟨_, rfl⟩
  rw [← hS]
  have hSz : S.size = K := by rw [Lib.size_eq, hS]; simpa using hcs
  have HS := Lib.hid hS
  have HSZ := Lib.hid hSz
  have HCS := Lib.hid hcs
  have HROW := Lib.hid hrow
  obtain ⟨len, hl⟩ : ∃ len, len = bs.length := ⟨_, rfl⟩
  rw [← hl] at hlen hc hnz ⊢
  have HL := Lib.hid hl
  obtain ⟨z, hz⟩ : ∃ z, z = leadZ bs := ⟨_, rfl⟩
  rw [← hz] at hnz
  have HZ := Lib.hid hz
  clear hS hSz hcs hrow hl hz
  go_enter Tryz.func16, Tryz.ntmps16
  go_wp2
  go_loopg [5] (len + 1) (fun gk s5 wx => w = wx ∧ ∃ j : Nat, s5 = .int .i64 (j : Int) ∧ j ≤ z ∧ gk = len + 1 - j)
  case atStart => exact ⟨rfl, 0, rfl, by omega, rfl⟩
  case round =>
    obtain ⟨rfl, j, rfl, hj, hgk⟩ := hrel
    have hjl : j < len := by omega
    have hjI : (j : Int) < (len : Int) := by omega
    have c1 : w.cell? ⟨g, o + j, none⟩ = some (.int .u8 ((bs.getD j 0).toNat : Int)) := HROW.out j _ (map_at bs (by have := HL.out; omega))
    by_cases hjz : j < z
    · have h0 : bs.getD j 0 = 0 := leadZ_at bs j (by rw [← HZ.out]; exact hjz)
      rw [h0] at c1
      go_wp2
      go_roundg (len + 1 - (j + 1))
      case measure => omega
      case rel => exact ⟨rfl, j + 1, by go_num, by omega, rfl⟩
    · obtain rfl : j = z := by omega
      have h0 : bs.getD j 0 ≠ 0 := by rw [HZ.out]; exact leadZ_stop bs (by rw [← HZ.out, ← HL.out]; exact hnz)
      have h1 := B_eq (bs.getD j 0)
      rw [decide_eq_false h0] at h1
      generalize bs.getD j 0 = x at c1 h1
      clear h0
      have hsrc : ∀ w', Ext w w' → SrcC w' 1 (.slice (some ⟨g, o + j, none⟩) (len - j) (c - j)) (len - j) ((bs.drop j).map B) := fun w' he => ⟨_, _, rfl, by simp [HL.out], fun _ => ⟨_, rfl, fun i u hi => by
        rw [addr_add, Nat.add_assoc]
        rw [List.map_drop, List.getElem?_drop] at hi
        exact he.cell (HROW.out _ _ hi)⟩⟩
      have HSRC := Lib.hid hsrc
      clear hsrc
      go_wp2_with (at_builtin; refine wpList_append_any rfl _ _ 22 rfl w.heap.size 5 i0 _ 1 1 Tryz.underlying22 hi hz0 hz1 hz2 rfl (by decide) _ 0 [] rfl (own_zero w w.heap.size _ (Nat.le_refl _)) _ (len - j) _ rfl (HSRC.out _ (Ext.alloc (Ext.refl _) _)) ?c1 (by unfold maxLen; omega) (by omega) (by simp) ?_; (case c1 => intro u hu; obtain ⟨x, -, rfl⟩ := List.mem_map.1 hu; rfl); intro u' w5 hown5 hgr5 hwh5)
      have hby0 : By w5 (bs.drop j) u' := by
        have hle : (bs.drop j).length = 0 + (len - j) := by rw [List.length_drop, ← HL.out]; omega
        rw [← hle] at hown5
        exact own_by (by simpa using hown5)
      have hE5 : Ext w w5 := below_grown (Ext.alloc (Ext.refl w) _) (Ext.alloc (Ext.refl w) _).size hgr5 (fun q hq => by injection hq with hq; exact Nat.le_of_eq hq)
      have hNZ : NZ (bs.drop j) := by rw [HZ.out]; exact leadZ_drop bs
      have hval : val (bs.drop j) = val bs := by rw [HZ.out]; exact leadZ_val bs
      have hlb : (bs.drop j).length ≤ len := by rw [List.length_drop, ← HL.out]; omega
      have HB0 := Lib.hid hby0
      have HE5 := Lib.hid hE5
      have HNZ := Lib.hid hNZ
      have HV := Lib.hid hval
      clear hby0 hE5 hNZ hval hown5 hgr5 hwh5
      obtain ⟨R0, hR0⟩ : ∃ R0, R0 = bs.drop j := ⟨_, rfl⟩
      rw [← hR0] at HB0 HNZ HV hlb
      have HRB := Lib.hid hR0
      clear hR0
      have hD8 : ∀ R D : List UInt8, (numDigs K (val bs)).map (fun d => cs.getD d 0) = (numDigs K (val R)).map (fun d => cs.getD d 0) ++ D → D.length ≤ 8 * len := by
        intro R D h
        have h1 := congrArg List.length h
        rw [List.length_append, List.length_map, List.length_map] at h1
        have h2 := numDigs_len hK2 (8 * len) (val bs) (by rw [Nat.pow_mul]; have := val_lt bs; rw [← HL.out] at this; simpa using this)
        omega
      have HD8 := Lib.hid hD8
      clear hD8
      go_loopg [6, 7] (val R0 + 1) (fun gk s6 s7 wx => ∃ R D : List UInt8, R.length ≤ len ∧ gk = val R + 1 ∧ Hid (NZ R) ∧ Hid (By wx R s6) ∧ Hid (By wx D s7) ∧ Hid ((numDigs K (val bs)).map (fun d => cs.getD d 0) = (numDigs K (val R)).map (fun d => cs.getD d 0) ++ D) ∧ Hid (Ext w wx))
      case atStart => exact ⟨R0, [], hlb, rfl, HNZ, HB0, Lib.hid (by_nil _), Lib.hid (by rw [HV.out, List.append_nil]), HE5⟩
      case round =>
        obtain ⟨wo, hwo⟩ : ∃ wo, wo = wr := ⟨_, rfl⟩
        subst hwo
        obtain ⟨R, D, hRl, hgkR, hRZ, hRB, hDB, hND, hEx⟩ := hrel
        obtain ⟨aR, cR, rfl, hcR, hcellR⟩ := hRB.out
        by_cases hRn : R = []
        · subst hRn
          have hDe : D = (numDigs K (val bs)).map (fun d => cs.getD d 0) := by
            have := hND.out
            rw [val_nil, numDigs_zero] at this
            simpa using this.symm
          have hDl := HD8.out [] D hND.out
          have HDE := Lib.hid hDe
          have h0S : 0 < S.size := by rw [HSZ.out]; omega
          have hS0 := Lib.hid (getElem_eq HS.out h0S)
          have hwE := hEx.out.size
          obtain ⟨aD, cD, rfl, hcD, -⟩ := id hDB.out
          have HW0 := Lib.hid (own_zero wo wo.heap.size 5 (Nat.le_refl _))
          have HWE := Lib.hid ((Ext.alloc (Ext.refl wo) (.cells #[] 5 (0, 0))))
          have HDD := Lib.hid hDB.out
          clear hDe hcell hcD
          go_wp2
          go_loopg [13, 76] (j + 1) (fun gk s13 s76 wx => ∃ i : Nat, s76 = .int .i64 (i : Int) ∧ i ≤ j ∧ gk = j + 1 - i ∧ Hid (wx.ownsRow wo.heap.size 5 1 s13 i ((List.replicate i (cs.getD 0 0)).map B)) ∧ Hid (Ext wo wx))
          case atStart => exact ⟨0, rfl, by omega, rfl, HW0, HWE⟩
          case round =>
            obtain ⟨i, rfl, hij, hgki, ho13, hE13⟩ := hrel
            have hwE3 := hE13.out.size
            have hlt7 := Lib.hid ho13.out.lt
            by_cases hlt : i < j
            · have hltI : (i : Int) < (j : Int) := by omega
              go_wp2_with (at_builtin; refine wpList_append_any rfl _ _ 22 rfl wo.heap.size 5 i0 _ 1 1 Tryz.underlying22 hi hz0 hz1 hz2 rfl (by decide) _ i ((List.replicate i (cs.getD 0 0)).map B) rfl (Ext.own (Ext.alloc (Ext.refl _) _) ho13.out) _ 1 [.int .u8 (S[0].toNat : Int)] rfl (src_one1 _ _ _) (by simp [Value.oneCell']) (by unfold maxLen; omega) (by omega) (by simp; omega) ?_; intro u7' w7 hown7 hgr7 hwh7)
              have hown8 := Lib.hid hown7
              have hE8 := Lib.hid (below_grown (Ext.alloc hE13.out _) (Ext.alloc hE13.out _).size hgr7 (fun j hj => (hlt7.out j hj).1))
              clear hown7 hgr7 hwh7
              go_roundg (j + 1 - (i + 1))
              case measure => omega
              case rel =>
                refine ⟨i + 1, by go_num, by omega, rfl, Lib.hid ?_, hE8⟩
                have := hown8.out
                rw [hS0.out] at this
                rw [List.replicate_succ', List.map_append]
                exact this
            · obtain rfl : i = j := by omega
              have hltI : ¬ ((i : Int) < (i : Int)) := by omega
              have hsrcD := Lib.hid (hE13.out.by HDD.out).src
              go_wp2_with (first
                | (at_builtin; refine wpList_append_any rfl _ _ 22 rfl wo.heap.size 5 i0 _ 1 1 Tryz.underlying22 hi hz0 hz1 hz2 rfl (by decide) _ i ((List.replicate i (cs.getD 0 0)).map B) rfl ho13.out _ D.length (D.map B) rfl hsrcD.out ?c3 (by unfold maxLen; omega) (by omega) (by omega) ?_; (case c3 => intro u hu; obtain ⟨x, -, rfl⟩ := List.mem_map.1 hu; rfl); intro u7' w7 hown7 hgr7 hwh7; have hown8 : w7.ownsRow wo.heap.size 5 1 u7' (List.replicate i (cs.getD 0 0) ++ D).length ((List.replicate i (cs.getD 0 0) ++ D).map B) := (by rw [List.length_append, List.length_replicate, List.map_append]; exact hown7))
                | (refine wpList_str rfl _ rfl _ (own_by hown8) ?_))
              go_ret
              refine ⟨ret_str ?_, hEx.out.trans (below_grown hE13.out hwE3 hgr7 (fun j hj => (hlt7.out j hj).1))⟩
              unfold numText
              rw [← HZ.out, HDE.out, List.getD_eq_getElem?_getD]
        · obtain ⟨gR, oR, rfl, hrowR⟩ := hcellR hRn
          have hRpos := List.length_pos_iff.2 hRn
          have hRposI : 0 < (R.length : Int) := by omega
          have HRR := Lib.hid hrowR
          have HRN := Lib.hid hRn
          obtain ⟨m, hm⟩ : ∃ m, m = R.length := ⟨_, rfl⟩
          rw [← hm] at hRl hcR hRpos hRposI ⊢
          have HM := Lib.hid hm
          clear hcellR hrowR hRn hm
          go_wp2
          go_loopg [8, 9, 37] (m + 1) (fun gk s8 s9 s37 wx => ∃ (i n : Nat) (nx : List UInt8), s37 = .int .i64 (i : Int) ∧ i ≤ m ∧ gk = m + 1 - i ∧ s8 = .int .i64 (n : Int) ∧ n < K ∧ Hid (Divd K (R.take i) nx n) ∧ nx.length ≤ i ∧ Hid (wx.ownsRow wo.heap.size 5 1 s9 nx.length (nx.map B)) ∧ Hid (Ext wo wx))
          case atStart => exact ⟨0, 0, [], rfl, by omega, rfl, rfl, by omega, Lib.hid (Divd.zero K), Nat.le_refl _, Lib.hid (World.ownsRow_nil _ _ _ _), Lib.hid (Ext.refl _)⟩
          case round =>
            obtain ⟨i, n, nx, rfl, hil, hgki, rfl, hnK, hDV, hnxl, hnxo, hEx2⟩ := hrel
            by_cases him : i < m
            · have himI : (i : Int) < (m : Int) := by omega
              have c2 : wr.cell? ⟨gR, oR + i, none⟩ = some (.int .u8 ((R.getD i 0).toNat : Int)) := hEx2.out.cell (HRR.out i _ (map_at R (by have := HM.out; omega)))
              generalize hx : R.getD i 0 = x at c2
              have hx8 := x.toNat_lt
              have HX := Lib.hid hx
              clear hx
              obtain ⟨t, q, r, ht, hq, hr, hor, htd, htm, ht6, hq8, hrK, hqw, hszI⟩ := step_facts K n x.toNat S.size hK2 hK hnK hx8 HSZ.out
              have HT := Lib.hid ht
              have HQ := Lib.hid hq
              have HR := Lib.hid hr
              obtain ⟨a9, c9, h9⟩ : ∃ a9 c9, u9 = .slice a9 nx.length c9 := by
                rcases hnxo.out.2 with ⟨h1, h2⟩ | ⟨g, cap, cur, h1, -⟩
                · exact ⟨_, _, by rw [h1, h2]⟩
                · exact ⟨_, _, h1⟩
              subst h9
              clear ht hq hr hRpos hRposI
              have htake : R.take (i + 1) = R.take i ++ [x] := by
                rw [← HX.out]
                have hiR : i < R.length := by rw [← HM.out]; exact him
                rw [List.take_succ_eq_append_getElem hiR, getD_lt _ _ hiR]
              have HTK := Lib.hid htake
              clear htake
              by_cases hpush : 0 < q ∨ nx ≠ []
              · have hbase := hEx2.out.size
                have HPU := Lib.hid hpush
                have hcond : 0 < q ∨ (¬ 0 < q ∧ 0 < nx.length) := by
                  by_cases h : 0 < q
                  · exact .inl h
                  · refine .inr ⟨h, ?_⟩
                    rcases hpush with h1 | h1
                    · exact absurd h1 h
                    · exact List.length_pos_iff.2 h1
                clear hpush
                rcases hcond with h1 | ⟨h1, h2⟩
                all_goals
                  go_wp2_with (at_builtin; refine wpList_append_any rfl _ _ 22 rfl wo.heap.size 5 i0 _ 1 1 Tryz.underlying22 hi hz0 hz1 hz2 rfl (by decide) _ nx.length (nx.map B) rfl (Ext.own (Ext.alloc (Ext.refl _) _) hnxo.out) _ 1 [.int .u8 (q : Int)] rfl (src_one1 _ _ _) (by simp [Value.oneCell']) (by unfold maxLen; omega) (by omega) (by simp; omega) ?_; intro u6' w6 hown6 hgr6 hwh6)
                  have hdv := Lib.hid (Divd.next (K := K) (by omega) hDV.out x (by rw [← HT.out, ← HQ.out]; exact HPU.out))
                  rw [← HTK.out, ← HT.out, ← HR.out, ← HQ.out] at hdv
                  have hown7 : w6.ownsRow wo.heap.size 5 1 u6' (nx ++ [UInt8.ofNat q]).length ((nx ++ [UInt8.ofNat q]).map B) := by
                    have hqB : (.int .u8 (q : Int) : Value) = B (UInt8.ofNat q) := by simp [B]; omega
                    rw [hqB] at hown6
                    simpa using hown6
                  have hlt6 := hnxo.out.lt
                  have hE7 : Ext wo w6 := below_grown (Ext.alloc hEx2.out _) (Ext.alloc hEx2.out _).size hgr6 (fun j hj => (hlt6 j hj).1)
                  have H7 := Lib.hid hown7
                  have HE7 := Lib.hid hE7
                  clear hown7 hE7 hown6 hgr6 hwh6 hlt6
                  go_wp2
                  go_roundg (m + 1 - (i + 1))
                  case measure => omega
                  case rel => exact ⟨i + 1, r, nx ++ [UInt8.ofNat q], by go_num, by omega, rfl, by rw [htm], hrK, hdv, by simp; omega, H7, HE7⟩
              · have h1 : ¬ 0 < q := fun h => hpush (.inl h)
                have hnx : nx = [] := by
                  by_cases h : nx = []
                  · exact h
                  · exact absurd (.inr h) hpush
                have hq0 : q = 0 := by
                  rcases Nat.eq_zero_or_pos q with h | h
                  · exact h
                  · exact absurd (.inl h) hpush
                subst hnx
                have hdv := Lib.hid (Divd.skip (K := K) (by omega) hDV.out x (by rw [← HT.out, ← HQ.out, hq0]))
                rw [← HTK.out, ← HT.out, ← HR.out] at hdv
                clear hpush hq0
                go_wp2
                go_roundg (m + 1 - (i + 1))
                case measure => omega
                case rel => exact ⟨i + 1, r, [], by go_num, by omega, rfl, by rw [htm], hrK, hdv, Nat.zero_le _, hnxo, hEx2⟩
            · obtain rfl : i = m := by omega
              have hfull : R.take i = R := by rw [HM.out]; exact List.take_length
              have hdv := hDV.out
              rw [hfull] at hdv
              have hnS : n < S.size := by rw [HSZ.out]; exact hnK
              have hSn := getElem_eq HS.out hnS
              have hDl := HD8.out R D hND.out
              have hDB2 := hEx2.out.by hDB.out
              have hwE := hEx2.out.size
              have hwE2 := hEx.out.size
              have hRv : val R ≠ 0 := val_zero hRZ.out HRN.out
              have hstep : Hid ((numDigs K (val bs)).map (fun d => cs.getD d 0) = (numDigs K (val nx)).map (fun d => cs.getD d 0) ++ (S[n] :: D)) := by
                refine Lib.hid ?_
                rw [hND.out, numDigs_pos hK2 hRv, hdv.quo, hSn, ← hdv.rem]
                simp
              have hvlt : val nx + 1 < val R + 1 := by rw [hdv.quo]; have := Nat.div_lt_self (Nat.pos_of_ne_zero hRv) (show 1 < K by omega); omega
              obtain ⟨y, hy⟩ : ∃ y, y = S[n] := ⟨_, rfl⟩
              rw [← hy] at hstep
              have HY := Lib.hid hy
              have HNX := Lib.hid hdv.nz
              have HVL := Lib.hid hvlt
              have HSRC := Lib.hid hDB2.src
              have HNB : Hid (By wr nx u9) := Lib.hid (own_by hnxo.out)
              have hown1 := own_one wr wr.heap.size 5 (.int .u8 (S[n].toNat : Int)) (Nat.le_refl _)
              have HOW := Lib.hid hown1
              clear hfull hdv hSn hDB2 hRv hvlt hy hown1 hcell
              go_wp2_with (at_builtin; refine wpList_append_any rfl _ _ 22 rfl wr.heap.size 5 i0 _ 1 1 Tryz.underlying22 hi hz0 hz1 hz2 rfl (by decide) _ 1 [.int .u8 (S[n].toNat : Int)] rfl HOW.out _ D.length (D.map B) rfl (Ext.srcC (Ext.alloc (Ext.refl _) _) HSRC.out) ?c2 (by unfold maxLen; omega) (by omega) (by simp) ?_; (case c2 => intro u hu; obtain ⟨x, -, rfl⟩ := List.mem_map.1 hu; rfl); intro u7' w7 hown7 hgr7 hwh7)
              have hown8 : w7.ownsRow wr.heap.size 5 1 u7' (y :: D).length ((y :: D).map B) := by
                rw [HY.out]
                have e : (S[n] :: D).length = 1 + D.length := by simp; omega
                rw [e]
                simpa using hown7
              have hE8 : Ext wr w7 := below_grown (Ext.alloc (Ext.refl wr) _) (Ext.alloc (Ext.refl wr) _).size hgr7 (fun q hq => by injection hq with hq; exact Nat.le_of_eq hq)
              have HB8 := Lib.hid (own_by hown8)
              have HE8 := Lib.hid hE8
              clear hown7 hgr7 hwh7 hown8 hE8
              go_roundg (val nx + 1)
              case measure => have := HVL.out; omega
              case rel => exact ⟨nx, y :: D, by omega, rfl, HNX, Lib.hid (HE8.out.by HNB.out), HB8, hstep, Lib.hid ((hEx.out.trans hEx2.out).trans HE8.out)⟩
end Go.Proofs.YtchlkclpikdbjaaGreatDoor
namespace Go.Proofs.YtchlkclpikdbjaaGreatDoor
set_option linter.unusedVariables false
set_option linter.unusedSimpArgs false
open Go.RowKit Go.Sort

/-- the text of bytes in a base of whole numbers -/
def numbText (b : Nat) (bs : List UInt8) : List UInt8 := UInt8.ofNat b :: numText (charsL b) (charsL b).length bs
theorem num_facts : ∀ b ∈ basesL, bitsL b = 0 → 2 ≤ (charsL b).length ∧ (charsL b).length ≤ 64 ∧ b < 256 := by decide
theorem numText_len (cs : List UInt8) {K : Nat} (hK2 : 2 ≤ K) (bs : List UInt8) : (numText cs K bs).length ≤ 9 * bs.length := by
  unfold numText
  rw [List.length_append, List.length_replicate, List.length_map]
  have h1 := leadZ_le bs
  have h2 := numDigs_len hK2 (8 * bs.length) (val bs) (by rw [Nat.pow_mul]; have := val_lt bs; simpa using this)
  omega

set_option maxHeartbeats 4000000 in
set_option maxRecDepth 100000 in
theorem BaseText_num (b : Nat) (hb : b ∈ basesL) (hn0 : bitsL b = 0) (bs : List UInt8) (hlen : bs.length ≤ 1000) (hz : leadZ bs < bs.length) (v : Value) (w : World) (hv : By w bs v) :
    Calls Tryz.prog 7 #[.int .i64 (b : Int), v] w fun e w' => e = .returned (.string ⟨(numbText b bs).toArray⟩) ∧ Ext w w' := by
  obtain ⟨h2, h64, h256⟩ := num_facts b hb hn0
  obtain ⟨i0, hi, hz0, hz1, hz2⟩ := info_parts info_u8
  have HC := Lib.hid (fun w => BaseChars_ok b hb w)
  have HB := Lib.hid (fun w => BaseBits_ok b hb w)
  have HN := Lib.hid (fun w hv => numberText_ok (charsL b) (charsL b).length h2 h64 rfl bs hlen hz v w hv)
  have hb0 : ((b : Int) == 0) = false := szB (k := 0) (by intro h; subst h; revert hb; decide)
  have hbx : IntKind.u8.wrap (b : Int) = (b : Int) := by rw [IntKind.wrap_u8]; omega
  have hbB : Value.int .u8 (b : Int) = B (UInt8.ofNat b) := by simp [B]; omega
  have hL : (numText (charsL b) (charsL b).length bs).length ≤ 9000 := by have := numText_len (charsL b) h2 bs; omega
  have HV := Lib.hid hv
  have HL := Lib.hid hL
  obtain ⟨T, hT⟩ : ∃ T, T = numText (charsL b) (charsL b).length bs := ⟨_, rfl⟩
  have HT := Lib.hid hT
  obtain ⟨TS, hTS⟩ : ∃ TS : ByteArray, TS = ⟨T.toArray⟩ := ⟨_, rfl⟩
  have HTS := Lib.hid hTS
  have hTsz : TS.size ≤ 9000 := by rw [hTS, hT]; simpa [ByteArray.size] using hL
  have HBB := Lib.hid hbB
  clear hv hL hT hTS hbB h2 h64 hlen hz
  go_enter Tryz.func7, Tryz.ntmps7
  go_wp2_with (fail)
  refine (HC.out _).mono ?_
  rintro e w1 ⟨rfl, he1⟩
  go_wp2_with (fail)
  refine (HB.out _).mono ?_
  rintro e w2 ⟨rfl, he2⟩
  rw [hn0]
  go_wp2_with (fail)
  have hown0 := Ext.own he2 (own_one w1 w.heap.size 5 (.int .u8 (b : Int)) he1.size)
  have hE2 : Ext w w2 := (Ext.alloc he1 _).trans he2
  refine (HN.out _ (hE2.by HV.out)).mono ?_
  rintro e w3 ⟨rfl, he3⟩
  rw [← HT.out, ← HTS.out]
  have hown3 := Ext.own he3 hown0
  have hE3 := hE2.trans he3
  have HO := Lib.hid hown3
  have HE3 := Lib.hid hE3
  have hw3 := hE3.size
  clear hown0 hown3 hE2 hE3 he1 he2 he3
  go_wp2_with (first
    | (at_builtin; refine Lib.wpList_append_own_string (w := w3) rfl _ _ 22 9 rfl w.heap.size 5 i0 Tryz.underlying22 Tryz.underlying9 hi hz0 hz1 hz2 _ 1 [.int .u8 (b : Int)] rfl HO.out TS rfl (by unfold maxLen; omega) (by omega) hw3 ?_; intro u' w5 hown5 hgr5 hwh5; have hown6 : w5.ownsRow w.heap.size 5 1 u' (UInt8.ofNat b :: T).length ((UInt8.ofNat b :: T).map B) := (by
        have e1 : (UInt8.ofNat b :: T).length = 1 + TS.size := by rw [HTS.out]; simp [ByteArray.size]; omega
        have e2 : (UInt8.ofNat b :: T).map B = [.int .u8 (b : Int)] ++ Lib.strCells TS := by rw [HBB.out, HTS.out]; simp [Lib.strCells]
        rw [e1, e2]; exact hown5))
    | (refine wpList_str rfl _ rfl _ (own_by hown6) ?_))
  go_ret
  refine ⟨ret_str ?_, below_grown HE3.out hw3 hgr5 (fun j hj => (HO.out.lt j hj).1)⟩
  unfold numbText
  rw [← HT.out]
end Go.Proofs.YtchlkclpikdbjaaGreatDoor
namespace Go.Proofs.YtchlkclpikdbjaaGreatDoor
set_option linter.unusedVariables false
set_option linter.unusedSimpArgs false
open Go.RowKit Go.Sort

section
variable {P : Program}
theorem run_alloc_of (w : World) (ρ : Operand → Value) (o : Oper) (t : TypeId) (i : TypeInfo) (z : Value) (h : o.op = .alloc t) (hi : P.info? t = some i) (hz : i.zero = some z) :
    (execOp ρ o).run P w = .ok (.value (.pointer (some ⟨w.heap.size, 0, none⟩))) (w.alloc (.cells z.cells t (0, 0))) := by
  unfold execOp
  simp only [h]
  simp [go_sem, Instr.alloc, zeroValue, typeInfo, hi, hz]
end
/-- a new variable of many cells -/
theorem wpList_newrow {ops : Array Oper} {rest : List Oper} {o : Oper} {a : Act} {w : World} {Q : Exit → Act → World → Prop} (hg : o.guard = none) (t : TypeId) (ho : o.op = .alloc t) (n : Nat) (f : Nat → Value)
    (hz : (Tryz.prog.info? t).map (fun i => (i.zero.map (·.cells))) = some (some ((Array.range n).map f)))
    (h : ∀ w1, w1.rowIs w.heap.size t n f → Ext w w1 → w1.heap.size = w.heap.size + 1 → wpList Tryz.prog ops Q rest (a.put o.dst (.pointer (some ⟨w.heap.size, 0, none⟩))) w1) : wpList Tryz.prog ops Q (o :: rest) a w := by
  obtain ⟨i, hi, h2⟩ := Option.map_eq_some_iff.1 hz
  obtain ⟨z, hz1, hz2⟩ := Option.map_eq_some_iff.1 h2
  refine Great.wpList_runTo hg _ rfl _ _ (run_alloc_of w a.eval o t i z ho hi hz1) (h _ ?_ (Ext.alloc (Ext.refl w) _) (by simp))
  rw [hz2]
  have := World.rowIs_alloc w ((Array.range n).map f) t f (fun j hj => by
    have hj' : j < n := by simpa using hj
    simp [hj'])
  simpa using this
theorem ext_setCell {w w' : World} (h : Ext w w') {b : Nat} (hb : w.heap.size ≤ b) (i : Nat) (v : Value) : Ext w (w'.setCell ⟨b, i, none⟩ v) := Below.setCell h (by simpa using hb) v
section
variable {P : Program}
/-- A struct (or array) is loaded that lies somewhere in a block. -/
theorem run_loadRow (w : World) (g o : Nat) (cs : List Value) (hr : Row w g o cs) (ty : TypeId) (d : TypeDesc)
    (hu : P.underlying ty = some d) (hd : (match d with | .struct _ | .array _ _ => true | _ => false) = true) (hi : (P.info? ty).map (·.size) = some cs.length) :
    (loadVar ty ⟨g, o, none⟩).run P w = .ok (.agg cs.toArray) w := by
  have hl : (loadCells ⟨g, o, none⟩ cs.length).run P w = .ok cs.toArray w :=
    run_loadCells_list (P := P) w ⟨g, o, none⟩ cs (fun j v hv => by rw [addr_add]; exact hr j v hv)
  cases hq : P.info? ty with
  | none => simp [hq] at hi
  | some i =>
    have hs : i.size = cs.length := by simpa [hq] using hi
    have hagg : (isAgg ty).run P w = .ok true w := by
      unfold isAgg
      rw [Sem.run_bind, run_underlying hu w]
      cases d <;> simp_all
    simp [loadVar, Sem.run_bind, hagg, sizeOf, typeInfo, hq, hs, hl]
theorem wpList_load_row {ops : Array Oper} {rest : List Oper} {o : Oper} {a : Act} {w : World} {Q : Exit → Act → World → Prop} (hgd : o.guard = none) (ty : TypeId) (x : Operand) (ho : o.op = .load ty x)
    (g : Nat) (hx : a.eval x = .pointer (some ⟨g, 0, none⟩)) (t : TypeId) (n : Nat) (f : Nat → Value) (hr : w.rowIs g t n f) (d : TypeDesc)
    (hu : P.underlying ty = some d) (hd : (match d with | .struct _ | .array _ _ => true | _ => false) = true) (hi : (P.info? ty).map (·.size) = some n)
    (h : ∀ X : Array Value, Hid (X = ((List.range n).map f).toArray) → wpList P ops Q rest (a.put o.dst (.agg X)) w) : wpList P ops Q (o :: rest) a w :=
  wpList_plain hgd fun K hK => by
    have hrow : Row w g 0 ((List.range n).map f) := fun j v hj => by
      have hj' : j < n := by have := (List.getElem?_eq_some_iff.1 hj).1; simpa using this
      rw [Nat.zero_add, hr.cell hj']
      simp [hj'] at hj
      rw [hj]
    unfold Oper.wp execOp
    simp only [ho, hx, Instr.loadAt, Instr.sureAddr, Sem.run_bind, Sem.run_pure, Result.andThen_ok, run_loadRow w g 0 _ hrow ty d hu hd (by simpa using hi)]
    exact hK _ _ (h _ (Lib.hid rfl))
theorem rowIs_box (w : World) (n : Nat) (t : TypeId) (f : Nat → Value) : (w.alloc (.cells ((List.range n).map f).toArray t (0, 0))).rowIs w.heap.size t n f := by
  have := World.rowIs_alloc w ((List.range n).map f).toArray t f (fun i hi => by
    have hi' : i < n := by simpa using hi
    simp [hi'])
  simpa using this
end
/-- n cells of a block that may be written. -/
def Wr (w : World) (b n : Nat) (f : Nat → Value) : Prop := ∀ i, i < n → w.cell? ⟨b, i, none⟩ = some (f i) ∧ w.frozen? ⟨b, i, none⟩ = false
theorem Wr.congr {w : World} {b n : Nat} {f g : Nat → Value} (h : Wr w b n f) (e : ∀ i, i < n → f i = g i) : Wr w b n g := fun i hi => ⟨by rw [(h i hi).1, e i hi], (h i hi).2⟩
theorem Wr.set {w : World} {b n : Nat} {f : Nat → Value} (h : Wr w b n f) (i : Nat) (v : Value) : Wr (w.setCell ⟨b, i, none⟩ v) b n (fun j => if j = i then v else f j) := fun j hj => by
  refine ⟨?_, by rw [World.frozen?_setCell]; exact (h j hj).2⟩
  by_cases e : j = i
  · subst e
    rw [World.cell?_setCell_same _ _ _ (h j hj).1]; simp
  · rw [World.cell?_setCell_other _ _ _ _ (by intro he; injection he with _ he2; exact e he2.symm)]
    rw [(h j hj).1]; simp [e]
theorem Wr.of_block {w w' : World} {b n : Nat} {f : Nat → Value} (h : Wr w b n f) (e : w'.heap[b]? = w.heap[b]?) : Wr w' b n f := fun i hi =>
  ⟨by rw [World.cell?_of_block (w := w) (a := ⟨b, i, none⟩) e]; exact (h i hi).1, by rw [World.frozen?_of_block (w := w) (a := ⟨b, i, none⟩) e]; exact (h i hi).2⟩
theorem Wr.of_row {w : World} {b n : Nat} {t : TypeId} {f : Nat → Value} (h : w.rowIs b t n f) : Wr w b n f := fun i hi => ⟨h.cell hi, h.frozen i⟩
theorem Wr.lt {w : World} {b n : Nat} {f : Nat → Value} (h : Wr w b n f) (hn : 0 < n) : b < w.heap.size := block_lt_of_cell (h 0 hn).1
theorem Wr.grown {w w' : World} {b n : Nat} {f : Nat → Value} {row : Option Nat} (h : Wr w b n f) (hn : 0 < n) (hg : w.grownBy w' row) (hne : some b ≠ row) : Wr w' b n f := h.of_block (hg.block b (h.lt hn) hne)
theorem Wr.by {w : World} {b n : Nat} {f : Nat → Value} (h : Wr w b n f) (l : List UInt8) (hl : l.length ≤ n) (c : Nat) (hc : l.length ≤ c) (hf : ∀ i, (hi : i < l.length) → f i = B l[i]) : By w l (.slice (some ⟨b, 0, none⟩) l.length c) :=
  By.of_row (fun j v hj => by
    have hj' : j < l.length := by have := (List.getElem?_eq_some_iff.1 hj).1; simpa using this
    rw [Nat.zero_add, (h j (by omega)).1, hf j hj']
    rw [List.getElem?_map, List.getElem?_eq_getElem hj'] at hj
    exact hj) hc
theorem rowIs_grown {w w' : World} {b n : Nat} {t : TypeId} {f : Nat → Value} {row : Option Nat} (h : w.rowIs b t n f) (hg : w.grownBy w' row) (hne : some b ≠ row) : w'.rowIs b t n f := h.of_block (hg.block b h.lt hne)
theorem grown_refl (w : World) (row : Option Nat) : w.grownBy w row := ⟨rfl, rfl, rfl, Nat.le_refl _, fun _ _ _ => rfl⟩
theorem grown_set {w w' : World} {b : Nat} (h : w.grownBy w' (some b)) (i : Nat) (v : Value) : w.grownBy (w'.setCell ⟨b, i, none⟩ v) (some b) := Lib.grownBy_setB h i v
theorem grown_ext {w w' w'' : World} {row : Option Nat} (h : w.grownBy w' row) (he : Ext w' w'') : w.grownBy w'' row := Lib.grownBy_below h he
theorem grown_set_new {w w' : World} {row : Option Nat} (h : w.grownBy w' row) {d : Nat} (hd : w.heap.size ≤ d) (i : Nat) (v : Value) : w.grownBy (w'.setCell ⟨d, i, none⟩ v) row :=
  ⟨h.os, h.tape, h.output, by simpa [World.setCell] using h.size, fun k hk hr => by rw [Below.heap_setCell _ _ _ _ (show k ≠ d by omega)]; exact h.block k hk hr⟩
/-- a call's world, seen from before a block of its own -/
theorem ext_of_grown {w w1 w2 : World} {b : Nat} (h : Ext w w1) (hg : w1.grownBy w2 (some b)) (hb : w.heap.size ≤ b) : Ext w w2 := below_grown h h.size hg (fun k hk => by injection hk with hk; omega)
/-- '[]byte(s)', its bytes to be written -/
theorem wpList_bytesW {ops : Array Oper} {rest : List Oper} {o : Oper} {a : Act} {w : World} {Q : Exit → Act → World → Prop} (hgd : o.guard = none) (x : Operand) (ho : o.op = .convert 9 22 x) (s : ByteArray) (hx : a.eval x = .string s)
    (h : ∀ c w1, s.size ≤ c → Wr w1 w.heap.size s.size (fun i => B (s.data.toList.getD i 0)) → Ext w w1 → w1.heap.size = w.heap.size + 1 → wpList Tryz.prog ops Q rest (a.put o.dst (.slice (some ⟨w.heap.size, 0, none⟩) s.size c)) w1) : wpList Tryz.prog ops Q (o :: rest) a w := by
  have hW : Wr (Lib.bytesWorld w 5 s) w.heap.size s.size (fun i => B (s.data.toList.getD i 0)) := fun i hi => by
    refine ⟨Lib.bytesWorld_cell w _ s i hi, ?_⟩
    have h1 : i < (Lib.bytesCells w 5 s).size := by simp [Lib.bytesCells]; omega
    simp only [World.frozen?, Lib.bytesWorld_at_new]
    simp; omega
  refine Great.wpList_runTo hgd _ rfl _ _ ?_ (h _ _ (grownCap_ge w s.size 0 5) hW (ext_bytesWorld w 5 s) (Lib.bytesWorld_size w 5 s))
  unfold execOp
  simp only [ho, hx]
  simp only [Sem.run_bind, run_bytes, Result.andThen_ok]
  rfl
end Go.Proofs.YtchlkclpikdbjaaGreatDoor
