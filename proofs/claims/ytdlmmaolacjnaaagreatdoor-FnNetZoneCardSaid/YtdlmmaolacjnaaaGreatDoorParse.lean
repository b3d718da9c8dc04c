/-
  The contracts of the readers of IP addresses: ZZParseAddr, zzParseIP, at the texts of four and of sixteen bytes.
-/
import Derived.Test.YtdlmmaolacjnaaaGreatDoorParse6
import Derived.OwnWalk
namespace Go.Proofs.YtdlmmaolacjnaaaGreatDoor
set_option linter.unusedVariables false
set_option linter.unusedSimpArgs false
open Go.RowKit Go.Sort

theorem run_split (G : List Nat) (p q : Nat) (h8 : G.length = 8) (h1 : p + 2 ≤ q) (h2 : q ≤ 8) (hz : ∀ k, p ≤ k → k < q → G.getD k 0 = 0) : G = G.take p ++ List.replicate (q - p) 0 ++ G.drop q := by
  have e : (G.drop p).take (q - p) = List.replicate (q - p) 0 := by
    apply List.ext_getElem
    · simp; omega
    · intro i hi1 hi2
      rw [List.getElem_take, List.getElem_drop, List.getElem_replicate]
      have := hz (p + i) (by omega) (by simp at hi2; omega)
      rwa [getD_lt _ _ (by simp at hi2; omega)] at this
  have e2 : G.drop p = (G.drop p).take (q - p) ++ (G.drop p).drop (q - p) := (List.take_append_drop _ _).symm
  rw [e, List.drop_drop, show p + (q - p) = q by omega] at e2
  rw [List.append_assoc, ← e2, List.take_append_drop]
/-- What is read of the text of sixteen bytes is these bytes. -/
theorem out6_text (l : List UInt8) (h16 : l.length = 16) (p q : Nat) (h1 : p + 2 ≤ q) (h2 : q ≤ 8) (hz : ∀ k, p ≤ k → k < q → (groups l).getD k 0 = 0) : out6 ((groups l).take p) (some ((groups l).drop q)) = l := by
  have h8 : (groups l).length = 8 := groups_length 8 l h16
  have hs := run_split (groups l) p q h8 h1 h2 hz
  have hl := gbs_groups 8 l h16
  have hlen : ((groups l).take p).length + ((groups l).drop q).length = p + (8 - q) := by simp; omega
  show gbs ((groups l).take p) ++ List.replicate (16 - 2 * (((groups l).take p).length + ((groups l).drop q).length)) 0 ++ gbs ((groups l).drop q) = l
  rw [hlen]
  conv => rhs; rw [← hl, hs, gbs_append, gbs_append, gbs_zeros]
  rw [show 16 - 2 * (p + (8 - q)) = 2 * (q - p) by omega]

/-- zzParse6 at the text of sixteen bytes. -/
theorem parse6_text (l : List UInt8) (h16 : l.length = 16) (p q : Nat) (hr : IsRun (groups l) p q) (s : ByteArray) (hs : s.data.toList = text6 (groups l) p q) (w : World) :
    Calls Tryz.prog 291 #[.string s] w fun e w' => e = .returned (.tuple #[.agg (cellsB l), .bool true]) ∧ Ext w w' := by
  have h8 : (groups l).length = 8 := groups_length 8 l h16
  have hlt := groups_lt l
  rcases hr with ⟨rfl, rfl⟩ | ⟨h1, h2, hz⟩
  · have ho : out6 (groups l) none = l := gbs_groups 8 l h16
    have := parse6_ok (groups l) none (.inl (by intro h; rw [h] at h8; simp at h8)) hlt (fun q hq => by cases hq) h8 s (by rw [hs]; simp [text6, tl]) w
    rwa [ho] at this
  · have hne : p ≠ 255 := by omega
    have ho := out6_text l h16 p q h1 h2 hz
    rw [text6, if_neg hne] at hs
    by_cases h0 : (groups l).take p = [] ∧ (groups l).drop q = []
    · have hl : l = List.replicate 16 0 := by
        rw [← ho, h0.1, h0.2]; rfl
      have hs' : s = ⟨#[58, 58]⟩ := by
        apply ByteArray.ext
        apply Array.toList_inj.1
        rw [hs, h0.1, h0.2]; rfl
      subst hl hs'
      exact parse6_zeros w
    · have := parse6_ok ((groups l).take p) (some ((groups l).drop q)) (by
          by_cases h3 : (groups l).take p = []
          · exact .inr ⟨_, rfl, fun h4 => h0 ⟨h3, h4⟩⟩
          · exact .inl h3) (fun x hx => hlt x (List.mem_of_mem_take hx)) (fun q' hq' x hx => by cases hq'; exact hlt x (List.mem_of_mem_drop hx)) (by show _ + _ ≤ 7; simp; omega) s (by rw [hs]; rfl) w
      rwa [ho] at this

/-- the first colon of such a text, and that there is no percent sign -/
def Hexy (c : UInt8) : Prop := ∃ d, d < 16 ∧ c = hexc d
theorem text6_mem (l : List UInt8) (p q : Nat) : ∀ c ∈ text6 (groups l) p q, c = 58 ∨ Hexy c := by
  intro c hc
  unfold text6 at hc
  split at hc
  · exact join_mem _ c hc
  · rcases List.mem_append.1 hc with hc | hc
    · exact join_mem _ c hc
    · rcases List.mem_cons.1 hc with rfl | hc
      · exact .inl rfl
      · rcases List.mem_cons.1 hc with rfl | hc
        · exact .inl rfl
        · exact join_mem _ c hc
theorem text6_colon (l : List UInt8) (h16 : l.length = 16) (p q : Nat) : (58 : UInt8) ∈ text6 (groups l) p q := by
  have h8 : (groups l).length = 8 := groups_length 8 l h16
  unfold text6
  split
  · match h : groups l with
    | [] => rw [h] at h8; simp at h8
    | [a] => rw [h] at h8; simp at h8
    | a :: b :: r => simp [join]
  · simp
theorem first_at (l : List UInt8) (h : (58 : UInt8) ∈ l) : ∃ i, ∃ hi : i < l.length, l[i] = 58 ∧ ∀ j, (hj : j < i) → l[j]'(by omega) ≠ 58 := by
  induction l with
  | nil => simp at h
  | cons c r ih =>
    by_cases hc : c = 58
    · exact ⟨0, by simp, hc, fun j hj => by omega⟩
    · obtain ⟨i, hi, h1, h2⟩ := ih (by rcases List.mem_cons.1 h with h | h; exact absurd h.symm hc; exact h)
      refine ⟨i + 1, by simp; omega, h1, fun j hj => ?_⟩
      cases j with
      | zero => exact hc
      | succ j => exact h2 j (by omega)
theorem hexy_not {c : UInt8} (h : Hexy c) : c ≠ 58 ∧ c ≠ 46 ∧ c ≠ 37 := by
  obtain ⟨d, hd, rfl⟩ := h
  exact hexc_not ⟨d, hd⟩
theorem neB {c : UInt8} {k : Nat} (hk : k < 256) (h : c ≠ UInt8.ofNat k) : ((c.toNat : Int) == (k : Int)) = false := by
  simp only [beq_eq_false_iff_ne, ne_eq]
  intro h3
  exact h (by apply UInt8.toNat.inj; simp; omega)

theorem results_cell3_row {P : Program} {fn : Func} {p u v : Tmp} {ty : TypeId} (h : fn.results = #[.cell p ty, .tmp u, .tmp v]) (tmps : Array Value) (w : World) (g : Nat) (t : TypeId) (cs : Array Value) (fr : Nat × Nat) (d : TypeDesc)
    (hp : tmps.getD p undef = .pointer (some ⟨g, 0, none⟩)) (hg : w.heap[g]? = some (.cells cs t fr))
    (hu : P.underlying ty = some d) (hd : (match d with | .struct _ | .array _ _ => true | _ => false) = true) (hi : (P.info? ty).map (·.size) = some cs.size) :
    (results fn tmps).run P w = .ok (.tuple #[.agg cs, tmps.getD u undef, tmps.getD v undef]) w := by
  have hp' : tmps[p]?.getD undef = .pointer (some ⟨g, 0, none⟩) := by simpa using hp
  simp only [results, h]
  simp [Result.andThen, hp', asAddr, run_loadVar_row w g t ty cs fr d hg hu hd hi]

set_option maxHeartbeats 4000000 in
set_option maxRecDepth 100000 in
theorem parseAddr_six (s : ByteArray) (out : List UInt8) (h16 : out.length = 16) (hsm : s.size ≤ 1000) (i0 : Nat) (hi0 : i0 < s.size) (hc0 : s[i0] = 58) (hb : ∀ j, (hj : j < i0) → Hexy (s[j]'(by omega))) (hno : ∀ k, (hk : k < s.size) → s[k] ≠ 37)
    (hp : ∀ w, Calls Tryz.prog 291 #[.string s] w fun e w' => e = .returned (.tuple #[.agg (cellsB out), .bool true]) ∧ Ext w w') (w : World) :
    Calls Tryz.prog 233 #[.string s] w fun e w' => e = .returned (.tuple #[.agg (cellsB out), .bool false, .bool true]) ∧ Ext w w' := by
  have HP := Lib.hid hp
  have HB := Lib.hid hb
  have HN := Lib.hid hno
  have H16 := Lib.hid h16
  clear hp hb hno h16
  go_enter Tryz.func233, Tryz.ntmps233
  go_wp2_with (refine wpList_new (w := w) rfl z16 183 (alloc16 _ _ _ rfl) ?_; intro wA hnA)
  go_loopg [5] (i0 + 1) (fun gk s5 wx => wA = wx ∧ ∃ i : Nat, s5 = .int .i64 (i : Int) ∧ i ≤ i0 ∧ gk = i0 + 1 - i)
  case atStart => exact ⟨rfl, 0, rfl, by omega, rfl⟩
  case round =>
    obtain ⟨rfl, i, rfl, hi, hgk⟩ := hrel
    have his : i < s.size := by omega
    have hisI : (i : Int) < (s.size : Int) := by omega
    by_cases hlt : i < i0
    · obtain ⟨c, hc⟩ : ∃ c, s[i]'his = c := ⟨_, rfl⟩
      have hx := hexy_not (hc ▸ HB.out i hlt)
      have n1 : ((c.toNat : Int) == 46) = false := neB (k := 46) (by decide) hx.2.1
      have n2 : ((c.toNat : Int) == 58) = false := neB (k := 58) (by decide) hx.1
      have n3 : ((c.toNat : Int) == 37) = false := neB (k := 37) (by decide) hx.2.2
      clear hx hc0
      go_wp2
      go_roundg (i0 + 1 - (i + 1))
      case measure => omega
      case rel => exact ⟨rfl, i + 1, by go_num, by omega, rfl⟩
    · obtain rfl : i = i0 := by omega
      clear hlt hi hgk
      go_wp2
      go_loopg [6] (s.size + 1 - i) (fun gk s6 wx => wA = wx ∧ ∃ k : Nat, s6 = .int .i64 (k : Int) ∧ k ≤ s.size ∧ gk = s.size + 1 - k)
      case atStart => exact ⟨rfl, i, rfl, by omega, rfl⟩
      case round =>
        obtain ⟨rfl, k, rfl, hk, hgk⟩ := hrel
        by_cases hks : k < s.size
        · have hksI : (k : Int) < (s.size : Int) := by omega
          obtain ⟨c, hc⟩ : ∃ c, s[k]'hks = c := ⟨_, rfl⟩
          have n3 : ((c.toNat : Int) == 37) = false := neB (k := 37) (by decide) (hc ▸ HN.out k hks)
          clear hc0
          go_wp2
          go_roundg (s.size + 1 - (k + 1))
          case measure => omega
          case rel => exact ⟨rfl, k + 1, by go_num, by omega, rfl⟩
        · have hksI : ¬ ((k : Int) < (s.size : Int)) := by omega
          clear hc0
          go_wp2_with (first
            | (go_at_call 291; refine (HP.out _).mono ?_; rintro e w2 ⟨rfl, he⟩; have hg2 := he.block hnA.blk)
            | (refine wpList_put (w := w2) rfl 183 _ _ rfl w.heap.size (cellsB out) rfl rfl 183 z16 hg2 (info16 _ H16.out) (by simp [H16.out]) (cellsB_one _) ?_; intro w3 hp3)
            | (refine wpList_load_row (w := w3) rfl 183 _ rfl _ rfl 183 (cellsB out) (0, 0) _ hp3.blk Tryz.underlying183 rfl (info16 _ H16.out) ?_)
            | (refine wpList_put (w := w3) rfl 183 _ _ rfl w.heap.size (cellsB out) rfl rfl 183 (cellsB out) hp3.blk (info16 _ H16.out) rfl (cellsB_one _) ?_; intro w4 hp4))
          refine bodyPost_ret (results_cell3_row Tryz.results233 _ _ w.heap.size 183 _ (0, 0) _ rfl hp4.blk Tryz.underlying183 rfl (info16 _ H16.out)) rfl ⟨rfl, ?_⟩
          exact hp4.below (Nat.le_refl _) (hp3.below (Nat.le_refl _) (hnA.ext.trans he))

theorem four_cells (x0 x1 x2 x3 : UInt8) : put4 x0 x1 x2 x3 (cellsB (((List.replicate 16 (0 : UInt8)).set 10 255).set 11 255)) 4 = cellsB (pre12 ++ [x0, x1, x2, x3]) := by
  simp [put4, num4, cellsB, List.replicate]

set_option maxHeartbeats 4000000 in
set_option maxRecDepth 100000 in
theorem parseAddr_four (x0 x1 x2 x3 : UInt8) (w : World) :
    Calls Tryz.prog 233 #[.string ⟨(text4 x0 x1 x2 x3).toArray⟩] w fun e w' => e = .returned (.tuple #[.agg (cellsB (pre12 ++ [x0, x1, x2, x3])), .bool true, .bool true]) ∧ Ext w w' := by
  have hF := fun (g : Nat) (cs : Array Value) (h16 : cs.size = 16) (w : World) => fields4_ok x0 x1 x2 x3 g cs 183 h16 w
  obtain ⟨s, hs⟩ : ∃ s : ByteArray, s = ⟨(text4 x0 x1 x2 x3).toArray⟩ := ⟨_, rfl⟩
  have hl : s.data.toList = dec x0 ++ 46 :: (dec x1 ++ 46 :: (dec x2 ++ 46 :: dec x3)) := by rw [hs]; rfl
  rw [← hs] at hF ⊢
  have hd0 := dec_reads x0
  have hsm : s.size ≤ 15 := by
    have h1 := (dec_reads x1).1; have h2 := (dec_reads x2).1; have h3 := (dec_reads x3).1
    rw [str_len hl]; simp; omega
  obtain ⟨i0, hi0⟩ : ∃ i0, i0 = (dec x0).length := ⟨_, rfl⟩
  have hlt0 : i0 < s.size := by rw [str_len hl, hi0]; simp
  have hc0 : s[i0]'hlt0 = 46 := by
    rw [str_get hl hlt0 (by simp; omega), List.getElem_append_right (by omega)]
    simp [hi0]
  have hb : ∀ j, (hj : j < i0) → 48 ≤ (s[j]'(by omega)).toNat ∧ (s[j]'(by omega)).toNat ≤ 57 := by
    intro j hj
    rw [str_get hl (by omega) (by simp; omega), List.getElem_append_left (by omega)]
    have := hd0.2.2.2 j (by omega)
    exact ⟨this.1, this.2.1⟩
  have HF := Lib.hid hF
  have HB := Lib.hid hb
  clear hF hs hl hd0 hi0 hb
  obtain ⟨out, hout⟩ : ∃ out, out = pre12 ++ [x0, x1, x2, x3] := ⟨_, rfl⟩
  have hcl := four_cells x0 x1 x2 x3
  rw [← hout] at hcl ⊢
  have H16 : Hid (out.length = 16) := Lib.hid (by rw [hout]; rfl)
  have HCL := Lib.hid hcl
  clear hcl hout
  go_enter Tryz.func233, Tryz.ntmps233
  go_wp2_with (refine wpList_new (w := w) rfl z16 183 (alloc16 _ _ _ rfl) ?_; intro wA hnA)
  go_loopg [5] (i0 + 1) (fun gk s5 wx => wA = wx ∧ ∃ i : Nat, s5 = .int .i64 (i : Int) ∧ i ≤ i0 ∧ gk = i0 + 1 - i)
  case atStart => exact ⟨rfl, 0, rfl, by omega, rfl⟩
  case round =>
    obtain ⟨rfl, i, rfl, hi, hgk⟩ := hrel
    have his : i < s.size := by omega
    have hisI : (i : Int) < (s.size : Int) := by omega
    by_cases hlt : i < i0
    · obtain ⟨c, hc⟩ : ∃ c, s[i]'his = c := ⟨_, rfl⟩
      have hx := HB.out i hlt
      rw [hc] at hx
      have n1 : ((c.toNat : Int) == 46) = false := szB (k := 46) (by omega)
      have n2 : ((c.toNat : Int) == 58) = false := szB (k := 58) (by omega)
      have n3 : ((c.toNat : Int) == 37) = false := szB (k := 37) (by omega)
      clear hx hc0
      go_wp2
      go_roundg (i0 + 1 - (i + 1))
      case measure => omega
      case rel => exact ⟨rfl, i + 1, by go_num, by omega, rfl⟩
    · obtain rfl : i = i0 := by omega
      clear hlt hi hgk
      go_wp2_with (first
        | (refine wpList_setB (w0 := wA) (w := wA) rfl _ _ rfl w.heap.size 10 (List.replicate 16 0) _ (Put.start hnA.blk) _ rfl rfl (by simp) 255 rfl ?_; intro wS1 hS1)
        | (refine wpList_setB (w0 := wA) (w := wS1) rfl _ _ rfl w.heap.size 11 _ _ hS1 _ rfl rfl (by simp) 255 rfl ?_; intro wS hS)
        | (go_at_call 290; refine (HF.out _ _ (by simp) _ hS.blk).mono ?_; rintro e w2 ⟨rfl, hput⟩; rw [HCL.out] at hput)
        | (refine wpList_load_row (w := w2) rfl 183 _ rfl _ rfl 183 (cellsB out) (0, 0) _ hput.blk Tryz.underlying183 rfl (info16 _ H16.out) ?_)
        | (refine wpList_put (w := w2) rfl 183 _ _ rfl w.heap.size (cellsB out) rfl rfl 183 (cellsB out) hput.blk (info16 _ H16.out) rfl (cellsB_one _) ?_; intro w4 hp4))
      refine bodyPost_ret (results_cell3_row Tryz.results233 _ _ w.heap.size 183 _ (0, 0) _ rfl hp4.blk Tryz.underlying183 rfl (info16 _ H16.out)) rfl ⟨rfl, ?_⟩
      exact hp4.below (Nat.le_refl _) (hput.below (Nat.le_refl _) (hS.below (Nat.le_refl _) hnA.ext))

set_option maxRecDepth 100000 in
/-- zzParseIP, whatever sixteen bytes are read. -/
theorem parseIP_ok (s : ByteArray) (out : List UInt8) (h16 : out.length = 16) (b : Bool)
    (hp : ∀ w, Calls Tryz.prog 233 #[.string s] w fun e w' => e = .returned (.tuple #[.agg (cellsB out), .bool b, .bool true]) ∧ Ext w w') (w : World) :
    Calls Tryz.prog 199 #[.string s] w fun e w' => ∃ g, e = .returned (.slice (some ⟨g, 0, none⟩) 16 16) ∧ Row w' g 0 (out.map B) ∧ Ext w w' := by
  have HP := Lib.hid hp
  have H16 := Lib.hid h16
  clear hp h16
  go_enter Tryz.func199, Tryz.ntmps199
  go_wp2_with (first
    | (go_at_call 233; refine (HP.out _).mono ?_; rintro e w1 ⟨rfl, he⟩)
    | (refine wpList_new (w := w1) rfl z16 183 (alloc16 _ _ _ rfl) ?_; intro w2 hn)
    | (refine wpList_put (w := w2) rfl 183 _ _ rfl w1.heap.size (cellsB out) rfl rfl 183 z16 hn.blk (info16 _ H16.out) (by simp [H16.out]) (cellsB_one _) ?_; intro w3 hp3))
  go_ret
  refine ⟨_, rfl, fun j v hj => ?_, hp3.below (by have := he.size; exact this) (he.trans hn.ext)⟩
  rw [Nat.zero_add, hp3.cells j]
  simpa using hj
end Go.Proofs.YtdlmmaolacjnaaaGreatDoor
