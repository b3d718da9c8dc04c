/-
  The contract of the reader of an IP address of sixteen bytes, at a text of groups with or without a run of zeros.
-/
import Derived.Test.YtdlmmaolacjnaaaGreatDoorZeros6
import Derived.Deep.DeepCutAuto
import Derived.Deep.CutBlock
namespace Go.Proofs.YtdlmmaolacjnaaaGreatDoor
set_option linter.unusedVariables false
set_option linter.unusedSimpArgs false
open Go.RowKit Go.Sort

/-- What has been read and what is still to come, when the reader begins a group. -/
def Lnk (pre : List Nat) (post : Option (List Nat)) (done rest : List Nat) (tail : Option (List Nat)) (el : Int) : Prop :=
  (el = -1 ∧ done ++ rest = pre ∧ tail = post) ∨ (∃ q q1, el = 2 * (pre.length : Int) ∧ tail = none ∧ post = some q ∧ done = pre ++ q1 ∧ q = q1 ++ rest)
theorem lnk_len {pre : List Nat} {post : Option (List Nat)} {done rest : List Nat} {tail : Option (List Nat)} {el : Int} (h : Lnk pre post done rest tail el) (hf : Fits pre post) : done.length + rest.length ≤ 8 := by
  rcases h with ⟨-, h, ht⟩ | ⟨q, q1, -, -, hq, h1, h2⟩
  · have := congrArg List.length h
    rw [List.length_append] at this
    cases post with
    | none => simp only [Fits] at hf; omega
    | some q => simp only [Fits] at hf; omega
  · subst hq h1 h2
    simp only [Fits, List.length_append] at hf ⊢; omega
theorem lnk_lt {pre : List Nat} {post : Option (List Nat)} {done rest : List Nat} {tail : Option (List Nat)} {el : Int} (h : Lnk pre post done rest tail el) (hpre : ∀ x ∈ pre, x < 65536) (hpost : ∀ q, post = some q → ∀ x ∈ q, x < 65536) : ∀ x ∈ rest, x < 65536 := by
  intro x hx
  rcases h with ⟨-, h, ht⟩ | ⟨q, q1, -, -, hq, h1, h2⟩
  · exact hpre x (by rw [← h]; simp [hx])
  · exact hpost q hq x (by rw [h2]; simp [hx])
theorem str_tail {s : ByteArray} {a b : List UInt8} (h : s.data.toList = a ++ b) (k : Nat) (hk : k = a.length) : (s.extract k s.size).data.toList = b := by
  subst hk
  rw [Lib.extract_eq, h, List.drop_left, List.take_of_length_le]
  rw [Lib.size_eq, h, List.length_append]; omega
theorem str_get {s : ByteArray} {l : List UInt8} (h : s.data.toList = l) {i : Nat} (hi : i < s.size) (hl : i < l.length) : s[i]'hi = l[i] := by
  have := Lib.data_getElem? s i hi
  rw [h, List.getElem?_eq_getElem hl] at this
  exact (Option.some.inj this).symm
theorem str_cons {s : ByteArray} {c : UInt8} {l : List UInt8} (h : s.data.toList = c :: l) : ∃ hi : 0 < s.size, s[0]'hi = c := by
  have hi : 0 < s.size := by rw [Lib.size_eq, h]; simp
  exact ⟨hi, by rw [str_get h hi (by simp)]; rfl⟩
theorem str_len {s : ByteArray} {l : List UInt8} (h : s.data.toList = l) : s.size = l.length := by rw [Lib.size_eq, h]

/-- The digits of a group, as the reader reads them: what it has after k of them. -/
theorem digits_read (g : Nat) (hg : g < 65536) (t : ByteArray) (u : List UInt8) (ht : t.data.toList = hexs g ++ u) :
    ∃ (H : Nat) (val : Nat → Nat), H = (hexs g).length ∧ 0 < H ∧ H ≤ 4 ∧ H ≤ t.size ∧ t.size = H + u.length ∧ val 0 = 0 ∧ val H = g ∧ (∀ k, val k < 65536) ∧
      ∀ k, k < H → ∀ hk : k < t.size, ∃ d : Nat, d < 16 ∧ digv (t[k]'hk) = (d : Int) ∧ val (k + 1) = val k * 16 + d := by
  refine ⟨(hexs g).length, fun k => hexval ((hexs g).take k) 0, rfl, List.length_pos_iff.2 (hexs_pos g), hexs_len4 hg, ?_, ?_, rfl, ?_, fun k => hexval_take hg k, ?_⟩
  · rw [str_len ht, List.length_append]; omega
  · rw [str_len ht, List.length_append]
  · simp only [List.take_length]; exact hexs_val g
  · intro k hk hkt
    have e : t[k]'hkt = (hexs g)[k] := by rw [str_get ht hkt (by rw [List.length_append]; omega), List.getElem_append_left hk]
    obtain ⟨d, hd, hc⟩ := hexs_mem g ((hexs g)[k]) (List.getElem_mem _)
    refine ⟨d, hd, by rw [e, hc, digv_hex hd], ?_⟩
    show hexval ((hexs g).take (k + 1)) 0 = _
    rw [hexval_succ _ _ hk, hc, digv_hex hd]; simp
/-- what stands behind the digits: nothing, or a colon -/
theorem behind_digits (g : Nat) (r : List Nat) (tail : Option (List Nat)) (t : ByteArray) (u : List UInt8) (hu : u = (if r = [] then [] else 58 :: join r) ++ tl tail) (ht : t.data.toList = hexs g ++ u) :
    ∀ h : (hexs g).length < t.size, t[(hexs g).length]'h = 58 := by
  intro h
  have hl : (hexs g).length < (hexs g ++ u).length := by rw [str_len ht] at h; exact h
  have e : t[(hexs g).length]'h = (hexs g ++ u)[(hexs g).length]'hl := str_get ht h _
  rw [e, List.getElem_append_right (by omega)]
  have hu0 : u ≠ [] := by intro h0; rw [h0] at hl; simp at hl
  have : ∃ v, u = 58 :: v := by
    rw [hu]
    by_cases hr : r = []
    · rw [if_pos hr]
      cases tail with
      | none => exfalso; apply hu0; rw [hu, if_pos hr]; rfl
      | some q => exact ⟨58 :: join q, rfl⟩
    · rw [if_neg hr]; exact ⟨join r ++ tl tail, rfl⟩
  obtain ⟨v, rfl⟩ := this
  simp

/-- the two bytes of a group are written -/
theorem cells_next (done : List Nat) (g : Nat) (h : done.length ≤ 7) :
    ((gbs done ++ List.replicate (16 - 2 * done.length) 0).set (2 * done.length) (UInt8.ofNat (g / 256))).set (2 * done.length + 1) (UInt8.ofNat g) = gbs (done ++ [g]) ++ List.replicate (16 - 2 * (done ++ [g]).length) 0 := by
  have e := store_two (gbs done) (UInt8.ofNat (g / 256)) (UInt8.ofNat g) (14 - 2 * done.length)
  rw [gbs_length, show 14 - 2 * done.length + 2 = 16 - 2 * done.length by omega] at e
  rw [e, gbs_append, List.length_append, List.length_singleton, show 16 - 2 * (done.length + 1) = 14 - 2 * done.length by omega]
  rfl
/-- The reader is at its end: all has been read. -/
def Fin6 (pre : List Nat) (post : Option (List Nat)) (done : List Nat) (el : Int) : Prop :=
  (el = -1 ∧ done = pre ∧ post = none) ∨ (∃ q, el = 2 * (pre.length : Int) ∧ post = some q ∧ done = pre ++ q)

/-- What the reader begins with. -/
def Start6 (pre : List Nat) (post : Option (List Nat)) (t : ByteArray) (el : Int) : Prop :=
  ∃ rest tail, t.data.toList = join rest ++ tl tail ∧ rest ≠ [] ∧ Lnk pre post [] rest tail el
/-- The three ways on behind a group. -/
inductive Way6 (pre : List Nat) (post : Option (List Nat)) (done : List Nat) (el : Int) (g : Nat) (u : List UInt8) : Prop
  | last (h : u = []) (hf : Fin6 pre post (done ++ [g]) el)
  | more (r : List Nat) (tail : Option (List Nat)) (c : UInt8) (v : List UInt8) (h : u = 58 :: c :: v) (hc : c ≠ 58) (hv : c :: v = join r ++ tl tail) (hr : r ≠ []) (hl : Lnk pre post (done ++ [g]) r tail el)
  | gap (q : List Nat) (h : u = 58 :: 58 :: join q) (he : el = -1) (h0 : q = [] → Fin6 pre post (done ++ [g]) (2 * ((done ++ [g]).length : Int))) (h1 : q ≠ [] → Lnk pre post (done ++ [g]) q none (2 * ((done ++ [g]).length : Int)))

theorem round6 {pre : List Nat} {post : Option (List Nat)} {done rest : List Nat} {tail : Option (List Nat)} {el : Int} {t : ByteArray} (hpre : ∀ x ∈ pre, x < 65536) (hpost : ∀ q, post = some q → ∀ x ∈ q, x < 65536) (hf : Fits pre post)
    (L : Lnk pre post done rest tail el) (hr : rest ≠ []) (ht : t.data.toList = join rest ++ tl tail) :
    ∃ g u, t.data.toList = hexs g ++ u ∧ g < 65536 ∧ done.length ≤ 7 ∧ (∀ h : (hexs g).length < t.size, t[(hexs g).length]'h = 58) ∧ Way6 pre post done el g u := by
  cases rest with
  | nil => exact absurd rfl hr
  | cons g r =>
    have hn := lnk_len L hf
    simp only [List.length_cons] at hn
    have hg := lnk_lt L hpre hpost g (by simp)
    obtain ⟨u, hu⟩ : ∃ u, u = (if r = [] then [] else 58 :: join r) ++ tl tail := ⟨_, rfl⟩
    have ht' : t.data.toList = hexs g ++ u := by rw [ht, join_cons, hu, List.append_assoc]
    refine ⟨g, u, ht', hg, by omega, behind_digits g r tail t u hu ht', ?_⟩
    by_cases hr0 : r = []
    · subst hr0
      cases tail with
      | none =>
        refine .last (by rw [hu]; rfl) ?_
        rcases L with ⟨h1, h2, h3⟩ | ⟨q, q1, h1, h2, h3, h4, h5⟩
        · exact .inl ⟨h1, h2, h3.symm⟩
        · exact .inr ⟨q, h1, h3, by rw [h4, h5, List.append_assoc]⟩
      | some q =>
        rcases L with ⟨h1, h2, h3⟩ | ⟨q', q1, h1, h2, h3, h4, h5⟩
        · refine .gap q (by rw [hu]; rfl) h1 (fun h0 => .inr ⟨q, by rw [h2], h3.symm, by rw [h2, h0]; simp⟩) (fun _ => .inr ⟨q, [], by rw [h2], rfl, h3.symm, by rw [h2]; simp, rfl⟩)
        · cases h2
    · obtain ⟨d, v, hd, hv⟩ := join_head hr0
      refine .more r tail (hexc d) (v ++ tl tail) (by rw [hu, if_neg hr0, hv]; rfl) (hexc_not ⟨d, hd⟩).1 (by rw [hv]; rfl) hr0 ?_
      rcases L with ⟨h1, h2, h3⟩ | ⟨q, q1, h1, h2, h3, h4, h5⟩
      · exact .inl ⟨h1, by rw [← h2]; simp, h3⟩
      · exact .inr ⟨q, q1 ++ [g], h1, h2, h3, by rw [h4]; simp, by rw [h5]; simp⟩

/-- the two first signs of such a text -/
theorem start6 {pre : List Nat} {post : Option (List Nat)} {s : ByteArray} (hlen : Fits pre post) (hs : s.data.toList = join pre ++ tl post) (hst : pre ≠ [] ∨ ∃ q, post = some q ∧ q ≠ []) :
    ∃ hz : 2 ≤ s.size, (pre = [] ∧ 3 ≤ s.size ∧ s[0]'(by omega) = 58 ∧ s[1]'(by omega) = 58 ∧ Start6 pre post (s.extract 2 s.size) 0) ∨ (pre ≠ [] ∧ s[0]'(by omega) ≠ 58 ∧ Start6 pre post s (-1)) := by
  by_cases hp : pre = []
  · subst hp
    obtain ⟨q, rfl, hq⟩ : ∃ q, post = some q ∧ q ≠ [] := by
      rcases hst with h | h
      · exact absurd rfl h
      · exact h
    have hs2 : s.data.toList = [58, 58] ++ join q := hs
    have hz : s.size = 2 + (join q).length := by rw [str_len hs2]; simp; omega
    have hj := List.length_pos_iff.2 (join_ne hq)
    refine ⟨by omega, .inl ⟨rfl, by omega, ?_, ?_, ?_⟩⟩
    · rw [str_get hs2 (by omega) (by simp)]; rfl
    · rw [str_get hs2 (by omega) (by simp)]; rfl
    · exact ⟨q, none, by rw [str_tail hs2 2 rfl]; simp [tl], hq, .inr ⟨q, [], rfl, rfl, rfl, rfl, rfl⟩⟩
  · obtain ⟨d, t, hd, ht⟩ := join_head hp
    have h1 := join_len_ge pre
    have h2 : s.size = (join pre).length + (tl post).length := by rw [str_len hs, List.length_append]
    have h3 := List.length_pos_iff.2 hp
    have hz : 2 ≤ s.size := by
      cases post with
      | none => simp only [Fits] at hlen; omega
      | some q => simp only [tl, List.length_cons] at h2; omega
    refine ⟨hz, .inr ⟨hp, ?_, ⟨pre, post, hs, hp, .inl ⟨rfl, rfl, rfl⟩⟩⟩⟩
    have hs2 : s.data.toList = hexc d :: (t ++ tl post) := by rw [hs, ht]; rfl
    rw [str_get hs2 (by omega) (by simp)]
    exact (hexc_not ⟨d, hd⟩).1
theorem ne58 {c : UInt8} (h : c ≠ 58) : ((c.toNat : Int) == 58) = false := by
  simp only [beq_eq_false_iff_ne, ne_eq]
  intro h3
  exact h (by apply UInt8.toNat.inj; simp; omega)

theorem szB {n k : Nat} (h : n ≠ k) : ((n : Int) == (k : Int)) = false := by
  simp only [beq_eq_false_iff_ne, ne_eq]; omega

/-- The reader ahead of a group; the reader at its end. -/
def Rd6 (pre : List Nat) (post : Option (List Nat)) (gA : Nat) (wB : World) (ty : TypeId) (gk : Nat) (s0 s5 s6 : Value) (wx : World) : Prop :=
  ∃ (done rest : List Nat) (tail : Option (List Nat)) (el : Int) (t : ByteArray) (i : Nat), s0 = .string t ∧ s5 = .int .i64 el ∧ s6 = .int .i64 (i : Int) ∧ i = 2 * done.length ∧ gk = 20 - done.length ∧ rest ≠ [] ∧
    t.data.toList = join rest ++ tl tail ∧ Put wB wx gA (cellsB (gbs done ++ List.replicate (16 - 2 * done.length) 0)) ty ∧ Lnk pre post done rest tail el
def End6 (pre : List Nat) (post : Option (List Nat)) (gA : Nat) (wB : World) (ty : TypeId) (s0 s5 s6 : Value) (wx : World) : Prop :=
  ∃ (done : List Nat) (el : Int) (t : ByteArray) (i : Nat), s0 = .string t ∧ s5 = .int .i64 el ∧ s6 = .int .i64 (i : Int) ∧ i = 2 * done.length ∧ t.size = 0 ∧
    Put wB wx gA (cellsB (gbs done ++ List.replicate (16 - 2 * done.length) 0)) ty ∧ Fin6 pre post done el
def Txt (s0 : Value) (l : List UInt8) : Prop := ∃ t : ByteArray, s0 = .string t ∧ t.data.toList = l

set_option maxHeartbeats 8000000 in
set_option maxRecDepth 100000 in
theorem parse6_ok (pre : List Nat) (post : Option (List Nat)) (hst : pre ≠ [] ∨ ∃ q, post = some q ∧ q ≠ []) (hpre : ∀ x ∈ pre, x < 65536) (hpost : ∀ q, post = some q → ∀ x ∈ q, x < 65536) (hlen : Fits pre post) (s : ByteArray) (hs : s.data.toList = join pre ++ tl post) (w : World) :
    Calls Tryz.prog 291 #[.string s] w fun e w' => e = .returned (.tuple #[.agg (cellsB (out6 pre post)), .bool true]) ∧ Ext w w' := by
  obtain ⟨hsz, hs2⟩ := start6 hlen hs hst
  have HP := Lib.hid (And.intro hpre (And.intro hpost hlen))
  clear hpre hpost hlen hs hst
  have hsI : (2 : Int) ≤ (s.size : Int) := by omega
  obtain ⟨c0, hc0⟩ : ∃ c, s[0]'(by omega) = c := ⟨_, rfl⟩
  obtain ⟨c1, hc1⟩ : ∃ c, s[1]'(by omega) = c := ⟨_, rfl⟩
  obtain ⟨b, hstart⟩ : ∃ b : Bool, (b = true ∧ 3 ≤ s.size ∧ c0 = 58 ∧ c1 = 58 ∧ Start6 pre post (s.extract 2 s.size) 0) ∨ (b = false ∧ ((c0.toNat : Int) == 58) = false ∧ Start6 pre post s (-1)) := by
    rcases hs2 with ⟨h1, h2, h3, h4, h5⟩ | ⟨h1, h2, h3⟩
    · exact ⟨true, .inl ⟨rfl, h2, hc0 ▸ h3, hc1 ▸ h4, h5⟩⟩
    · exact ⟨false, .inr ⟨rfl, ne58 (hc0 ▸ h2), h3⟩⟩
  have HS := Lib.hid hstart
  clear hstart hs2
  go_enter Tryz.func291, Tryz.ntmps291
  go_upto_region 3 with (first
    | (refine wpList_new (w := w) rfl z16 183 (alloc16 _ _ _ rfl) ?_; intro wA hnA)
    | (refine wpList_new (w := wA) rfl z16 183 (alloc16 _ _ _ rfl) ?_; intro wB hnB))
  go_cut [24] (fun s24 wx => wB = wx ∧ s24 = .bool b)
  case first =>
    rcases HS.out with ⟨rfl, h3, rfl, rfl, -⟩ | ⟨rfl, h58, -⟩
    · clear HS
      go_wp2
      go_meet
      exact ⟨rfl, rfl⟩
    · clear HS
      go_wp2
      go_meet
      exact ⟨rfl, rfl⟩
  case rest =>
    obtain ⟨rfl, rfl⟩ := hcut
    go_upto_if 24 with (fail)
    go_cut [0, 5] (fun s0 s5 wx => wB = wx ∧ ∃ (t : ByteArray) (el : Int), s0 = .string t ∧ s5 = .int .i64 el ∧ Hid (Start6 pre post t el))
    case first =>
      rcases HS.out with ⟨rfl, h3, -, -, h5⟩ | ⟨rfl, -, h5⟩
      · have h3' : ¬ ((s.size : Int) - 2 = 0) := by omega
        have H5 := Lib.hid h5
        clear HS h5
        go_wp2
        go_meet
        exact ⟨rfl, _, _, rfl, rfl, H5⟩
      · have H5 := Lib.hid h5
        clear HS h5
        go_wp2
        go_meet
        exact ⟨rfl, _, _, rfl, rfl, H5⟩
    case rest =>
      obtain ⟨rfl, t0, el0, rfl, rfl, H5⟩ := hcut
      clear HS hsI hc0 hc1
      go_upto_block 0 with (fail)
      go_cut [0, 5, 6] (fun s0 s5 s6 wx => End6 pre post wA.heap.size wB 183 s0 s5 s6 wx)
      case first =>
        go_wp2
        go_loopg [0, 5, 6] 20 (fun gk s0 s5 s6 wx => Rd6 pre post wA.heap.size wB 183 gk s0 s5 s6 wx)
        case atStart =>
          obtain ⟨rest, tail, h1, h2, h3⟩ := H5.out
          exact ⟨[], rest, tail, el0, t0, 0, rfl, rfl, rfl, rfl, rfl, h2, h1, Put.start hnB.blk, h3⟩
        case round =>
          obtain ⟨done, rest, tail, el, t, i, rfl, rfl, rfl, hi, hgk, hr, ht, hput, hL⟩ := hrel
          obtain ⟨g, u, htu, hg, hd7, h58, hway⟩ := round6 HP.out.1 HP.out.2.1 HP.out.2.2 hL hr ht
          obtain ⟨H, val, hHl, hH0, hH4, hHt, htz, hv0, hvH, hvlt, hvs⟩ := digits_read g hg t u htu
          rw [← hHl] at h58
          have hi16 : (i : Int) + 1 < 16 := by omega
          have hi15 : (i : Int) < 16 := by omega
          have HD := Lib.hid (And.intro hv0 (And.intro hvH (And.intro hvlt hvs)))
          have HT := Lib.hid (And.intro htu (And.intro htz (And.intro hHl (And.intro hi (And.intro hgk hway)))))
          have H58 := Lib.hid h58
          clear hv0 hvH hvlt hvs htu htz hHl hi hgk hway h58 hL hr ht
          go_upto_block 2 with (fail)
          go_cut [7, 8] (fun s7 s8 wx => wr = wx ∧ s7 = .int .i64 (H : Int) ∧ s8 = .int .i64 (g : Int))
          case first =>
            go_wp2
            go_loopg [7, 8] (H + 1) (fun gk s7 s8 wx => wr = wx ∧ ∃ k v : Nat, s7 = .int .i64 (k : Int) ∧ s8 = .int .i64 (v : Int) ∧ k ≤ H ∧ gk = H + 1 - k ∧ Hid (v = val k))
            case atStart => exact ⟨rfl, 0, 0, rfl, rfl, by omega, rfl, Lib.hid HD.out.1.symm⟩
            case round =>
              obtain ⟨rfl, k, v, rfl, rfl, hk, hgk, HV⟩ := hrel
              by_cases hkl : k < H
              · have hkt : k < t.size := by omega
                obtain ⟨d, hd, hdv, hn⟩ := HD.out.2.2.2 k hkl hkt
                obtain ⟨c, hc⟩ : ∃ c, t[k]'hkt = c := ⟨_, rfl⟩
                rw [hc] at hdv
                have hz := fun w => zzDigit_ok c w
                rw [hdv] at hz
                have hv6 := HD.out.2.2.1 (k + 1)
                rw [hn, ← HV.out] at hv6
                have HZ := Lib.hid hz
                have HN := Lib.hid hn
                have hkI : (k : Int) < (t.size : Int) := by omega
                have hk3 : k ≤ 3 := by omega
                have hd0 : (0 : Int) ≤ (d : Int) := by omega
                clear hdv hz hn
                go_wp2_with (go_at_call 339; refine (HZ.out _).mono ?_; rintro e w2 ⟨rfl, rfl⟩)
                go_roundg (H + 1 - (k + 1))
                case measure => omega
                case rel => exact ⟨rfl, k + 1, v * 16 + d, by go_num, by simp, by omega, rfl, Lib.hid (by rw [HN.out, HV.out])⟩
              · obtain rfl : k = H := by omega
                have hvg : v = g := by rw [HV.out]; exact HD.out.2.1
                subst hvg
                clear HV HD
                by_cases hkt : k < t.size
                · have hkI : (k : Int) < (t.size : Int) := by omega
                  have hc : t[k]'hkt = 58 := H58.out hkt
                  have hz := fun w => zzDigit_ok 58 w
                  rw [colon_digv] at hz
                  have HZ := Lib.hid hz
                  clear hz
                  go_wp2_with (go_at_call 339; refine (HZ.out _).mono ?_; rintro e w2 ⟨rfl, rfl⟩)
                  go_meet
                  exact ⟨rfl, rfl, rfl⟩
                · have hkI : ¬ ((k : Int) < (t.size : Int)) := by omega
                  go_wp2
                  go_meet
                  exact ⟨rfl, rfl, rfl⟩
          case rest =>
            obtain ⟨rfl, rfl, rfl⟩ := hcut
            clear HD
            have hH0' : ((H : Int) == 0) = false := by simp; omega
            go_upto_region 18 with (fail)
            go_cut [68] (fun s68 wx => wr = wx ∧ s68 = .bool false)
            case first =>
              by_cases hkt : H < t.size
              · have hkI : (H : Int) < (t.size : Int) := by omega
                have hc : t[H]'hkt = 58 := H58.out hkt
                go_wp2
                go_meet
                exact ⟨rfl, rfl⟩
              · have hkI : ¬ ((H : Int) < (t.size : Int)) := by omega
                go_wp2
                go_meet
                exact ⟨rfl, rfl⟩
            case rest =>
              obtain ⟨rfl, rfl⟩ := hcut
              clear H58 hH0'
              obtain ⟨L0, hL0⟩ : ∃ L0, L0 = gbs done ++ List.replicate (16 - 2 * done.length) (0 : UInt8) := ⟨_, rfl⟩
              rw [← hL0] at hput
              have HLl : Hid (L0.length = 16) := Lib.hid (by rw [hL0, List.length_append, gbs_length, List.length_replicate]; omega)
              have ha1 : Hid ((g : Int) / 256 = ((UInt8.ofNat (g / 256)).toNat : Int)) := Lib.hid (by simp; omega)
              have ha2 : Hid ((g : Int) % 256 = ((UInt8.ofNat g).toNat : Int)) := Lib.hid (by simp)
              have HL1 : Hid ((L0.set i (UInt8.ofNat (g / 256))).set (i + 1) (UInt8.ofNat g) = gbs (done ++ [g]) ++ List.replicate (16 - 2 * (done ++ [g]).length) 0) := Lib.hid (by rw [hL0, HT.out.2.2.2.1]; exact cells_next done g hd7)
              have HLl1 : Hid (((L0.set i (UInt8.ofNat (g / 256))).set (i + 1) (UInt8.ofNat g)).length = 16) := Lib.hid (by simp [HLl.out])
              clear hL0
              go_upto_region 23 with (fail)
              go_cut [] (fun wx => Put wB wx wA.heap.size (cellsB ((L0.set i (UInt8.ofNat (g / 256))).set (i + 1) (UInt8.ofNat g))) 183)
              case first =>
                go_wp2_with (first
                  | (refine wpList_setB rfl _ _ rfl _ i _ _ hput _ rfl rfl (by have := HLl.out; omega) (UInt8.ofNat (g / 256)) ha1.out ?_; intro wS1 hS1)
                  | (refine wpList_setB rfl _ _ rfl _ (i + 1) _ _ hS1 _ rfl rfl (by have := HLl.out; rw [List.length_set]; omega) (UInt8.ofNat g) ha2.out ?_; intro wS hS))
                go_meet
                exact hS
              case rest =>
                obtain ⟨cl, hcl⟩ : ∃ cl, cl = (L0.set i (UInt8.ofNat (g / 256))).set (i + 1) (UInt8.ofNat g) := ⟨_, rfl⟩
                rw [← hcl] at hcut HLl1 HL1
                have hput1 := hcut
                clear hcut hcl ha1 ha2 hput HLl
                go_upto_region 25 with (fail)
                go_cut [0] (fun s0 wx => Put wB wx wA.heap.size (cellsB cl) 183 ∧ Txt s0 u)
                case first =>
                  go_wp2
                  go_meet
                  exact ⟨hput1, _, rfl, str_tail HT.out.1 _ HT.out.2.2.1⟩
                case rest =>
                  obtain ⟨hput2, t', rfl, ht'⟩ := hcut
                  have Ht' := Lib.hid ht'
                  have hi' : Hid (i + 2 = 2 * (done ++ [g]).length ∧ (done ++ [g]).length = done.length + 1 ∧ gk = 20 - done.length) := Lib.hid (by
                    have h1 := HT.out.2.2.2.1
                    have h2 := HT.out.2.2.2.2.1
                    rw [List.length_append, List.length_singleton]
                    omega)
                  rcases HT.out.2.2.2.2.2 with ⟨h, hf⟩ | ⟨r, tail', c, v, h, hc, hv, hr, hl⟩ | ⟨q, h, he, h0, h1⟩
                  · -- the text is at its end
                    have hz : t'.size = 0 := by rw [str_len ht', h]; rfl
                    have Hz := Lib.hid hz
                    have Hf := Lib.hid hf
                    have hzI : ((t'.size : Int) == 0) = true := by simp [hz]
                    clear ht' h hz hf HT hput1
                    go_wp2
                    go_meet
                    exact ⟨done ++ [g], el, t', i + 2, rfl, rfl, by go_num, hi'.out.1, Hz.out, by rw [← HL1.out]; exact hput2, Hf.out⟩
                  · -- a colon, and a group behind it
                    obtain ⟨hs0, hs1⟩ := str_cons (ht'.trans h)
                    have hz2 : ((t'.size : Int) == 0) = false := szB (k := 0) (by omega)
                    have hz1 : ((t'.size : Int) == 1) = false := by
                      have : t'.size = v.length + 2 := by rw [str_len ht', h]; simp
                      exact szB (k := 1) (by omega)
                    have hs1I : (1 : Int) ≤ (t'.size : Int) := by omega
                    have hc58 := ne58 hc
                    have HH := Lib.hid (And.intro (ht'.trans h) (And.intro hv (And.intro hr hl)))
                    clear ht' h hc hv hr hl HT hput1 Ht'
                    go_upto_region 29 with (fail)
                    go_cut [0] (fun s0 wx => Put wB wx wA.heap.size (cellsB cl) 183 ∧ Txt s0 (c :: v))
                    case first =>
                      go_wp2
                      go_meet
                      exact ⟨hput2, _, rfl, str_tail (a := [58]) HH.out.1 1 rfl⟩
                    case rest =>
                      obtain ⟨hput3, t'', rfl, ht''⟩ := hcut
                      obtain ⟨hp0, hp1⟩ := str_cons ht''
                      have Ht'' := Lib.hid ht''
                      clear ht'' hput2
                      go_wp2
                      go_roundg (20 - (done ++ [g]).length)
                      case measure => have := hi'.out; omega
                      case rel => exact ⟨done ++ [g], r, tail', el, t'', i + 2, rfl, rfl, by go_num, hi'.out.1, rfl, HH.out.2.2.1, by rw [Ht''.out]; exact HH.out.2.1, by rw [← HL1.out]; exact hput3, HH.out.2.2.2⟩
                  · -- two colons
                    obtain ⟨hs0, hs1⟩ := str_cons (ht'.trans h)
                    have hz2 : ((t'.size : Int) == 0) = false := szB (k := 0) (by omega)
                    have hz1 : ((t'.size : Int) == 1) = false := by
                      have : t'.size = (join q).length + 2 := by rw [str_len ht', h]; simp
                      exact szB (k := 1) (by omega)
                    have hs1I : (1 : Int) ≤ (t'.size : Int) := by omega
                    subst he
                    have HH := Lib.hid (And.intro (ht'.trans h) (And.intro h0 h1))
                    clear ht' h h0 h1 HT hput1 Ht'
                    go_upto_region 29 with (fail)
                    go_cut [0] (fun s0 wx => Put wB wx wA.heap.size (cellsB cl) 183 ∧ Txt s0 (58 :: join q))
                    case first =>
                      go_wp2
                      go_meet
                      exact ⟨hput2, _, rfl, str_tail (a := [58]) HH.out.1 1 rfl⟩
                    case rest =>
                      obtain ⟨hput3, t'', rfl, ht''⟩ := hcut
                      obtain ⟨hp0, hp1⟩ := str_cons ht''
                      have hp1I : (1 : Int) ≤ (t''.size : Int) := by omega
                      have Ht'' := Lib.hid ht''
                      clear ht'' hput2
                      go_upto_region 34 with (fail)
                      go_cut [0] (fun s0 wx => Put wB wx wA.heap.size (cellsB cl) 183 ∧ Txt s0 (join q))
                      case first =>
                        go_wp2
                        go_meet
                        exact ⟨hput3, _, rfl, str_tail (a := [58]) Ht''.out 1 rfl⟩
                      case rest =>
                        obtain ⟨hput4, t3, rfl, ht3⟩ := hcut
                        have hsz3 : t3.size = (join q).length := str_len ht3
                        have Ht3 := Lib.hid ht3
                        clear ht3 hput3 Ht''
                        by_cases hq : q = []
                        · have hz : t3.size = 0 := by rw [hsz3, hq]; rfl
                          have Hz := Lib.hid hz
                          have hzI : ((t3.size : Int) == 0) = true := by simp [hz]
                          clear hsz3 hz
                          go_wp2
                          go_meet
                          exact ⟨done ++ [g], _, t3, i + 2, rfl, by have := hi'.out; go_num, by go_num, hi'.out.1, Hz.out, by rw [← HL1.out]; exact hput4, HH.out.2.1 hq⟩
                        · have hj := List.length_pos_iff.2 (join_ne hq)
                          have hzI : ((t3.size : Int) == 0) = false := szB (k := 0) (by omega)
                          clear hsz3 hj
                          go_wp2
                          go_roundg (20 - (done ++ [g]).length)
                          case measure => have := hi'.out; omega
                          case rel => exact ⟨done ++ [g], q, none, _, t3, i + 2, rfl, by have := hi'.out; go_num, by go_num, hi'.out.1, rfl, hq, by rw [Ht3.out]; simp [tl], by rw [← HL1.out]; exact hput4, HH.out.2.2 hq⟩
      case rest =>
        obtain ⟨done, el, t, i, rfl, rfl, rfl, hi, ht0, hput, hfin⟩ := hcut
        have hz : ((t.size : Int) == 0) = true := by simp [ht0]
        have hz2 : ((t.size : Int) != 0) = false := by simp [ht0]
        clear ht0
        rcases hfin with ⟨rfl, hd, hpo⟩ | ⟨q, he, hpo, hd⟩
        · have h8 : done.length = 8 := by have := HP.out.2.2; rw [hpo] at this; rw [hd]; exact this
          obtain rfl : i = 16 := by omega
          have hcl : gbs done ++ List.replicate (16 - 2 * done.length) 0 = out6 pre post := by rw [h8, hd, hpo]; simp [out6]
          rw [hcl] at hput
          have HLl : Hid ((out6 pre post).length = 16) := Lib.hid (by rw [← hcl, List.length_append, gbs_length, List.length_replicate]; omega)
          obtain ⟨cl, hc1⟩ : ∃ cl, cl = out6 pre post := ⟨_, rfl⟩
          rw [← hc1] at hput HLl
          have HCL := Lib.hid hc1
          clear hc1 hcl h8 hi hd hpo HP H5
          go_wp2_with (first
            | (refine wpList_load_row rfl 183 _ rfl _ rfl 183 _ (0, 0) _ hput.blk Tryz.underlying183 rfl (info16 _ HLl.out) ?_)
            | (refine wpList_put rfl 183 _ _ rfl w.heap.size _ rfl rfl 183 z16 (old6 hnA hnB hput) (info16 _ HLl.out) (by simp [HLl.out]) (cellsB_one _) ?_; intro w2 hp2))
          refine bodyPost_ret (results_cell2_row Tryz.results291 _ _ w.heap.size 183 _ (0, 0) _ rfl hp2.blk Tryz.underlying183 rfl (info16 _ HLl.out)) rfl ⟨by rw [← HCL.out]; rfl, ?_⟩
          exact fin6 hnA hnB hput hp2
        · have hf := HP.out.2.2
          rw [hpo] at hf
          simp only [Fits] at hf
          obtain ⟨a, rfl⟩ : ∃ a : Nat, el = (a : Int) := ⟨2 * pre.length, by rw [he]; simp⟩
          obtain ⟨A, hA⟩ : ∃ A, A = gbs pre := ⟨_, rfl⟩
          obtain ⟨Q, hQ⟩ : ∃ Q, Q = gbs q := ⟨_, rfl⟩
          have hAl : A.length = a := by rw [hA, gbs_length]; omega
          have hQl : Q.length = 2 * q.length := by rw [hQ, gbs_length]
          have hdl : done.length = pre.length + q.length := by rw [hd, List.length_append]
          obtain ⟨n, hn⟩ : ∃ n, n = 16 - i := ⟨_, rfl⟩
          have hcell : gbs done ++ List.replicate (16 - 2 * done.length) 0 = moved A Q n 0 := by
            rw [moved_zero, hd, gbs_append, hA, hQ, hn, hi, hd]
          have hout : Hid (zeroed A Q n n = out6 pre post) := Lib.hid (by
            rw [zeroed_all, hA, hQ, hpo, out6, hn, hi, hdl])
          have hlen16 : A.length + Q.length + n = 16 := by omega
          rw [hcell] at hput
          have HO : Hid ((out6 pre post).length = 16) := Lib.hid (by rw [← hout.out, zeroed_length _ _ _ _ (Nat.le_refl _)]; exact hlen16)
          have HI := Lib.hid (show A.length = a ∧ i = a + Q.length ∧ i + n = 16 from ⟨hAl, by omega, by omega⟩)
          have hn2 : 2 ≤ n := by omega
          have hiI : (i : Int) < 16 := by omega
          have hin : (i : Int) ≤ 16 - 2 := by omega
          have haI : (a : Int) ≤ (i : Int) := by omega
          clear hcell hAl hQl hdl hn hA hQ he hd hpo hf hi HP H5 hlen16
          go_upto_region 41 with (fail)
          go_cut [9] (fun s9 wx => Put wB wx wA.heap.size (cellsB (moved A Q n 0)) 183 ∧ s9 = .int .i64 (n : Int))
          case first =>
            go_wp2
            go_meet
            exact ⟨hput, by have := HI.out.2.2; go_num⟩
          case rest =>
            obtain ⟨hput1, rfl⟩ := hcut
            clear hput
            go_wp2
            go_loopg [10] (Q.length + 1) (fun gk s10 wx => ∃ (m : Nat) (z : Int), m ≤ Q.length ∧ gk = Q.length + 1 - m ∧ s10 = .int .i64 z ∧ Hid (z = (i : Int) - 1 - (m : Int)) ∧ Put wB wx wA.heap.size (cellsB (moved A Q n m)) 183)
            case atStart => exact ⟨0, _, by omega, rfl, rfl, Lib.hid (by simp), hput1⟩
            case round =>
              obtain ⟨m, z, hm, hgk, rfl, hz, hput2⟩ := hrel
              by_cases hml : m < Q.length
              · obtain ⟨j, rfl⟩ : ∃ j : Nat, z = (j : Int) := ⟨i - 1 - m, by have := hz.out; have := HI.out; omega⟩
                have hj : j = A.length + Q.length - 1 - m := by have := hz.out; have := HI.out; omega
                have haj : (a : Int) ≤ (j : Int) := by have := hz.out; have := HI.out; omega
                have hjn : (j : Int) + (n : Int) < 16 := by have := hz.out; have := HI.out; omega
                have hj16 : (j : Int) < 16 := by omega
                have hlm : (moved A Q n m).length = 16 := by rw [moved_length _ _ _ _ hm]; have := HI.out; omega
                have hcj := hput2.getB (j := j) (by omega)
                have hgj := moved_get A Q n m hml (by omega)
                rw [← hj] at hgj
                have hsu := moved_succ A Q n m hml (by omega)
                rw [← hj] at hsu
                rw [hgj] at hcj
                generalize Q[Q.length - 1 - m] = x at hcj hsu
                have HSu := Lib.hid hsu
                have HLm := Lib.hid hlm
                clear hgj hsu hlm hj
                go_wp2_with (refine wpList_setB rfl _ _ rfl _ (j + n) _ _ hput2 _ rfl rfl (by have := HLm.out; omega) x rfl ?_; intro wS hS)
                go_roundg (Q.length + 1 - (m + 1))
                case measure => omega
                case rel => exact ⟨m + 1, _, by omega, rfl, rfl, Lib.hid (by have := hz.out; omega), by rw [← HSu.out]; exact hS⟩
              · obtain rfl : m = Q.length := by omega
                have hza : ¬ ((a : Int) ≤ z) := by have := hz.out; have := HI.out; omega
                rw [← zeroed_zero] at hput2
                clear hz hgk hml hm
                go_wp2
                go_loopg [11] (n + 1) (fun gk s11 wx => ∃ (m : Nat), m ≤ n ∧ gk = n + 1 - m ∧ s11 = .int .i64 ((a + m : Nat) : Int) ∧ Put wB wx wA.heap.size (cellsB (zeroed A Q n m)) 183)
                case atStart => exact ⟨0, by omega, rfl, by simp, hput2⟩
                case round =>
                  obtain ⟨m, hm, hgk, rfl, hput3⟩ := hrel
                  have hlz : (zeroed A Q n m).length = 16 := by rw [zeroed_length _ _ _ _ hm]; have := HI.out; omega
                  obtain ⟨j, hj⟩ : ∃ j, j = a + m := ⟨_, rfl⟩
                  rw [← hj]
                  by_cases hml : m < n
                  · have hsu := zeroed_succ A Q n m hml
                    rw [HI.out.1, ← hj] at hsu
                    have hjn : (j : Int) < (a : Int) + (n : Int) := by omega
                    have hj16 : (j : Int) < 16 := by have := HI.out; omega
                    have hlj : j < (zeroed A Q n m).length := by rw [hlz]; omega
                    have HSu := Lib.hid hsu
                    have HLj := Lib.hid hlj
                    have Hj := Lib.hid hj
                    have hcj := hput3.getB (j := j) hlj
                    have han : (a : Int) + (n : Int) ≤ 16 := by have := HI.out; omega
                    generalize (zeroed A Q n m).getD j 0 = x at hcj
                    clear hsu hlz hlj hj
                    go_wp2_with (refine wpList_setB rfl _ _ rfl _ j _ _ hput3 _ rfl rfl HLj.out 0 rfl ?_; intro wS hS)
                    go_roundg (n + 1 - (m + 1))
                    case measure => omega
                    case rel => exact ⟨m + 1, by omega, rfl, by have := Hj.out; go_num, by rw [← HSu.out]; exact hS⟩
                  · obtain rfl : m = n := by omega
                    have hjn : ¬ ((j : Int) < (a : Int) + (m : Int)) := by omega
                    have han : (a : Int) + (m : Int) ≤ 16 := by have := HI.out; omega
                    rw [hout.out] at hput3
                    obtain ⟨cl, hc1⟩ : ∃ cl, cl = out6 pre post := ⟨_, rfl⟩
                    have HLl := HO
                    rw [← hc1] at hput3 HLl
                    have HCL := Lib.hid hc1
                    clear hc1 hlz hj hgk hm hml hput2 hput1 HO hout
                    go_wp2_with (first
                      | (refine wpList_load_row rfl 183 _ rfl _ rfl 183 _ (0, 0) _ hput3.blk Tryz.underlying183 rfl (info16 _ HLl.out) ?_)
                      | (refine wpList_put rfl 183 _ _ rfl w.heap.size _ rfl rfl 183 z16 (old6 hnA hnB hput3) (info16 _ HLl.out) (by simp [HLl.out]) (cellsB_one _) ?_; intro w2 hp2))
                    refine bodyPost_ret (results_cell2_row Tryz.results291 _ _ w.heap.size 183 _ (0, 0) _ rfl hp2.blk Tryz.underlying183 rfl (info16 _ HLl.out)) rfl ⟨by rw [← HCL.out]; rfl, ?_⟩
                    exact fin6 hnA hnB hput3 hp2
end Go.Proofs.YtdlmmaolacjnaaaGreatDoor
