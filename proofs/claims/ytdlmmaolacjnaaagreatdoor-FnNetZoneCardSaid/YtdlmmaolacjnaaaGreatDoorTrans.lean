/-
  The contracts of the transcoders of ip4, ip6 and ip6zone.
-/
import Derived.Test.YtdlmmaolacjnaaaGreatDoorBytes
import Derived.Test.YtdlmmaolacjnaaaGreatDoorTextB
import Derived.Test.YtdlmmaolacjnaaaGreatDoorTextA
import Derived.Test.YtdlmmaolacjnaaaGreatDoorParse
namespace Go.Proofs.YtdlmmaolacjnaaaGreatDoor
set_option linter.unusedVariables false
set_option linter.unusedSimpArgs false
open Go.RowKit Go.Sort

theorem str_one (s : ByteArray) (i : Nat) (hi : i < s.size) : s.extract i (i + 1) = ⟨#[s[i]]⟩ := by
  rw [Lib.extract_eq, show i + 1 - i = 1 by omega]
  have h := Lib.data_getElem? s i hi
  have hl : i < s.data.toList.length := by rw [← Lib.size_eq]; exact hi
  rw [List.drop_eq_getElem_cons hl]
  rw [List.getElem?_eq_getElem hl] at h
  simp only [List.take_succ_cons, List.take_zero]
  rw [Option.some.inj h]

set_option maxRecDepth 100000 in
theorem zzIndex_none (s : ByteArray) (hs : s.size ≤ 140737488351232) (h : (47 : UInt8) ∉ s.data.toList) (w : World) :
    Calls Tryz.prog 238 #[.string s, .string ⟨#[47]⟩] w fun e w' => e = .returned (.int .i64 (-1)) ∧ w = w' := by
  have H := Lib.hid h
  clear h
  obtain ⟨sub, hsub⟩ : ∃ sub : ByteArray, sub = ⟨#[47]⟩ := ⟨_, rfl⟩
  rw [← hsub]
  have h1 : sub.size = 1 := by rw [hsub]; rfl
  have Hs := Lib.hid hsub
  clear hsub
  go_enter Tryz.func238, Tryz.ntmps238
  go_wp2
  go_loopg [5] (s.size + 1) (fun gk s5 wx => w = wx ∧ ∃ i : Nat, s5 = .int .i64 (i : Int) ∧ i ≤ s.size ∧ gk = s.size + 1 - i)
  case atStart => exact ⟨rfl, 0, rfl, by omega, rfl⟩
  case round =>
    obtain ⟨rfl, i, rfl, hi, hgk⟩ := hrel
    by_cases hlt : i < s.size
    · have hl1 : (i : Int) + 1 ≤ (s.size : Int) := by omega
      have hne : ((s.extract i (i + 1)).toList == sub.toList) = false := by
        rw [str_one s i hlt, Hs.out, ByteArray.toList_eq, ByteArray.toList_eq]
        simp only [beq_eq_false_iff_ne, ne_eq]
        intro he
        apply H.out
        have h2 : s[i] = 47 := by simpa using he
        rw [← h2]
        have h3 := Lib.data_getElem? s i hlt
        exact List.mem_of_getElem? h3
      go_wp2
      go_roundg (s.size + 1 - (i + 1))
      case measure => omega
      case rel => exact ⟨rfl, i + 1, by go_num, by omega, rfl⟩
    · have hl1 : ¬ ((i : Int) + 1 ≤ (s.size : Int)) := by omega
      go_wp2
      go_ret
      exact ⟨rfl, rfl⟩

theorem zzContains_none (s : ByteArray) (hs : s.size ≤ 140737488351232) (h : (47 : UInt8) ∉ s.data.toList) (w : World) :
    Calls Tryz.prog 205 #[.string s, .string ⟨#[47]⟩] w fun e w' => e = .returned (.bool false) ∧ w = w' := by
  have H := Lib.hid h
  clear h
  go_enter Tryz.func205, Tryz.ntmps205
  go_wp2_with (go_at_call 238; refine (zzIndex_none s hs H.out _).mono ?_; rintro e w' ⟨rfl, rfl⟩)
  go_ret
  exact ⟨rfl, rfl⟩

/-- A transcoder's function from text to bytes, at one text. -/
def S2B (f : Nat) (s : ByteArray) (l : List UInt8) : Prop := ∀ w, Tab w → Calls Tryz.prog f #[.string s] w fun e w' => ∃ v, e = .returned (.tuple #[v, .nilIface]) ∧ By w' l v ∧ Ext w w'
/-- A transcoder's function from bytes to text, at these bytes: no error. -/
def B2S (f : Nat) (l : List UInt8) : Prop := ∀ w v, Tab w → By w l v → Calls Tryz.prog f #[v] w fun e w' => ∃ s, e = .returned (.tuple #[.string s, .nilIface]) ∧ Ext w w'
/-- A transcoder's look at bytes: no error. -/
def VBs (f : Nat) (l : List UInt8) : Prop := ∀ w v, By w l v → Calls Tryz.prog f #[v] w fun e w' => e = .returned .nilIface ∧ Ext w w'

theorem text4_str (x0 x1 x2 x3 : UInt8) (s : ByteArray) (hs : s.data.toList = text4 x0 x1 x2 x3) : s = ⟨(text4 x0 x1 x2 x3).toArray⟩ := by
  apply ByteArray.ext; apply Array.toList_inj.1; rw [hs]

theorem s2b_zone (l : List UInt8) (hl : l ≠ []) (hsz : l.length ≤ 1000) (h : (47 : UInt8) ∉ l) : S2B 162 ⟨l.toArray⟩ l := by
  intro w _
  obtain ⟨s, hs⟩ : ∃ s : ByteArray, s = ⟨l.toArray⟩ := ⟨_, rfl⟩
  rw [← hs]
  have hd : s.data.toList = l := by rw [hs]
  have hz : s.size = l.length := by rw [Lib.size_eq, hd]
  have h0 := List.length_pos_iff.2 hl
  have hz0 : ((s.size : Int) == 0) = false := szB (k := 0) (by omega)
  have hC := fun w => zzContains_none s (by omega) (by rw [hd]; exact h) w
  have HC := Lib.hid hC
  have HD := Lib.hid hd
  clear hC hs hd hz h hsz h0
  go_enter Tryz.func162, Tryz.ntmps162
  go_wp2_with (first
    | (go_at_call 205; refine (HC.out _).mono ?_; rintro e w' ⟨rfl, rfl⟩)
    | (refine wpList_bytes rfl _ rfl s rfl ?_; intro c w1 hc hr he _hsz))
  go_ret2
  refine ⟨_, rfl, ?_, he⟩
  rw [HD.out] at hr
  have : s.size = l.length := by rw [Lib.size_eq, HD.out]
  rw [this] at hc ⊢
  exact By.of_row hr hc

theorem b2s_zone (l : List UInt8) (hl : l ≠ []) : B2S 163 l := by
  intro w v _ hv
  obtain ⟨a, c, hve, -⟩ := id hv
  have h0 := List.length_pos_iff.2 hl
  have hz0 : ((l.length : Int) == 0) = false := szB (k := 0) (by omega)
  subst hve
  clear h0
  go_enter Tryz.func163, Tryz.ntmps163
  go_wp2_with (refine wpList_str rfl _ rfl l hv ?_)
  go_ret2
  exact ⟨_, rfl, Ext.refl _⟩

theorem val_zone (l : List UInt8) (hl : l ≠ []) (h : (47 : UInt8) ∉ l) : VBs 164 l := by
  intro w v hv
  obtain ⟨a, c, hve, -⟩ := id hv
  have h0 := List.length_pos_iff.2 hl
  have hz0 : ((l.length : Int) == 0) = false := szB (k := 0) (by omega)
  have HI := Lib.hid (indexByte_ok l 47 h hl v w hv)
  subst hve
  clear h0 h
  go_enter Tryz.func164, Tryz.ntmps164
  go_wp2_with (go_at_call 204; refine HI.out.mono ?_; rintro e w' ⟨rfl, rfl⟩)
  go_ret
  exact ⟨rfl, Ext.refl _⟩

theorem b2s_ip4 (x0 x1 x2 x3 : UInt8) : B2S 154 [x0, x1, x2, x3] := by
  intro w v ht hv
  obtain ⟨a, c, rfl, hc, h4⟩ := hv
  obtain ⟨g, o, rfl, hr⟩ := h4 (by simp)
  have HT := Lib.hid (text_four x0 x1 x2 x3 g o c w hr ht)
  show Calls _ _ #[.slice (some ⟨g, o, none⟩) 4 c] _ _
  clear hr
  go_enter Tryz.func154, Tryz.ntmps154
  go_wp2_with (go_at_call 29; refine HT.out.mono ?_; rintro e w' ⟨rfl, he⟩)
  go_ret2
  exact ⟨_, rfl, he⟩

theorem b2s_ip6 (l : List UInt8) (h16 : l.length = 16) (hne : l.take 12 ≠ pre12) : B2S 161 l := by
  intro w v ht hv
  obtain ⟨a, c, rfl, hc, h4⟩ := hv
  obtain ⟨g, o, rfl, hr⟩ := h4 (by intro h; rw [h] at h16; simp at h16)
  rw [h16] at hc ⊢
  have HT := Lib.hid (text_sixteen l h16 hne g o c hc w hr)
  have H4 := Lib.hid (to4_plain l h16 hne c g o hc w hr)
  clear hr hne h16
  go_enter Tryz.func161, Tryz.ntmps161
  go_wp2_with (first
    | (go_at_call 27; refine H4.out.mono ?_; rintro e w' ⟨rfl, rfl⟩)
    | (go_at_call 29; refine HT.out.mono ?_; rintro e w' ⟨⟨p, q, -, rfl⟩, he⟩))
  go_ret2
  exact ⟨_, rfl, he⟩

set_option maxRecDepth 100000 in
theorem s2b_ip4 (x0 x1 x2 x3 : UInt8) : S2B 153 ⟨(text4 x0 x1 x2 x3).toArray⟩ [x0, x1, x2, x3] := by
  intro w _
  have HP := Lib.hid (fun w => parseIP_ok ⟨(text4 x0 x1 x2 x3).toArray⟩ (pre12 ++ [x0, x1, x2, x3]) rfl true (parseAddr_four x0 x1 x2 x3) w)
  generalize (⟨(text4 x0 x1 x2 x3).toArray⟩ : ByteArray) = s at HP
  have hnil := fun (w : World) (a : Option Addr) (n c : Nat) => Lib.run_eql_slice_nil (P := Tryz.prog) w 45 5 a n c 0 0 Tryz.underlying45
  go_enter Tryz.func153, Tryz.ntmps153
  go_wp2_with (first
    | (go_at_call 199; refine (HP.out _).mono ?_; rintro e w1 ⟨g, rfl, hr, he⟩)
    | (go_at_call 27; refine (to4_mapped _ rfl rfl 16 g 0 (Nat.le_refl _) _ hr).mono ?_; rintro e w' ⟨rfl, rfl⟩))
  go_ret2
  refine ⟨_, rfl, ⟨_, _, rfl, by simp, fun _ => ⟨g, 12, rfl, ?_⟩⟩, he⟩
  have := hr.drop 12
  simpa using this

theorem text6_small (l : List UInt8) (h16 : l.length = 16) (p q : Nat) : (text6 (groups l) p q).length ≤ 200 := by
  have h1 : ∀ G : List Nat, (∀ g ∈ G, g < 65536) → G.length ≤ 8 → (join G).length ≤ 40 := fun G h h8 => by
    have := join_len G h
    omega
  have h8 : (groups l).length = 8 := groups_length 8 l h16
  have hlt := groups_lt l
  unfold text6
  split
  · have := h1 _ hlt (by omega); omega
  · have := h1 ((groups l).take p) (fun g hg => hlt g (List.mem_of_mem_take hg)) (by rw [List.length_take]; omega)
    have := h1 ((groups l).drop q) (fun g hg => hlt g (List.mem_of_mem_drop hg)) (by rw [List.length_drop]; omega)
    simp; omega
/-- ZZParseAddr at the text of sixteen bytes. -/
theorem parseAddr_text (l : List UInt8) (h16 : l.length = 16) (p q : Nat) (hr : IsRun (groups l) p q) (w : World) :
    Calls Tryz.prog 233 #[.string ⟨(text6 (groups l) p q).toArray⟩] w fun e w' => e = .returned (.tuple #[.agg (cellsB l), .bool false, .bool true]) ∧ Ext w w' := by
  obtain ⟨s, hs⟩ : ∃ s : ByteArray, s = ⟨(text6 (groups l) p q).toArray⟩ := ⟨_, rfl⟩
  rw [← hs]
  have hd : s.data.toList = text6 (groups l) p q := by rw [hs]
  have hm : ∀ k, (hk : k < s.size) → s[k] ∈ text6 (groups l) p q := fun k hk => by
    have := Lib.data_getElem? s k hk
    rw [hd] at this
    exact List.mem_of_getElem? this
  obtain ⟨i, hi, h1, h2⟩ := first_at _ (text6_colon l h16 p q)
  have hz := str_len hd
  refine parseAddr_six s l h16 (by have := text6_small l h16 p q; omega) i (by omega) ?_ ?_ ?_ (fun w => parse6_text l h16 p q hr s hd w) w
  · rw [str_get hd (by omega) hi]; exact h1
  · intro j hj
    rcases text6_mem l p q _ (hm j (by omega)) with h | h
    · exact absurd (by rw [← h]; exact (str_get hd (by omega) (by omega)).symm) (h2 j hj)
    · exact h
  · intro k hk
    rcases text6_mem l p q _ (hm k hk) with h | h
    · rw [h]; decide
    · exact (hexy_not h).2.2

set_option maxRecDepth 100000 in
theorem s2b_ip6 (l : List UInt8) (h16 : l.length = 16) (p q : Nat) (hr : IsRun (groups l) p q) : S2B 160 ⟨(text6 (groups l) p q).toArray⟩ l := by
  intro w _
  have HP := Lib.hid (fun w => parseIP_ok ⟨(text6 (groups l) p q).toArray⟩ l h16 false (parseAddr_text l h16 p q hr) w)
  generalize (⟨(text6 (groups l) p q).toArray⟩ : ByteArray) = s at HP
  have H16 := Lib.hid h16
  clear h16 hr
  have hnil := fun (w : World) (a : Option Addr) (n c : Nat) => Lib.run_eql_slice_nil (P := Tryz.prog) w 45 5 a n c 0 0 Tryz.underlying45
  go_enter Tryz.func160, Tryz.ntmps160
  go_wp2_with (first
    | (go_at_call 199; refine (HP.out _).mono ?_; rintro e w1 ⟨g, rfl, hr, he⟩)
    | (go_at_call 31; refine (to16_ok _ _ _).mono ?_; rintro e w' ⟨rfl, rfl⟩))
  go_ret2
  refine ⟨_, rfl, ?_, he⟩
  have h := By.of_row (c := 16) hr (by rw [H16.out]; exact Nat.le_refl _)
  rw [H16.out] at h
  exact h
end Go.Proofs.YtdlmmaolacjnaaaGreatDoor
