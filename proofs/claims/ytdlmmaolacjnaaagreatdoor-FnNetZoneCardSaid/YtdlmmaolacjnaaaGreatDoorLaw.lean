/-
  The contract of FnNetZone, by the ways of its arguments.
-/
import Derived.Test.YtdlmmaolacjnaaaGreatDoorLive
import Derived.Test.YtdlmmaolacjnaaaGreatDoorAlike
import Derived.Test.YtdlmmaolacjnaaaGreatDoorPlain
import Derived.Test.YtdlmmaolacjnaaaGreatDoorAsk
namespace Go.Proofs.YtdlmmaolacjnaaaGreatDoor
set_option linter.unusedVariables false
set_option linter.unusedSimpArgs false
open Go.RowKit Go.Sort

theorem icAt_one (w : World) (t : TypeId) (code : Nat) (l : List UInt8) (v : Value) (h : By w l v) : IcAt (w.alloc (.cells #[.int .i64 (code : Int), v] t)) [(code, l)] (.slice (some ⟨w.heap.size, 0, none⟩) 1 1) := by
  have r := row_new w #[.int .i64 (code : Int), v] t
  refine ⟨_, 0, 1, rfl, Nat.le_refl _, fun i hi => ?_⟩
  match i, hi with
  | 0, _ => exact ⟨v, r 0 _ rfl, r 1 _ rfl, Ext.by ((Ext.refl w).alloc _) h⟩

/-- No zone, or a plain one. -/
def Zok (s : ByteArray) : Prop := s = ⟨#[]⟩ ∨ (s.toList.isEmpty = false ∧ plainB s.data.toList = true)

theorem fit_c4 (x0 x1 x2 x3 : UInt8) : Fit (c4 x0 x1 x2 x3) := ⟨coded_4, rfl, by show (4 : Nat) ≠ 0; decide, by show (4 : Nat) < 2147483648; decide, by show (4 : Nat) ≤ 1000000; decide, by simp [c4]⟩

theorem toIP4_ok (x0 x1 x2 x3 : UInt8) (v : Value) (w : World) (h : IcAt w (thin [c4 x0 x1 x2 x3]) v) : Calls Tryz.prog 8 #[v] w fun e w' => ∃ g cap, e = .returned (.tuple #[.slice (some ⟨g, 0, none⟩) 4 cap, .bool true]) ∧ 4 ≤ cap ∧ Row w' g 0 ([x0, x1, x2, x3].map B) ∧ Ext w w' :=
  netToIP_ok [c4 x0 x1 x2 x3] (by simp) (by intro c hc; simp at hc; subst hc; exact fit_c4 x0 x1 x2 x3) 0 (c4 x0 x1 x2 x3) rfl (by show 1 ≤ 100; decide) (fun i c hi => by omega) (.inl rfl) v w h

set_option maxHeartbeats 400000 in
set_option maxRecDepth 100000 in
theorem zone4_ok (x0 x1 x2 x3 : UInt8) (g o cap : Nat) (s : ByteArray) (hcap : 4 ≤ cap) (hs : s.size ≤ 2147483647) (hz : Zok s) (w : World) (hr : Row w g o ([x0, x1, x2, x3].map B)) (ht : Tab w) :
    Calls Tryz.prog 3 #[.slice (some ⟨g, o, none⟩) 4 cap, .string s] w fun e w' => e = .returned (.bool true) ∧ Ext w w' := by
  have hs1 : ¬ (s.size : Int) > 2147483647 := by omega
  have HNZ := Lib.hid (netFromZone_ok [c4 x0 x1 x2 x3] (by simp) (by show 1 ≤ 100; decide) (by intro c hc; simp at hc; subst hc; simp [c4]) _ _ w (fromIP4_ok x0 x1 x2 x3 g o cap s w hr ht))
  have HR := Lib.hid (By.of_row (c := cap) hr hcap)
  have HP := Lib.hid (maPlain_ok s (by omega) w)
  have HT := Lib.hid (toIP4_ok x0 x1 x2 x3)
  clear hr ht
  rcases hz with rfl | ⟨hne, hpl⟩
  all_goals
    go_enter Tryz.func3, Tryz.ntmps3
    go_wp2_with (first
      | (go_at_call 4; refine (netMapped_other _ 4 _ (by decide) _).mono ?_; rintro e w' ⟨rfl, rfl⟩)
      | (go_at_call 5; refine HP.out.mono ?_; rw [hpl]; rintro e w' ⟨rfl, rfl⟩))
    refine HNZ.out.mono ?_
    rintro e w1 ⟨u1, rfl, hi1, he1⟩
    have HI1 := Lib.hid hi1
    have HE1 := Lib.hid he1
    clear hi1 he1
    go_wp2_with (fail)
    have hI2 := icAt_one w1 30 4 [x0, x1, x2, x3] _ (Ext.by HE1.out HR.out)
    have hX2 := (Ext.refl w1).alloc (.cells #[.int .i64 ((4 : Nat) : Int), .slice (some ⟨g, o, none⟩) [x0, x1, x2, x3].length cap] 30)
    change Calls _ _ _ (w1.alloc (.cells #[.int .i64 ((4 : Nat) : Int), .slice (some ⟨g, o, none⟩) [x0, x1, x2, x3].length cap] 30)) _
    generalize w1.alloc (.cells #[.int .i64 ((4 : Nat) : Int), .slice (some ⟨g, o, none⟩) [x0, x1, x2, x3].length cap] 30) = w2 at *
    refine (HT.out u1 w2 (hX2.icAt HI1.out)).mono ?_
    rintro e w3 ⟨g3, cap3, rfl, hc3, hr3, he3⟩
    have HR3 := Lib.hid (By.of_row (c := cap3) hr3 hc3)
    have HIa := Lib.hid ((hX2.trans he3).icAt HI1.out)
    have HIb := Lib.hid (he3.icAt hI2)
    have HE3 := Lib.hid (HE1.out.trans (hX2.trans he3))
    clear hr3 hI2 hX2 he3
    go_wp2_with (fail)
    refine (netAlive_ok w3).mono ?_
    rintro e w4 ⟨rfl, he4⟩
    have HE4 := Lib.hid he4
    clear he4
    go_wp2_with (fail)
    refine (maAlike_ok [(4, [x0, x1, x2, x3])] (by show 1 ≤ 100; decide) u1 _ w4 (HE4.out.icAt HIa.out) (HE4.out.icAt HIb.out)).mono ?_
    rintro e w5 ⟨rfl, he5⟩
    have hk1 : (convert 22 9 (.slice (some ⟨g3, 0, none⟩) 4 cap3)).run Tryz.prog w5 = .ok (.string ⟨[x0, x1, x2, x3].toArray⟩) w5 := conv_str ((HE4.out.trans he5).by HR3.out)
    have hk2 : (convert 22 9 (.slice (some ⟨g, o, none⟩) 4 cap)).run Tryz.prog w5 = .ok (.string ⟨[x0, x1, x2, x3].toArray⟩) w5 := conv_str ((HE3.out.trans (HE4.out.trans he5)).by HR.out)
    generalize (⟨[x0, x1, x2, x3].toArray⟩ : ByteArray) = sb at hk1 hk2
    have HE5 := Lib.hid (HE3.out.trans (HE4.out.trans he5))
    clear he5
    go_wp2_with (fail)
    go_ret
    exact ⟨rfl, HE5.out⟩
end Go.Proofs.YtdlmmaolacjnaaaGreatDoor
namespace Go.Proofs.YtdlmmaolacjnaaaGreatDoor
set_option linter.unusedVariables false
set_option linter.unusedSimpArgs false
open Go.RowKit Go.Sort

theorem fit_c6 (l : List UInt8) (h : l.length = 16) : Fit (c6 l) := ⟨coded_41, rfl, by show (41 : Nat) ≠ 0; decide, by show (41 : Nat) < 2147483648; decide, by show l.length ≤ 1000000; omega, by show l ≠ []; intro hn; rw [hn] at h; cases h⟩
theorem fit_cz (z : List UInt8) (h : z ≠ []) (h60 : z.length ≤ 60) : Fit (cz z) := ⟨coded_42, rfl, by show (42 : Nat) ≠ 0; decide, by show (42 : Nat) < 2147483648; decide, by show z.length ≤ 1000000; omega, h⟩
theorem toIP6_ok (l : List UInt8) (h : l.length = 16) (v : Value) (w : World) (hi : IcAt w (thin [c6 l]) v) : Calls Tryz.prog 8 #[v] w fun e w' => ∃ g cap, e = .returned (.tuple #[.slice (some ⟨g, 0, none⟩) 16 cap, .bool true]) ∧ 16 ≤ cap ∧ Row w' g 0 (l.map B) ∧ Ext w w' := by
  have := netToIP_ok [c6 l] (by simp) (by intro c hc; simp at hc; subst hc; exact fit_c6 l h) 0 (c6 l) rfl (by show 1 ≤ 100; decide) (fun i c hi => by omega) (.inr rfl) v w hi
  have e : (c6 l).val.length = 16 := h
  rw [e] at this
  exact this
theorem ne_sixteen (l : List UInt8) (h : l.length = 16) : l ≠ [] := by intro hn; rw [hn] at h; cases h

set_option maxHeartbeats 400000 in
set_option maxRecDepth 100000 in
theorem zone6_ok (l : List UInt8) (h16 : l.length = 16) (hne : l.take 12 ≠ pre12) (g o cap : Nat) (hcap : 16 ≤ cap) (w : World) (hr : Row w g o (l.map B)) (ht : Tab w) :
    Calls Tryz.prog 3 #[.slice (some ⟨g, o, none⟩) 16 cap, .string ⟨#[]⟩] w fun e w' => e = .returned (.bool true) ∧ Ext w w' := by
  have HNZ := Lib.hid (fun w1 (he : Ext w w1) => netFromZone_ok [c6 l] (by simp) (by show 1 ≤ 100; decide) (by intro c hc; simp at hc; subst hc; exact ne_sixteen l h16) _ _ w1 (fromIP6_ok l h16 hne g o cap hcap w1 (he.row hr) (he.tab ht)))
  have HR := Lib.hid (show By w l (.slice (some ⟨g, o, none⟩) 16 cap) by rw [← h16]; exact By.of_row hr (by omega))
  have HM := Lib.hid (netMapped_sixteen l h16 cap g o w hr)
  have hd : decide (l.take 12 = pre12) = false := by simp [hne]
  rw [hd] at HM
  have HT := Lib.hid (toIP6_ok l h16)
  have HB := Lib.hid (fun (w : World) (g c : Nat) (hr : Row w g 0 (l.map B)) (hc : 16 ≤ c) => (show By w l (.slice (some ⟨g, 0, none⟩) 16 c) by rw [← h16]; exact By.of_row hr (by omega)))
  clear hr ht hne h16 hd
  go_enter Tryz.func3, Tryz.ntmps3
  go_wp2_with (go_at_call 4; refine HM.out.mono ?_; rintro e w0 ⟨rfl, he0⟩)
  have HE0 := Lib.hid he0
  clear he0
  refine (HNZ.out w0 HE0.out).mono ?_
  rintro e w1 ⟨u1, rfl, hi1, he1⟩
  have HI1 := Lib.hid hi1
  have HE1 := Lib.hid (HE0.out.trans he1)
  clear hi1 he1
  go_wp2_with (fail)
  have hxs : (w1.alloc (.cells #[.int .i64 4, .slice (some ⟨g, o, none⟩) 16 cap] 30)).heap.size = w1.heap.size + 1 := by simp
  have hX1 := (Ext.refl w1).alloc (.cells #[.int .i64 4, .slice (some ⟨g, o, none⟩) 16 cap] 30)
  generalize w1.alloc (.cells #[.int .i64 4, .slice (some ⟨g, o, none⟩) 16 cap] 30) = wx at *
  have hI2 := icAt_one wx 30 41 l _ (Ext.by (HE1.out.trans hX1) HR.out)
  have hX2 := hX1.alloc (.cells #[.int .i64 ((41 : Nat) : Int), .slice (some ⟨g, o, none⟩) 16 cap] 30)
  rw [hxs] at hI2
  change Calls _ _ _ (wx.alloc (.cells #[.int .i64 ((41 : Nat) : Int), .slice (some ⟨g, o, none⟩) 16 cap] 30)) _
  generalize wx.alloc (.cells #[.int .i64 ((41 : Nat) : Int), .slice (some ⟨g, o, none⟩) 16 cap] 30) = w2 at *
  clear hX1
  refine (HT.out u1 w2 (hX2.icAt HI1.out)).mono ?_
  rintro e w3 ⟨g3, cap3, rfl, hc3, hr3, he3⟩
  have HR3 := Lib.hid (HB.out w3 g3 cap3 hr3 hc3)
  have HIa := Lib.hid ((hX2.trans he3).icAt HI1.out)
  have HIb := Lib.hid (he3.icAt hI2)
  have HE3 := Lib.hid (HE1.out.trans (hX2.trans he3))
  clear hr3 hI2 hX2 he3 hxs
  go_wp2_with (fail)
  refine (netAlive_ok w3).mono ?_
  rintro e w4 ⟨rfl, he4⟩
  have HE4 := Lib.hid he4
  clear he4
  go_wp2_with (fail)
  refine (maAlike_ok [(41, l)] (by show 1 ≤ 100; decide) u1 _ w4 (HE4.out.icAt HIa.out) (HE4.out.icAt HIb.out)).mono ?_
  rintro e w5 ⟨rfl, he5⟩
  have hk1 : (convert 22 9 (.slice (some ⟨g3, 0, none⟩) 16 cap3)).run Tryz.prog w5 = .ok (.string ⟨l.toArray⟩) w5 := conv_str ((HE4.out.trans he5).by HR3.out)
  have hk2 : (convert 22 9 (.slice (some ⟨g, o, none⟩) 16 cap)).run Tryz.prog w5 = .ok (.string ⟨l.toArray⟩) w5 := conv_str ((HE3.out.trans (HE4.out.trans he5)).by HR.out)
  generalize (⟨l.toArray⟩ : ByteArray) = sb at hk1 hk2
  have HE5 := Lib.hid (HE3.out.trans (HE4.out.trans he5))
  clear he5
  go_wp2_with (fail)
  go_ret
  exact ⟨rfl, HE5.out⟩
end Go.Proofs.YtdlmmaolacjnaaaGreatDoor
namespace Go.Proofs.YtdlmmaolacjnaaaGreatDoor
set_option linter.unusedVariables false
set_option linter.unusedSimpArgs false
open Go.RowKit Go.Sort

theorem plain_out {z : List UInt8} (h : plainB z = true) : z ≠ [] ∧ z.length ≤ 60 ∧ (47 : UInt8) ∉ z := by
  unfold plainB at h
  simp only [Bool.and_eq_true, decide_eq_true_eq, List.all_eq_true] at h
  obtain ⟨⟨h1, h2⟩, h3⟩ := h
  refine ⟨by intro hn; rw [hn] at h2; simp at h2, h3, fun hm => ?_⟩
  have := h1 _ hm
  exact absurd this (by decide)
theorem zone_first (z l : List UInt8) (i : Nat) (c : Cmp) (hi : i < 1) (hc : [cz z, c6 l][i]? = some c) : c.p.code = 42 := by
  obtain rfl : i = 0 := by omega
  cases hc
  rfl
theorem toIPz_ok (z l : List UInt8) (hz : z ≠ []) (h60 : z.length ≤ 60) (h : l.length = 16) (v : Value) (w : World) (hi : IcAt w (thin [cz z, c6 l]) v) : Calls Tryz.prog 8 #[v] w fun e w' => ∃ g cap, e = .returned (.tuple #[.slice (some ⟨g, 0, none⟩) 16 cap, .bool true]) ∧ 16 ≤ cap ∧ Row w' g 0 (l.map B) ∧ Ext w w' := by
  have hf : ∀ c ∈ [cz z, c6 l], Fit c := by
    intro c hc
    simp at hc
    rcases hc with rfl | rfl
    · exact fit_cz z hz h60
    · exact fit_c6 l h
  have := netToIP_ok [cz z, c6 l] (by simp) hf 1 (c6 l) rfl (by show 2 ≤ 100; decide) (zone_first z l) (.inr rfl) v w hi
  have e : (c6 l).val.length = 16 := h
  rw [e] at this
  exact this

theorem icAt_pair {w : World} {base : Nat} {u vz vl : Value} {z l : List UInt8} (h : w.ownsRow base 30 2 u 2 ([.int .i64 42, vz] ++ [.int .i64 41, vl])) (hz : By w z vz) (hl : By w l vl) : IcAt w [(42, z), (41, l)] u := by
  rcases id h.2 with ⟨-, h1⟩ | ⟨g, cap, cur, rfl, hb, hg, hn, hm, hs, ht⟩
  · omega
  · have r := row_of_own h
    refine ⟨g, 0, cap, rfl, hn, fun i hi => ?_⟩
    match i, hi with
    | 0, _ => exact ⟨vz, r 0 _ rfl, r 1 _ rfl, hz⟩
    | 1, _ => exact ⟨vl, r 2 _ rfl, r 3 _ rfl, hl⟩

set_option maxHeartbeats 400000 in
set_option maxRecDepth 100000 in
theorem zonez_ok (l : List UInt8) (h16 : l.length = 16) (hne : l.take 12 ≠ pre12) (z : List UInt8) (hp : plainB z = true) (g o cap : Nat) (hcap : 16 ≤ cap) (w : World) (hr : Row w g o (l.map B)) (ht : Tab w) :
    Calls Tryz.prog 3 #[.slice (some ⟨g, o, none⟩) 16 cap, .string ⟨z.toArray⟩] w fun e w' => e = .returned (.bool true) ∧ Ext w w' := by
  obtain ⟨hz, h60, h47⟩ := plain_out hp
  have HNZ := Lib.hid (fun w1 (he : Ext w w1) => netFromZone_ok [cz z, c6 l] (by simp) (by show 2 ≤ 100; decide) (by intro c hc; simp at hc; rcases hc with rfl | rfl; exact hz; exact ne_sixteen l h16) _ _ w1 (fromIP6z_ok l h16 hne z hz h60 h47 g o cap hcap w1 (he.row hr) (he.tab ht)))
  have HR := Lib.hid (show By w l (.slice (some ⟨g, o, none⟩) 16 cap) by rw [← h16]; exact By.of_row hr (by omega))
  have HM := Lib.hid (netMapped_sixteen l h16 cap g o w hr)
  have hd : decide (l.take 12 = pre12) = false := by simp [hne]
  rw [hd] at HM
  have HT := Lib.hid (toIPz_ok z l hz h60 h16)
  have HB := Lib.hid (fun (w : World) (g c : Nat) (hr : Row w g 0 (l.map B)) (hc : 16 ≤ c) => (show By w l (.slice (some ⟨g, 0, none⟩) 16 c) by rw [← h16]; exact By.of_row hr (by omega)))
  have hze : ((⟨z.toArray⟩ : ByteArray)).toList.isEmpty = false := by
    rw [ByteArray.toList_eq]
    cases z with
    | nil => exact absurd rfl hz
    | cons a r => rfl
  have hzs : ((⟨z.toArray⟩ : ByteArray)).size = z.length := by simp [ByteArray.size]
  have hs1 : ¬ ((⟨z.toArray⟩ : ByteArray).size : Int) > 2147483647 := by rw [hzs]; omega
  have HP := Lib.hid (fun w => maPlain_ok ⟨z.toArray⟩ (by rw [hzs]; omega) w)
  have hpz : plainB (⟨z.toArray⟩ : ByteArray).data.toList = true := by simpa using hp
  rw [hpz] at HP
  obtain ⟨zs, hzz⟩ : ∃ zs : ByteArray, zs = ⟨z.toArray⟩ := ⟨_, rfl⟩
  rw [← hzz] at HNZ HP hze hs1 ⊢
  have HZ := Lib.hid (show zs.data.toList = z ∧ zs.size = z.length ∧ z.length ≤ 60 by rw [hzz]; exact ⟨rfl, hzs, h60⟩)
  clear hr ht hne h16 hd hp hz h60 h47 hzs hpz hzz
  go_enter Tryz.func3, Tryz.ntmps3
  go_wp2_with (first
    | (go_at_call 4; refine HM.out.mono ?_; rintro e w0 ⟨rfl, he0⟩)
    | (go_at_call 5; refine (HP.out w0).mono ?_; rintro e w' ⟨rfl, rfl⟩))
  have HE0 := Lib.hid he0
  clear he0
  refine (HNZ.out w0 HE0.out).mono ?_
  rintro e w1 ⟨u1, rfl, hi1, he1⟩
  have HI1 := Lib.hid hi1
  have HE1 := Lib.hid (HE0.out.trans he1)
  clear hi1 he1
  obtain ⟨i0, hi, hz0, hz1, hz2⟩ := info_parts info_I
  have hD : Row ((w1.alloc (.cells #[.int .i64 4, .slice (some ⟨g, o, none⟩) 16 cap] 30)).alloc (.cells #[.int .i64 41, .slice (some ⟨g, o, none⟩) 16 cap] 30)) (w1.heap.size + 1) 0 [.int .i64 41, .slice (some ⟨g, o, none⟩) 16 cap] := by
    have := row_new (w1.alloc (.cells #[.int .i64 4, .slice (some ⟨g, o, none⟩) 16 cap] 30)) #[.int .i64 41, .slice (some ⟨g, o, none⟩) 16 cap] 30
    rwa [World.size_alloc] at this
  have hX : Ext w1 ((w1.alloc (.cells #[.int .i64 4, .slice (some ⟨g, o, none⟩) 16 cap] 30)).alloc (.cells #[.int .i64 41, .slice (some ⟨g, o, none⟩) 16 cap] 30)) := ((Ext.refl w1).alloc _).alloc _
  have hxs : ((w1.alloc (.cells #[.int .i64 4, .slice (some ⟨g, o, none⟩) 16 cap] 30)).alloc (.cells #[.int .i64 41, .slice (some ⟨g, o, none⟩) 16 cap] 30)).heap.size = w1.heap.size + 1 + 1 := by simp
  have HX := Lib.hid hX
  have HD := Lib.hid hD
  have HXS := Lib.hid hxs
  clear hX hD hxs
  go_wp2_with (first
    | (refine wpList_bytes rfl _ rfl zs rfl ?_; intro cb wb hcb hrb heb hsb; have HB2 := Lib.hid (And.intro hcb (And.intro hrb (And.intro heb hsb))); clear hcb hrb heb hsb)
    | (at_builtin; refine wpList_append_where rfl _ _ 26 rfl wb.heap.size 30 i0 _ 2 32 Tryz.underlying26 hi hz0 hz1 hz2 rfl (by decide) (.slice (some ⟨wb.heap.size, 0, none⟩) 1 1) 1 _ rfl (World.ownsRow_lit wb #[.int .i64 42, .slice (some ⟨w1.heap.size + 1 + 1, 0, none⟩) zs.size cb] 1 (Nat.le_refl _) (by decide) rfl) ⟨w1.heap.size + 1, 0, none⟩ 1 1 [.int .i64 41, .slice (some ⟨g, o, none⟩) 16 cap] rfl rfl (by decide) ?c5 ?c6 ?c7 ?c8 ?c9 ?_; (case c5 => intro j u hj; rw [addr_add]; exact ((Ext.refl wb).alloc _).row (HB2.out.2.2.1.row HD.out) j u hj); (case c6 => simp [Value.oneCell']); (case c7 => decide); (case c8 => decide); (case c9 => simp); intro u' w5 hown5 hgr5 hwh5))
  clear hwh5 hi hz0 hz1 hz2
  have hE5b : Ext wb w5 := below_grown ((Ext.refl wb).alloc _) (by simp) hgr5 (fun k hk => by simp [Value.ownBlock] at hk; omega)
  have hrb : Row wb (w1.heap.size + 1 + 1) 0 (zs.data.toList.map B) := by simpa using HB2.out.2.1
  have hX5 : Ext w1 w5 := (HX.out.trans HB2.out.2.2.1).trans hE5b
  have hbz : By w5 z (.slice (some ⟨w1.heap.size + 1 + 1, 0, none⟩) zs.size cb) := by
    have h1 := HZ.out
    rw [h1.1] at hrb
    rw [h1.2.1]
    exact By.of_row (hE5b.row hrb) (by have := HB2.out.1; omega)
  have hI2 := icAt_pair hown5 hbz (Ext.by (HE1.out.trans hX5) HR.out)
  have HI2 := Lib.hid hI2
  have HX5 := Lib.hid hX5
  clear hgr5 hown5 hE5b hrb hX5 hbz hI2
  refine (HT.out u1 w5 (HX5.out.icAt HI1.out)).mono ?_
  rintro e w3 ⟨g3, cap3, rfl, hc3, hr3, he3⟩
  have HR3 := Lib.hid (HB.out w3 g3 cap3 hr3 hc3)
  have HIa := Lib.hid ((HX5.out.trans he3).icAt HI1.out)
  have HIb := Lib.hid (he3.icAt HI2.out)
  have HE3 := Lib.hid (HE1.out.trans (HX5.out.trans he3))
  clear hr3 he3
  go_wp2_with (fail)
  refine (netAlive_ok w3).mono ?_
  rintro e w4 ⟨rfl, he4⟩
  have HE4 := Lib.hid he4
  clear he4
  go_wp2_with (fail)
  refine (maAlike_ok [(42, z), (41, l)] (by show 2 ≤ 100; decide) u1 _ w4 (HE4.out.icAt HIa.out) (HE4.out.icAt HIb.out)).mono ?_
  rintro e w6 ⟨rfl, he6⟩
  have hk1 : (convert 22 9 (.slice (some ⟨g3, 0, none⟩) 16 cap3)).run Tryz.prog w6 = .ok (.string ⟨l.toArray⟩) w6 := conv_str ((HE4.out.trans he6).by HR3.out)
  have hk2 : (convert 22 9 (.slice (some ⟨g, o, none⟩) 16 cap)).run Tryz.prog w6 = .ok (.string ⟨l.toArray⟩) w6 := conv_str ((HE3.out.trans (HE4.out.trans he6)).by HR.out)
  generalize (⟨l.toArray⟩ : ByteArray) = sb at hk1 hk2
  have HE5 := Lib.hid (HE3.out.trans (HE4.out.trans he6))
  clear he6
  go_wp2_with (fail)
  go_ret
  exact ⟨rfl, HE5.out⟩
end Go.Proofs.YtdlmmaolacjnaaaGreatDoor
namespace Go.Proofs.YtdlmmaolacjnaaaGreatDoor
set_option linter.unusedVariables false
set_option linter.unusedSimpArgs false
open Go.RowKit Go.Sort

theorem zoneBig_ok (a : Option Addr) (n c : Nat) (s : ByteArray) (w : World) (h : 2147483647 < n ∨ 2147483647 < s.size) :
    Calls Tryz.prog 3 #[.slice a n c, .string s] w fun e w' => e = .returned (.bool true) ∧ Ext w w' := by
  by_cases hn : 2147483647 < n
  · have h1 : (n : Int) > 2147483647 := by omega
    go_enter Tryz.func3, Tryz.ntmps3
    go_wp2_with (fail)
    go_ret
    exact ⟨rfl, Ext.refl _⟩
  · have h1 : ¬ (n : Int) > 2147483647 := by omega
    have h2 : (s.size : Int) > 2147483647 := by omega
    go_enter Tryz.func3, Tryz.ntmps3
    go_wp2_with (fail)
    go_ret
    exact ⟨rfl, Ext.refl _⟩
set_option maxHeartbeats 400000 in
theorem zoneLen_ok (a : Option Addr) (n c : Nat) (s : ByteArray) (w : World) (h1 : n ≤ 2147483647) (h2 : s.size ≤ 2147483647) (h4 : n ≠ 4) (h16 : n ≠ 16) :
    Calls Tryz.prog 3 #[.slice a n c, .string s] w fun e w' => e = .returned (.bool true) ∧ Ext w w' := by
  have k1 : ¬ (n : Int) > 2147483647 := by omega
  have k2 : ¬ (s.size : Int) > 2147483647 := by omega
  have k3 : ((n : Int) == 4) = false := szB (k := 4) h4
  have k4 : ((n : Int) == 16) = false := szB (k := 16) h16
  have k5 : ((n : Int) != 4) = true := by simp only [bne, k3]; rfl
  have k6 : ((n : Int) != 16) = true := by simp only [bne, k4]; rfl
  go_enter Tryz.func3, Tryz.ntmps3
  go_wp2_with (go_at_call 6; refine (netAlive_ok _).mono ?_; rintro e w1 ⟨rfl, he1⟩)
  go_ret
  exact ⟨rfl, he1⟩
set_option maxHeartbeats 400000 in
theorem zoneMapped_ok (l : List UInt8) (h16 : l.length = 16) (hm : l.take 12 = pre12) (g o cap : Nat) (s : ByteArray) (w : World) (h2 : s.size ≤ 2147483647) (hr : Row w g o (l.map B)) :
    Calls Tryz.prog 3 #[.slice (some ⟨g, o, none⟩) 16 cap, .string s] w fun e w' => e = .returned (.bool true) ∧ Ext w w' := by
  have k2 : ¬ (s.size : Int) > 2147483647 := by omega
  have HM := Lib.hid (netMapped_sixteen l h16 cap g o w hr)
  have hd : decide (l.take 12 = pre12) = true := by simp [hm]
  rw [hd] at HM
  clear hr hd hm h16
  go_enter Tryz.func3, Tryz.ntmps3
  go_wp2_with (first
    | (go_at_call 4; refine HM.out.mono ?_; rintro e w0 ⟨rfl, he0⟩)
    | (go_at_call 6; refine (netAlive_ok _).mono ?_; rintro e w1 ⟨rfl, he1⟩))
  go_ret
  exact ⟨rfl, he0.trans he1⟩
set_option maxHeartbeats 400000 in
theorem zoneOdd4_ok (a : Option Addr) (cap : Nat) (s : ByteArray) (w : World) (h2 : s.size ≤ 2147483647) (hne : s.toList.isEmpty = false) (hp : plainB s.data.toList = false) :
    Calls Tryz.prog 3 #[.slice a 4 cap, .string s] w fun e w' => e = .returned (.bool true) ∧ Ext w w' := by
  have k2 : ¬ (s.size : Int) > 2147483647 := by omega
  have HP := Lib.hid (fun w => maPlain_ok s (by omega) w)
  rw [hp] at HP
  go_enter Tryz.func3, Tryz.ntmps3
  go_wp2_with (first
    | (go_at_call 4; refine (netMapped_other _ 4 _ (by decide) _).mono ?_; rintro e w' ⟨rfl, rfl⟩)
    | (go_at_call 5; refine (HP.out _).mono ?_; rintro e w' ⟨rfl, rfl⟩)
    | (go_at_call 6; refine (netAlive_ok _).mono ?_; rintro e w1 ⟨rfl, he1⟩))
  go_ret
  exact ⟨rfl, he1⟩
set_option maxHeartbeats 400000 in
theorem zoneOdd6_ok (l : List UInt8) (h16 : l.length = 16) (hm : l.take 12 ≠ pre12) (g o cap : Nat) (s : ByteArray) (w : World) (h2 : s.size ≤ 2147483647) (hr : Row w g o (l.map B)) (hne : s.toList.isEmpty = false) (hp : plainB s.data.toList = false) :
    Calls Tryz.prog 3 #[.slice (some ⟨g, o, none⟩) 16 cap, .string s] w fun e w' => e = .returned (.bool true) ∧ Ext w w' := by
  have k2 : ¬ (s.size : Int) > 2147483647 := by omega
  have HM := Lib.hid (netMapped_sixteen l h16 cap g o w hr)
  have hd : decide (l.take 12 = pre12) = false := by simp [hm]
  rw [hd] at HM
  have HP := Lib.hid (fun w => maPlain_ok s (by omega) w)
  rw [hp] at HP
  clear hr hd hm h16
  go_enter Tryz.func3, Tryz.ntmps3
  go_wp2_with (first
    | (go_at_call 4; refine HM.out.mono ?_; rintro e w0 ⟨rfl, he0⟩)
    | (go_at_call 5; refine (HP.out _).mono ?_; rintro e w' ⟨rfl, rfl⟩)
    | (go_at_call 6; refine (netAlive_ok _).mono ?_; rintro e w1 ⟨rfl, he1⟩))
  go_ret
  exact ⟨rfl, he0.trans he1⟩

theorem list_four {α : Type} (l : List α) (h : l.length = 4) : ∃ a b c d, l = [a, b, c, d] := by
  match l, h with
  | [a, b, c, d], _ => exact ⟨a, b, c, d, rfl⟩
theorem empty_of {s : ByteArray} (h : s.toList.isEmpty = true) : s = ⟨#[]⟩ := by
  rw [ByteArray.toList_eq] at h
  obtain ⟨⟨d⟩⟩ := s
  cases d with
  | nil => rfl
  | cons a r => cases h

theorem zone_ok (l : List UInt8) (v : Value) (s : ByteArray) (w : World) (hv : By w l v) (ht : Tab w) :
    Calls Tryz.prog 3 #[v, .string s] w fun e w' => e = .returned (.bool true) ∧ Ext w w' := by
  obtain ⟨a, c, rfl, hc, hrow⟩ := hv
  by_cases hbig : 2147483647 < l.length ∨ 2147483647 < s.size
  · exact zoneBig_ok a l.length c s w hbig
  have hs : s.size ≤ 2147483647 := by omega
  by_cases h4 : l.length = 4
  · rw [h4]
    cases he : s.toList.isEmpty with
    | true =>
      have hz := empty_of he
      obtain ⟨x0, x1, x2, x3, rfl⟩ := list_four l h4
      obtain ⟨g, o, rfl, hr⟩ := hrow (by simp)
      exact zone4_ok x0 x1 x2 x3 g o c s hc hs (.inl hz) w hr ht
    | false =>
      cases hp : plainB s.data.toList with
      | true =>
        obtain ⟨x0, x1, x2, x3, rfl⟩ := list_four l h4
        obtain ⟨g, o, rfl, hr⟩ := hrow (by simp)
        exact zone4_ok x0 x1 x2 x3 g o c s hc hs (.inr ⟨he, hp⟩) w hr ht
      | false => exact zoneOdd4_ok a c s w hs he hp
  by_cases h16 : l.length = 16
  · obtain ⟨g, o, rfl, hr⟩ := hrow (ne_sixteen l h16)
    rw [h16] at hc ⊢
    by_cases hm : l.take 12 = pre12
    · exact zoneMapped_ok l h16 hm g o c s w hs hr
    cases he : s.toList.isEmpty with
    | true =>
      have hz := empty_of he
      subst hz
      exact zone6_ok l h16 hm g o c hc w hr ht
    | false =>
      cases hp : plainB s.data.toList with
      | true => exact zonez_ok l h16 hm s.data.toList hp g o c hc w hr ht
      | false => exact zoneOdd6_ok l h16 hm g o c s w hs hr he hp
  · exact zoneLen_ok a l.length c s w (by omega) hs h4 h16
end Go.Proofs.YtdlmmaolacjnaaaGreatDoor
