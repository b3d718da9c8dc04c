/-
  stringToBytes of the text of maAwake (written by gen_st.py).
-/
import Derived.Test.YtchlkclpikdbjaaGreatDoorPort
import Derived.Test.YtchlkclpikdbjaaGreatDoorComp
import Derived.Deep.RegionHeld3
namespace Go.Proofs.YtchlkclpikdbjaaGreatDoor
set_option linter.unusedVariables false
set_option linter.unusedSimpArgs false
open Go.RowKit Go.Sort

theorem keep3 {w0 w w' : World} {p0 p1 p2 : Addr} {v0 v1 v2 : Value} (he : Ext w w') (h : w.cell? p0 = some v0 ∧ w.cell? p1 = some v1 ∧ w.cell? p2 = some v2 ∧ Ext w0 w) :
    w'.cell? p0 = some v0 ∧ w'.cell? p1 = some v1 ∧ w'.cell? p2 = some v2 ∧ Ext w0 w' :=
  ⟨he.cell h.1, he.cell h.2.1, he.cell h.2.2.1, h.2.2.2.trans he⟩
/-- the pieces of the text -/
def pcs : List (List UInt8) := [[], [105, 112, 52], [49, 46, 50, 46, 51, 46, 52], [116, 99, 112], [53]]
theorem pcs_text : joinS pcs = [47, 105, 112, 52, 47, 49, 46, 50, 46, 51, 46, 52, 47, 116, 99, 112, 47, 53] := by decide
theorem uvIP4 : Lib.uvarint pIP4.code = [4] := Lib.uvarint_small (by decide)
theorem uvTCP : Lib.uvarint pTCP.code = [6] := Lib.uvarint_small (by decide)
def D0 : List UInt8 := []
def D1 : List UInt8 := [4, 1, 2, 3, 4]
def D2 : List UInt8 := [4, 1, 2, 3, 4, 6, 0, 5]
/-- what holds behind k components -/
def StI (w : World) (b0 g : Nat) (cur : Array Value) (D : List UInt8) (wx : World) : Prop :=
  Ext w wx ∧ BufAt b0 b0 D wx ∧ wx.heap[g]? = some (.cells cur 9 (0, 0))

set_option maxHeartbeats 2000000 in
set_option maxRecDepth 100000 in
theorem st_ok (T : ByteArray) (hT : T = ⟨(joinS pcs).toArray⟩) (w : World) :
    Calls Tryz.prog 29 #[.string T] w fun e w' => ∃ v, e = .returned (.tuple #[v, .nilIface]) ∧ By w' D2 v ∧ Ext w w' := by
  have hTl : T.data.toList = joinS pcs := by rw [hT]
  have hTs : T.size = 18 := by rw [hT]; decide
  have hlast : ∀ h : T.size - 1 < T.size, T[T.size - 1]'h ≠ 47 := by
    intro h he
    have hlt : T.size - 1 < (joinS pcs).length := by rw [hTs]; decide
    rw [str_get hTl h hlt] at he
    have h2 : (joinS pcs)[T.size - 1]? = some 47 := by rw [List.getElem?_eq_getElem hlt, he]
    rw [hTs] at h2
    exact absurd h2 (by decide)
  have HT := Lib.hid (fun w => zzTrim_ok T (by omega) (by omega) (hlast (by omega)) w)
  have HS := Lib.hid (fun w => zzSplit_ok pcs (by decide) (by decide) (by decide) (by decide) w)
  rw [← hT] at HS
  clear hT hTl hTs hlast
  go_enter Tryz.func29, Tryz.ntmps29
  go_wp2_with (first
    | (go_at_call 69; refine (HT.out _).mono ?_; rintro e w1 ⟨rfl, he1⟩; have HE1 := Lib.hid he1; clear he1)
    | fail)
  have hB2 : BufAt w1.heap.size w1.heap.size D0 (w1.alloc (.cells #[.slice none 0 0, .int .i64 0, .int .i8 0] 77)) := Lib.fresh_isBuffer 77 5 w1
  have hE2 : Ext w (w1.alloc (.cells #[.slice none 0 0, .int .i64 0, .int .i8 0] 77)) := HE1.out.alloc _
  have hs2 : (w1.alloc (.cells #[.slice none 0 0, .int .i64 0, .int .i8 0] 77)).heap.size = w1.heap.size + 1 := by simp
  have hbw : w.heap.size ≤ w1.heap.size := HE1.out.size
  generalize (w1.alloc (.cells #[.slice none 0 0, .int .i64 0, .int .i8 0] 77)) = w2 at *
  refine (HS.out w2).mono ?_
  rintro e w3 ⟨v, rfl, hown, he3⟩
  obtain ⟨hl, ⟨-, h0⟩ | ⟨g, cap, cur, rfl, hgb, hblk, hn, hm, hsz, htk⟩⟩ := hown
  · exact absurd h0 (by decide)
  have hcur : ∀ i, i < 5 → cur[i]? = (pcs.map S)[i]? := by
    intro i hi
    rw [← htk, List.getElem?_take_of_lt (by simpa [pcs] using hi)]
    simp
  obtain ⟨b0, hb0⟩ : ∃ b0, b0 = w1.heap.size := ⟨_, rfl⟩
  rw [← hb0] at hB2 hs2 hbw ⊢
  have HC1 := Lib.hid (show cur[1]? = some (.string pIP4.name) from (hcur 1 (by decide)).trans rfl)
  have HC2 := Lib.hid (show cur[2]? = some (.string ⟨([49, 46, 50, 46, 51, 46, 52] : List UInt8).toArray⟩) from (hcur 2 (by decide)).trans rfl)
  have HC3 := Lib.hid (show cur[3]? = some (.string pTCP.name) from (hcur 3 (by decide)).trans rfl)
  have HC4 := Lib.hid (show cur[4]? = some (.string ⟨([53] : List UInt8).toArray⟩) from (hcur 4 (by decide)).trans rfl)
  have hc0 : w3.cell? ⟨g, 0, none⟩ = some (.string ⟨#[]⟩) := (cell_of_row w3 g 0 _ _ _ hblk).trans ((hcur 0 (by decide)).trans rfl)
  have hst0 : StI w b0 g cur D0 w3 := ⟨hE2.trans he3, hB2.ext he3, hblk⟩
  have HGB := Lib.hid (show b0 < g by omega)
  have HBW := Lib.hid hbw
  have HST0 := Lib.hid hst0
  have hcap5 : 5 ≤ cap := hn
  rw [show pcs.length = 5 from rfl]
  have hcp1 : 1 < cap := by omega
  have hcp2 : 2 < cap := by omega
  have hcp3 : 3 < cap := by omega
  have hcp4 : 4 < cap := by omega
  clear hl hgb hblk hn hm hsz htk hcur hb0 hB2 hE2 hs2 hbw he3 hst0
  go_wp2_with (fail)
  go_loopg [5] 3 (fun gk s5 wx => (gk = 3 ∧ s5 = .slice (some ⟨g, 1, none⟩) 4 (cap - 1) ∧ Hid (StI w b0 g cur D0 wx)) ∨ (gk = 2 ∧ (∃ c2, 2 ≤ c2 ∧ s5 = .slice (some ⟨g, 3, none⟩) 2 c2) ∧ Hid (StI w b0 g cur D1 wx)) ∨ (gk = 1 ∧ (∃ p c, s5 = .slice p 0 c) ∧ Hid (StI w b0 g cur D2 wx)))
  case atStart => exact .inl ⟨rfl, rfl, HST0⟩
  case round =>
    rcases hrel with ⟨hgk, rfl, hst⟩ | ⟨hgk, ⟨c2, hc2, rfl⟩, hst⟩ | ⟨hgk, ⟨p, c, rfl⟩, hst⟩
    · -- the component ip4
      obtain ⟨hE, hBf, hrow⟩ := hst.out
      have n1 : wr.cell? ⟨g, 1, none⟩ = some (.string pIP4.name) := (cell_of_row wr g 1 _ _ _ hrow).trans HC1.out
      have HN1 := Lib.hid hE
      have HBF := Lib.hid hBf
      have HROW := Lib.hid hrow
      clear hE hBf hrow hst
      go_wp2_with (first
        | (go_at_call 71; refine (withName_ok pIP4 named_4 rfl _).mono ?_; rintro e w4 ⟨rfl, hbs, he4⟩; have HBS := Lib.hid hbs.by; have HE4 := Lib.hid he4; clear hbs he4)
        | (refine wpList_new (w := w4) rfl _ _ (allocP _ _ _ rfl) ?_; intro w5 hn5)
        | (refine wpList_put (w := w5) rfl 46 _ _ rfl w4.heap.size (pIP4.cells _) rfl rfl 46 _ hn5.blk ?c1 ?c2 ?c3 ?_; (case c1 => kernel_rfl); (case c2 => rfl); (case c3 => exact Pr.one _ rfl _ _); intro w6 hp6; have k1 : w6.cell? ⟨w4.heap.size, 1, none⟩ = some (.int .i64 pIP4.code) := hp6.cells 1; have k2 : w6.cell? ⟨w4.heap.size, 2, none⟩ = some (vc (wr.heap.size + 3) pIP4.code) := hp6.cells 2; have HE6 := Lib.hid (show Ext wr w6 from hp6.below HE4.out.size (HE4.out.trans hn5.ext)); have HBS6 := Lib.hid ((show Ext w4 w6 from hp6.below (Nat.le_refl _) hn5.ext).by HBS.out); have HP6 := Lib.hid hp6.blk)
        | (go_at_call 72; refine (write_ok b0 b0 D0 [4] (by decide) (by decide) (by decide) _ w6 (HBF.out.ext HE6.out) (by have h := HBS6.out; rw [uvIP4] at h; exact h)).mono ?_; rintro e w7 ⟨nn, rfl, hb7, hl7, ho7⟩; have HB7 := Lib.hid hb7; have HL7 := Lib.hid hl7; have hp7 : w7.heap[w4.heap.size]? = some (.cells (pIP4.cells (vc (wr.heap.size + 3) pIP4.code)) 46 (0, 0)) := ho7 _ _ HP6.out (by have h1 := HBF.out.lt; have h2 := HE4.out.size; intro h3; injection h3 with h3; omega) (by intro c fz h; injection h with _ h _; exact absurd h (by decide)); have m3 : w7.cell? ⟨w4.heap.size, 3, none⟩ = some (.int .i64 pIP4.size) := cell_of_row w7 _ 3 _ _ _ hp7; have m4 : w7.cell? ⟨w4.heap.size, 4, none⟩ = some (.bool pIP4.path) := cell_of_row w7 _ 4 _ _ _ hp7; have m5 : w7.cell? ⟨w4.heap.size, 5, none⟩ = some (tcV (fnV 105) (fnV 106) .nilFunc) := cell_of_row w7 _ 5 _ _ _ hp7; have HP7 := Lib.hid hp7; have hr7 : w7.heap[g]? = some (.cells cur 9 (0, 0)) := ho7 _ _ (HE6.out.block HROW.out) (by have := HGB.out; intro h3; injection h3 with h3; omega) (by intro c fz h; injection h with _ h _; exact absurd h (by decide)); have n2 : w7.cell? ⟨g, 2, none⟩ = some (.string ⟨([49, 46, 50, 46, 51, 46, 52] : List UInt8).toArray⟩) := (cell_of_row w7 g 2 _ _ _ hr7).trans HC2.out; have HR7 := Lib.hid hr7; clear hb7 hl7 ho7 hp7 hr7)
        | fail)
      have HST := Lib.hid (fun w => twrp_s2b 105 enters_ip4StB (fnV 106) .nilFunc ⟨([49, 46, 50, 46, 51, 46, 52] : List UInt8).toArray⟩ [1, 2, 3, 4] s2b_t4 w trivial)
      have kS := And.intro m3 (And.intro m5 (And.intro n2 (Ext.refl w7)))
      clear m3 m4 m5 n2 k1 k2 n1
      go_region_held3 (fun w' => w'.cell? ⟨w4.heap.size, 3, none⟩ = some (.int .i64 pIP4.size) ∧ w'.cell? ⟨w4.heap.size, 5, none⟩ = some (tcV (fnV 105) (fnV 106) .nilFunc) ∧ w'.cell? ⟨g, 2, none⟩ = some (.string ⟨([49, 46, 50, 46, 51, 46, 52] : List UInt8).toArray⟩) ∧ Ext w7 w')
        (first | exact keep3 he9 (by with_reducible assumption) | exact keep3 (Ext.drew (Ext.refl _)) kS)
        (first | (go_simp; go_at_call 351; refine (HST.out _).mono ?_; rintro e w9 ⟨va, rfl, hbv, he9⟩))
      have hS9 : w9.cell? ⟨w4.heap.size, 3, none⟩ = some (.int .i64 pIP4.size) ∧ w9.cell? ⟨w4.heap.size, 5, none⟩ = some (tcV (fnV 105) (fnV 106) .nilFunc) ∧ w9.cell? ⟨g, 2, none⟩ = some (.string ⟨([49, 46, 50, 46, 51, 46, 52] : List UInt8).toArray⟩) ∧ Ext w7 w9 := by with_reducible assumption
      obtain ⟨q3, q5, -, hE9⟩ := hS9
      have HB9 := Lib.hid hbv
      have HE9 := Lib.hid hE9
      clear hbv hE9 he9 kS
      have HVN := Lib.hid (fun w v => twrp_valnil (fnV 105) (fnV 106) w v)
      go_wp2_with (first
        | (go_at_call 352; refine (HVN.out w9 va).mono ?_; rintro e w10 ⟨rfl, he10⟩; have HB10 := Lib.hid (he10.by HB9.out); have HE10 := Lib.hid (HE9.out.trans he10); have r3 := he10.cell q3; clear he10)
        | (go_at_call 72; refine (write_ok b0 b0 (D0 ++ [4]) [1, 2, 3, 4] (by decide) (by decide) (by decide) va w10 (HB7.out.ext HE10.out) HB10.out).mono ?_; rintro e w11 ⟨nn2, rfl, hb11, hl11, ho11⟩; have hr11 : w11.heap[g]? = some (.cells cur 9 (0, 0)) := ho11 _ _ (HE10.out.block HR7.out) (by have := HGB.out; intro h3; injection h3 with h3; omega) (by intro c fz h; injection h with _ h _; exact absurd h (by decide)); have HST11 := Lib.hid (show StI w b0 g cur D1 w11 from ⟨Below.trans (Below.trans (Below.trans (HN1.out.trans HE6.out) (Below.mono HL7.out HBW.out)) (Below.mono HE10.out (by have := HN1.out.size; have := HE6.out.size; have := HL7.out.size; omega))) (Below.mono hl11 HBW.out), hb11, hr11⟩); clear hb11 hl11 ho11 hr11)
        | fail)
      all_goals
        go_roundg 2
        case measure => omega
        case rel => exact .inr (.inl ⟨rfl, ⟨_, by omega, rfl⟩, HST11⟩)
    · -- the component tcp
      obtain ⟨hE, hBf, hrow⟩ := hst.out
      have n1 : wr.cell? ⟨g, 3, none⟩ = some (.string pTCP.name) := (cell_of_row wr g 3 _ _ _ hrow).trans HC3.out
      have HN1 := Lib.hid hE
      have HBF := Lib.hid hBf
      have HROW := Lib.hid hrow
      clear hE hBf hrow hst
      go_wp2_with (first
        | (go_at_call 71; refine (withName_ok pTCP named_6 rfl _).mono ?_; rintro e w4 ⟨rfl, hbs, he4⟩; have HBS := Lib.hid hbs.by; have HE4 := Lib.hid he4; clear hbs he4)
        | (refine wpList_new (w := w4) rfl _ _ (allocP _ _ _ rfl) ?_; intro w5 hn5)
        | (refine wpList_put (w := w5) rfl 46 _ _ rfl w4.heap.size (pTCP.cells _) rfl rfl 46 _ hn5.blk ?c1 ?c2 ?c3 ?_; (case c1 => kernel_rfl); (case c2 => rfl); (case c3 => exact Pr.one _ rfl _ _); intro w6 hp6; have k1 : w6.cell? ⟨w4.heap.size, 1, none⟩ = some (.int .i64 pTCP.code) := hp6.cells 1; have k2 : w6.cell? ⟨w4.heap.size, 2, none⟩ = some (vc (wr.heap.size + 3) pTCP.code) := hp6.cells 2; have HE6 := Lib.hid (show Ext wr w6 from hp6.below HE4.out.size (HE4.out.trans hn5.ext)); have HBS6 := Lib.hid ((show Ext w4 w6 from hp6.below (Nat.le_refl _) hn5.ext).by HBS.out); have HP6 := Lib.hid hp6.blk)
        | (go_at_call 72; refine (write_ok b0 b0 D1 [6] (by decide) (by decide) (by decide) _ w6 (HBF.out.ext HE6.out) (by have h := HBS6.out; rw [uvTCP] at h; exact h)).mono ?_; rintro e w7 ⟨nn, rfl, hb7, hl7, ho7⟩; have HB7 := Lib.hid hb7; have HL7 := Lib.hid hl7; have hp7 : w7.heap[w4.heap.size]? = some (.cells (pTCP.cells (vc (wr.heap.size + 3) pTCP.code)) 46 (0, 0)) := ho7 _ _ HP6.out (by have h1 := HBF.out.lt; have h2 := HE4.out.size; intro h3; injection h3 with h3; omega) (by intro c fz h; injection h with _ h _; exact absurd h (by decide)); have m3 : w7.cell? ⟨w4.heap.size, 3, none⟩ = some (.int .i64 pTCP.size) := cell_of_row w7 _ 3 _ _ _ hp7; have m4 : w7.cell? ⟨w4.heap.size, 4, none⟩ = some (.bool pTCP.path) := cell_of_row w7 _ 4 _ _ _ hp7; have m5 : w7.cell? ⟨w4.heap.size, 5, none⟩ = some (tcV (fnV 107) (fnV 108) .nilFunc) := cell_of_row w7 _ 5 _ _ _ hp7; have HP7 := Lib.hid hp7; have hr7 : w7.heap[g]? = some (.cells cur 9 (0, 0)) := ho7 _ _ (HE6.out.block HROW.out) (by have := HGB.out; intro h3; injection h3 with h3; omega) (by intro c fz h; injection h with _ h _; exact absurd h (by decide)); have n2 : w7.cell? ⟨g, 4, none⟩ = some (.string ⟨([53] : List UInt8).toArray⟩) := (cell_of_row w7 g 4 _ _ _ hr7).trans HC4.out; have HR7 := Lib.hid hr7; clear hb7 hl7 ho7 hp7 hr7)
        | fail)
      have HST := Lib.hid (fun w => twrp_s2b 107 enters_portStB (fnV 108) .nilFunc ⟨([53] : List UInt8).toArray⟩ [0, 5] s2b_t6 w trivial)
      have kS := And.intro m3 (And.intro m5 (And.intro n2 (Ext.refl w7)))
      clear m3 m4 m5 n2 k1 k2 n1
      go_region_held3 (fun w' => w'.cell? ⟨w4.heap.size, 3, none⟩ = some (.int .i64 pTCP.size) ∧ w'.cell? ⟨w4.heap.size, 5, none⟩ = some (tcV (fnV 107) (fnV 108) .nilFunc) ∧ w'.cell? ⟨g, 4, none⟩ = some (.string ⟨([53] : List UInt8).toArray⟩) ∧ Ext w7 w')
        (first | exact keep3 he9 (by with_reducible assumption) | exact keep3 (Ext.drew (Ext.refl _)) kS)
        (first | (go_simp; go_at_call 351; refine (HST.out _).mono ?_; rintro e w9 ⟨va, rfl, hbv, he9⟩))
      have hS9 : w9.cell? ⟨w4.heap.size, 3, none⟩ = some (.int .i64 pTCP.size) ∧ w9.cell? ⟨w4.heap.size, 5, none⟩ = some (tcV (fnV 107) (fnV 108) .nilFunc) ∧ w9.cell? ⟨g, 4, none⟩ = some (.string ⟨([53] : List UInt8).toArray⟩) ∧ Ext w7 w9 := by with_reducible assumption
      obtain ⟨q3, q5, -, hE9⟩ := hS9
      have HB9 := Lib.hid hbv
      have HE9 := Lib.hid hE9
      clear hbv hE9 he9 kS
      have HVN := Lib.hid (fun w v => twrp_valnil (fnV 107) (fnV 108) w v)
      go_wp2_with (first
        | (go_at_call 352; refine (HVN.out w9 va).mono ?_; rintro e w10 ⟨rfl, he10⟩; have HB10 := Lib.hid (he10.by HB9.out); have HE10 := Lib.hid (HE9.out.trans he10); have r3 := he10.cell q3; clear he10)
        | (go_at_call 72; refine (write_ok b0 b0 (D1 ++ [6]) [0, 5] (by decide) (by decide) (by decide) va w10 (HB7.out.ext HE10.out) HB10.out).mono ?_; rintro e w11 ⟨nn2, rfl, hb11, hl11, ho11⟩; have hr11 : w11.heap[g]? = some (.cells cur 9 (0, 0)) := ho11 _ _ (HE10.out.block HR7.out) (by have := HGB.out; intro h3; injection h3 with h3; omega) (by intro c fz h; injection h with _ h _; exact absurd h (by decide)); have HST11 := Lib.hid (show StI w b0 g cur D2 w11 from ⟨Below.trans (Below.trans (Below.trans (HN1.out.trans HE6.out) (Below.mono HL7.out HBW.out)) (Below.mono HE10.out (by have := HN1.out.size; have := HE6.out.size; have := HL7.out.size; omega))) (Below.mono hl11 HBW.out), hb11, hr11⟩); clear hb11 hl11 ho11 hr11)
        | fail)
      all_goals
        go_roundg 1
        case measure => omega
        case rel => exact .inr (.inr ⟨rfl, ⟨_, _, rfl⟩, HST11⟩)
    · obtain ⟨hE, hBf, hrow⟩ := hst.out
      have HN1 := Lib.hid hE
      have HBF := Lib.hid hBf
      clear hE hBf hrow hst
      go_wp2_with (go_at_call 75; refine (bytes_ok b0 b0 D2 wr HBF.out).mono ?_; rintro e w9 ⟨v9, rfl, hb9, he9⟩)
      go_ret2
      exact ⟨_, rfl, hb9, HN1.out.trans he9⟩
end Go.Proofs.YtchlkclpikdbjaaGreatDoor
