/-
  The contract of the text of an IP address of sixteen bytes that maps no address of four.
-/
import Derived.Test.YtdlmmaolacjnaaaGreatDoorGroup
namespace Go.Proofs.YtdlmmaolacjnaaaGreatDoor
set_option linter.unusedVariables false
set_option linter.unusedSimpArgs false
open Go.RowKit Go.Sort

theorem ext_drewN (w : World) (k : Nat) : Ext w (w.drewN k) := ⟨rfl, rfl, rfl, Nat.le_refl _, fun _ _ => rfl⟩

set_option maxHeartbeats 4000000 in
set_option maxRecDepth 100000 in
theorem text_sixteen (l : List UInt8) (h16 : l.length = 16) (hne : l.take 12 ≠ pre12) (g o c : Nat) (hc : 16 ≤ c) (w : World) (hl : Row w g o (l.map B)) :
    Calls Tryz.prog 29 #[.slice (some ⟨g, o, none⟩) 16 c] w fun e w' => (∃ p q, IsRun (groups l) p q ∧ e = .returned (.string ⟨(text6 (groups l) p q).toArray⟩)) ∧ Ext w w' := by
  have hG8 : (groups l).length = 8 := groups_length 8 l h16
  have hGlt := groups_lt l
  have hG : ∀ (w2 : World), Ext (w.alloc (.cells #[.slice (some ⟨g, o, none⟩) 16 c] 45 (0, 0))) w2 → ∀ i : Nat, i < 8 → Calls Tryz.prog 66 #[.int .i64 i, .pointer (some ⟨w.heap.size, 0, none⟩)] w2 fun e w' => e = .returned (.int .i64 ((groups l).getD i 0 : Nat)) ∧ Ext w2 w' := by
    intro w2 h2 i hi
    refine (group_ok l h16 i hi w.heap.size g o c w2 ((Ext.trans (Ext.alloc (Ext.refl w) _) h2).row hl) (h2.cell (cell_of_row _ _ 0 _ _ _ (heap_alloc_new w _)))).mono ?_
    rintro e w' ⟨rfl, k, rfl⟩
    exact ⟨rfl, ext_drewN _ _⟩
  have hX : ∀ (w2 : World) (i : Nat), i < 8 → Calls Tryz.prog 64 #[.int .i64 ((groups l).getD i 0 : Nat)] w2 fun e w' => e = .returned (.string ⟨(hexs ((groups l).getD i 0)).toArray⟩) ∧ w2 = w' := by
    intro w2 i hi
    exact zzHex_ok _ (by rw [getD_lt _ _ (by omega)]; exact hGlt _ (List.getElem_mem _)) w2
  have hT := textAt_len (groups l) hGlt hG8
  have hL : ∀ i, i < 8 → (hexs ((groups l).getD i 0)).length ≤ 4 := fun i hi => hexs_len4 (by rw [getD_lt _ _ (by omega)]; exact hGlt _ (List.getElem_mem _))
  have hall := fun p q => textAt_all (groups l) p q hG8
  generalize groups l = G at hG8 hG hX hT hL hall
  have HG := Lib.hid hG
  have HX := Lib.hid hX
  have HT := Lib.hid hT
  have HL := Lib.hid hL
  clear hG hX hT hL hall hGlt
  go_enter Tryz.func29, Tryz.ntmps29
  go_wp2_with (go_at_call 27; refine (to4_plain l h16 hne _ _ _ hc _ ((Ext.alloc (Ext.refl w) _).row hl)).mono ?_; rintro e w1 ⟨rfl, rfl⟩)
  have e0 : Ext w (w.alloc (.cells #[.slice (some ⟨g, o, none⟩) 16 c] 45 (0, 0))) := Ext.alloc (Ext.refl w) _
  generalize w.alloc (.cells #[.slice (some ⟨g, o, none⟩) 16 c] 45 (0, 0)) = W0 at HG e0
  go_loopg [8, 9, 10] 9 (fun gk s8 s9 s10 wx => Ext W0 wx ∧ ∃ i p q : Nat, s8 = .int .i64 p ∧ s9 = .int .i64 q ∧ s10 = .int .i64 i ∧ i ≤ 8 ∧ gk = 9 - i ∧ p ≤ q ∧ q ≤ 255 ∧ Aside (IsRun G p q))
  case atStart => exact ⟨Ext.refl _, 0, 255, 255, rfl, rfl, rfl, by omega, rfl, by omega, by omega, .inl ⟨rfl, rfl⟩⟩
  case round =>
    obtain ⟨he, i, p, q, rfl, rfl, rfl, hi, hg, hpq, hq, HR⟩ := hrel
    by_cases hlt : (i : Int) < 8
    · go_wp2
      go_loopg [11] (9 - i) (fun gk s11 wx => Ext W0 wx ∧ ∃ j : Nat, s11 = .int .i64 j ∧ i ≤ j ∧ j ≤ 8 ∧ gk = 9 - j ∧ Aside (∀ k, i ≤ k → k < j → G.getD k 0 = 0))
      case atStart => exact ⟨he, i, rfl, by omega, by omega, rfl, fun k h1 h2 => by omega⟩
      case round =>
        obtain ⟨he2, j, rfl, hij, hj, hg2, HZ⟩ := hrel
        have HA : Aside (∀ wx p' q', Ext W0 wx → (p' = p ∧ q' = q) ∨ (p' = i ∧ q' = j ∧ i + 2 ≤ j) → p' ≤ q' ∧ q' ≤ 255 ∧ IsRun G p' q') := by
          rintro wx p' q' - (⟨rfl, rfl⟩ | ⟨rfl, rfl, h⟩)
          · exact ⟨hpq, hq, HR⟩
          · exact ⟨by omega, by omega, .inr ⟨h, hj, HZ⟩⟩
        by_cases hj8 : (j : Int) < 8
        · have hc := HG.out _ he2 j (by omega)
          generalize hv : G.getD j 0 = v at hc
          have Hv := Lib.hid hv
          clear hv
          by_cases hz : v = 0
          · have hz' : ((v : Int) == 0) = true := by simp [hz]
            go_wp2_with (go_at_call 66; refine hc.mono ?_; rintro e w2 ⟨rfl, he3⟩; have he4 := he2.trans he3)
            go_roundg (9 - (j + 1))
            case measure => omega
            case rel =>
              refine ⟨he4, j + 1, by go_num, by omega, by omega, rfl, fun k h1 h2 => ?_⟩
              by_cases hk : k < j
              · exact HZ k h1 hk
              · obtain rfl : k = j := by omega
                rw [Hv.out, hz]
          · have hz' : ((v : Int) == 0) = false := by simp [hz]
            go_wp2_with (go_at_call 66; refine hc.mono ?_; rintro e w2 ⟨rfl, he3⟩; have he4 := he2.trans he3)
            all_goals
              go_roundg (9 - (i + 1))
              case measure => omega
              case rel =>
                first
                | (have h1 : (q : Int) - (p : Int) < (j : Int) - (i : Int) := by assumption
                   have h2 : (2 : Int) ≤ (j : Int) - (i : Int) := by assumption
                   have h3 := HA _ i j he4 (.inr ⟨rfl, rfl, by omega⟩)
                   exact ⟨he4, i + 1, i, j, rfl, rfl, by go_num, by omega, rfl, h3.1, h3.2.1, h3.2.2⟩)
                | (have h3 := HA _ p q he4 (.inl ⟨rfl, rfl⟩)
                   exact ⟨he4, i + 1, p, q, rfl, rfl, by go_num, by omega, rfl, h3.1, h3.2.1, h3.2.2⟩)
        · go_wp2
          all_goals
            go_roundg (9 - (i + 1))
            case measure => omega
            case rel =>
              first
              | (have h1 : (q : Int) - (p : Int) < (j : Int) - (i : Int) := by assumption
                 have h2 : (2 : Int) ≤ (j : Int) - (i : Int) := by assumption
                 have h3 := HA _ i j he2 (.inr ⟨rfl, rfl, by omega⟩)
                 exact ⟨he2, i + 1, i, j, rfl, rfl, by go_num, by omega, rfl, h3.1, h3.2.1, h3.2.2⟩)
              | (have h3 := HA _ p q he2 (.inl ⟨rfl, rfl⟩)
                 exact ⟨he2, i + 1, p, q, rfl, rfl, by go_num, by omega, rfl, h3.1, h3.2.1, h3.2.2⟩)
    · go_wp2
      clear hlt hi hg hq
      go_loopg [13, 14] 9 (fun gk s13 s14 wx => Ext W0 wx ∧ ∃ k : Nat, s14 = .int .i64 k ∧ k ≤ 8 ∧ s13 = .string ⟨(textAt G p q k).toArray⟩ ∧ gk = 9 - k ∧ (p = 255 ∨ k ≤ p ∨ q < k))
      case atStart => exact ⟨he, 0, rfl, by omega, by simp [textAt, join], rfl, by omega⟩
      case round =>
        obtain ⟨he2, k, rfl, hk, rfl, hg2, hw⟩ := hrel
        have hsz := HT.out p q k
        generalize ht : textAt G p q k = t at hsz
        have Ht := Lib.hid ht
        clear ht
        by_cases hk8 : (k : Int) < 8
        · by_cases hkp : k = p
          · have hkp' : ((k : Int) == (p : Int)) = true := by simp [hkp]
            have hpq2 : p + 2 ≤ q ∧ q ≤ 8 := by
              rcases HR with ⟨h1, -⟩ | ⟨h1, h2, -⟩ <;> omega
            by_cases hq8 : (8 : Int) ≤ (q : Int)
            · obtain rfl : q = 8 := by omega
              have hfin : (⟨t.toArray⟩ : ByteArray) ++ ⟨#[58, 58]⟩ = ⟨(text6 G p 8).toArray⟩ := by
                rw [show (⟨#[58, 58]⟩ : ByteArray) = ⟨[58, 58].toArray⟩ from rfl, mk_append, ← Ht.out, hkp, textAt_end G p hG8 (by omega)]
              have Hf := Lib.hid hfin
              clear hfin
              go_wp2
              go_ret
              refine ⟨⟨p, 8, HR, ret_str Hf.out⟩, e0.trans he2⟩
            · have hc := HG.out _ he2 q (by omega)
              have hc2 := fun w2 => HX.out w2 q (by omega)
              have hx4 : (hexs (G.getD q 0)).length ≤ 4 := HL.out q (by omega)
              have hfin : (⟨t.toArray⟩ : ByteArray) ++ ⟨#[58, 58]⟩ ++ ⟨(hexs (G.getD q 0)).toArray⟩ = ⟨(textAt G p q (q + 1)).toArray⟩ := by
                rw [show (⟨#[58, 58]⟩ : ByteArray) = ⟨[58, 58].toArray⟩ from rfl, mk_append, mk_append, textAt_run G p q (by omega) (by omega) (by omega), ← Ht.out, hkp]; simp
              generalize G.getD q 0 = v at hc hc2 hx4 hfin
              have Hf := Lib.hid hfin
              have Hc := Lib.hid hc
              have Hc2 := Lib.hid hc2
              clear hfin hc hc2
              go_wp2_with (first | (go_at_call 66; refine Hc.out.mono ?_; rintro e w2 ⟨rfl, he3⟩; have he4 := he2.trans he3) | (go_at_call 64; refine (Hc2.out _).mono ?_; rintro e w3 ⟨rfl, rfl⟩))
              go_roundg (9 - (q + 1))
              case measure => omega
              case rel => exact ⟨he4, q + 1, by go_num, by omega, by rw [← Hf.out], rfl, by omega⟩
          · have hkp' : ((k : Int) == (p : Int)) = false := by simp; omega
            have hc := HG.out _ he2 k (by omega)
            have hc2 := fun w2 => HX.out w2 k (by omega)
            have hx4 : (hexs (G.getD k 0)).length ≤ 4 := HL.out k (by omega)
            have hrun : p = 255 ∨ (p + 2 ≤ q ∧ q ≤ 8) := by
              rcases HR with ⟨h1, -⟩ | ⟨h1, h2, -⟩ <;> omega
            by_cases hk0 : k = 0
            · subst hk0
              have hfin : (⟨t.toArray⟩ : ByteArray) ++ ⟨(hexs (G.getD 0 0)).toArray⟩ = ⟨(textAt G p q 1).toArray⟩ := by
                rw [mk_append, textAt_first G p q (by omega) (by omega), ← Ht.out]
              generalize G.getD 0 0 = v at hc hc2 hx4 hfin
              have Hf := Lib.hid hfin
              have Hc := Lib.hid hc
              have Hc2 := Lib.hid hc2
              clear hfin hc hc2
              go_wp2_with (first | (go_at_call 66; refine Hc.out.mono ?_; rintro e w2 ⟨rfl, he3⟩; have he4 := he2.trans he3) | (go_at_call 64; refine (Hc2.out _).mono ?_; rintro e w3 ⟨rfl, rfl⟩))
              go_roundg 8
              case measure => omega
              case rel => exact ⟨he4, 1, by go_num, by omega, by rw [← Hf.out], rfl, by omega⟩
            · have hk1 : (0 : Int) < (k : Int) := by omega
              have hfin : (⟨t.toArray⟩ : ByteArray) ++ ⟨#[58]⟩ ++ ⟨(hexs (G.getD k 0)).toArray⟩ = ⟨(textAt G p q (k + 1)).toArray⟩ := by
                rw [show (⟨#[58]⟩ : ByteArray) = ⟨[58].toArray⟩ from rfl, mk_append, mk_append]
                by_cases hb : p = 255 ∨ k < p
                · rw [textAt_more G p q k (by omega) (by omega) hb, ← Ht.out]; simp
                · rw [textAt_behind G p q k (by omega) (by omega) (by omega) (by omega), ← Ht.out]; simp
              generalize G.getD k 0 = v at hc hc2 hx4 hfin
              have Hf := Lib.hid hfin
              have Hc := Lib.hid hc
              have Hc2 := Lib.hid hc2
              clear hfin hc hc2
              go_wp2_with (first | (go_at_call 66; refine Hc.out.mono ?_; rintro e w2 ⟨rfl, he3⟩; have he4 := he2.trans he3) | (go_at_call 64; refine (Hc2.out _).mono ?_; rintro e w3 ⟨rfl, rfl⟩))
              go_roundg (9 - (k + 1))
              case measure => omega
              case rel => exact ⟨he4, k + 1, by go_num, by omega, by rw [← Hf.out], rfl, by omega⟩
        · obtain rfl : k = 8 := by omega
          have hfin : t = text6 G p q := by rw [← Ht.out, textAt_all G p q hG8 HR]
          subst hfin
          go_wp2
          go_ret
          exact ⟨⟨p, q, HR, rfl⟩, e0.trans he2⟩
end Go.Proofs.YtdlmmaolacjnaaaGreatDoor
