/-
  multibase's Decode of the reference's texts. Written by gen_mb.py.
-/
import Derived.Test.YtchlkclpikdbjaaGreatDoorB64s
import Derived.Test.YtchlkclpikdbjaaGreatDoorB32dd
import Derived.Test.YtchlkclpikdbjaaGreatDoorB58d
import Derived.Test.YtchlkclpikdbjaaGreatDoorB36
import Derived.Test.YtchlkclpikdbjaaGreatDoorAlph
namespace Go.Proofs.YtchlkclpikdbjaaGreatDoor
set_option linter.unusedVariables false
set_option linter.unusedSimpArgs false
open Go.RowKit Go.Sort

theorem decodeRune_ok (S : ByteArray) (b : Nat) (hb : b < 128) (hS : 0 < S.size) (h0 : S[0].toNat = b) (w : World) : Calls Tryz.prog 216 #[.string S] w fun e w' => e = .returned (.tuple #[.int .i32 (b : Int), .int .i64 1]) ∧ w = w' := by
  have hne : S.toList.isEmpty = false := by
    cases h : S.toList with
    | nil =>
      exfalso
      have h1 : S.data.toList = [] := by rw [← ByteArray.toList_eq]; exact h
      have := Lib.size_eq S
      rw [h1] at this
      exact absurd hS (by rw [this]; decide)
    | cons a r => rfl
  have hbI : (b : Int) < 128 := by omega
  have hc : (S[0].toNat : Int) = (b : Int) := by omega
  clear h0
  go_enter Tryz.func216, Tryz.ntmps216
  go_wp2
  go_ret2
  exact ⟨rfl, rfl⟩
/-- the reference's text of bytes behind the letter of the base -/
def mbBody (b : Nat) (bs : List UInt8) : List UInt8 :=
  if bitsL b = 0 then numText (charsL b) (charsL b).length bs else bitText (charsL b) (bitsL b) bs (charCount (bitsL b) bs.length) ++ List.replicate (padN (padsB b) (bitsL b) (charCount (bitsL b) bs.length)) 61
def mbText (b : Nat) (bs : List UInt8) : List UInt8 := UInt8.ofNat b :: mbBody b bs
/-- what is asked of the base's own decoder -/
def Dec (bs : List UInt8) (w : World) (e : Ending) (w' : World) : Prop := ∃ v, e = .returned (.tuple #[v, .nilIface]) ∧ By w' bs v ∧ Ext w w'
theorem dig32 : ∀ p ∈ [(98, stdL), (66, stdL), (99, stdL), (67, stdL), (118, hexL), (86, hexL), (116, hexL), (84, hexL)], ∀ d : Fin 32, dmap p.2 32 ((charsL p.1).getD d.val 0).toNat = d.val ∧ ((charsL p.1).getD d.val 0).toNat < 128 ∧ (charsL p.1).getD d.val 0 ≠ 61 ∧ ((charsL p.1).getD d.val 0).toNat ≠ 10 ∧ ((charsL p.1).getD d.val 0).toNat ≠ 13 := by decide
theorem dig64 : ∀ p ∈ [(109, std64), (77, std64), (117, url64), (85, url64)], ∀ d : Fin 64, emap p.2 64 ((charsL p.1).getD d.val 0).toNat = d.val ∧ ((charsL p.1).getD d.val 0).toNat < 128 := by decide
theorem body_at (cs : List UInt8) (n : Nat) (bs : List UInt8) (m p i : Nat) (hi : i < m) : (bitText cs n bs m ++ List.replicate p 61).getD i 0 = cs.getD (digk bs (n * i) n) 0 := by
  rw [List.getD_eq_getElem?_getD, List.getElem?_append_left (by rw [bitText_len]; exact hi), ← List.getD_eq_getElem?_getD, bitText_at cs n bs m i hi]
theorem body_tail (cs : List UInt8) (n : Nat) (bs : List UInt8) (m p i : Nat) (hi : m ≤ i) (hl : i < m + p) : (bitText cs n bs m ++ List.replicate p (61 : UInt8)).getD i 0 = 61 := by
  rw [List.getD_eq_getElem?_getD, List.getElem?_append_right (by rw [bitText_len]; exact hi), bitText_len, List.getElem?_replicate, if_pos (by omega)]; rfl
theorem txt32 (b : Nat) (l : List UInt8) (hm : (b, l) ∈ [(98, stdL), (66, stdL), (99, stdL), (67, stdL), (118, hexL), (86, hexL), (116, hexL), (84, hexL)]) (hb5 : bitsL b = 5) (bs : List UInt8) :
    Txt32 l (if padsB b then 61 else -1) bs (mbBody b bs) (charCount 5 bs.length) ∧ ∀ i, i < (mbBody b bs).length → ((mbBody b bs).getD i 0).toNat ≠ 10 ∧ ((mbBody b bs).getD i 0).toNat ≠ 13 := by
  have hbody : mbBody b bs = bitText (charsL b) 5 bs (charCount 5 bs.length) ++ List.replicate (padN (padsB b) 5 (charCount 5 bs.length)) 61 := by
    unfold mbBody; rw [hb5]; rfl
  have hl : (mbBody b bs).length = charCount 5 bs.length + padN (padsB b) 5 (charCount 5 bs.length) := by rw [hbody]; simp [bitText_len]
  have hd := dig32 _ hm
  simp only at hd
  rw [hbody] at hl ⊢
  refine ⟨⟨by unfold charCount; omega, fun i hi => ?_, fun i h1 h2 => body_tail _ _ _ _ _ i h1 (by omega), ?_⟩, fun i hi => ?_⟩
  · rw [body_at _ _ _ _ _ i hi]
    have := hd ⟨d5 bs i, d5_lt bs i⟩
    exact ⟨this.1, this.2.1, this.2.2.1⟩
  · rw [hl]
    cases hp : padsB b
    · left; exact ⟨rfl, by simp [padN]⟩
    · right; exact ⟨rfl, by simp [padN]⟩
  · by_cases h : i < charCount 5 bs.length
    · rw [body_at _ _ _ _ _ i h]
      exact (hd ⟨d5 bs i, d5_lt bs i⟩).2.2.2
    · rw [body_tail _ _ _ _ _ i (by omega) (by omega)]
      decide
theorem txt64 (b : Nat) (l : List UInt8) (hm : (b, l) ∈ [(109, std64), (77, std64), (117, url64), (85, url64)]) (hb6 : bitsL b = 6) (bs : List UInt8) :
    Txt64 l (if padsB b then 61 else -1) bs (mbBody b bs) (charCount 6 bs.length) := by
  have hbody : mbBody b bs = bitText (charsL b) 6 bs (charCount 6 bs.length) ++ List.replicate (padN (padsB b) 6 (charCount 6 bs.length)) 61 := by
    unfold mbBody; rw [hb6]; rfl
  have hl : (mbBody b bs).length = charCount 6 bs.length + padN (padsB b) 6 (charCount 6 bs.length) := by rw [hbody]; simp [bitText_len]
  have hd := dig64 _ hm
  simp only at hd
  have hu : emap l 64 61 = 255 := by
    have h1 : emap std64 64 61 = 255 := by decide
    have h2 : emap url64 64 61 = 255 := by decide
    simp only [List.mem_cons, Prod.mk.injEq, List.mem_nil_iff, or_false] at hm
    rcases hm with ⟨-, rfl⟩ | ⟨-, rfl⟩ | ⟨-, rfl⟩ | ⟨-, rfl⟩ <;> assumption
  rw [hbody] at hl ⊢
  refine ⟨by unfold charCount; omega, fun i hi => ?_, fun i h1 h2 => body_tail _ _ _ _ _ i h1 (by omega), hu, ?_⟩
  · rw [body_at _ _ _ _ _ i hi]
    exact hd ⟨d6 bs i, d6_lt bs i⟩
  · rw [hl]
    cases hp : padsB b
    · left; exact ⟨rfl, by simp [padN]⟩
    · right; exact ⟨rfl, by simp [padN]⟩

set_option maxRecDepth 100000 in
theorem mb48_ok (bs : List UInt8) (hlen : bs.length ≤ 1000) (hz : leadZ bs < bs.length) (w : World) : Calls Tryz.prog 176 #[.string ⟨(mbText 48 bs).toArray⟩] w fun e w' => ∃ enc v, e = .returned (.tuple #[enc, v, .nilIface]) ∧ By w' bs v ∧ Ext w w' := by
  have HC := Lib.hid (decodeBinary_ok bs hlen w)
  rw [show bitText [48, 49] 1 bs (8 * bs.length) = mbBody 48 bs by unfold mbBody; rw [if_neg (by decide)]; simp [bitsL, charsL, padsB, padN, charCount]] at HC
  obtain ⟨S, hS⟩ : ∃ S : ByteArray, S = ⟨(mbText 48 bs).toArray⟩ := ⟨_, rfl⟩
  rw [← hS]
  have hSz : 0 < S.size := by rw [Lib.size_eq, hS]; simp [mbText]
  have h0 : S[0].toNat = 48 := by rw [getElem_eq hS hSz]; rfl
  have hex : S.extract 1 S.size = ⟨(mbBody 48 bs).toArray⟩ := by
    rw [extract_list hS, hS]
    simp [mbText, ByteArray.size]
  have HDR := Lib.hid (fun w => decodeRune_ok S 48 (by decide) hSz h0 w)
  obtain ⟨Bd, hBd⟩ : ∃ Bd : ByteArray, Bd = ⟨(mbBody 48 bs).toArray⟩ := ⟨_, rfl⟩
  rw [← hBd] at hex
  have HBD := Lib.hid hBd
  have hSI : ((S.size : Int) == 0) = false := by rw [beq_eq_false_iff_ne]; omega
  have hS1 : (1 : Int) ≤ (S.size : Int) := by omega
  clear hS h0 hBd hSz
  rw [← HBD.out] at HC
  clear hlen hz
  go_enter Tryz.func176, Tryz.ntmps176
  go_wp2_with (go_at_call 216; refine (HDR.out _).mono ?_; rintro e w0 ⟨rfl, rfl⟩)
  refine HC.out.mono ?_
  rintro e w1 ⟨v, rfl, hv, he⟩
  have HV := Lib.hid (And.intro hv he)
  clear hv he
  go_wp2_with (fail)
  go_ret3
  exact ⟨_, v, rfl, HV.out⟩

set_option maxRecDepth 100000 in
theorem mb102_ok (bs : List UInt8) (hlen : bs.length ≤ 1000) (hz : leadZ bs < bs.length) (w : World) (hp : PreV w) : Calls Tryz.prog 176 #[.string ⟨(mbText 102 bs).toArray⟩] w fun e w' => ∃ enc v, e = .returned (.tuple #[enc, v, .nilIface]) ∧ By w' bs v ∧ Ext w w' := by
  have HC := Lib.hid (hexDecode_ok 102 (by decide) bs hlen w hp)
  rw [show bitText (charsL 102) 4 bs (2 * bs.length) = mbBody 102 bs by unfold mbBody; rw [if_neg (by decide)]; simp [bitsL, padsB, padN, charCount]; congr 1; omega] at HC
  clear hp
  obtain ⟨S, hS⟩ : ∃ S : ByteArray, S = ⟨(mbText 102 bs).toArray⟩ := ⟨_, rfl⟩
  rw [← hS]
  have hSz : 0 < S.size := by rw [Lib.size_eq, hS]; simp [mbText]
  have h0 : S[0].toNat = 102 := by rw [getElem_eq hS hSz]; rfl
  have hex : S.extract 1 S.size = ⟨(mbBody 102 bs).toArray⟩ := by
    rw [extract_list hS, hS]
    simp [mbText, ByteArray.size]
  have HDR := Lib.hid (fun w => decodeRune_ok S 102 (by decide) hSz h0 w)
  obtain ⟨Bd, hBd⟩ : ∃ Bd : ByteArray, Bd = ⟨(mbBody 102 bs).toArray⟩ := ⟨_, rfl⟩
  rw [← hBd] at hex
  have HBD := Lib.hid hBd
  have hSI : ((S.size : Int) == 0) = false := by rw [beq_eq_false_iff_ne]; omega
  have hS1 : (1 : Int) ≤ (S.size : Int) := by omega
  clear hS h0 hBd hSz
  rw [← HBD.out] at HC
  clear hlen hz
  go_enter Tryz.func176, Tryz.ntmps176
  go_wp2_with (go_at_call 216; refine (HDR.out _).mono ?_; rintro e w0 ⟨rfl, rfl⟩)
  refine HC.out.mono ?_
  rintro e w1 ⟨v, rfl, hv, he⟩
  have HV := Lib.hid (And.intro hv he)
  clear hv he
  go_wp2_with (fail)
  go_ret3
  exact ⟨_, v, rfl, HV.out⟩

set_option maxRecDepth 100000 in
theorem mb70_ok (bs : List UInt8) (hlen : bs.length ≤ 1000) (hz : leadZ bs < bs.length) (w : World) (hp : PreV w) : Calls Tryz.prog 176 #[.string ⟨(mbText 70 bs).toArray⟩] w fun e w' => ∃ enc v, e = .returned (.tuple #[enc, v, .nilIface]) ∧ By w' bs v ∧ Ext w w' := by
  have HC := Lib.hid (hexDecode_ok 70 (by decide) bs hlen w hp)
  rw [show bitText (charsL 70) 4 bs (2 * bs.length) = mbBody 70 bs by unfold mbBody; rw [if_neg (by decide)]; simp [bitsL, padsB, padN, charCount]; congr 1; omega] at HC
  clear hp
  obtain ⟨S, hS⟩ : ∃ S : ByteArray, S = ⟨(mbText 70 bs).toArray⟩ := ⟨_, rfl⟩
  rw [← hS]
  have hSz : 0 < S.size := by rw [Lib.size_eq, hS]; simp [mbText]
  have h0 : S[0].toNat = 70 := by rw [getElem_eq hS hSz]; rfl
  have hex : S.extract 1 S.size = ⟨(mbBody 70 bs).toArray⟩ := by
    rw [extract_list hS, hS]
    simp [mbText, ByteArray.size]
  have HDR := Lib.hid (fun w => decodeRune_ok S 70 (by decide) hSz h0 w)
  obtain ⟨Bd, hBd⟩ : ∃ Bd : ByteArray, Bd = ⟨(mbBody 70 bs).toArray⟩ := ⟨_, rfl⟩
  rw [← hBd] at hex
  have HBD := Lib.hid hBd
  have hSI : ((S.size : Int) == 0) = false := by rw [beq_eq_false_iff_ne]; omega
  have hS1 : (1 : Int) ≤ (S.size : Int) := by omega
  clear hS h0 hBd hSz
  rw [← HBD.out] at HC
  clear hlen hz
  go_enter Tryz.func176, Tryz.ntmps176
  go_wp2_with (go_at_call 216; refine (HDR.out _).mono ?_; rintro e w0 ⟨rfl, rfl⟩)
  refine HC.out.mono ?_
  rintro e w1 ⟨v, rfl, hv, he⟩
  have HV := Lib.hid (And.intro hv he)
  clear hv he
  go_wp2_with (fail)
  go_ret3
  exact ⟨_, v, rfl, HV.out⟩

set_option maxRecDepth 100000 in
theorem mb98_ok (bs : List UInt8) (hlen : bs.length ≤ 1000) (hz : leadZ bs < bs.length) (w : World) : Calls Tryz.prog 176 #[.string ⟨(mbText 98 bs).toArray⟩] w fun e w' => ∃ enc v, e = .returned (.tuple #[enc, v, .nilIface]) ∧ By w' bs v ∧ Ext w w' := by
  have HC := Lib.hid (fun g w hE => b32Decode_ok stdL (-1) bs (mbBody 98 bs) _ (txt32 98 stdL (by decide) rfl bs).1 hlen (by omega) (txt32 98 stdL (by decide) rfl bs).2 g w hE)
  obtain ⟨S, hS⟩ : ∃ S : ByteArray, S = ⟨(mbText 98 bs).toArray⟩ := ⟨_, rfl⟩
  rw [← hS]
  have hSz : 0 < S.size := by rw [Lib.size_eq, hS]; simp [mbText]
  have h0 : S[0].toNat = 98 := by rw [getElem_eq hS hSz]; rfl
  have hex : S.extract 1 S.size = ⟨(mbBody 98 bs).toArray⟩ := by
    rw [extract_list hS, hS]
    simp [mbText, ByteArray.size]
  have HDR := Lib.hid (fun w => decodeRune_ok S 98 (by decide) hSz h0 w)
  obtain ⟨Bd, hBd⟩ : ∃ Bd : ByteArray, Bd = ⟨(mbBody 98 bs).toArray⟩ := ⟨_, rfl⟩
  rw [← hBd] at hex
  have HBD := Lib.hid hBd
  have hSI : ((S.size : Int) == 0) = false := by rw [beq_eq_false_iff_ne]; omega
  have hS1 : (1 : Int) ≤ (S.size : Int) := by omega
  clear hS h0 hBd hSz
  rw [← HBD.out] at HC
  clear hlen hz
  go_enter Tryz.func176, Tryz.ntmps176
  go_wp2_with (go_at_call 216; refine (HDR.out _).mono ?_; rintro e w0 ⟨rfl, rfl⟩)
  refine wp_region_noPanic ?_
  refine wp_region_held_drew (S := fun w' => Ext w w') (by kernel_rfl) ?_ (fun hHeld => ?_)
  · exact Ext.drew (Ext.refl _)
  refine wpAnyH_take (i := 1) (v := ?_) (by simp only [List.getElem?_toArray, List.getElem?_cons_zero, List.getElem?_cons_succ]; rfl) (by kernel_rfl) (by kernel_rfl) (by kernel_rfl) (fun _ _ _ h => h) (Or.inl ⟨by rfl, ?_⟩) hHeld ?_
  rotate_left
  · ((intro wS hSw; (try dsimp only at hSw); go_simp) <;> (try with_reducible rfl))
  (try simp only [Act.put, List.setIfInBounds_toArray, List.set_cons_zero, List.set_cons_succ])
  refine wpAnyH_take (i := 2) (v := ?_) (by simp only [List.getElem?_toArray, List.getElem?_cons_zero, List.getElem?_cons_succ]; rfl) (by kernel_rfl) (by kernel_rfl) (by kernel_rfl) (fun _ _ _ h => h) (Or.inl ⟨by rfl, ?_⟩) hHeld ?_
  rotate_left
  · ((intro wS hSw; (try dsimp only at hSw); go_simp) <;> (try with_reducible rfl))
  (try simp only [Act.put, List.setIfInBounds_toArray, List.set_cons_zero, List.set_cons_succ])
  refine wpAnyH_ready (rs := [0]) (by kernel_rfl) (by simp) ?_
  refine AllReadyH.cons (by simp only [List.getElem?_toArray, List.getElem?_cons_zero]; rfl) (fun K hK => ?_) AllReadyH.nil
  go_simp
  go_at_call 219
  refine (rawStd_ok _).mono ?_
  rintro e w1 ⟨g, rfl, hA, he1⟩
  have HAT := Lib.hid hA
  clear hA
  refine hK.out _ _ ?_ (fun hHeld2 => ?_)
  · exact hHeld.trans he1
  clear hK K hHeld
  have hHeld := hHeld2
  clear hHeld2
  (try simp only [Act.put, List.setIfInBounds_toArray, List.set_cons_zero, List.set_cons_succ])
  refine wpAnyH_ready (rs := [3]) (by kernel_rfl) (by simp) ?_
  refine AllReadyH.cons (by simp only [List.getElem?_toArray, List.getElem?_cons_zero, List.getElem?_cons_succ]; rfl) (fun K hK => ?_) AllReadyH.nil
  go_simp
  go_at_call 220
  refine (HC.out g _ HAT.out).mono ?_
  rintro e w2 ⟨v, rfl, hv, he2⟩
  have HV := Lib.hid hv
  clear hv
  refine hK.out _ _ ?_ (fun hHeld2 => ?_)
  · exact hHeld.trans he2
  clear hK K hHeld
  have hHeld := hHeld2
  clear hHeld2
  (try simp only [Act.put, List.setIfInBounds_toArray, List.set_cons_zero, List.set_cons_succ])
  refine wpAnyH_take (i := 4) (v := ?_) (by simp only [List.getElem?_toArray, List.getElem?_cons_zero, List.getElem?_cons_succ]; rfl) (by kernel_rfl) (by kernel_rfl) (by kernel_rfl) (fun _ _ _ h => h) (Or.inl ⟨by rfl, ?_⟩) hHeld ?_
  rotate_left
  · ((intro wS hSw; (try dsimp only at hSw); go_simp) <;> (try with_reducible rfl))
  (try simp only [Act.put, List.setIfInBounds_toArray, List.set_cons_zero, List.set_cons_succ])
  refine wpAnyH_take (i := 5) (v := ?_) (by simp only [List.getElem?_toArray, List.getElem?_cons_zero, List.getElem?_cons_succ]; rfl) (by kernel_rfl) (by kernel_rfl) (by kernel_rfl) (fun _ _ _ h => h) (Or.inl ⟨by rfl, ?_⟩) hHeld ?_
  rotate_left
  · ((intro wS hSw; (try dsimp only at hSw); go_simp) <;> (try with_reducible rfl))
  (try simp only [Act.put, List.setIfInBounds_toArray, List.set_cons_zero, List.set_cons_succ])
  refine wpAnyH_take (i := 6) (v := ?_) (by simp only [List.getElem?_toArray, List.getElem?_cons_zero, List.getElem?_cons_succ]; rfl) (by kernel_rfl) (by kernel_rfl) (by kernel_rfl) (fun _ _ _ h => h) (Or.inl ⟨by rfl, ?_⟩) hHeld ?_
  rotate_left
  · ((intro wS hSw; (try dsimp only at hSw); go_simp) <;> (try with_reducible rfl))
  (try simp only [Act.put, List.setIfInBounds_toArray, List.set_cons_zero, List.set_cons_succ])
  refine wpAnyH_take (i := 7) (v := ?_) (by simp only [List.getElem?_toArray, List.getElem?_cons_zero, List.getElem?_cons_succ]; rfl) (by kernel_rfl) (by kernel_rfl) (by kernel_rfl) (fun _ _ _ h => h) (Or.inl ⟨by rfl, ?_⟩) hHeld ?_
  rotate_left
  · ((intro wS hSw; (try dsimp only at hSw); go_simp) <;> (try with_reducible rfl))
  (try simp only [Act.put, List.setIfInBounds_toArray, List.set_cons_zero, List.set_cons_succ])
  refine wpAnyH_take (i := 8) (v := ?_) (by simp only [List.getElem?_toArray, List.getElem?_cons_zero, List.getElem?_cons_succ]; rfl) (by kernel_rfl) (by kernel_rfl) (by kernel_rfl) (fun _ _ _ h => h) (Or.inl ⟨by rfl, ?_⟩) hHeld ?_
  rotate_left
  · ((intro wS hSw; (try dsimp only at hSw); go_simp) <;> (try with_reducible rfl))
  (try simp only [Act.put, List.setIfInBounds_toArray, List.set_cons_zero, List.set_cons_succ])
  refine wpAnyH_done (by kernel_rfl) ?_ _
  refine NoPanic.normal ?_
  go_wp2_with (fail)
  go_ret3
  exact ⟨_, v, rfl, HV.out, hHeld⟩

set_option maxRecDepth 100000 in
theorem mb66_ok (bs : List UInt8) (hlen : bs.length ≤ 1000) (hz : leadZ bs < bs.length) (w : World) : Calls Tryz.prog 176 #[.string ⟨(mbText 66 bs).toArray⟩] w fun e w' => ∃ enc v, e = .returned (.tuple #[enc, v, .nilIface]) ∧ By w' bs v ∧ Ext w w' := by
  have HC := Lib.hid (fun g w hE => b32Decode_ok stdL (-1) bs (mbBody 66 bs) _ (txt32 66 stdL (by decide) rfl bs).1 hlen (by omega) (txt32 66 stdL (by decide) rfl bs).2 g w hE)
  obtain ⟨S, hS⟩ : ∃ S : ByteArray, S = ⟨(mbText 66 bs).toArray⟩ := ⟨_, rfl⟩
  rw [← hS]
  have hSz : 0 < S.size := by rw [Lib.size_eq, hS]; simp [mbText]
  have h0 : S[0].toNat = 66 := by rw [getElem_eq hS hSz]; rfl
  have hex : S.extract 1 S.size = ⟨(mbBody 66 bs).toArray⟩ := by
    rw [extract_list hS, hS]
    simp [mbText, ByteArray.size]
  have HDR := Lib.hid (fun w => decodeRune_ok S 66 (by decide) hSz h0 w)
  obtain ⟨Bd, hBd⟩ : ∃ Bd : ByteArray, Bd = ⟨(mbBody 66 bs).toArray⟩ := ⟨_, rfl⟩
  rw [← hBd] at hex
  have HBD := Lib.hid hBd
  have hSI : ((S.size : Int) == 0) = false := by rw [beq_eq_false_iff_ne]; omega
  have hS1 : (1 : Int) ≤ (S.size : Int) := by omega
  clear hS h0 hBd hSz
  rw [← HBD.out] at HC
  clear hlen hz
  go_enter Tryz.func176, Tryz.ntmps176
  go_wp2_with (go_at_call 216; refine (HDR.out _).mono ?_; rintro e w0 ⟨rfl, rfl⟩)
  refine wp_region_noPanic ?_
  refine wp_region_held_drew (S := fun w' => Ext w w') (by kernel_rfl) ?_ (fun hHeld => ?_)
  · exact Ext.drew (Ext.refl _)
  refine wpAnyH_take (i := 1) (v := ?_) (by simp only [List.getElem?_toArray, List.getElem?_cons_zero, List.getElem?_cons_succ]; rfl) (by kernel_rfl) (by kernel_rfl) (by kernel_rfl) (fun _ _ _ h => h) (Or.inl ⟨by rfl, ?_⟩) hHeld ?_
  rotate_left
  · ((intro wS hSw; (try dsimp only at hSw); go_simp) <;> (try with_reducible rfl))
  (try simp only [Act.put, List.setIfInBounds_toArray, List.set_cons_zero, List.set_cons_succ])
  refine wpAnyH_take (i := 2) (v := ?_) (by simp only [List.getElem?_toArray, List.getElem?_cons_zero, List.getElem?_cons_succ]; rfl) (by kernel_rfl) (by kernel_rfl) (by kernel_rfl) (fun _ _ _ h => h) (Or.inl ⟨by rfl, ?_⟩) hHeld ?_
  rotate_left
  · ((intro wS hSw; (try dsimp only at hSw); go_simp) <;> (try with_reducible rfl))
  (try simp only [Act.put, List.setIfInBounds_toArray, List.set_cons_zero, List.set_cons_succ])
  refine wpAnyH_ready (rs := [0]) (by kernel_rfl) (by simp) ?_
  refine AllReadyH.cons (by simp only [List.getElem?_toArray, List.getElem?_cons_zero]; rfl) (fun K hK => ?_) AllReadyH.nil
  go_simp
  go_at_call 219
  refine (rawStd_ok _).mono ?_
  rintro e w1 ⟨g, rfl, hA, he1⟩
  have HAT := Lib.hid hA
  clear hA
  refine hK.out _ _ ?_ (fun hHeld2 => ?_)
  · exact hHeld.trans he1
  clear hK K hHeld
  have hHeld := hHeld2
  clear hHeld2
  (try simp only [Act.put, List.setIfInBounds_toArray, List.set_cons_zero, List.set_cons_succ])
  refine wpAnyH_ready (rs := [3]) (by kernel_rfl) (by simp) ?_
  refine AllReadyH.cons (by simp only [List.getElem?_toArray, List.getElem?_cons_zero, List.getElem?_cons_succ]; rfl) (fun K hK => ?_) AllReadyH.nil
  go_simp
  go_at_call 220
  refine (HC.out g _ HAT.out).mono ?_
  rintro e w2 ⟨v, rfl, hv, he2⟩
  have HV := Lib.hid hv
  clear hv
  refine hK.out _ _ ?_ (fun hHeld2 => ?_)
  · exact hHeld.trans he2
  clear hK K hHeld
  have hHeld := hHeld2
  clear hHeld2
  (try simp only [Act.put, List.setIfInBounds_toArray, List.set_cons_zero, List.set_cons_succ])
  refine wpAnyH_take (i := 4) (v := ?_) (by simp only [List.getElem?_toArray, List.getElem?_cons_zero, List.getElem?_cons_succ]; rfl) (by kernel_rfl) (by kernel_rfl) (by kernel_rfl) (fun _ _ _ h => h) (Or.inl ⟨by rfl, ?_⟩) hHeld ?_
  rotate_left
  · ((intro wS hSw; (try dsimp only at hSw); go_simp) <;> (try with_reducible rfl))
  (try simp only [Act.put, List.setIfInBounds_toArray, List.set_cons_zero, List.set_cons_succ])
  refine wpAnyH_take (i := 5) (v := ?_) (by simp only [List.getElem?_toArray, List.getElem?_cons_zero, List.getElem?_cons_succ]; rfl) (by kernel_rfl) (by kernel_rfl) (by kernel_rfl) (fun _ _ _ h => h) (Or.inl ⟨by rfl, ?_⟩) hHeld ?_
  rotate_left
  · ((intro wS hSw; (try dsimp only at hSw); go_simp) <;> (try with_reducible rfl))
  (try simp only [Act.put, List.setIfInBounds_toArray, List.set_cons_zero, List.set_cons_succ])
  refine wpAnyH_take (i := 6) (v := ?_) (by simp only [List.getElem?_toArray, List.getElem?_cons_zero, List.getElem?_cons_succ]; rfl) (by kernel_rfl) (by kernel_rfl) (by kernel_rfl) (fun _ _ _ h => h) (Or.inl ⟨by rfl, ?_⟩) hHeld ?_
  rotate_left
  · ((intro wS hSw; (try dsimp only at hSw); go_simp) <;> (try with_reducible rfl))
  (try simp only [Act.put, List.setIfInBounds_toArray, List.set_cons_zero, List.set_cons_succ])
  refine wpAnyH_take (i := 7) (v := ?_) (by simp only [List.getElem?_toArray, List.getElem?_cons_zero, List.getElem?_cons_succ]; rfl) (by kernel_rfl) (by kernel_rfl) (by kernel_rfl) (fun _ _ _ h => h) (Or.inl ⟨by rfl, ?_⟩) hHeld ?_
  rotate_left
  · ((intro wS hSw; (try dsimp only at hSw); go_simp) <;> (try with_reducible rfl))
  (try simp only [Act.put, List.setIfInBounds_toArray, List.set_cons_zero, List.set_cons_succ])
  refine wpAnyH_take (i := 8) (v := ?_) (by simp only [List.getElem?_toArray, List.getElem?_cons_zero, List.getElem?_cons_succ]; rfl) (by kernel_rfl) (by kernel_rfl) (by kernel_rfl) (fun _ _ _ h => h) (Or.inl ⟨by rfl, ?_⟩) hHeld ?_
  rotate_left
  · ((intro wS hSw; (try dsimp only at hSw); go_simp) <;> (try with_reducible rfl))
  (try simp only [Act.put, List.setIfInBounds_toArray, List.set_cons_zero, List.set_cons_succ])
  refine wpAnyH_done (by kernel_rfl) ?_ _
  refine NoPanic.normal ?_
  go_wp2_with (fail)
  go_ret3
  exact ⟨_, v, rfl, HV.out, hHeld⟩

set_option maxRecDepth 100000 in
theorem mb118_ok (bs : List UInt8) (hlen : bs.length ≤ 1000) (hz : leadZ bs < bs.length) (w : World) : Calls Tryz.prog 176 #[.string ⟨(mbText 118 bs).toArray⟩] w fun e w' => ∃ enc v, e = .returned (.tuple #[enc, v, .nilIface]) ∧ By w' bs v ∧ Ext w w' := by
  have HC := Lib.hid (fun g w hE => b32Decode_ok hexL (-1) bs (mbBody 118 bs) _ (txt32 118 hexL (by decide) rfl bs).1 hlen (by omega) (txt32 118 hexL (by decide) rfl bs).2 g w hE)
  obtain ⟨S, hS⟩ : ∃ S : ByteArray, S = ⟨(mbText 118 bs).toArray⟩ := ⟨_, rfl⟩
  rw [← hS]
  have hSz : 0 < S.size := by rw [Lib.size_eq, hS]; simp [mbText]
  have h0 : S[0].toNat = 118 := by rw [getElem_eq hS hSz]; rfl
  have hex : S.extract 1 S.size = ⟨(mbBody 118 bs).toArray⟩ := by
    rw [extract_list hS, hS]
    simp [mbText, ByteArray.size]
  have HDR := Lib.hid (fun w => decodeRune_ok S 118 (by decide) hSz h0 w)
  obtain ⟨Bd, hBd⟩ : ∃ Bd : ByteArray, Bd = ⟨(mbBody 118 bs).toArray⟩ := ⟨_, rfl⟩
  rw [← hBd] at hex
  have HBD := Lib.hid hBd
  have hSI : ((S.size : Int) == 0) = false := by rw [beq_eq_false_iff_ne]; omega
  have hS1 : (1 : Int) ≤ (S.size : Int) := by omega
  clear hS h0 hBd hSz
  rw [← HBD.out] at HC
  clear hlen hz
  go_enter Tryz.func176, Tryz.ntmps176
  go_wp2_with (go_at_call 216; refine (HDR.out _).mono ?_; rintro e w0 ⟨rfl, rfl⟩)
  refine wp_region_noPanic ?_
  refine wp_region_held_drew (S := fun w' => Ext w w') (by kernel_rfl) ?_ (fun hHeld => ?_)
  · exact Ext.drew (Ext.refl _)
  refine wpAnyH_take (i := 1) (v := ?_) (by simp only [List.getElem?_toArray, List.getElem?_cons_zero, List.getElem?_cons_succ]; rfl) (by kernel_rfl) (by kernel_rfl) (by kernel_rfl) (fun _ _ _ h => h) (Or.inl ⟨by rfl, ?_⟩) hHeld ?_
  rotate_left
  · ((intro wS hSw; (try dsimp only at hSw); go_simp) <;> (try with_reducible rfl))
  (try simp only [Act.put, List.setIfInBounds_toArray, List.set_cons_zero, List.set_cons_succ])
  refine wpAnyH_take (i := 2) (v := ?_) (by simp only [List.getElem?_toArray, List.getElem?_cons_zero, List.getElem?_cons_succ]; rfl) (by kernel_rfl) (by kernel_rfl) (by kernel_rfl) (fun _ _ _ h => h) (Or.inl ⟨by rfl, ?_⟩) hHeld ?_
  rotate_left
  · ((intro wS hSw; (try dsimp only at hSw); go_simp) <;> (try with_reducible rfl))
  (try simp only [Act.put, List.setIfInBounds_toArray, List.set_cons_zero, List.set_cons_succ])
  refine wpAnyH_ready (rs := [0]) (by kernel_rfl) (by simp) ?_
  refine AllReadyH.cons (by simp only [List.getElem?_toArray, List.getElem?_cons_zero]; rfl) (fun K hK => ?_) AllReadyH.nil
  go_simp
  go_at_call 221
  refine (rawHex_ok _).mono ?_
  rintro e w1 ⟨g, rfl, hA, he1⟩
  have HAT := Lib.hid hA
  clear hA
  refine hK.out _ _ ?_ (fun hHeld2 => ?_)
  · exact hHeld.trans he1
  clear hK K hHeld
  have hHeld := hHeld2
  clear hHeld2
  (try simp only [Act.put, List.setIfInBounds_toArray, List.set_cons_zero, List.set_cons_succ])
  refine wpAnyH_ready (rs := [3]) (by kernel_rfl) (by simp) ?_
  refine AllReadyH.cons (by simp only [List.getElem?_toArray, List.getElem?_cons_zero, List.getElem?_cons_succ]; rfl) (fun K hK => ?_) AllReadyH.nil
  go_simp
  go_at_call 220
  refine (HC.out g _ HAT.out).mono ?_
  rintro e w2 ⟨v, rfl, hv, he2⟩
  have HV := Lib.hid hv
  clear hv
  refine hK.out _ _ ?_ (fun hHeld2 => ?_)
  · exact hHeld.trans he2
  clear hK K hHeld
  have hHeld := hHeld2
  clear hHeld2
  (try simp only [Act.put, List.setIfInBounds_toArray, List.set_cons_zero, List.set_cons_succ])
  refine wpAnyH_take (i := 4) (v := ?_) (by simp only [List.getElem?_toArray, List.getElem?_cons_zero, List.getElem?_cons_succ]; rfl) (by kernel_rfl) (by kernel_rfl) (by kernel_rfl) (fun _ _ _ h => h) (Or.inl ⟨by rfl, ?_⟩) hHeld ?_
  rotate_left
  · ((intro wS hSw; (try dsimp only at hSw); go_simp) <;> (try with_reducible rfl))
  (try simp only [Act.put, List.setIfInBounds_toArray, List.set_cons_zero, List.set_cons_succ])
  refine wpAnyH_take (i := 5) (v := ?_) (by simp only [List.getElem?_toArray, List.getElem?_cons_zero, List.getElem?_cons_succ]; rfl) (by kernel_rfl) (by kernel_rfl) (by kernel_rfl) (fun _ _ _ h => h) (Or.inl ⟨by rfl, ?_⟩) hHeld ?_
  rotate_left
  · ((intro wS hSw; (try dsimp only at hSw); go_simp) <;> (try with_reducible rfl))
  (try simp only [Act.put, List.setIfInBounds_toArray, List.set_cons_zero, List.set_cons_succ])
  refine wpAnyH_take (i := 6) (v := ?_) (by simp only [List.getElem?_toArray, List.getElem?_cons_zero, List.getElem?_cons_succ]; rfl) (by kernel_rfl) (by kernel_rfl) (by kernel_rfl) (fun _ _ _ h => h) (Or.inl ⟨by rfl, ?_⟩) hHeld ?_
  rotate_left
  · ((intro wS hSw; (try dsimp only at hSw); go_simp) <;> (try with_reducible rfl))
  (try simp only [Act.put, List.setIfInBounds_toArray, List.set_cons_zero, List.set_cons_succ])
  refine wpAnyH_take (i := 7) (v := ?_) (by simp only [List.getElem?_toArray, List.getElem?_cons_zero, List.getElem?_cons_succ]; rfl) (by kernel_rfl) (by kernel_rfl) (by kernel_rfl) (fun _ _ _ h => h) (Or.inl ⟨by rfl, ?_⟩) hHeld ?_
  rotate_left
  · ((intro wS hSw; (try dsimp only at hSw); go_simp) <;> (try with_reducible rfl))
  (try simp only [Act.put, List.setIfInBounds_toArray, List.set_cons_zero, List.set_cons_succ])
  refine wpAnyH_take (i := 8) (v := ?_) (by simp only [List.getElem?_toArray, List.getElem?_cons_zero, List.getElem?_cons_succ]; rfl) (by kernel_rfl) (by kernel_rfl) (by kernel_rfl) (fun _ _ _ h => h) (Or.inl ⟨by rfl, ?_⟩) hHeld ?_
  rotate_left
  · ((intro wS hSw; (try dsimp only at hSw); go_simp) <;> (try with_reducible rfl))
  (try simp only [Act.put, List.setIfInBounds_toArray, List.set_cons_zero, List.set_cons_succ])
  refine wpAnyH_done (by kernel_rfl) ?_ _
  refine NoPanic.normal ?_
  go_wp2_with (fail)
  go_ret3
  exact ⟨_, v, rfl, HV.out, hHeld⟩

set_option maxRecDepth 100000 in
theorem mb86_ok (bs : List UInt8) (hlen : bs.length ≤ 1000) (hz : leadZ bs < bs.length) (w : World) : Calls Tryz.prog 176 #[.string ⟨(mbText 86 bs).toArray⟩] w fun e w' => ∃ enc v, e = .returned (.tuple #[enc, v, .nilIface]) ∧ By w' bs v ∧ Ext w w' := by
  have HC := Lib.hid (fun g w hE => b32Decode_ok hexL (-1) bs (mbBody 86 bs) _ (txt32 86 hexL (by decide) rfl bs).1 hlen (by omega) (txt32 86 hexL (by decide) rfl bs).2 g w hE)
  obtain ⟨S, hS⟩ : ∃ S : ByteArray, S = ⟨(mbText 86 bs).toArray⟩ := ⟨_, rfl⟩
  rw [← hS]
  have hSz : 0 < S.size := by rw [Lib.size_eq, hS]; simp [mbText]
  have h0 : S[0].toNat = 86 := by rw [getElem_eq hS hSz]; rfl
  have hex : S.extract 1 S.size = ⟨(mbBody 86 bs).toArray⟩ := by
    rw [extract_list hS, hS]
    simp [mbText, ByteArray.size]
  have HDR := Lib.hid (fun w => decodeRune_ok S 86 (by decide) hSz h0 w)
  obtain ⟨Bd, hBd⟩ : ∃ Bd : ByteArray, Bd = ⟨(mbBody 86 bs).toArray⟩ := ⟨_, rfl⟩
  rw [← hBd] at hex
  have HBD := Lib.hid hBd
  have hSI : ((S.size : Int) == 0) = false := by rw [beq_eq_false_iff_ne]; omega
  have hS1 : (1 : Int) ≤ (S.size : Int) := by omega
  clear hS h0 hBd hSz
  rw [← HBD.out] at HC
  clear hlen hz
  go_enter Tryz.func176, Tryz.ntmps176
  go_wp2_with (go_at_call 216; refine (HDR.out _).mono ?_; rintro e w0 ⟨rfl, rfl⟩)
  refine wp_region_noPanic ?_
  refine wp_region_held_drew (S := fun w' => Ext w w') (by kernel_rfl) ?_ (fun hHeld => ?_)
  · exact Ext.drew (Ext.refl _)
  refine wpAnyH_take (i := 1) (v := ?_) (by simp only [List.getElem?_toArray, List.getElem?_cons_zero, List.getElem?_cons_succ]; rfl) (by kernel_rfl) (by kernel_rfl) (by kernel_rfl) (fun _ _ _ h => h) (Or.inl ⟨by rfl, ?_⟩) hHeld ?_
  rotate_left
  · ((intro wS hSw; (try dsimp only at hSw); go_simp) <;> (try with_reducible rfl))
  (try simp only [Act.put, List.setIfInBounds_toArray, List.set_cons_zero, List.set_cons_succ])
  refine wpAnyH_take (i := 2) (v := ?_) (by simp only [List.getElem?_toArray, List.getElem?_cons_zero, List.getElem?_cons_succ]; rfl) (by kernel_rfl) (by kernel_rfl) (by kernel_rfl) (fun _ _ _ h => h) (Or.inl ⟨by rfl, ?_⟩) hHeld ?_
  rotate_left
  · ((intro wS hSw; (try dsimp only at hSw); go_simp) <;> (try with_reducible rfl))
  (try simp only [Act.put, List.setIfInBounds_toArray, List.set_cons_zero, List.set_cons_succ])
  refine wpAnyH_ready (rs := [0]) (by kernel_rfl) (by simp) ?_
  refine AllReadyH.cons (by simp only [List.getElem?_toArray, List.getElem?_cons_zero]; rfl) (fun K hK => ?_) AllReadyH.nil
  go_simp
  go_at_call 221
  refine (rawHex_ok _).mono ?_
  rintro e w1 ⟨g, rfl, hA, he1⟩
  have HAT := Lib.hid hA
  clear hA
  refine hK.out _ _ ?_ (fun hHeld2 => ?_)
  · exact hHeld.trans he1
  clear hK K hHeld
  have hHeld := hHeld2
  clear hHeld2
  (try simp only [Act.put, List.setIfInBounds_toArray, List.set_cons_zero, List.set_cons_succ])
  refine wpAnyH_ready (rs := [3]) (by kernel_rfl) (by simp) ?_
  refine AllReadyH.cons (by simp only [List.getElem?_toArray, List.getElem?_cons_zero, List.getElem?_cons_succ]; rfl) (fun K hK => ?_) AllReadyH.nil
  go_simp
  go_at_call 220
  refine (HC.out g _ HAT.out).mono ?_
  rintro e w2 ⟨v, rfl, hv, he2⟩
  have HV := Lib.hid hv
  clear hv
  refine hK.out _ _ ?_ (fun hHeld2 => ?_)
  · exact hHeld.trans he2
  clear hK K hHeld
  have hHeld := hHeld2
  clear hHeld2
  (try simp only [Act.put, List.setIfInBounds_toArray, List.set_cons_zero, List.set_cons_succ])
  refine wpAnyH_take (i := 4) (v := ?_) (by simp only [List.getElem?_toArray, List.getElem?_cons_zero, List.getElem?_cons_succ]; rfl) (by kernel_rfl) (by kernel_rfl) (by kernel_rfl) (fun _ _ _ h => h) (Or.inl ⟨by rfl, ?_⟩) hHeld ?_
  rotate_left
  · ((intro wS hSw; (try dsimp only at hSw); go_simp) <;> (try with_reducible rfl))
  (try simp only [Act.put, List.setIfInBounds_toArray, List.set_cons_zero, List.set_cons_succ])
  refine wpAnyH_take (i := 5) (v := ?_) (by simp only [List.getElem?_toArray, List.getElem?_cons_zero, List.getElem?_cons_succ]; rfl) (by kernel_rfl) (by kernel_rfl) (by kernel_rfl) (fun _ _ _ h => h) (Or.inl ⟨by rfl, ?_⟩) hHeld ?_
  rotate_left
  · ((intro wS hSw; (try dsimp only at hSw); go_simp) <;> (try with_reducible rfl))
  (try simp only [Act.put, List.setIfInBounds_toArray, List.set_cons_zero, List.set_cons_succ])
  refine wpAnyH_take (i := 6) (v := ?_) (by simp only [List.getElem?_toArray, List.getElem?_cons_zero, List.getElem?_cons_succ]; rfl) (by kernel_rfl) (by kernel_rfl) (by kernel_rfl) (fun _ _ _ h => h) (Or.inl ⟨by rfl, ?_⟩) hHeld ?_
  rotate_left
  · ((intro wS hSw; (try dsimp only at hSw); go_simp) <;> (try with_reducible rfl))
  (try simp only [Act.put, List.setIfInBounds_toArray, List.set_cons_zero, List.set_cons_succ])
  refine wpAnyH_take (i := 7) (v := ?_) (by simp only [List.getElem?_toArray, List.getElem?_cons_zero, List.getElem?_cons_succ]; rfl) (by kernel_rfl) (by kernel_rfl) (by kernel_rfl) (fun _ _ _ h => h) (Or.inl ⟨by rfl, ?_⟩) hHeld ?_
  rotate_left
  · ((intro wS hSw; (try dsimp only at hSw); go_simp) <;> (try with_reducible rfl))
  (try simp only [Act.put, List.setIfInBounds_toArray, List.set_cons_zero, List.set_cons_succ])
  refine wpAnyH_take (i := 8) (v := ?_) (by simp only [List.getElem?_toArray, List.getElem?_cons_zero, List.getElem?_cons_succ]; rfl) (by kernel_rfl) (by kernel_rfl) (by kernel_rfl) (fun _ _ _ h => h) (Or.inl ⟨by rfl, ?_⟩) hHeld ?_
  rotate_left
  · ((intro wS hSw; (try dsimp only at hSw); go_simp) <;> (try with_reducible rfl))
  (try simp only [Act.put, List.setIfInBounds_toArray, List.set_cons_zero, List.set_cons_succ])
  refine wpAnyH_done (by kernel_rfl) ?_ _
  refine NoPanic.normal ?_
  go_wp2_with (fail)
  go_ret3
  exact ⟨_, v, rfl, HV.out, hHeld⟩

set_option maxRecDepth 100000 in
theorem mb99_ok (bs : List UInt8) (hlen : bs.length ≤ 1000) (hz : leadZ bs < bs.length) (w : World) : Calls Tryz.prog 176 #[.string ⟨(mbText 99 bs).toArray⟩] w fun e w' => ∃ enc v, e = .returned (.tuple #[enc, v, .nilIface]) ∧ By w' bs v ∧ Ext w w' := by
  have HC := Lib.hid (fun g w hE => b32Decode_ok stdL (61) bs (mbBody 99 bs) _ (txt32 99 stdL (by decide) rfl bs).1 hlen (by omega) (txt32 99 stdL (by decide) rfl bs).2 g w hE)
  obtain ⟨S, hS⟩ : ∃ S : ByteArray, S = ⟨(mbText 99 bs).toArray⟩ := ⟨_, rfl⟩
  rw [← hS]
  have hSz : 0 < S.size := by rw [Lib.size_eq, hS]; simp [mbText]
  have h0 : S[0].toNat = 99 := by rw [getElem_eq hS hSz]; rfl
  have hex : S.extract 1 S.size = ⟨(mbBody 99 bs).toArray⟩ := by
    rw [extract_list hS, hS]
    simp [mbText, ByteArray.size]
  have HDR := Lib.hid (fun w => decodeRune_ok S 99 (by decide) hSz h0 w)
  obtain ⟨Bd, hBd⟩ : ∃ Bd : ByteArray, Bd = ⟨(mbBody 99 bs).toArray⟩ := ⟨_, rfl⟩
  rw [← hBd] at hex
  have HBD := Lib.hid hBd
  have hSI : ((S.size : Int) == 0) = false := by rw [beq_eq_false_iff_ne]; omega
  have hS1 : (1 : Int) ≤ (S.size : Int) := by omega
  clear hS h0 hBd hSz
  rw [← HBD.out] at HC
  clear hlen hz
  go_enter Tryz.func176, Tryz.ntmps176
  go_wp2_with (go_at_call 216; refine (HDR.out _).mono ?_; rintro e w0 ⟨rfl, rfl⟩)
  refine wp_region_noPanic ?_
  refine wp_region_held_drew (S := fun w' => Ext w w') (by kernel_rfl) ?_ (fun hHeld => ?_)
  · exact Ext.drew (Ext.refl _)
  refine wpAnyH_take (i := 1) (v := ?_) (by simp only [List.getElem?_toArray, List.getElem?_cons_zero, List.getElem?_cons_succ]; rfl) (by kernel_rfl) (by kernel_rfl) (by kernel_rfl) (fun _ _ _ h => h) (Or.inl ⟨by rfl, ?_⟩) hHeld ?_
  rotate_left
  · ((intro wS hSw; (try dsimp only at hSw); go_simp) <;> (try with_reducible rfl))
  (try simp only [Act.put, List.setIfInBounds_toArray, List.set_cons_zero, List.set_cons_succ])
  refine wpAnyH_take (i := 2) (v := ?_) (by simp only [List.getElem?_toArray, List.getElem?_cons_zero, List.getElem?_cons_succ]; rfl) (by kernel_rfl) (by kernel_rfl) (by kernel_rfl) (fun _ _ _ h => h) (Or.inl ⟨by rfl, ?_⟩) hHeld ?_
  rotate_left
  · ((intro wS hSw; (try dsimp only at hSw); go_simp) <;> (try with_reducible rfl))
  (try simp only [Act.put, List.setIfInBounds_toArray, List.set_cons_zero, List.set_cons_succ])
  refine wpAnyH_ready (rs := [0]) (by kernel_rfl) (by simp) ?_
  refine AllReadyH.cons (by simp only [List.getElem?_toArray, List.getElem?_cons_zero]; rfl) (fun K hK => ?_) AllReadyH.nil
  go_simp
  go_at_call 222
  refine (stdEnc_ok _).mono ?_
  rintro e w1 ⟨g, rfl, hA, he1⟩
  have HAT := Lib.hid hA
  clear hA
  refine hK.out _ _ ?_ (fun hHeld2 => ?_)
  · exact hHeld.trans he1
  clear hK K hHeld
  have hHeld := hHeld2
  clear hHeld2
  (try simp only [Act.put, List.setIfInBounds_toArray, List.set_cons_zero, List.set_cons_succ])
  refine wpAnyH_ready (rs := [3]) (by kernel_rfl) (by simp) ?_
  refine AllReadyH.cons (by simp only [List.getElem?_toArray, List.getElem?_cons_zero, List.getElem?_cons_succ]; rfl) (fun K hK => ?_) AllReadyH.nil
  go_simp
  go_at_call 220
  refine (HC.out g _ HAT.out).mono ?_
  rintro e w2 ⟨v, rfl, hv, he2⟩
  have HV := Lib.hid hv
  clear hv
  refine hK.out _ _ ?_ (fun hHeld2 => ?_)
  · exact hHeld.trans he2
  clear hK K hHeld
  have hHeld := hHeld2
  clear hHeld2
  (try simp only [Act.put, List.setIfInBounds_toArray, List.set_cons_zero, List.set_cons_succ])
  refine wpAnyH_take (i := 4) (v := ?_) (by simp only [List.getElem?_toArray, List.getElem?_cons_zero, List.getElem?_cons_succ]; rfl) (by kernel_rfl) (by kernel_rfl) (by kernel_rfl) (fun _ _ _ h => h) (Or.inl ⟨by rfl, ?_⟩) hHeld ?_
  rotate_left
  · ((intro wS hSw; (try dsimp only at hSw); go_simp) <;> (try with_reducible rfl))
  (try simp only [Act.put, List.setIfInBounds_toArray, List.set_cons_zero, List.set_cons_succ])
  refine wpAnyH_take (i := 5) (v := ?_) (by simp only [List.getElem?_toArray, List.getElem?_cons_zero, List.getElem?_cons_succ]; rfl) (by kernel_rfl) (by kernel_rfl) (by kernel_rfl) (fun _ _ _ h => h) (Or.inl ⟨by rfl, ?_⟩) hHeld ?_
  rotate_left
  · ((intro wS hSw; (try dsimp only at hSw); go_simp) <;> (try with_reducible rfl))
  (try simp only [Act.put, List.setIfInBounds_toArray, List.set_cons_zero, List.set_cons_succ])
  refine wpAnyH_take (i := 6) (v := ?_) (by simp only [List.getElem?_toArray, List.getElem?_cons_zero, List.getElem?_cons_succ]; rfl) (by kernel_rfl) (by kernel_rfl) (by kernel_rfl) (fun _ _ _ h => h) (Or.inl ⟨by rfl, ?_⟩) hHeld ?_
  rotate_left
  · ((intro wS hSw; (try dsimp only at hSw); go_simp) <;> (try with_reducible rfl))
  (try simp only [Act.put, List.setIfInBounds_toArray, List.set_cons_zero, List.set_cons_succ])
  refine wpAnyH_take (i := 7) (v := ?_) (by simp only [List.getElem?_toArray, List.getElem?_cons_zero, List.getElem?_cons_succ]; rfl) (by kernel_rfl) (by kernel_rfl) (by kernel_rfl) (fun _ _ _ h => h) (Or.inl ⟨by rfl, ?_⟩) hHeld ?_
  rotate_left
  · ((intro wS hSw; (try dsimp only at hSw); go_simp) <;> (try with_reducible rfl))
  (try simp only [Act.put, List.setIfInBounds_toArray, List.set_cons_zero, List.set_cons_succ])
  refine wpAnyH_take (i := 8) (v := ?_) (by simp only [List.getElem?_toArray, List.getElem?_cons_zero, List.getElem?_cons_succ]; rfl) (by kernel_rfl) (by kernel_rfl) (by kernel_rfl) (fun _ _ _ h => h) (Or.inl ⟨by rfl, ?_⟩) hHeld ?_
  rotate_left
  · ((intro wS hSw; (try dsimp only at hSw); go_simp) <;> (try with_reducible rfl))
  (try simp only [Act.put, List.setIfInBounds_toArray, List.set_cons_zero, List.set_cons_succ])
  refine wpAnyH_done (by kernel_rfl) ?_ _
  refine NoPanic.normal ?_
  go_wp2_with (fail)
  go_ret3
  exact ⟨_, v, rfl, HV.out, hHeld⟩

set_option maxRecDepth 100000 in
theorem mb67_ok (bs : List UInt8) (hlen : bs.length ≤ 1000) (hz : leadZ bs < bs.length) (w : World) : Calls Tryz.prog 176 #[.string ⟨(mbText 67 bs).toArray⟩] w fun e w' => ∃ enc v, e = .returned (.tuple #[enc, v, .nilIface]) ∧ By w' bs v ∧ Ext w w' := by
  have HC := Lib.hid (fun g w hE => b32Decode_ok stdL (61) bs (mbBody 67 bs) _ (txt32 67 stdL (by decide) rfl bs).1 hlen (by omega) (txt32 67 stdL (by decide) rfl bs).2 g w hE)
  obtain ⟨S, hS⟩ : ∃ S : ByteArray, S = ⟨(mbText 67 bs).toArray⟩ := ⟨_, rfl⟩
  rw [← hS]
  have hSz : 0 < S.size := by rw [Lib.size_eq, hS]; simp [mbText]
  have h0 : S[0].toNat = 67 := by rw [getElem_eq hS hSz]; rfl
  have hex : S.extract 1 S.size = ⟨(mbBody 67 bs).toArray⟩ := by
    rw [extract_list hS, hS]
    simp [mbText, ByteArray.size]
  have HDR := Lib.hid (fun w => decodeRune_ok S 67 (by decide) hSz h0 w)
  obtain ⟨Bd, hBd⟩ : ∃ Bd : ByteArray, Bd = ⟨(mbBody 67 bs).toArray⟩ := ⟨_, rfl⟩
  rw [← hBd] at hex
  have HBD := Lib.hid hBd
  have hSI : ((S.size : Int) == 0) = false := by rw [beq_eq_false_iff_ne]; omega
  have hS1 : (1 : Int) ≤ (S.size : Int) := by omega
  clear hS h0 hBd hSz
  rw [← HBD.out] at HC
  clear hlen hz
  go_enter Tryz.func176, Tryz.ntmps176
  go_wp2_with (go_at_call 216; refine (HDR.out _).mono ?_; rintro e w0 ⟨rfl, rfl⟩)
  refine wp_region_noPanic ?_
  refine wp_region_held_drew (S := fun w' => Ext w w') (by kernel_rfl) ?_ (fun hHeld => ?_)
  · exact Ext.drew (Ext.refl _)
  refine wpAnyH_take (i := 1) (v := ?_) (by simp only [List.getElem?_toArray, List.getElem?_cons_zero, List.getElem?_cons_succ]; rfl) (by kernel_rfl) (by kernel_rfl) (by kernel_rfl) (fun _ _ _ h => h) (Or.inl ⟨by rfl, ?_⟩) hHeld ?_
  rotate_left
  · ((intro wS hSw; (try dsimp only at hSw); go_simp) <;> (try with_reducible rfl))
  (try simp only [Act.put, List.setIfInBounds_toArray, List.set_cons_zero, List.set_cons_succ])
  refine wpAnyH_take (i := 2) (v := ?_) (by simp only [List.getElem?_toArray, List.getElem?_cons_zero, List.getElem?_cons_succ]; rfl) (by kernel_rfl) (by kernel_rfl) (by kernel_rfl) (fun _ _ _ h => h) (Or.inl ⟨by rfl, ?_⟩) hHeld ?_
  rotate_left
  · ((intro wS hSw; (try dsimp only at hSw); go_simp) <;> (try with_reducible rfl))
  (try simp only [Act.put, List.setIfInBounds_toArray, List.set_cons_zero, List.set_cons_succ])
  refine wpAnyH_ready (rs := [0]) (by kernel_rfl) (by simp) ?_
  refine AllReadyH.cons (by simp only [List.getElem?_toArray, List.getElem?_cons_zero]; rfl) (fun K hK => ?_) AllReadyH.nil
  go_simp
  go_at_call 222
  refine (stdEnc_ok _).mono ?_
  rintro e w1 ⟨g, rfl, hA, he1⟩
  have HAT := Lib.hid hA
  clear hA
  refine hK.out _ _ ?_ (fun hHeld2 => ?_)
  · exact hHeld.trans he1
  clear hK K hHeld
  have hHeld := hHeld2
  clear hHeld2
  (try simp only [Act.put, List.setIfInBounds_toArray, List.set_cons_zero, List.set_cons_succ])
  refine wpAnyH_ready (rs := [3]) (by kernel_rfl) (by simp) ?_
  refine AllReadyH.cons (by simp only [List.getElem?_toArray, List.getElem?_cons_zero, List.getElem?_cons_succ]; rfl) (fun K hK => ?_) AllReadyH.nil
  go_simp
  go_at_call 220
  refine (HC.out g _ HAT.out).mono ?_
  rintro e w2 ⟨v, rfl, hv, he2⟩
  have HV := Lib.hid hv
  clear hv
  refine hK.out _ _ ?_ (fun hHeld2 => ?_)
  · exact hHeld.trans he2
  clear hK K hHeld
  have hHeld := hHeld2
  clear hHeld2
  (try simp only [Act.put, List.setIfInBounds_toArray, List.set_cons_zero, List.set_cons_succ])
  refine wpAnyH_take (i := 4) (v := ?_) (by simp only [List.getElem?_toArray, List.getElem?_cons_zero, List.getElem?_cons_succ]; rfl) (by kernel_rfl) (by kernel_rfl) (by kernel_rfl) (fun _ _ _ h => h) (Or.inl ⟨by rfl, ?_⟩) hHeld ?_
  rotate_left
  · ((intro wS hSw; (try dsimp only at hSw); go_simp) <;> (try with_reducible rfl))
  (try simp only [Act.put, List.setIfInBounds_toArray, List.set_cons_zero, List.set_cons_succ])
  refine wpAnyH_take (i := 5) (v := ?_) (by simp only [List.getElem?_toArray, List.getElem?_cons_zero, List.getElem?_cons_succ]; rfl) (by kernel_rfl) (by kernel_rfl) (by kernel_rfl) (fun _ _ _ h => h) (Or.inl ⟨by rfl, ?_⟩) hHeld ?_
  rotate_left
  · ((intro wS hSw; (try dsimp only at hSw); go_simp) <;> (try with_reducible rfl))
  (try simp only [Act.put, List.setIfInBounds_toArray, List.set_cons_zero, List.set_cons_succ])
  refine wpAnyH_take (i := 6) (v := ?_) (by simp only [List.getElem?_toArray, List.getElem?_cons_zero, List.getElem?_cons_succ]; rfl) (by kernel_rfl) (by kernel_rfl) (by kernel_rfl) (fun _ _ _ h => h) (Or.inl ⟨by rfl, ?_⟩) hHeld ?_
  rotate_left
  · ((intro wS hSw; (try dsimp only at hSw); go_simp) <;> (try with_reducible rfl))
  (try simp only [Act.put, List.setIfInBounds_toArray, List.set_cons_zero, List.set_cons_succ])
  refine wpAnyH_take (i := 7) (v := ?_) (by simp only [List.getElem?_toArray, List.getElem?_cons_zero, List.getElem?_cons_succ]; rfl) (by kernel_rfl) (by kernel_rfl) (by kernel_rfl) (fun _ _ _ h => h) (Or.inl ⟨by rfl, ?_⟩) hHeld ?_
  rotate_left
  · ((intro wS hSw; (try dsimp only at hSw); go_simp) <;> (try with_reducible rfl))
  (try simp only [Act.put, List.setIfInBounds_toArray, List.set_cons_zero, List.set_cons_succ])
  refine wpAnyH_take (i := 8) (v := ?_) (by simp only [List.getElem?_toArray, List.getElem?_cons_zero, List.getElem?_cons_succ]; rfl) (by kernel_rfl) (by kernel_rfl) (by kernel_rfl) (fun _ _ _ h => h) (Or.inl ⟨by rfl, ?_⟩) hHeld ?_
  rotate_left
  · ((intro wS hSw; (try dsimp only at hSw); go_simp) <;> (try with_reducible rfl))
  (try simp only [Act.put, List.setIfInBounds_toArray, List.set_cons_zero, List.set_cons_succ])
  refine wpAnyH_done (by kernel_rfl) ?_ _
  refine NoPanic.normal ?_
  go_wp2_with (fail)
  go_ret3
  exact ⟨_, v, rfl, HV.out, hHeld⟩

set_option maxRecDepth 100000 in
theorem mb116_ok (bs : List UInt8) (hlen : bs.length ≤ 1000) (hz : leadZ bs < bs.length) (w : World) : Calls Tryz.prog 176 #[.string ⟨(mbText 116 bs).toArray⟩] w fun e w' => ∃ enc v, e = .returned (.tuple #[enc, v, .nilIface]) ∧ By w' bs v ∧ Ext w w' := by
  have HC := Lib.hid (fun g w hE => b32Decode_ok hexL (61) bs (mbBody 116 bs) _ (txt32 116 hexL (by decide) rfl bs).1 hlen (by omega) (txt32 116 hexL (by decide) rfl bs).2 g w hE)
  obtain ⟨S, hS⟩ : ∃ S : ByteArray, S = ⟨(mbText 116 bs).toArray⟩ := ⟨_, rfl⟩
  rw [← hS]
  have hSz : 0 < S.size := by rw [Lib.size_eq, hS]; simp [mbText]
  have h0 : S[0].toNat = 116 := by rw [getElem_eq hS hSz]; rfl
  have hex : S.extract 1 S.size = ⟨(mbBody 116 bs).toArray⟩ := by
    rw [extract_list hS, hS]
    simp [mbText, ByteArray.size]
  have HDR := Lib.hid (fun w => decodeRune_ok S 116 (by decide) hSz h0 w)
  obtain ⟨Bd, hBd⟩ : ∃ Bd : ByteArray, Bd = ⟨(mbBody 116 bs).toArray⟩ := ⟨_, rfl⟩
  rw [← hBd] at hex
  have HBD := Lib.hid hBd
  have hSI : ((S.size : Int) == 0) = false := by rw [beq_eq_false_iff_ne]; omega
  have hS1 : (1 : Int) ≤ (S.size : Int) := by omega
  clear hS h0 hBd hSz
  rw [← HBD.out] at HC
  clear hlen hz
  go_enter Tryz.func176, Tryz.ntmps176
  go_wp2_with (go_at_call 216; refine (HDR.out _).mono ?_; rintro e w0 ⟨rfl, rfl⟩)
  refine wp_region_noPanic ?_
  refine wp_region_held_drew (S := fun w' => Ext w w') (by kernel_rfl) ?_ (fun hHeld => ?_)
  · exact Ext.drew (Ext.refl _)
  refine wpAnyH_take (i := 1) (v := ?_) (by simp only [List.getElem?_toArray, List.getElem?_cons_zero, List.getElem?_cons_succ]; rfl) (by kernel_rfl) (by kernel_rfl) (by kernel_rfl) (fun _ _ _ h => h) (Or.inl ⟨by rfl, ?_⟩) hHeld ?_
  rotate_left
  · ((intro wS hSw; (try dsimp only at hSw); go_simp) <;> (try with_reducible rfl))
  (try simp only [Act.put, List.setIfInBounds_toArray, List.set_cons_zero, List.set_cons_succ])
  refine wpAnyH_take (i := 2) (v := ?_) (by simp only [List.getElem?_toArray, List.getElem?_cons_zero, List.getElem?_cons_succ]; rfl) (by kernel_rfl) (by kernel_rfl) (by kernel_rfl) (fun _ _ _ h => h) (Or.inl ⟨by rfl, ?_⟩) hHeld ?_
  rotate_left
  · ((intro wS hSw; (try dsimp only at hSw); go_simp) <;> (try with_reducible rfl))
  (try simp only [Act.put, List.setIfInBounds_toArray, List.set_cons_zero, List.set_cons_succ])
  refine wpAnyH_ready (rs := [0]) (by kernel_rfl) (by simp) ?_
  refine AllReadyH.cons (by simp only [List.getElem?_toArray, List.getElem?_cons_zero]; rfl) (fun K hK => ?_) AllReadyH.nil
  go_simp
  go_at_call 223
  refine (hexEnc_ok _).mono ?_
  rintro e w1 ⟨g, rfl, hA, he1⟩
  have HAT := Lib.hid hA
  clear hA
  refine hK.out _ _ ?_ (fun hHeld2 => ?_)
  · exact hHeld.trans he1
  clear hK K hHeld
  have hHeld := hHeld2
  clear hHeld2
  (try simp only [Act.put, List.setIfInBounds_toArray, List.set_cons_zero, List.set_cons_succ])
  refine wpAnyH_ready (rs := [3]) (by kernel_rfl) (by simp) ?_
  refine AllReadyH.cons (by simp only [List.getElem?_toArray, List.getElem?_cons_zero, List.getElem?_cons_succ]; rfl) (fun K hK => ?_) AllReadyH.nil
  go_simp
  go_at_call 220
  refine (HC.out g _ HAT.out).mono ?_
  rintro e w2 ⟨v, rfl, hv, he2⟩
  have HV := Lib.hid hv
  clear hv
  refine hK.out _ _ ?_ (fun hHeld2 => ?_)
  · exact hHeld.trans he2
  clear hK K hHeld
  have hHeld := hHeld2
  clear hHeld2
  (try simp only [Act.put, List.setIfInBounds_toArray, List.set_cons_zero, List.set_cons_succ])
  refine wpAnyH_take (i := 4) (v := ?_) (by simp only [List.getElem?_toArray, List.getElem?_cons_zero, List.getElem?_cons_succ]; rfl) (by kernel_rfl) (by kernel_rfl) (by kernel_rfl) (fun _ _ _ h => h) (Or.inl ⟨by rfl, ?_⟩) hHeld ?_
  rotate_left
  · ((intro wS hSw; (try dsimp only at hSw); go_simp) <;> (try with_reducible rfl))
  (try simp only [Act.put, List.setIfInBounds_toArray, List.set_cons_zero, List.set_cons_succ])
  refine wpAnyH_take (i := 5) (v := ?_) (by simp only [List.getElem?_toArray, List.getElem?_cons_zero, List.getElem?_cons_succ]; rfl) (by kernel_rfl) (by kernel_rfl) (by kernel_rfl) (fun _ _ _ h => h) (Or.inl ⟨by rfl, ?_⟩) hHeld ?_
  rotate_left
  · ((intro wS hSw; (try dsimp only at hSw); go_simp) <;> (try with_reducible rfl))
  (try simp only [Act.put, List.setIfInBounds_toArray, List.set_cons_zero, List.set_cons_succ])
  refine wpAnyH_take (i := 6) (v := ?_) (by simp only [List.getElem?_toArray, List.getElem?_cons_zero, List.getElem?_cons_succ]; rfl) (by kernel_rfl) (by kernel_rfl) (by kernel_rfl) (fun _ _ _ h => h) (Or.inl ⟨by rfl, ?_⟩) hHeld ?_
  rotate_left
  · ((intro wS hSw; (try dsimp only at hSw); go_simp) <;> (try with_reducible rfl))
  (try simp only [Act.put, List.setIfInBounds_toArray, List.set_cons_zero, List.set_cons_succ])
  refine wpAnyH_take (i := 7) (v := ?_) (by simp only [List.getElem?_toArray, List.getElem?_cons_zero, List.getElem?_cons_succ]; rfl) (by kernel_rfl) (by kernel_rfl) (by kernel_rfl) (fun _ _ _ h => h) (Or.inl ⟨by rfl, ?_⟩) hHeld ?_
  rotate_left
  · ((intro wS hSw; (try dsimp only at hSw); go_simp) <;> (try with_reducible rfl))
  (try simp only [Act.put, List.setIfInBounds_toArray, List.set_cons_zero, List.set_cons_succ])
  refine wpAnyH_take (i := 8) (v := ?_) (by simp only [List.getElem?_toArray, List.getElem?_cons_zero, List.getElem?_cons_succ]; rfl) (by kernel_rfl) (by kernel_rfl) (by kernel_rfl) (fun _ _ _ h => h) (Or.inl ⟨by rfl, ?_⟩) hHeld ?_
  rotate_left
  · ((intro wS hSw; (try dsimp only at hSw); go_simp) <;> (try with_reducible rfl))
  (try simp only [Act.put, List.setIfInBounds_toArray, List.set_cons_zero, List.set_cons_succ])
  refine wpAnyH_done (by kernel_rfl) ?_ _
  refine NoPanic.normal ?_
  go_wp2_with (fail)
  go_ret3
  exact ⟨_, v, rfl, HV.out, hHeld⟩

set_option maxRecDepth 100000 in
theorem mb84_ok (bs : List UInt8) (hlen : bs.length ≤ 1000) (hz : leadZ bs < bs.length) (w : World) : Calls Tryz.prog 176 #[.string ⟨(mbText 84 bs).toArray⟩] w fun e w' => ∃ enc v, e = .returned (.tuple #[enc, v, .nilIface]) ∧ By w' bs v ∧ Ext w w' := by
  have HC := Lib.hid (fun g w hE => b32Decode_ok hexL (61) bs (mbBody 84 bs) _ (txt32 84 hexL (by decide) rfl bs).1 hlen (by omega) (txt32 84 hexL (by decide) rfl bs).2 g w hE)
  obtain ⟨S, hS⟩ : ∃ S : ByteArray, S = ⟨(mbText 84 bs).toArray⟩ := ⟨_, rfl⟩
  rw [← hS]
  have hSz : 0 < S.size := by rw [Lib.size_eq, hS]; simp [mbText]
  have h0 : S[0].toNat = 84 := by rw [getElem_eq hS hSz]; rfl
  have hex : S.extract 1 S.size = ⟨(mbBody 84 bs).toArray⟩ := by
    rw [extract_list hS, hS]
    simp [mbText, ByteArray.size]
  have HDR := Lib.hid (fun w => decodeRune_ok S 84 (by decide) hSz h0 w)
  obtain ⟨Bd, hBd⟩ : ∃ Bd : ByteArray, Bd = ⟨(mbBody 84 bs).toArray⟩ := ⟨_, rfl⟩
  rw [← hBd] at hex
  have HBD := Lib.hid hBd
  have hSI : ((S.size : Int) == 0) = false := by rw [beq_eq_false_iff_ne]; omega
  have hS1 : (1 : Int) ≤ (S.size : Int) := by omega
  clear hS h0 hBd hSz
  rw [← HBD.out] at HC
  clear hlen hz
  go_enter Tryz.func176, Tryz.ntmps176
  go_wp2_with (go_at_call 216; refine (HDR.out _).mono ?_; rintro e w0 ⟨rfl, rfl⟩)
  refine wp_region_noPanic ?_
  refine wp_region_held_drew (S := fun w' => Ext w w') (by kernel_rfl) ?_ (fun hHeld => ?_)
  · exact Ext.drew (Ext.refl _)
  refine wpAnyH_take (i := 1) (v := ?_) (by simp only [List.getElem?_toArray, List.getElem?_cons_zero, List.getElem?_cons_succ]; rfl) (by kernel_rfl) (by kernel_rfl) (by kernel_rfl) (fun _ _ _ h => h) (Or.inl ⟨by rfl, ?_⟩) hHeld ?_
  rotate_left
  · ((intro wS hSw; (try dsimp only at hSw); go_simp) <;> (try with_reducible rfl))
  (try simp only [Act.put, List.setIfInBounds_toArray, List.set_cons_zero, List.set_cons_succ])
  refine wpAnyH_take (i := 2) (v := ?_) (by simp only [List.getElem?_toArray, List.getElem?_cons_zero, List.getElem?_cons_succ]; rfl) (by kernel_rfl) (by kernel_rfl) (by kernel_rfl) (fun _ _ _ h => h) (Or.inl ⟨by rfl, ?_⟩) hHeld ?_
  rotate_left
  · ((intro wS hSw; (try dsimp only at hSw); go_simp) <;> (try with_reducible rfl))
  (try simp only [Act.put, List.setIfInBounds_toArray, List.set_cons_zero, List.set_cons_succ])
  refine wpAnyH_ready (rs := [0]) (by kernel_rfl) (by simp) ?_
  refine AllReadyH.cons (by simp only [List.getElem?_toArray, List.getElem?_cons_zero]; rfl) (fun K hK => ?_) AllReadyH.nil
  go_simp
  go_at_call 223
  refine (hexEnc_ok _).mono ?_
  rintro e w1 ⟨g, rfl, hA, he1⟩
  have HAT := Lib.hid hA
  clear hA
  refine hK.out _ _ ?_ (fun hHeld2 => ?_)
  · exact hHeld.trans he1
  clear hK K hHeld
  have hHeld := hHeld2
  clear hHeld2
  (try simp only [Act.put, List.setIfInBounds_toArray, List.set_cons_zero, List.set_cons_succ])
  refine wpAnyH_ready (rs := [3]) (by kernel_rfl) (by simp) ?_
  refine AllReadyH.cons (by simp only [List.getElem?_toArray, List.getElem?_cons_zero, List.getElem?_cons_succ]; rfl) (fun K hK => ?_) AllReadyH.nil
  go_simp
  go_at_call 220
  refine (HC.out g _ HAT.out).mono ?_
  rintro e w2 ⟨v, rfl, hv, he2⟩
  have HV := Lib.hid hv
  clear hv
  refine hK.out _ _ ?_ (fun hHeld2 => ?_)
  · exact hHeld.trans he2
  clear hK K hHeld
  have hHeld := hHeld2
  clear hHeld2
  (try simp only [Act.put, List.setIfInBounds_toArray, List.set_cons_zero, List.set_cons_succ])
  refine wpAnyH_take (i := 4) (v := ?_) (by simp only [List.getElem?_toArray, List.getElem?_cons_zero, List.getElem?_cons_succ]; rfl) (by kernel_rfl) (by kernel_rfl) (by kernel_rfl) (fun _ _ _ h => h) (Or.inl ⟨by rfl, ?_⟩) hHeld ?_
  rotate_left
  · ((intro wS hSw; (try dsimp only at hSw); go_simp) <;> (try with_reducible rfl))
  (try simp only [Act.put, List.setIfInBounds_toArray, List.set_cons_zero, List.set_cons_succ])
  refine wpAnyH_take (i := 5) (v := ?_) (by simp only [List.getElem?_toArray, List.getElem?_cons_zero, List.getElem?_cons_succ]; rfl) (by kernel_rfl) (by kernel_rfl) (by kernel_rfl) (fun _ _ _ h => h) (Or.inl ⟨by rfl, ?_⟩) hHeld ?_
  rotate_left
  · ((intro wS hSw; (try dsimp only at hSw); go_simp) <;> (try with_reducible rfl))
  (try simp only [Act.put, List.setIfInBounds_toArray, List.set_cons_zero, List.set_cons_succ])
  refine wpAnyH_take (i := 6) (v := ?_) (by simp only [List.getElem?_toArray, List.getElem?_cons_zero, List.getElem?_cons_succ]; rfl) (by kernel_rfl) (by kernel_rfl) (by kernel_rfl) (fun _ _ _ h => h) (Or.inl ⟨by rfl, ?_⟩) hHeld ?_
  rotate_left
  · ((intro wS hSw; (try dsimp only at hSw); go_simp) <;> (try with_reducible rfl))
  (try simp only [Act.put, List.setIfInBounds_toArray, List.set_cons_zero, List.set_cons_succ])
  refine wpAnyH_take (i := 7) (v := ?_) (by simp only [List.getElem?_toArray, List.getElem?_cons_zero, List.getElem?_cons_succ]; rfl) (by kernel_rfl) (by kernel_rfl) (by kernel_rfl) (fun _ _ _ h => h) (Or.inl ⟨by rfl, ?_⟩) hHeld ?_
  rotate_left
  · ((intro wS hSw; (try dsimp only at hSw); go_simp) <;> (try with_reducible rfl))
  (try simp only [Act.put, List.setIfInBounds_toArray, List.set_cons_zero, List.set_cons_succ])
  refine wpAnyH_take (i := 8) (v := ?_) (by simp only [List.getElem?_toArray, List.getElem?_cons_zero, List.getElem?_cons_succ]; rfl) (by kernel_rfl) (by kernel_rfl) (by kernel_rfl) (fun _ _ _ h => h) (Or.inl ⟨by rfl, ?_⟩) hHeld ?_
  rotate_left
  · ((intro wS hSw; (try dsimp only at hSw); go_simp) <;> (try with_reducible rfl))
  (try simp only [Act.put, List.setIfInBounds_toArray, List.set_cons_zero, List.set_cons_succ])
  refine wpAnyH_done (by kernel_rfl) ?_ _
  refine NoPanic.normal ?_
  go_wp2_with (fail)
  go_ret3
  exact ⟨_, v, rfl, HV.out, hHeld⟩

set_option maxRecDepth 100000 in
theorem mb107_ok (bs : List UInt8) (hlen : bs.length ≤ 1000) (hz : leadZ bs < bs.length) (w : World) : Calls Tryz.prog 176 #[.string ⟨(mbText 107 bs).toArray⟩] w fun e w' => ∃ enc v, e = .returned (.tuple #[enc, v, .nilIface]) ∧ By w' bs v ∧ Ext w w' := by
  have HC := Lib.hid (b36Decode_ok 107 (by decide) bs hlen hz w)
  rw [show numText (charsL 107) 36 bs = mbBody 107 bs by unfold mbBody; rw [if_pos (by decide)]; rfl] at HC
  obtain ⟨S, hS⟩ : ∃ S : ByteArray, S = ⟨(mbText 107 bs).toArray⟩ := ⟨_, rfl⟩
  rw [← hS]
  have hSz : 0 < S.size := by rw [Lib.size_eq, hS]; simp [mbText]
  have h0 : S[0].toNat = 107 := by rw [getElem_eq hS hSz]; rfl
  have hex : S.extract 1 S.size = ⟨(mbBody 107 bs).toArray⟩ := by
    rw [extract_list hS, hS]
    simp [mbText, ByteArray.size]
  have HDR := Lib.hid (fun w => decodeRune_ok S 107 (by decide) hSz h0 w)
  obtain ⟨Bd, hBd⟩ : ∃ Bd : ByteArray, Bd = ⟨(mbBody 107 bs).toArray⟩ := ⟨_, rfl⟩
  rw [← hBd] at hex
  have HBD := Lib.hid hBd
  have hSI : ((S.size : Int) == 0) = false := by rw [beq_eq_false_iff_ne]; omega
  have hS1 : (1 : Int) ≤ (S.size : Int) := by omega
  clear hS h0 hBd hSz
  rw [← HBD.out] at HC
  clear hlen hz
  go_enter Tryz.func176, Tryz.ntmps176
  go_wp2_with (go_at_call 216; refine (HDR.out _).mono ?_; rintro e w0 ⟨rfl, rfl⟩)
  refine HC.out.mono ?_
  rintro e w1 ⟨v, rfl, hv, he⟩
  have HV := Lib.hid (And.intro hv he)
  clear hv he
  go_wp2_with (fail)
  go_ret3
  exact ⟨_, v, rfl, HV.out⟩

set_option maxRecDepth 100000 in
theorem mb75_ok (bs : List UInt8) (hlen : bs.length ≤ 1000) (hz : leadZ bs < bs.length) (w : World) : Calls Tryz.prog 176 #[.string ⟨(mbText 75 bs).toArray⟩] w fun e w' => ∃ enc v, e = .returned (.tuple #[enc, v, .nilIface]) ∧ By w' bs v ∧ Ext w w' := by
  have HC := Lib.hid (b36Decode_ok 75 (by decide) bs hlen hz w)
  rw [show numText (charsL 75) 36 bs = mbBody 75 bs by unfold mbBody; rw [if_pos (by decide)]; rfl] at HC
  obtain ⟨S, hS⟩ : ∃ S : ByteArray, S = ⟨(mbText 75 bs).toArray⟩ := ⟨_, rfl⟩
  rw [← hS]
  have hSz : 0 < S.size := by rw [Lib.size_eq, hS]; simp [mbText]
  have h0 : S[0].toNat = 75 := by rw [getElem_eq hS hSz]; rfl
  have hex : S.extract 1 S.size = ⟨(mbBody 75 bs).toArray⟩ := by
    rw [extract_list hS, hS]
    simp [mbText, ByteArray.size]
  have HDR := Lib.hid (fun w => decodeRune_ok S 75 (by decide) hSz h0 w)
  obtain ⟨Bd, hBd⟩ : ∃ Bd : ByteArray, Bd = ⟨(mbBody 75 bs).toArray⟩ := ⟨_, rfl⟩
  rw [← hBd] at hex
  have HBD := Lib.hid hBd
  have hSI : ((S.size : Int) == 0) = false := by rw [beq_eq_false_iff_ne]; omega
  have hS1 : (1 : Int) ≤ (S.size : Int) := by omega
  clear hS h0 hBd hSz
  rw [← HBD.out] at HC
  clear hlen hz
  go_enter Tryz.func176, Tryz.ntmps176
  go_wp2_with (go_at_call 216; refine (HDR.out _).mono ?_; rintro e w0 ⟨rfl, rfl⟩)
  refine HC.out.mono ?_
  rintro e w1 ⟨v, rfl, hv, he⟩
  have HV := Lib.hid (And.intro hv he)
  clear hv he
  go_wp2_with (fail)
  go_ret3
  exact ⟨_, v, rfl, HV.out⟩

set_option maxRecDepth 100000 in
theorem mb122_ok (bs : List UInt8) (hlen : bs.length ≤ 1000) (hz : leadZ bs < bs.length) (w : World) : Calls Tryz.prog 176 #[.string ⟨(mbText 122 bs).toArray⟩] w fun e w' => ∃ enc v, e = .returned (.tuple #[enc, v, .nilIface]) ∧ By w' bs v ∧ Ext w w' := by
  have HC := Lib.hid (fun g w hA => b58DecodeA_ok 122 (by decide) bs hlen hz g w hA)
  rw [show numText (charsL 122) 58 bs = mbBody 122 bs by unfold mbBody; rw [if_pos (by decide)]; rfl] at HC
  obtain ⟨S, hS⟩ : ∃ S : ByteArray, S = ⟨(mbText 122 bs).toArray⟩ := ⟨_, rfl⟩
  rw [← hS]
  have hSz : 0 < S.size := by rw [Lib.size_eq, hS]; simp [mbText]
  have h0 : S[0].toNat = 122 := by rw [getElem_eq hS hSz]; rfl
  have hex : S.extract 1 S.size = ⟨(mbBody 122 bs).toArray⟩ := by
    rw [extract_list hS, hS]
    simp [mbText, ByteArray.size]
  have HDR := Lib.hid (fun w => decodeRune_ok S 122 (by decide) hSz h0 w)
  obtain ⟨Bd, hBd⟩ : ∃ Bd : ByteArray, Bd = ⟨(mbBody 122 bs).toArray⟩ := ⟨_, rfl⟩
  rw [← hBd] at hex
  have HBD := Lib.hid hBd
  have hSI : ((S.size : Int) == 0) = false := by rw [beq_eq_false_iff_ne]; omega
  have hS1 : (1 : Int) ≤ (S.size : Int) := by omega
  clear hS h0 hBd hSz
  rw [← HBD.out] at HC
  clear hlen hz
  go_enter Tryz.func176, Tryz.ntmps176
  go_wp2_with (go_at_call 216; refine (HDR.out _).mono ?_; rintro e w0 ⟨rfl, rfl⟩)
  refine wp_region_noPanic ?_
  refine wp_region_held_drew (S := fun w' => Ext w w') (by kernel_rfl) ?_ (fun hHeld => ?_)
  · exact Ext.drew (Ext.refl _)
  refine wpAnyH_take (i := 0) (v := ?_) (by simp only [List.getElem?_toArray, List.getElem?_cons_zero]; rfl) (by kernel_rfl) (by kernel_rfl) (by kernel_rfl) (fun _ _ _ h => h) (Or.inl ⟨by rfl, ?_⟩) hHeld ?_
  rotate_left
  · ((intro wS hSw; (try dsimp only at hSw); go_simp) <;> (try with_reducible rfl))
  (try simp only [Act.put, List.setIfInBounds_toArray, List.set_cons_zero, List.set_cons_succ])
  refine wpAnyH_take (i := 1) (v := ?_) (by simp only [List.getElem?_toArray, List.getElem?_cons_zero, List.getElem?_cons_succ]; rfl) (by kernel_rfl) (by kernel_rfl) (by kernel_rfl) (fun _ _ _ h => h) (Or.inl ⟨by rfl, ?_⟩) hHeld ?_
  rotate_left
  · ((intro wS hSw; (try dsimp only at hSw); go_simp) <;> (try with_reducible rfl))
  (try simp only [Act.put, List.setIfInBounds_toArray, List.set_cons_zero, List.set_cons_succ])
  refine wpAnyH_ready (rs := [2]) (by kernel_rfl) (by simp) ?_
  refine AllReadyH.cons (by simp only [List.getElem?_toArray, List.getElem?_cons_zero, List.getElem?_cons_succ]; rfl) (fun K hK => ?_) AllReadyH.nil
  go_simp
  go_at_call 226
  refine (btc_ok _).mono ?_
  rintro e w1 ⟨g, rfl, hA, he1⟩
  have HAT := Lib.hid hA
  clear hA
  refine hK.out _ _ ?_ (fun hHeld2 => ?_)
  · exact hHeld.trans he1
  clear hK K hHeld
  have hHeld := hHeld2
  clear hHeld2
  (try simp only [Act.put, List.setIfInBounds_toArray, List.set_cons_zero, List.set_cons_succ])
  refine wpAnyH_ready (rs := [3]) (by kernel_rfl) (by simp) ?_
  refine AllReadyH.cons (by simp only [List.getElem?_toArray, List.getElem?_cons_zero, List.getElem?_cons_succ]; rfl) (fun K hK => ?_) AllReadyH.nil
  go_simp
  go_at_call 225
  refine (HC.out g _ HAT.out).mono ?_
  rintro e w2 ⟨v, rfl, hv, he2⟩
  have HV := Lib.hid hv
  clear hv
  refine hK.out _ _ ?_ (fun hHeld2 => ?_)
  · exact hHeld.trans he2
  clear hK K hHeld
  have hHeld := hHeld2
  clear hHeld2
  (try simp only [Act.put, List.setIfInBounds_toArray, List.set_cons_zero, List.set_cons_succ])
  refine wpAnyH_take (i := 4) (v := ?_) (by simp only [List.getElem?_toArray, List.getElem?_cons_zero, List.getElem?_cons_succ]; rfl) (by kernel_rfl) (by kernel_rfl) (by kernel_rfl) (fun _ _ _ h => h) (Or.inl ⟨by rfl, ?_⟩) hHeld ?_
  rotate_left
  · ((intro wS hSw; (try dsimp only at hSw); go_simp) <;> (try with_reducible rfl))
  (try simp only [Act.put, List.setIfInBounds_toArray, List.set_cons_zero, List.set_cons_succ])
  refine wpAnyH_take (i := 5) (v := ?_) (by simp only [List.getElem?_toArray, List.getElem?_cons_zero, List.getElem?_cons_succ]; rfl) (by kernel_rfl) (by kernel_rfl) (by kernel_rfl) (fun _ _ _ h => h) (Or.inl ⟨by rfl, ?_⟩) hHeld ?_
  rotate_left
  · ((intro wS hSw; (try dsimp only at hSw); go_simp) <;> (try with_reducible rfl))
  (try simp only [Act.put, List.setIfInBounds_toArray, List.set_cons_zero, List.set_cons_succ])
  refine wpAnyH_take (i := 6) (v := ?_) (by simp only [List.getElem?_toArray, List.getElem?_cons_zero, List.getElem?_cons_succ]; rfl) (by kernel_rfl) (by kernel_rfl) (by kernel_rfl) (fun _ _ _ h => h) (Or.inl ⟨by rfl, ?_⟩) hHeld ?_
  rotate_left
  · ((intro wS hSw; (try dsimp only at hSw); go_simp) <;> (try with_reducible rfl))
  (try simp only [Act.put, List.setIfInBounds_toArray, List.set_cons_zero, List.set_cons_succ])
  refine wpAnyH_take (i := 7) (v := ?_) (by simp only [List.getElem?_toArray, List.getElem?_cons_zero, List.getElem?_cons_succ]; rfl) (by kernel_rfl) (by kernel_rfl) (by kernel_rfl) (fun _ _ _ h => h) (Or.inl ⟨by rfl, ?_⟩) hHeld ?_
  rotate_left
  · ((intro wS hSw; (try dsimp only at hSw); go_simp) <;> (try with_reducible rfl))
  (try simp only [Act.put, List.setIfInBounds_toArray, List.set_cons_zero, List.set_cons_succ])
  refine wpAnyH_take (i := 8) (v := ?_) (by simp only [List.getElem?_toArray, List.getElem?_cons_zero, List.getElem?_cons_succ]; rfl) (by kernel_rfl) (by kernel_rfl) (by kernel_rfl) (fun _ _ _ h => h) (Or.inl ⟨by rfl, ?_⟩) hHeld ?_
  rotate_left
  · ((intro wS hSw; (try dsimp only at hSw); go_simp) <;> (try with_reducible rfl))
  (try simp only [Act.put, List.setIfInBounds_toArray, List.set_cons_zero, List.set_cons_succ])
  refine wpAnyH_done (by kernel_rfl) ?_ _
  refine NoPanic.normal ?_
  go_wp2_with (fail)
  go_ret3
  exact ⟨_, v, rfl, HV.out, hHeld⟩

set_option maxRecDepth 100000 in
theorem mb90_ok (bs : List UInt8) (hlen : bs.length ≤ 1000) (hz : leadZ bs < bs.length) (w : World) : Calls Tryz.prog 176 #[.string ⟨(mbText 90 bs).toArray⟩] w fun e w' => ∃ enc v, e = .returned (.tuple #[enc, v, .nilIface]) ∧ By w' bs v ∧ Ext w w' := by
  have HC := Lib.hid (fun g w hA => b58DecodeA_ok 90 (by decide) bs hlen hz g w hA)
  rw [show numText (charsL 90) 58 bs = mbBody 90 bs by unfold mbBody; rw [if_pos (by decide)]; rfl] at HC
  obtain ⟨S, hS⟩ : ∃ S : ByteArray, S = ⟨(mbText 90 bs).toArray⟩ := ⟨_, rfl⟩
  rw [← hS]
  have hSz : 0 < S.size := by rw [Lib.size_eq, hS]; simp [mbText]
  have h0 : S[0].toNat = 90 := by rw [getElem_eq hS hSz]; rfl
  have hex : S.extract 1 S.size = ⟨(mbBody 90 bs).toArray⟩ := by
    rw [extract_list hS, hS]
    simp [mbText, ByteArray.size]
  have HDR := Lib.hid (fun w => decodeRune_ok S 90 (by decide) hSz h0 w)
  obtain ⟨Bd, hBd⟩ : ∃ Bd : ByteArray, Bd = ⟨(mbBody 90 bs).toArray⟩ := ⟨_, rfl⟩
  rw [← hBd] at hex
  have HBD := Lib.hid hBd
  have hSI : ((S.size : Int) == 0) = false := by rw [beq_eq_false_iff_ne]; omega
  have hS1 : (1 : Int) ≤ (S.size : Int) := by omega
  clear hS h0 hBd hSz
  rw [← HBD.out] at HC
  clear hlen hz
  go_enter Tryz.func176, Tryz.ntmps176
  go_wp2_with (go_at_call 216; refine (HDR.out _).mono ?_; rintro e w0 ⟨rfl, rfl⟩)
  refine wp_region_noPanic ?_
  refine wp_region_held_drew (S := fun w' => Ext w w') (by kernel_rfl) ?_ (fun hHeld => ?_)
  · exact Ext.drew (Ext.refl _)
  refine wpAnyH_take (i := 0) (v := ?_) (by simp only [List.getElem?_toArray, List.getElem?_cons_zero]; rfl) (by kernel_rfl) (by kernel_rfl) (by kernel_rfl) (fun _ _ _ h => h) (Or.inl ⟨by rfl, ?_⟩) hHeld ?_
  rotate_left
  · ((intro wS hSw; (try dsimp only at hSw); go_simp) <;> (try with_reducible rfl))
  (try simp only [Act.put, List.setIfInBounds_toArray, List.set_cons_zero, List.set_cons_succ])
  refine wpAnyH_take (i := 1) (v := ?_) (by simp only [List.getElem?_toArray, List.getElem?_cons_zero, List.getElem?_cons_succ]; rfl) (by kernel_rfl) (by kernel_rfl) (by kernel_rfl) (fun _ _ _ h => h) (Or.inl ⟨by rfl, ?_⟩) hHeld ?_
  rotate_left
  · ((intro wS hSw; (try dsimp only at hSw); go_simp) <;> (try with_reducible rfl))
  (try simp only [Act.put, List.setIfInBounds_toArray, List.set_cons_zero, List.set_cons_succ])
  refine wpAnyH_ready (rs := [2]) (by kernel_rfl) (by simp) ?_
  refine AllReadyH.cons (by simp only [List.getElem?_toArray, List.getElem?_cons_zero, List.getElem?_cons_succ]; rfl) (fun K hK => ?_) AllReadyH.nil
  go_simp
  go_at_call 227
  refine (flickr_ok _).mono ?_
  rintro e w1 ⟨g, rfl, hA, he1⟩
  have HAT := Lib.hid hA
  clear hA
  refine hK.out _ _ ?_ (fun hHeld2 => ?_)
  · exact hHeld.trans he1
  clear hK K hHeld
  have hHeld := hHeld2
  clear hHeld2
  (try simp only [Act.put, List.setIfInBounds_toArray, List.set_cons_zero, List.set_cons_succ])
  refine wpAnyH_ready (rs := [3]) (by kernel_rfl) (by simp) ?_
  refine AllReadyH.cons (by simp only [List.getElem?_toArray, List.getElem?_cons_zero, List.getElem?_cons_succ]; rfl) (fun K hK => ?_) AllReadyH.nil
  go_simp
  go_at_call 225
  refine (HC.out g _ HAT.out).mono ?_
  rintro e w2 ⟨v, rfl, hv, he2⟩
  have HV := Lib.hid hv
  clear hv
  refine hK.out _ _ ?_ (fun hHeld2 => ?_)
  · exact hHeld.trans he2
  clear hK K hHeld
  have hHeld := hHeld2
  clear hHeld2
  (try simp only [Act.put, List.setIfInBounds_toArray, List.set_cons_zero, List.set_cons_succ])
  refine wpAnyH_take (i := 4) (v := ?_) (by simp only [List.getElem?_toArray, List.getElem?_cons_zero, List.getElem?_cons_succ]; rfl) (by kernel_rfl) (by kernel_rfl) (by kernel_rfl) (fun _ _ _ h => h) (Or.inl ⟨by rfl, ?_⟩) hHeld ?_
  rotate_left
  · ((intro wS hSw; (try dsimp only at hSw); go_simp) <;> (try with_reducible rfl))
  (try simp only [Act.put, List.setIfInBounds_toArray, List.set_cons_zero, List.set_cons_succ])
  refine wpAnyH_take (i := 5) (v := ?_) (by simp only [List.getElem?_toArray, List.getElem?_cons_zero, List.getElem?_cons_succ]; rfl) (by kernel_rfl) (by kernel_rfl) (by kernel_rfl) (fun _ _ _ h => h) (Or.inl ⟨by rfl, ?_⟩) hHeld ?_
  rotate_left
  · ((intro wS hSw; (try dsimp only at hSw); go_simp) <;> (try with_reducible rfl))
  (try simp only [Act.put, List.setIfInBounds_toArray, List.set_cons_zero, List.set_cons_succ])
  refine wpAnyH_take (i := 6) (v := ?_) (by simp only [List.getElem?_toArray, List.getElem?_cons_zero, List.getElem?_cons_succ]; rfl) (by kernel_rfl) (by kernel_rfl) (by kernel_rfl) (fun _ _ _ h => h) (Or.inl ⟨by rfl, ?_⟩) hHeld ?_
  rotate_left
  · ((intro wS hSw; (try dsimp only at hSw); go_simp) <;> (try with_reducible rfl))
  (try simp only [Act.put, List.setIfInBounds_toArray, List.set_cons_zero, List.set_cons_succ])
  refine wpAnyH_take (i := 7) (v := ?_) (by simp only [List.getElem?_toArray, List.getElem?_cons_zero, List.getElem?_cons_succ]; rfl) (by kernel_rfl) (by kernel_rfl) (by kernel_rfl) (fun _ _ _ h => h) (Or.inl ⟨by rfl, ?_⟩) hHeld ?_
  rotate_left
  · ((intro wS hSw; (try dsimp only at hSw); go_simp) <;> (try with_reducible rfl))
  (try simp only [Act.put, List.setIfInBounds_toArray, List.set_cons_zero, List.set_cons_succ])
  refine wpAnyH_take (i := 8) (v := ?_) (by simp only [List.getElem?_toArray, List.getElem?_cons_zero, List.getElem?_cons_succ]; rfl) (by kernel_rfl) (by kernel_rfl) (by kernel_rfl) (fun _ _ _ h => h) (Or.inl ⟨by rfl, ?_⟩) hHeld ?_
  rotate_left
  · ((intro wS hSw; (try dsimp only at hSw); go_simp) <;> (try with_reducible rfl))
  (try simp only [Act.put, List.setIfInBounds_toArray, List.set_cons_zero, List.set_cons_succ])
  refine wpAnyH_done (by kernel_rfl) ?_ _
  refine NoPanic.normal ?_
  go_wp2_with (fail)
  go_ret3
  exact ⟨_, v, rfl, HV.out, hHeld⟩

set_option maxRecDepth 100000 in
theorem mb77_ok (bs : List UInt8) (hlen : bs.length ≤ 1000) (hz : leadZ bs < bs.length) (w : World) : Calls Tryz.prog 176 #[.string ⟨(mbText 77 bs).toArray⟩] w fun e w' => ∃ enc v, e = .returned (.tuple #[enc, v, .nilIface]) ∧ By w' bs v ∧ Ext w w' := by
  have HC := Lib.hid (fun g w hE => b64Decode_ok std64 (61) bs (mbBody 77 bs) _ (txt64 77 std64 (by decide) rfl bs) hlen (by omega) g w hE)
  obtain ⟨S, hS⟩ : ∃ S : ByteArray, S = ⟨(mbText 77 bs).toArray⟩ := ⟨_, rfl⟩
  rw [← hS]
  have hSz : 0 < S.size := by rw [Lib.size_eq, hS]; simp [mbText]
  have h0 : S[0].toNat = 77 := by rw [getElem_eq hS hSz]; rfl
  have hex : S.extract 1 S.size = ⟨(mbBody 77 bs).toArray⟩ := by
    rw [extract_list hS, hS]
    simp [mbText, ByteArray.size]
  have HDR := Lib.hid (fun w => decodeRune_ok S 77 (by decide) hSz h0 w)
  obtain ⟨Bd, hBd⟩ : ∃ Bd : ByteArray, Bd = ⟨(mbBody 77 bs).toArray⟩ := ⟨_, rfl⟩
  rw [← hBd] at hex
  have HBD := Lib.hid hBd
  have hSI : ((S.size : Int) == 0) = false := by rw [beq_eq_false_iff_ne]; omega
  have hS1 : (1 : Int) ≤ (S.size : Int) := by omega
  clear hS h0 hBd hSz
  rw [← HBD.out] at HC
  clear hlen hz
  go_enter Tryz.func176, Tryz.ntmps176
  go_wp2_with (go_at_call 216; refine (HDR.out _).mono ?_; rintro e w0 ⟨rfl, rfl⟩)
  refine wp_region_noPanic ?_
  refine wp_region_held_drew (S := fun w' => Ext w w') (by kernel_rfl) ?_ (fun hHeld => ?_)
  · exact Ext.drew (Ext.refl _)
  refine wpAnyH_take (i := 1) (v := ?_) (by simp only [List.getElem?_toArray, List.getElem?_cons_zero, List.getElem?_cons_succ]; rfl) (by kernel_rfl) (by kernel_rfl) (by kernel_rfl) (fun _ _ _ h => h) (Or.inl ⟨by rfl, ?_⟩) hHeld ?_
  rotate_left
  · ((intro wS hSw; (try dsimp only at hSw); go_simp) <;> (try with_reducible rfl))
  (try simp only [Act.put, List.setIfInBounds_toArray, List.set_cons_zero, List.set_cons_succ])
  refine wpAnyH_take (i := 2) (v := ?_) (by simp only [List.getElem?_toArray, List.getElem?_cons_zero, List.getElem?_cons_succ]; rfl) (by kernel_rfl) (by kernel_rfl) (by kernel_rfl) (fun _ _ _ h => h) (Or.inl ⟨by rfl, ?_⟩) hHeld ?_
  rotate_left
  · ((intro wS hSw; (try dsimp only at hSw); go_simp) <;> (try with_reducible rfl))
  (try simp only [Act.put, List.setIfInBounds_toArray, List.set_cons_zero, List.set_cons_succ])
  refine wpAnyH_ready (rs := [0]) (by kernel_rfl) (by simp) ?_
  refine AllReadyH.cons (by simp only [List.getElem?_toArray, List.getElem?_cons_zero]; rfl) (fun K hK => ?_) AllReadyH.nil
  go_simp
  go_at_call 228
  refine (zzBase64_ok true false _).mono ?_
  rintro e w1 ⟨g, rfl, hA, he1⟩
  have HAT := Lib.hid hA
  clear hA
  refine hK.out _ _ ?_ (fun hHeld2 => ?_)
  · exact hHeld.trans he1
  clear hK K hHeld
  have hHeld := hHeld2
  clear hHeld2
  (try simp only [Act.put, List.setIfInBounds_toArray, List.set_cons_zero, List.set_cons_succ])
  refine wpAnyH_ready (rs := [3]) (by kernel_rfl) (by simp) ?_
  refine AllReadyH.cons (by simp only [List.getElem?_toArray, List.getElem?_cons_zero, List.getElem?_cons_succ]; rfl) (fun K hK => ?_) AllReadyH.nil
  go_simp
  go_at_call 173
  refine (HC.out g _ HAT.out).mono ?_
  rintro e w2 ⟨v, rfl, hv, he2⟩
  have HV := Lib.hid hv
  clear hv
  refine hK.out _ _ ?_ (fun hHeld2 => ?_)
  · exact hHeld.trans he2
  clear hK K hHeld
  have hHeld := hHeld2
  clear hHeld2
  (try simp only [Act.put, List.setIfInBounds_toArray, List.set_cons_zero, List.set_cons_succ])
  refine wpAnyH_take (i := 4) (v := ?_) (by simp only [List.getElem?_toArray, List.getElem?_cons_zero, List.getElem?_cons_succ]; rfl) (by kernel_rfl) (by kernel_rfl) (by kernel_rfl) (fun _ _ _ h => h) (Or.inl ⟨by rfl, ?_⟩) hHeld ?_
  rotate_left
  · ((intro wS hSw; (try dsimp only at hSw); go_simp) <;> (try with_reducible rfl))
  (try simp only [Act.put, List.setIfInBounds_toArray, List.set_cons_zero, List.set_cons_succ])
  refine wpAnyH_take (i := 5) (v := ?_) (by simp only [List.getElem?_toArray, List.getElem?_cons_zero, List.getElem?_cons_succ]; rfl) (by kernel_rfl) (by kernel_rfl) (by kernel_rfl) (fun _ _ _ h => h) (Or.inl ⟨by rfl, ?_⟩) hHeld ?_
  rotate_left
  · ((intro wS hSw; (try dsimp only at hSw); go_simp) <;> (try with_reducible rfl))
  (try simp only [Act.put, List.setIfInBounds_toArray, List.set_cons_zero, List.set_cons_succ])
  refine wpAnyH_take (i := 6) (v := ?_) (by simp only [List.getElem?_toArray, List.getElem?_cons_zero, List.getElem?_cons_succ]; rfl) (by kernel_rfl) (by kernel_rfl) (by kernel_rfl) (fun _ _ _ h => h) (Or.inl ⟨by rfl, ?_⟩) hHeld ?_
  rotate_left
  · ((intro wS hSw; (try dsimp only at hSw); go_simp) <;> (try with_reducible rfl))
  (try simp only [Act.put, List.setIfInBounds_toArray, List.set_cons_zero, List.set_cons_succ])
  refine wpAnyH_take (i := 7) (v := ?_) (by simp only [List.getElem?_toArray, List.getElem?_cons_zero, List.getElem?_cons_succ]; rfl) (by kernel_rfl) (by kernel_rfl) (by kernel_rfl) (fun _ _ _ h => h) (Or.inl ⟨by rfl, ?_⟩) hHeld ?_
  rotate_left
  · ((intro wS hSw; (try dsimp only at hSw); go_simp) <;> (try with_reducible rfl))
  (try simp only [Act.put, List.setIfInBounds_toArray, List.set_cons_zero, List.set_cons_succ])
  refine wpAnyH_take (i := 8) (v := ?_) (by simp only [List.getElem?_toArray, List.getElem?_cons_zero, List.getElem?_cons_succ]; rfl) (by kernel_rfl) (by kernel_rfl) (by kernel_rfl) (fun _ _ _ h => h) (Or.inl ⟨by rfl, ?_⟩) hHeld ?_
  rotate_left
  · ((intro wS hSw; (try dsimp only at hSw); go_simp) <;> (try with_reducible rfl))
  (try simp only [Act.put, List.setIfInBounds_toArray, List.set_cons_zero, List.set_cons_succ])
  refine wpAnyH_done (by kernel_rfl) ?_ _
  refine NoPanic.normal ?_
  go_wp2_with (fail)
  go_ret3
  exact ⟨_, v, rfl, HV.out, hHeld⟩

set_option maxRecDepth 100000 in
theorem mb85_ok (bs : List UInt8) (hlen : bs.length ≤ 1000) (hz : leadZ bs < bs.length) (w : World) : Calls Tryz.prog 176 #[.string ⟨(mbText 85 bs).toArray⟩] w fun e w' => ∃ enc v, e = .returned (.tuple #[enc, v, .nilIface]) ∧ By w' bs v ∧ Ext w w' := by
  have HC := Lib.hid (fun g w hE => b64Decode_ok url64 (61) bs (mbBody 85 bs) _ (txt64 85 url64 (by decide) rfl bs) hlen (by omega) g w hE)
  obtain ⟨S, hS⟩ : ∃ S : ByteArray, S = ⟨(mbText 85 bs).toArray⟩ := ⟨_, rfl⟩
  rw [← hS]
  have hSz : 0 < S.size := by rw [Lib.size_eq, hS]; simp [mbText]
  have h0 : S[0].toNat = 85 := by rw [getElem_eq hS hSz]; rfl
  have hex : S.extract 1 S.size = ⟨(mbBody 85 bs).toArray⟩ := by
    rw [extract_list hS, hS]
    simp [mbText, ByteArray.size]
  have HDR := Lib.hid (fun w => decodeRune_ok S 85 (by decide) hSz h0 w)
  obtain ⟨Bd, hBd⟩ : ∃ Bd : ByteArray, Bd = ⟨(mbBody 85 bs).toArray⟩ := ⟨_, rfl⟩
  rw [← hBd] at hex
  have HBD := Lib.hid hBd
  have hSI : ((S.size : Int) == 0) = false := by rw [beq_eq_false_iff_ne]; omega
  have hS1 : (1 : Int) ≤ (S.size : Int) := by omega
  clear hS h0 hBd hSz
  rw [← HBD.out] at HC
  clear hlen hz
  go_enter Tryz.func176, Tryz.ntmps176
  go_wp2_with (go_at_call 216; refine (HDR.out _).mono ?_; rintro e w0 ⟨rfl, rfl⟩)
  refine wp_region_noPanic ?_
  refine wp_region_held_drew (S := fun w' => Ext w w') (by kernel_rfl) ?_ (fun hHeld => ?_)
  · exact Ext.drew (Ext.refl _)
  refine wpAnyH_take (i := 1) (v := ?_) (by simp only [List.getElem?_toArray, List.getElem?_cons_zero, List.getElem?_cons_succ]; rfl) (by kernel_rfl) (by kernel_rfl) (by kernel_rfl) (fun _ _ _ h => h) (Or.inl ⟨by rfl, ?_⟩) hHeld ?_
  rotate_left
  · ((intro wS hSw; (try dsimp only at hSw); go_simp) <;> (try with_reducible rfl))
  (try simp only [Act.put, List.setIfInBounds_toArray, List.set_cons_zero, List.set_cons_succ])
  refine wpAnyH_take (i := 2) (v := ?_) (by simp only [List.getElem?_toArray, List.getElem?_cons_zero, List.getElem?_cons_succ]; rfl) (by kernel_rfl) (by kernel_rfl) (by kernel_rfl) (fun _ _ _ h => h) (Or.inl ⟨by rfl, ?_⟩) hHeld ?_
  rotate_left
  · ((intro wS hSw; (try dsimp only at hSw); go_simp) <;> (try with_reducible rfl))
  (try simp only [Act.put, List.setIfInBounds_toArray, List.set_cons_zero, List.set_cons_succ])
  refine wpAnyH_ready (rs := [0]) (by kernel_rfl) (by simp) ?_
  refine AllReadyH.cons (by simp only [List.getElem?_toArray, List.getElem?_cons_zero]; rfl) (fun K hK => ?_) AllReadyH.nil
  go_simp
  go_at_call 228
  refine (zzBase64_ok true true _).mono ?_
  rintro e w1 ⟨g, rfl, hA, he1⟩
  have HAT := Lib.hid hA
  clear hA
  refine hK.out _ _ ?_ (fun hHeld2 => ?_)
  · exact hHeld.trans he1
  clear hK K hHeld
  have hHeld := hHeld2
  clear hHeld2
  (try simp only [Act.put, List.setIfInBounds_toArray, List.set_cons_zero, List.set_cons_succ])
  refine wpAnyH_ready (rs := [3]) (by kernel_rfl) (by simp) ?_
  refine AllReadyH.cons (by simp only [List.getElem?_toArray, List.getElem?_cons_zero, List.getElem?_cons_succ]; rfl) (fun K hK => ?_) AllReadyH.nil
  go_simp
  go_at_call 173
  refine (HC.out g _ HAT.out).mono ?_
  rintro e w2 ⟨v, rfl, hv, he2⟩
  have HV := Lib.hid hv
  clear hv
  refine hK.out _ _ ?_ (fun hHeld2 => ?_)
  · exact hHeld.trans he2
  clear hK K hHeld
  have hHeld := hHeld2
  clear hHeld2
  (try simp only [Act.put, List.setIfInBounds_toArray, List.set_cons_zero, List.set_cons_succ])
  refine wpAnyH_take (i := 4) (v := ?_) (by simp only [List.getElem?_toArray, List.getElem?_cons_zero, List.getElem?_cons_succ]; rfl) (by kernel_rfl) (by kernel_rfl) (by kernel_rfl) (fun _ _ _ h => h) (Or.inl ⟨by rfl, ?_⟩) hHeld ?_
  rotate_left
  · ((intro wS hSw; (try dsimp only at hSw); go_simp) <;> (try with_reducible rfl))
  (try simp only [Act.put, List.setIfInBounds_toArray, List.set_cons_zero, List.set_cons_succ])
  refine wpAnyH_take (i := 5) (v := ?_) (by simp only [List.getElem?_toArray, List.getElem?_cons_zero, List.getElem?_cons_succ]; rfl) (by kernel_rfl) (by kernel_rfl) (by kernel_rfl) (fun _ _ _ h => h) (Or.inl ⟨by rfl, ?_⟩) hHeld ?_
  rotate_left
  · ((intro wS hSw; (try dsimp only at hSw); go_simp) <;> (try with_reducible rfl))
  (try simp only [Act.put, List.setIfInBounds_toArray, List.set_cons_zero, List.set_cons_succ])
  refine wpAnyH_take (i := 6) (v := ?_) (by simp only [List.getElem?_toArray, List.getElem?_cons_zero, List.getElem?_cons_succ]; rfl) (by kernel_rfl) (by kernel_rfl) (by kernel_rfl) (fun _ _ _ h => h) (Or.inl ⟨by rfl, ?_⟩) hHeld ?_
  rotate_left
  · ((intro wS hSw; (try dsimp only at hSw); go_simp) <;> (try with_reducible rfl))
  (try simp only [Act.put, List.setIfInBounds_toArray, List.set_cons_zero, List.set_cons_succ])
  refine wpAnyH_take (i := 7) (v := ?_) (by simp only [List.getElem?_toArray, List.getElem?_cons_zero, List.getElem?_cons_succ]; rfl) (by kernel_rfl) (by kernel_rfl) (by kernel_rfl) (fun _ _ _ h => h) (Or.inl ⟨by rfl, ?_⟩) hHeld ?_
  rotate_left
  · ((intro wS hSw; (try dsimp only at hSw); go_simp) <;> (try with_reducible rfl))
  (try simp only [Act.put, List.setIfInBounds_toArray, List.set_cons_zero, List.set_cons_succ])
  refine wpAnyH_take (i := 8) (v := ?_) (by simp only [List.getElem?_toArray, List.getElem?_cons_zero, List.getElem?_cons_succ]; rfl) (by kernel_rfl) (by kernel_rfl) (by kernel_rfl) (fun _ _ _ h => h) (Or.inl ⟨by rfl, ?_⟩) hHeld ?_
  rotate_left
  · ((intro wS hSw; (try dsimp only at hSw); go_simp) <;> (try with_reducible rfl))
  (try simp only [Act.put, List.setIfInBounds_toArray, List.set_cons_zero, List.set_cons_succ])
  refine wpAnyH_done (by kernel_rfl) ?_ _
  refine NoPanic.normal ?_
  go_wp2_with (fail)
  go_ret3
  exact ⟨_, v, rfl, HV.out, hHeld⟩

set_option maxRecDepth 100000 in
theorem mb109_ok (bs : List UInt8) (hlen : bs.length ≤ 1000) (hz : leadZ bs < bs.length) (w : World) : Calls Tryz.prog 176 #[.string ⟨(mbText 109 bs).toArray⟩] w fun e w' => ∃ enc v, e = .returned (.tuple #[enc, v, .nilIface]) ∧ By w' bs v ∧ Ext w w' := by
  have HC := Lib.hid (fun g w hE => b64Decode_ok std64 (-1) bs (mbBody 109 bs) _ (txt64 109 std64 (by decide) rfl bs) hlen (by omega) g w hE)
  obtain ⟨S, hS⟩ : ∃ S : ByteArray, S = ⟨(mbText 109 bs).toArray⟩ := ⟨_, rfl⟩
  rw [← hS]
  have hSz : 0 < S.size := by rw [Lib.size_eq, hS]; simp [mbText]
  have h0 : S[0].toNat = 109 := by rw [getElem_eq hS hSz]; rfl
  have hex : S.extract 1 S.size = ⟨(mbBody 109 bs).toArray⟩ := by
    rw [extract_list hS, hS]
    simp [mbText, ByteArray.size]
  have HDR := Lib.hid (fun w => decodeRune_ok S 109 (by decide) hSz h0 w)
  obtain ⟨Bd, hBd⟩ : ∃ Bd : ByteArray, Bd = ⟨(mbBody 109 bs).toArray⟩ := ⟨_, rfl⟩
  rw [← hBd] at hex
  have HBD := Lib.hid hBd
  have hSI : ((S.size : Int) == 0) = false := by rw [beq_eq_false_iff_ne]; omega
  have hS1 : (1 : Int) ≤ (S.size : Int) := by omega
  clear hS h0 hBd hSz
  rw [← HBD.out] at HC
  clear hlen hz
  go_enter Tryz.func176, Tryz.ntmps176
  go_wp2_with (go_at_call 216; refine (HDR.out _).mono ?_; rintro e w0 ⟨rfl, rfl⟩)
  refine wp_region_noPanic ?_
  refine wp_region_held_drew (S := fun w' => Ext w w') (by kernel_rfl) ?_ (fun hHeld => ?_)
  · exact Ext.drew (Ext.refl _)
  refine wpAnyH_take (i := 1) (v := ?_) (by simp only [List.getElem?_toArray, List.getElem?_cons_zero, List.getElem?_cons_succ]; rfl) (by kernel_rfl) (by kernel_rfl) (by kernel_rfl) (fun _ _ _ h => h) (Or.inl ⟨by rfl, ?_⟩) hHeld ?_
  rotate_left
  · ((intro wS hSw; (try dsimp only at hSw); go_simp) <;> (try with_reducible rfl))
  (try simp only [Act.put, List.setIfInBounds_toArray, List.set_cons_zero, List.set_cons_succ])
  refine wpAnyH_take (i := 2) (v := ?_) (by simp only [List.getElem?_toArray, List.getElem?_cons_zero, List.getElem?_cons_succ]; rfl) (by kernel_rfl) (by kernel_rfl) (by kernel_rfl) (fun _ _ _ h => h) (Or.inl ⟨by rfl, ?_⟩) hHeld ?_
  rotate_left
  · ((intro wS hSw; (try dsimp only at hSw); go_simp) <;> (try with_reducible rfl))
  (try simp only [Act.put, List.setIfInBounds_toArray, List.set_cons_zero, List.set_cons_succ])
  refine wpAnyH_ready (rs := [0]) (by kernel_rfl) (by simp) ?_
  refine AllReadyH.cons (by simp only [List.getElem?_toArray, List.getElem?_cons_zero]; rfl) (fun K hK => ?_) AllReadyH.nil
  go_simp
  go_at_call 228
  refine (zzBase64_ok false false _).mono ?_
  rintro e w1 ⟨g, rfl, hA, he1⟩
  have HAT := Lib.hid hA
  clear hA
  refine hK.out _ _ ?_ (fun hHeld2 => ?_)
  · exact hHeld.trans he1
  clear hK K hHeld
  have hHeld := hHeld2
  clear hHeld2
  (try simp only [Act.put, List.setIfInBounds_toArray, List.set_cons_zero, List.set_cons_succ])
  refine wpAnyH_ready (rs := [3]) (by kernel_rfl) (by simp) ?_
  refine AllReadyH.cons (by simp only [List.getElem?_toArray, List.getElem?_cons_zero, List.getElem?_cons_succ]; rfl) (fun K hK => ?_) AllReadyH.nil
  go_simp
  go_at_call 173
  refine (HC.out g _ HAT.out).mono ?_
  rintro e w2 ⟨v, rfl, hv, he2⟩
  have HV := Lib.hid hv
  clear hv
  refine hK.out _ _ ?_ (fun hHeld2 => ?_)
  · exact hHeld.trans he2
  clear hK K hHeld
  have hHeld := hHeld2
  clear hHeld2
  (try simp only [Act.put, List.setIfInBounds_toArray, List.set_cons_zero, List.set_cons_succ])
  refine wpAnyH_take (i := 4) (v := ?_) (by simp only [List.getElem?_toArray, List.getElem?_cons_zero, List.getElem?_cons_succ]; rfl) (by kernel_rfl) (by kernel_rfl) (by kernel_rfl) (fun _ _ _ h => h) (Or.inl ⟨by rfl, ?_⟩) hHeld ?_
  rotate_left
  · ((intro wS hSw; (try dsimp only at hSw); go_simp) <;> (try with_reducible rfl))
  (try simp only [Act.put, List.setIfInBounds_toArray, List.set_cons_zero, List.set_cons_succ])
  refine wpAnyH_take (i := 5) (v := ?_) (by simp only [List.getElem?_toArray, List.getElem?_cons_zero, List.getElem?_cons_succ]; rfl) (by kernel_rfl) (by kernel_rfl) (by kernel_rfl) (fun _ _ _ h => h) (Or.inl ⟨by rfl, ?_⟩) hHeld ?_
  rotate_left
  · ((intro wS hSw; (try dsimp only at hSw); go_simp) <;> (try with_reducible rfl))
  (try simp only [Act.put, List.setIfInBounds_toArray, List.set_cons_zero, List.set_cons_succ])
  refine wpAnyH_take (i := 6) (v := ?_) (by simp only [List.getElem?_toArray, List.getElem?_cons_zero, List.getElem?_cons_succ]; rfl) (by kernel_rfl) (by kernel_rfl) (by kernel_rfl) (fun _ _ _ h => h) (Or.inl ⟨by rfl, ?_⟩) hHeld ?_
  rotate_left
  · ((intro wS hSw; (try dsimp only at hSw); go_simp) <;> (try with_reducible rfl))
  (try simp only [Act.put, List.setIfInBounds_toArray, List.set_cons_zero, List.set_cons_succ])
  refine wpAnyH_take (i := 7) (v := ?_) (by simp only [List.getElem?_toArray, List.getElem?_cons_zero, List.getElem?_cons_succ]; rfl) (by kernel_rfl) (by kernel_rfl) (by kernel_rfl) (fun _ _ _ h => h) (Or.inl ⟨by rfl, ?_⟩) hHeld ?_
  rotate_left
  · ((intro wS hSw; (try dsimp only at hSw); go_simp) <;> (try with_reducible rfl))
  (try simp only [Act.put, List.setIfInBounds_toArray, List.set_cons_zero, List.set_cons_succ])
  refine wpAnyH_take (i := 8) (v := ?_) (by simp only [List.getElem?_toArray, List.getElem?_cons_zero, List.getElem?_cons_succ]; rfl) (by kernel_rfl) (by kernel_rfl) (by kernel_rfl) (fun _ _ _ h => h) (Or.inl ⟨by rfl, ?_⟩) hHeld ?_
  rotate_left
  · ((intro wS hSw; (try dsimp only at hSw); go_simp) <;> (try with_reducible rfl))
  (try simp only [Act.put, List.setIfInBounds_toArray, List.set_cons_zero, List.set_cons_succ])
  refine wpAnyH_done (by kernel_rfl) ?_ _
  refine NoPanic.normal ?_
  go_wp2_with (fail)
  go_ret3
  exact ⟨_, v, rfl, HV.out, hHeld⟩

set_option maxRecDepth 100000 in
theorem mb117_ok (bs : List UInt8) (hlen : bs.length ≤ 1000) (hz : leadZ bs < bs.length) (w : World) : Calls Tryz.prog 176 #[.string ⟨(mbText 117 bs).toArray⟩] w fun e w' => ∃ enc v, e = .returned (.tuple #[enc, v, .nilIface]) ∧ By w' bs v ∧ Ext w w' := by
  have HC := Lib.hid (fun g w hE => b64Decode_ok url64 (-1) bs (mbBody 117 bs) _ (txt64 117 url64 (by decide) rfl bs) hlen (by omega) g w hE)
  obtain ⟨S, hS⟩ : ∃ S : ByteArray, S = ⟨(mbText 117 bs).toArray⟩ := ⟨_, rfl⟩
  rw [← hS]
  have hSz : 0 < S.size := by rw [Lib.size_eq, hS]; simp [mbText]
  have h0 : S[0].toNat = 117 := by rw [getElem_eq hS hSz]; rfl
  have hex : S.extract 1 S.size = ⟨(mbBody 117 bs).toArray⟩ := by
    rw [extract_list hS, hS]
    simp [mbText, ByteArray.size]
  have HDR := Lib.hid (fun w => decodeRune_ok S 117 (by decide) hSz h0 w)
  obtain ⟨Bd, hBd⟩ : ∃ Bd : ByteArray, Bd = ⟨(mbBody 117 bs).toArray⟩ := ⟨_, rfl⟩
  rw [← hBd] at hex
  have HBD := Lib.hid hBd
  have hSI : ((S.size : Int) == 0) = false := by rw [beq_eq_false_iff_ne]; omega
  have hS1 : (1 : Int) ≤ (S.size : Int) := by omega
  clear hS h0 hBd hSz
  rw [← HBD.out] at HC
  clear hlen hz
  go_enter Tryz.func176, Tryz.ntmps176
  go_wp2_with (go_at_call 216; refine (HDR.out _).mono ?_; rintro e w0 ⟨rfl, rfl⟩)
  refine wp_region_noPanic ?_
  refine wp_region_held_drew (S := fun w' => Ext w w') (by kernel_rfl) ?_ (fun hHeld => ?_)
  · exact Ext.drew (Ext.refl _)
  refine wpAnyH_take (i := 1) (v := ?_) (by simp only [List.getElem?_toArray, List.getElem?_cons_zero, List.getElem?_cons_succ]; rfl) (by kernel_rfl) (by kernel_rfl) (by kernel_rfl) (fun _ _ _ h => h) (Or.inl ⟨by rfl, ?_⟩) hHeld ?_
  rotate_left
  · ((intro wS hSw; (try dsimp only at hSw); go_simp) <;> (try with_reducible rfl))
  (try simp only [Act.put, List.setIfInBounds_toArray, List.set_cons_zero, List.set_cons_succ])
  refine wpAnyH_take (i := 2) (v := ?_) (by simp only [List.getElem?_toArray, List.getElem?_cons_zero, List.getElem?_cons_succ]; rfl) (by kernel_rfl) (by kernel_rfl) (by kernel_rfl) (fun _ _ _ h => h) (Or.inl ⟨by rfl, ?_⟩) hHeld ?_
  rotate_left
  · ((intro wS hSw; (try dsimp only at hSw); go_simp) <;> (try with_reducible rfl))
  (try simp only [Act.put, List.setIfInBounds_toArray, List.set_cons_zero, List.set_cons_succ])
  refine wpAnyH_ready (rs := [0]) (by kernel_rfl) (by simp) ?_
  refine AllReadyH.cons (by simp only [List.getElem?_toArray, List.getElem?_cons_zero]; rfl) (fun K hK => ?_) AllReadyH.nil
  go_simp
  go_at_call 228
  refine (zzBase64_ok false true _).mono ?_
  rintro e w1 ⟨g, rfl, hA, he1⟩
  have HAT := Lib.hid hA
  clear hA
  refine hK.out _ _ ?_ (fun hHeld2 => ?_)
  · exact hHeld.trans he1
  clear hK K hHeld
  have hHeld := hHeld2
  clear hHeld2
  (try simp only [Act.put, List.setIfInBounds_toArray, List.set_cons_zero, List.set_cons_succ])
  refine wpAnyH_ready (rs := [3]) (by kernel_rfl) (by simp) ?_
  refine AllReadyH.cons (by simp only [List.getElem?_toArray, List.getElem?_cons_zero, List.getElem?_cons_succ]; rfl) (fun K hK => ?_) AllReadyH.nil
  go_simp
  go_at_call 173
  refine (HC.out g _ HAT.out).mono ?_
  rintro e w2 ⟨v, rfl, hv, he2⟩
  have HV := Lib.hid hv
  clear hv
  refine hK.out _ _ ?_ (fun hHeld2 => ?_)
  · exact hHeld.trans he2
  clear hK K hHeld
  have hHeld := hHeld2
  clear hHeld2
  (try simp only [Act.put, List.setIfInBounds_toArray, List.set_cons_zero, List.set_cons_succ])
  refine wpAnyH_take (i := 4) (v := ?_) (by simp only [List.getElem?_toArray, List.getElem?_cons_zero, List.getElem?_cons_succ]; rfl) (by kernel_rfl) (by kernel_rfl) (by kernel_rfl) (fun _ _ _ h => h) (Or.inl ⟨by rfl, ?_⟩) hHeld ?_
  rotate_left
  · ((intro wS hSw; (try dsimp only at hSw); go_simp) <;> (try with_reducible rfl))
  (try simp only [Act.put, List.setIfInBounds_toArray, List.set_cons_zero, List.set_cons_succ])
  refine wpAnyH_take (i := 5) (v := ?_) (by simp only [List.getElem?_toArray, List.getElem?_cons_zero, List.getElem?_cons_succ]; rfl) (by kernel_rfl) (by kernel_rfl) (by kernel_rfl) (fun _ _ _ h => h) (Or.inl ⟨by rfl, ?_⟩) hHeld ?_
  rotate_left
  · ((intro wS hSw; (try dsimp only at hSw); go_simp) <;> (try with_reducible rfl))
  (try simp only [Act.put, List.setIfInBounds_toArray, List.set_cons_zero, List.set_cons_succ])
  refine wpAnyH_take (i := 6) (v := ?_) (by simp only [List.getElem?_toArray, List.getElem?_cons_zero, List.getElem?_cons_succ]; rfl) (by kernel_rfl) (by kernel_rfl) (by kernel_rfl) (fun _ _ _ h => h) (Or.inl ⟨by rfl, ?_⟩) hHeld ?_
  rotate_left
  · ((intro wS hSw; (try dsimp only at hSw); go_simp) <;> (try with_reducible rfl))
  (try simp only [Act.put, List.setIfInBounds_toArray, List.set_cons_zero, List.set_cons_succ])
  refine wpAnyH_take (i := 7) (v := ?_) (by simp only [List.getElem?_toArray, List.getElem?_cons_zero, List.getElem?_cons_succ]; rfl) (by kernel_rfl) (by kernel_rfl) (by kernel_rfl) (fun _ _ _ h => h) (Or.inl ⟨by rfl, ?_⟩) hHeld ?_
  rotate_left
  · ((intro wS hSw; (try dsimp only at hSw); go_simp) <;> (try with_reducible rfl))
  (try simp only [Act.put, List.setIfInBounds_toArray, List.set_cons_zero, List.set_cons_succ])
  refine wpAnyH_take (i := 8) (v := ?_) (by simp only [List.getElem?_toArray, List.getElem?_cons_zero, List.getElem?_cons_succ]; rfl) (by kernel_rfl) (by kernel_rfl) (by kernel_rfl) (fun _ _ _ h => h) (Or.inl ⟨by rfl, ?_⟩) hHeld ?_
  rotate_left
  · ((intro wS hSw; (try dsimp only at hSw); go_simp) <;> (try with_reducible rfl))
  (try simp only [Act.put, List.setIfInBounds_toArray, List.set_cons_zero, List.set_cons_succ])
  refine wpAnyH_done (by kernel_rfl) ?_ _
  refine NoPanic.normal ?_
  go_wp2_with (fail)
  go_ret3
  exact ⟨_, v, rfl, HV.out, hHeld⟩

/-- multibase's Decode -/
theorem mbDecode_ok (b : Nat) (hb : b ∈ basesL) (bs : List UInt8) (hlen : bs.length ≤ 1000) (hz : leadZ bs < bs.length) (w : World) (hp : PreV w) : Calls Tryz.prog 176 #[.string ⟨(mbText b bs).toArray⟩] w fun e w' => ∃ enc v, e = .returned (.tuple #[enc, v, .nilIface]) ∧ By w' bs v ∧ Ext w w' := by
  unfold basesL at hb
  simp only [List.mem_cons, List.mem_nil_iff, or_false] at hb
  rcases hb with rfl | rfl | rfl | rfl | rfl | rfl | rfl | rfl | rfl | rfl | rfl | rfl | rfl | rfl | rfl | rfl | rfl | rfl | rfl
  · exact mb48_ok bs hlen hz w
  · exact mb102_ok bs hlen hz w hp
  · exact mb70_ok bs hlen hz w hp
  · exact mb98_ok bs hlen hz w
  · exact mb66_ok bs hlen hz w
  · exact mb99_ok bs hlen hz w
  · exact mb67_ok bs hlen hz w
  · exact mb118_ok bs hlen hz w
  · exact mb86_ok bs hlen hz w
  · exact mb116_ok bs hlen hz w
  · exact mb84_ok bs hlen hz w
  · exact mb107_ok bs hlen hz w
  · exact mb75_ok bs hlen hz w
  · exact mb122_ok bs hlen hz w
  · exact mb90_ok bs hlen hz w
  · exact mb109_ok bs hlen hz w
  · exact mb77_ok bs hlen hz w
  · exact mb117_ok bs hlen hz w
  · exact mb85_ok bs hlen hz w
end Go.Proofs.YtchlkclpikdbjaaGreatDoor
