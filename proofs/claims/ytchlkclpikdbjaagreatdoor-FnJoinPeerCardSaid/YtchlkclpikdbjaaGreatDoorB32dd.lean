/-
  Texts of base 32 read back: all lengths. Written by gen_b32d.py.
-/
import Derived.Test.YtchlkclpikdbjaaGreatDoorB32da
import Derived.Test.YtchlkclpikdbjaaGreatDoorB32db
import Derived.Test.YtchlkclpikdbjaaGreatDoorB32dc
namespace Go.Proofs.YtchlkclpikdbjaaGreatDoor
set_option linter.unusedVariables false
set_option linter.unusedSimpArgs false
open Go.RowKit Go.Sort

theorem b32core_ok (l : List UInt8) (pad : Int) (bs T : List UInt8) (m : Nat) (ht : Txt32 l pad bs T m) (hlen : bs.length ≤ 1000) (hpos : 0 < bs.length) (g b0 c : Nat) (w : World) (hE : EncAt w g l pad) (hgb : g ≠ b0) (hN : T.length ≤ c)
    (hW : Wr w b0 T.length (fun i => B (T.getD i 0))) :
    Calls Tryz.prog 320 #[.pointer (some ⟨g, 0, none⟩), .slice (some ⟨b0, 0, none⟩) T.length c, .slice (some ⟨b0, 0, none⟩) T.length c] w fun e w' =>
      ∃ be, e = .returned (.tuple #[.int .i64 (bs.length : Int), .bool be, .nilIface]) ∧ (∃ F : Nat → Value, (∀ i, i < bs.length → F i = B (bs.getD i 0)) ∧ Wr w' b0 T.length F) ∧ w.grownBy w' (some b0) := by
  have hr : bs.length % 5 = 0 ∨ bs.length % 5 = 1 ∨ bs.length % 5 = 2 ∨ bs.length % 5 = 3 ∨ bs.length % 5 = 4 := by omega
  rcases hr with hr | hr | hr | hr | hr
  · exact b32core_r0 l pad bs T m ht hr hlen hpos g b0 c w hE hgb hN hW
  · rcases ht.pads with hp | hp
    · exact b32core_r1 l pad bs T m ht hr hp.1 hlen hpos g b0 c w hE hgb hN hW
    · exact b32core_p1 l pad bs T m ht hr hp.1 hlen hpos g b0 c w hE hgb hN hW
  · rcases ht.pads with hp | hp
    · exact b32core_r2 l pad bs T m ht hr hp.1 hlen hpos g b0 c w hE hgb hN hW
    · exact b32core_p2 l pad bs T m ht hr hp.1 hlen hpos g b0 c w hE hgb hN hW
  · rcases ht.pads with hp | hp
    · exact b32core_r3 l pad bs T m ht hr hp.1 hlen hpos g b0 c w hE hgb hN hW
    · exact b32core_p3 l pad bs T m ht hr hp.1 hlen hpos g b0 c w hE hgb hN hW
  · rcases ht.pads with hp | hp
    · exact b32core_r4 l pad bs T m ht hr hp.1 hlen hpos g b0 c w hE hgb hN hW
    · exact b32core_p4 l pad bs T m ht hr hp.1 hlen hpos g b0 c w hE hgb hN hW
end Go.Proofs.YtchlkclpikdbjaaGreatDoor
namespace Go.Proofs.YtchlkclpikdbjaaGreatDoor
set_option linter.unusedVariables false
set_option linter.unusedSimpArgs false
open Go.RowKit Go.Sort

set_option maxHeartbeats 2000000 in
set_option maxRecDepth 100000 in
theorem inPlace_ok (l : List UInt8) (pad : Int) (bs T : List UInt8) (m : Nat) (ht : Txt32 l pad bs T m) (hlen : bs.length ≤ 1000) (hpos : 0 < bs.length) (hnl : ∀ i, i < T.length → (T.getD i 0).toNat ≠ 10 ∧ (T.getD i 0).toNat ≠ 13) (g b0 c : Nat) (w : World) (hE : EncAt w g l pad) (hgb : g ≠ b0) (hN : T.length ≤ c)
    (hW : Wr w b0 T.length (fun i => B (T.getD i 0))) :
    Calls Tryz.prog 283 #[.pointer (some ⟨g, 0, none⟩), .slice (some ⟨b0, 0, none⟩) T.length c] w fun e w' =>
      e = .returned (.tuple #[.int .i64 (bs.length : Int), .nilIface]) ∧ (∃ F : Nat → Value, (∀ i, i < bs.length → F i = B (bs.getD i 0)) ∧ Wr w' b0 T.length F) ∧ w.grownBy w' (some b0) := by
  have HC := Lib.hid (fun w hE hW => b32core_ok l pad bs T m ht hlen hpos g b0 c w hE hgb hN hW)
  have HEN := Lib.hid hE
  obtain ⟨N, hNe⟩ : ∃ N, N = T.length := ⟨_, rfl⟩
  have hT : N ≤ 3000 ∧ 0 < N := by
    have h1 := ht.m_eq
    have h2 := ht.pads
    omega
  have HNL := Lib.hid hnl
  rw [← hNe] at HC hN hW ⊢
  have HN := Lib.hid hNe
  have hst : Hid (Wr w b0 N (fun i => B (T.getD i 0)) ∧ w.grownBy w (some b0)) := Lib.hid ⟨hW, grown_refl _ _⟩
  clear hE hNe hW ht hnl hlen hpos
  go_enter Tryz.func283, Tryz.ntmps283
  go_wp2
  go_loopg [6, 11] (N + 1) (fun gk s6 s11 wx => ∃ i : Nat, s6 = .int .i64 (i : Int) ∧ s11 = .int .i64 (i : Int) ∧ i ≤ N ∧ gk = N + 1 - i ∧ Hid (Wr wx b0 N (fun i => B (T.getD i 0)) ∧ w.grownBy wx (some b0)))
  case atStart => exact ⟨0, rfl, rfl, by omega, rfl, hst⟩
  case round =>
    obtain ⟨i, rfl, rfl, hi, hgk, HH⟩ := hrel
    by_cases hiN : i < N
    · have hiI : (i : Int) < (N : Int) := by omega
      obtain ⟨h1, h2⟩ := HH.out
      obtain ⟨n1, n2⟩ := HNL.out i (by rw [← HN.out]; exact hiN)
      have hc := (h1 i hiN).1
      have hf := (h1 i hiN).2
      obtain ⟨x, hx⟩ : ∃ x, x = (T.getD i 0).toNat := ⟨_, rfl⟩
      rw [← hx] at n1 n2
      replace hc : wr.cell? ⟨b0, i, none⟩ = some (.int .u8 (x : Int)) := by rw [hc, hx]
      have hx10 : ((x : Int) == 10) = false := by rw [beq_eq_false_iff_ne]; omega
      have hx13 : ((x : Int) == 13) = false := by rw [beq_eq_false_iff_ne]; omega
      have HNn : Hid (Wr (wr.setCell ⟨b0, i, none⟩ (.int .u8 (x : Int))) b0 N (fun i => B (T.getD i 0)) ∧ w.grownBy (wr.setCell ⟨b0, i, none⟩ (.int .u8 (x : Int))) (some b0)) := Lib.hid ⟨(h1.set i _).congr fun j hj => by
        by_cases h3 : j = i
        · subst h3; rw [if_pos rfl, hx]
        · rw [if_neg h3], grown_set h2 i _⟩
      clear h1 h2 hx n1 n2
      go_wp2
      go_roundg (N + 1 - (i + 1))
      case measure => omega
      case rel => exact ⟨i + 1, by go_num, by go_num, by omega, rfl, HNn⟩
    · obtain rfl : i = N := by omega
      have HE2 := Lib.hid (rowIs_grown HEN.out HH.out.2 (by intro h; injection h with h; exact hgb h))
      go_wp2_with (fail)
      refine (HC.out _ HE2.out HH.out.1).mono ?_
      rintro e w1 ⟨be, rfl, hF, hg⟩
      have HF := Lib.hid (And.intro hF (HH.out.2.trans hg))
      clear hF hg
      go_wp2_with (fail)
      go_ret2
      exact ⟨rfl, HF.out.1, HF.out.2⟩

set_option maxRecDepth 100000 in
theorem b32Decode_ok (l : List UInt8) (pad : Int) (bs T : List UInt8) (m : Nat) (ht : Txt32 l pad bs T m) (hlen : bs.length ≤ 1000) (hpos : 0 < bs.length) (hnl : ∀ i, i < T.length → (T.getD i 0).toNat ≠ 10 ∧ (T.getD i 0).toNat ≠ 13) (g : Nat) (w : World) (hE : EncAt w g l pad) :
    Calls Tryz.prog 220 #[.pointer (some ⟨g, 0, none⟩), .string ⟨T.toArray⟩] w fun e w' =>
      ∃ v, e = .returned (.tuple #[v, .nilIface]) ∧ By w' bs v ∧ Ext w w' := by
  have hg : g < w.heap.size := hE.lt
  have HCC := Lib.hid (fun b0 c w hE hgb hN hW => inPlace_ok l pad bs T m ht hlen hpos hnl g b0 c w hE hgb hN hW)
  have hT : bs.length ≤ T.length ∧ T.length ≤ 3000 := by
    have h1 := ht.m_eq
    have h2 := ht.pads
    omega
  have HEN := Lib.hid hE
  obtain ⟨S, hS⟩ : ∃ S : ByteArray, S = ⟨T.toArray⟩ := ⟨_, rfl⟩
  rw [← hS]
  have hSz : S.size = T.length := by rw [Lib.size_eq, hS]
  have HS := Lib.hid hS
  obtain ⟨len, hl⟩ : ∃ len, len = bs.length := ⟨_, rfl⟩
  rw [← hl] at HCC hT
  have HL := Lib.hid hl
  have HSz := Lib.hid hSz
  obtain ⟨N, hN⟩ : ∃ N, N = T.length := ⟨_, rfl⟩
  rw [← hN] at HCC hT hSz
  have HN := Lib.hid hN
  clear hE hS ht hnl hlen hpos hl hN
  go_enter Tryz.func220, Tryz.ntmps220
  go_wp2_with (refine wpList_bytesW rfl _ rfl S rfl ?_; intro c w1 hc hw1 he1 hs1; have HW1 := Lib.hid (And.intro hw1 he1); clear hw1 he1 hs1)
  have hw1 : Wr w1 w.heap.size N (fun i => B (T.getD i 0)) := by
    have := HW1.out.1
    rw [hSz] at this
    refine this.congr fun i hi => ?_
    rw [HS.out]
  have HCA := Lib.hid (HCC.out w.heap.size c w1 (rowIs_grown (row := none) HEN.out ⟨HW1.out.2.os, HW1.out.2.tape, HW1.out.2.output, HW1.out.2.size, fun k hk _ => Below.block HW1.out.2 k hk⟩ (by simp)) (by omega) (by omega) hw1)
  clear hw1 HCC
  have hcN : N ≤ c := by omega
  refine HCA.out.mono ?_
  rintro e w2 ⟨rfl, hF, hgr⟩
  have HF := Lib.hid (And.intro hF hgr)
  clear hF hgr
  go_wp2_with (fail)
  go_ret2
  obtain ⟨G, hG1, hG2⟩ := HF.out.1
  refine ⟨_, rfl, ?_, below_grown HW1.out.2 HW1.out.2.size HF.out.2 (fun k hk => by injection hk with hk; omega)⟩
  have := hG2.by bs (by rw [← HL.out]; exact hT.1) c (by rw [← HL.out]; omega) (fun i hi => by rw [hG1 i (by rw [HL.out]; exact hi), getD_lt _ _ hi])
  rw [← HL.out] at this
  exact this
end Go.Proofs.YtchlkclpikdbjaaGreatDoor
