/-
  The contracts of small functions on IP addresses: digits, zeros, prefixes, the forms of four and of sixteen bytes.
-/
import Derived.Test.YtdlmmaolacjnaaaGreatDoorProg
import Derived.WalkLawsBesides
import Derived.WalkSpells
import Derived.Deep.LoopGhost
import Derived.Outline
import Derived.BigGuardPart
import Derived.Laws.BitsAllLaws
import Derived.Lib.Strings
import Derived.Test.YtdlmmaolacjnaaaGreatDoorIp
namespace Go.Proofs.YtdlmmaolacjnaaaGreatDoor
set_option linter.unusedVariables false
set_option linter.unusedSimpArgs false
open Go.RowKit

theorem zzDigit_ok (c : UInt8) (w : World) : Calls Tryz.prog 339 #[.int .u8 (c.toNat : Int)] w fun e w' => e = .returned (.int .i64 (digv c)) ∧ w = w' := by
  have hc := c.toNat_lt
  unfold digv
  generalize c.toNat = n at hc ⊢
  go_enter Tryz.func339, Tryz.ntmps339
  go_wp2
  all_goals
    go_ret
    refine ⟨ret_int ?_, rfl⟩
    repeat' split
    all_goals omega

theorem i64_and15 (k : Nat) (h : k < 65536) : bits .and .i64 (k : Int) 15 = ((k % 16 : Nat) : Int) := by
  have := bits_mask .i64 63 (by decide) (fun n h0 h1 => by rw [IntKind.wrap_i64]; omega) 4 (by decide) (k : Int) (by omega) (by omega)
  simpa using this

theorem digit_at : ∀ d : Fin 16, (ByteArray.mk #[48, 49, 50, 51, 52, 53, 54, 55, 56, 57, 97, 98, 99, 100, 101, 102]).extract d.val (d.val + 1) = ⟨[hexc d].toArray⟩ := by decide

theorem zzHex_ok (n : Nat) (hn : n < 65536) (w : World) : Calls Tryz.prog 64 #[.int .i64 n] w fun e w' => e = .returned (.string ⟨(hexs n).toArray⟩) ∧ w = w' := by
  go_enter Tryz.func64, Tryz.ntmps64
  go_wp2
  go_loopg [0, 3, 4] (n + 2) (fun g s0 s3 s4 wx => w = wx ∧ ∃ (k : Nat) (t : List UInt8) (b : Bool), s0 = .int .i64 k ∧ s3 = .string ⟨t.toArray⟩ ∧ s4 = .bool b ∧ k ≤ n ∧ g = (if b then k + 2 else 1) ∧ Aside ((if b then hexs k ++ t else t) = hexs n))
  case atStart => exact ⟨rfl, n, [], true, rfl, rfl, rfl, Nat.le_refl _, rfl, by simp [Aside]⟩
  case round =>
    obtain ⟨rfl, k, t, b, rfl, rfl, rfl, hk, hg, HA⟩ := hrel
    cases b with
    | true =>
      have hA : hexs k ++ t = hexs n := by simpa using HA.out
      have ht : t.length ≤ 4 := by
        have h1 := congrArg List.length hA
        have h2 := hexs_len4 hn
        rw [List.length_append] at h1
        omega
      have HB : Aside (hexs k ++ t = hexs n) := hA
      have hand := i64_and15 k (by omega)
      have hd : (ByteArray.mk #[48, 49, 50, 51, 52, 53, 54, 55, 56, 57, 97, 98, 99, 100, 101, 102]).extract (k % 16) (k % 16 + 1) ++ ⟨t.toArray⟩ = ⟨(hexc (k % 16) :: t).toArray⟩ := by
        rw [digit_at ⟨k % 16, by omega⟩]; apply ByteArray.ext; simp
      clear HA hA
      have Hd := Lib.hid hd
      clear hd
      by_cases h16 : k < 16
      · have hq : ¬ (0 < (k : Int) / 16) := by omega
        go_wp2
        · go_roundg 1
          case measure => omega
          case rel =>
            refine ⟨rfl, k / 16, hexc (k % 16) :: t, false, by go_num, by rw [← Hd.out], rfl, by omega, rfl, ?_⟩
            have := HB.out
            rw [hexs_small h16] at this
            rw [show k % 16 = k by omega]
            exact this
      · have hq : 0 < (k : Int) / 16 := by omega
        go_wp2
        · go_roundg (k / 16 + 2)
          case measure => omega
          case rel =>
            refine ⟨rfl, k / 16, hexc (k % 16) :: t, true, by go_num, by rw [← Hd.out], rfl, by omega, rfl, ?_⟩
            have := HB.out
            rw [hexs_big h16] at this
            unfold Aside; simpa using this
    | false =>
      have hA : t = hexs n := by simpa using HA.out
      have HB : Aside (t = hexs n) := hA
      clear HA hA hg
      go_wp2
      go_ret
      have e : t = hexs n := HB.out
      subst e
      exact ⟨rfl, rfl⟩

/-- all bits alike, all alike -/
theorem bits_alike : ∀ z : Fin 256, (∀ j : Fin 8, (z.val / 2 ^ (7 - j.val)) % 2 = 0) → z.val = 0 := by decide +kernel
theorem byte_alike (x y : UInt8) (h : ∀ j, j < 8 → ((x.toNat ^^^ y.toNat) / 2 ^ (7 - j)) % 2 = 0) : x = y := by
  have hz : x.toNat ^^^ y.toNat < 256 := Nat.xor_lt_two_pow (n := 8) x.toNat_lt y.toNat_lt
  have h0 : x.toNat ^^^ y.toNat = 0 := bits_alike ⟨_, hz⟩ (fun j => h j.val j.isLt)
  apply UInt8.toNat.inj
  have : x.toNat ^^^ y.toNat ^^^ y.toNat = y.toNat := by rw [h0, Nat.zero_xor]
  rw [Nat.xor_assoc, Nat.xor_self, Nat.xor_zero] at this
  exact this

theorem getD_lt {α : Type} (l : List α) (d : α) {k : Nat} (h : k < l.length) : l.getD k d = l[k] := by
  rw [List.getD_eq_getElem?_getD, List.getElem?_eq_getElem h]; rfl
theorem map_at (l : List UInt8) {k : Nat} (h : k < l.length) : (l.map B)[k]? = some (.int .u8 ((l.getD k 0).toNat : Int)) := by
  rw [List.getElem?_map, List.getElem?_eq_getElem h, getD_lt _ _ h]; rfl

/-- the bit k of bytes -/
def bitAt (l p : List UInt8) (k : Nat) : Nat := (((l.getD (k / 8) 0).toNat ^^^ (p.getD (k / 8) 0).toNat) / 2 ^ (7 - k % 8)) % 2
theorem bits_prefix (l p : List UInt8) (hl : p.length ≤ l.length) (h : ∀ k, k < 8 * p.length → bitAt l p k = 0) : l.take p.length = p := by
  apply List.ext_getElem
  · rw [List.length_take]; omega
  · intro i h1 h2
    rw [List.getElem_take]
    apply byte_alike
    intro j hj
    have := h (8 * i + j) (by omega)
    unfold bitAt at this
    have e1 : (8 * i + j) / 8 = i := by omega
    have e2 : (8 * i + j) % 8 = j := by omega
    rw [e1, e2, getD_lt _ _ (show i < l.length by omega), getD_lt _ _ h2] at this
    exact this
theorem bit_differs (l p : List UInt8) (k : Nat) (hk : k < 8 * p.length) (h : bitAt l p k ≠ 0) : l.take p.length ≠ p := by
  intro e
  apply h
  unfold bitAt
  have : l.getD (k / 8) 0 = p.getD (k / 8) 0 := by
    conv => rhs; rw [← e]
    rw [List.getD_eq_getElem?_getD, List.getD_eq_getElem?_getD, List.getElem?_take_of_lt (by omega)]
  rw [this, Nat.xor_self]; simp
theorem u8_and1 (q : Nat) (h : q < 256) : bits .and .u8 (q : Int) 1 = ((q % 2 : Nat) : Int) := by
  have := bits_mask .u8 8 (by decide) wraps_u8 1 (by decide) (q : Int) (by omega) (by omega)
  simpa using this

set_option maxHeartbeats 1600000 in
theorem netIn_ok (l p : List UInt8) (_hp : p ≠ []) (hlen : p.length ≤ l.length) (h16 : p.length ≤ 16) (c g o c' g' o' : Nat) (w : World) (hl : Row w g o (l.map B)) (hp' : Row w g' o' (p.map B)) :
    Calls Tryz.prog 10 #[.slice (some ⟨g, o, none⟩) l.length c, .int .i64 (8 * (p.length : Int)), .slice (some ⟨g', o', none⟩) p.length c'] w fun e w' => e = .returned (.bool (decide (l.take p.length = p))) ∧ w = w' := by
  go_enter Tryz.func10, Tryz.ntmps10
  go_wp2
  go_loopg [7] (8 * p.length + 1) (fun gk s7 wx => w = wx ∧ ∃ i : Nat, s7 = .int .i64 i ∧ i ≤ 8 * p.length ∧ gk = 8 * p.length + 1 - i ∧ Aside (∀ k, k < i → bitAt l p k = 0))
  case atStart => exact ⟨rfl, 0, rfl, by omega, rfl, fun k hk => by omega⟩
  case round =>
    obtain ⟨rfl, i, rfl, hi, hg, HA⟩ := hrel
    by_cases hlt : i < 8 * p.length
    · have c1 : w.cell? ⟨g, o + i / 8, none⟩ = some (.int .u8 ((l.getD (i / 8) 0).toNat : Int)) := hl (i / 8) _ (map_at l (by omega))
      have c2 : w.cell? ⟨g', o' + i / 8, none⟩ = some (.int .u8 ((p.getD (i / 8) 0).toNat : Int)) := hp' (i / 8) _ (map_at p (by omega))
      have b1 : i / 8 < p.length := by omega
      have b2 : i / 8 < l.length := by omega
      generalize hx : l.getD (i / 8) 0 = x at c1
      generalize hy : p.getD (i / 8) 0 = y at c2
      have hxor := u8_xor_nat x.toNat y.toNat x.toNat_lt y.toNat_lt
      have hz : x.toNat ^^^ y.toNat < 256 := Nat.xor_lt_two_pow (n := 8) x.toNat_lt y.toNat_lt
      have hand : bits .and .u8 (((x.toNat ^^^ y.toNat : Nat) : Int) / 2 ^ (7 - i % 8)) 1 = (((x.toNat ^^^ y.toNat) / 2 ^ (7 - i % 8) % 2 : Nat) : Int) := by
        rw [← u8_and1 _ (Nat.lt_of_le_of_lt (Nat.div_le_self _ _) hz)]; simp
      have hbit : bitAt l p i = (x.toNat ^^^ y.toNat) / 2 ^ (7 - i % 8) % 2 := by unfold bitAt; rw [hx, hy]
      generalize hq : (x.toNat ^^^ y.toNat) / 2 ^ (7 - i % 8) % 2 = q at hand hbit
      have hq2 : q < 2 := by omega
      have HB := Lib.hid hbit
      clear hx hy hq hbit
      go_wp2
      · go_ret
        have h1 : ((q : Int) == 1) = true := by assumption
        have h2 := bit_differs l p i hlt (by rw [HB.out]; simp at h1; omega)
        exact ⟨ret_bool (by simp [h2]), rfl⟩
      · have h1 : ((q : Int) == 1) = false := by assumption
        go_roundg (8 * p.length + 1 - (i + 1))
        case measure => omega
        case rel =>
          refine ⟨rfl, i + 1, by go_num, by omega, rfl, fun k hk => ?_⟩
          by_cases hki : k < i
          · exact HA k hki
          · obtain rfl : k = i := by omega
            rw [HB.out]; simp at h1; omega
    · have hle : ¬ ((i : Int) < 8 * (p.length : Int)) := by omega
      have HE := Lib.hid (decide_eq_true (bits_prefix l p hlen (fun k hk => HA k (by omega))))
      go_wp2
      go_ret
      exact ⟨ret_bool HE.out.symm, rfl⟩
end Go.Proofs.YtdlmmaolacjnaaaGreatDoor
