/-
  Groups of digits and the bytes they came from, in plain Lean. No program in it.
-/
import Derived.Test.YtchlkclpikdbjaaGreatDoorMore
import Derived.Test.YtchlkclpikdbjaaGreatDoorNum
import Derived.Laws.RangeAny
namespace Go.Proofs.YtchlkclpikdbjaaGreatDoor
set_option linter.unusedVariables false
set_option linter.unusedSimpArgs false

def xb (bs : List UInt8) (i : Nat) : Nat := (bs.getD i 0).toNat
theorem xb_lt (bs : List UInt8) (i : Nat) : xb bs i < 256 := UInt8.toNat_lt _
theorem bitv_eq (bs : List UInt8) (i : Nat) : bitv bs i = xb bs (i / 8) / 2 ^ (7 - i % 8) % 2 := by
  unfold bitv xb
  split
  · rfl
  · have : bs.length ≤ i / 8 := by omega
    rw [List.getD_eq_getElem?_getD, List.getElem?_eq_none this]
    simp
theorem bitv_at (bs : List UInt8) (p s k : Nat) (hk : k < 8) : bitv bs (8 * (p + s) + k) = xb bs (p + s) / 2 ^ (7 - k) % 2 := by
  rw [bitv_eq]
  have h1 : (8 * (p + s) + k) / 8 = p + s := by omega
  have h2 : (8 * (p + s) + k) % 8 = k := by omega
  rw [h1, h2]
/-- a digit of five bits -/
def d5 (bs : List UInt8) (j : Nat) : Nat := digk bs (5 * j) 5
theorem d5_lt (bs : List UInt8) (j : Nat) : d5 bs j < 32 := digk_lt bs _ 5
theorem digk5 (bs : List UInt8) (p : Nat) : digk bs p 5 = 16 * bitv bs p + 8 * bitv bs (p + 1) + 4 * bitv bs (p + 2) + 2 * bitv bs (p + 3) + bitv bs (p + 4) := by
  simp only [digk, Nat.add_zero]; omega
theorem digk6 (bs : List UInt8) (p : Nat) : digk bs p 6 = 32 * bitv bs p + 16 * bitv bs (p + 1) + 8 * bitv bs (p + 2) + 4 * bitv bs (p + 3) + 2 * bitv bs (p + 4) + bitv bs (p + 5) := by
  simp only [digk, Nat.add_zero]; omega
theorem digk4 (bs : List UInt8) (p : Nat) : digk bs p 4 = 8 * bitv bs p + 4 * bitv bs (p + 1) + 2 * bitv bs (p + 2) + bitv bs (p + 3) := by
  simp only [digk, Nat.add_zero]; omega
theorem bit_at {bs : List UInt8} {i m k : Nat} (h : i = 8 * m + k) (hk : k < 8) : bitv bs i = xb bs m / 2 ^ (7 - k) % 2 := by
  have := bitv_at bs m 0 k hk
  rw [Nat.add_zero] at this
  rw [h]; exact this
set_option maxHeartbeats 1000000 in
theorem group5 (bs : List UInt8) (q : Nat) :
    d5 bs (8 * q) = xb bs (5 * q) / 8 ∧ d5 bs (8 * q + 1) = xb bs (5 * q) % 8 * 4 + xb bs (5 * q + 1) / 64 ∧
    d5 bs (8 * q + 2) = xb bs (5 * q + 1) / 2 % 32 ∧ d5 bs (8 * q + 3) = xb bs (5 * q + 1) % 2 * 16 + xb bs (5 * q + 2) / 16 ∧
    d5 bs (8 * q + 4) = xb bs (5 * q + 2) % 16 * 2 + xb bs (5 * q + 3) / 128 ∧ d5 bs (8 * q + 5) = xb bs (5 * q + 3) / 4 % 32 ∧
    d5 bs (8 * q + 6) = xb bs (5 * q + 3) % 4 * 8 + xb bs (5 * q + 4) / 32 ∧ d5 bs (8 * q + 7) = xb bs (5 * q + 4) % 32 := by
  have x0 := xb_lt bs (5 * q)
  have x1 := xb_lt bs (5 * q + 1)
  have x2 := xb_lt bs (5 * q + 2)
  have x3 := xb_lt bs (5 * q + 3)
  have x4 := xb_lt bs (5 * q + 4)
  unfold d5
  refine ⟨?_, ?_, ?_, ?_, ?_, ?_, ?_, ?_⟩ <;> rw [digk5]
  · rw [bit_at (m := 5 * q) (k := 0) (by omega) (by decide), bit_at (m := 5 * q) (k := 1) (by omega) (by decide), bit_at (m := 5 * q) (k := 2) (by omega) (by decide), bit_at (m := 5 * q) (k := 3) (by omega) (by decide), bit_at (m := 5 * q) (k := 4) (by omega) (by decide)]
    simp only [Nat.reducePow, Nat.reduceSub]; omega
  · rw [bit_at (m := 5 * q) (k := 5) (by omega) (by decide), bit_at (m := 5 * q) (k := 6) (by omega) (by decide), bit_at (m := 5 * q) (k := 7) (by omega) (by decide), bit_at (m := 5 * q + 1) (k := 0) (by omega) (by decide), bit_at (m := 5 * q + 1) (k := 1) (by omega) (by decide)]
    simp only [Nat.reducePow, Nat.reduceSub]; omega
  · rw [bit_at (m := 5 * q + 1) (k := 2) (by omega) (by decide), bit_at (m := 5 * q + 1) (k := 3) (by omega) (by decide), bit_at (m := 5 * q + 1) (k := 4) (by omega) (by decide), bit_at (m := 5 * q + 1) (k := 5) (by omega) (by decide), bit_at (m := 5 * q + 1) (k := 6) (by omega) (by decide)]
    simp only [Nat.reducePow, Nat.reduceSub]; omega
  · rw [bit_at (m := 5 * q + 1) (k := 7) (by omega) (by decide), bit_at (m := 5 * q + 2) (k := 0) (by omega) (by decide), bit_at (m := 5 * q + 2) (k := 1) (by omega) (by decide), bit_at (m := 5 * q + 2) (k := 2) (by omega) (by decide), bit_at (m := 5 * q + 2) (k := 3) (by omega) (by decide)]
    simp only [Nat.reducePow, Nat.reduceSub]; omega
  · rw [bit_at (m := 5 * q + 2) (k := 4) (by omega) (by decide), bit_at (m := 5 * q + 2) (k := 5) (by omega) (by decide), bit_at (m := 5 * q + 2) (k := 6) (by omega) (by decide), bit_at (m := 5 * q + 2) (k := 7) (by omega) (by decide), bit_at (m := 5 * q + 3) (k := 0) (by omega) (by decide)]
    simp only [Nat.reducePow, Nat.reduceSub]; omega
  · rw [bit_at (m := 5 * q + 3) (k := 1) (by omega) (by decide), bit_at (m := 5 * q + 3) (k := 2) (by omega) (by decide), bit_at (m := 5 * q + 3) (k := 3) (by omega) (by decide), bit_at (m := 5 * q + 3) (k := 4) (by omega) (by decide), bit_at (m := 5 * q + 3) (k := 5) (by omega) (by decide)]
    simp only [Nat.reducePow, Nat.reduceSub]; omega
  · rw [bit_at (m := 5 * q + 3) (k := 6) (by omega) (by decide), bit_at (m := 5 * q + 3) (k := 7) (by omega) (by decide), bit_at (m := 5 * q + 4) (k := 0) (by omega) (by decide), bit_at (m := 5 * q + 4) (k := 1) (by omega) (by decide), bit_at (m := 5 * q + 4) (k := 2) (by omega) (by decide)]
    simp only [Nat.reducePow, Nat.reduceSub]; omega
  · rw [bit_at (m := 5 * q + 4) (k := 3) (by omega) (by decide), bit_at (m := 5 * q + 4) (k := 4) (by omega) (by decide), bit_at (m := 5 * q + 4) (k := 5) (by omega) (by decide), bit_at (m := 5 * q + 4) (k := 6) (by omega) (by decide), bit_at (m := 5 * q + 4) (k := 7) (by omega) (by decide)]
    simp only [Nat.reducePow, Nat.reduceSub]; omega
/-- bytes out of eight digits of five bits -/
theorem back5 (bs : List UInt8) (q : Nat) :
    d5 bs (8 * q) * 8 % 256 + d5 bs (8 * q + 1) / 4 = xb bs (5 * q) ∧
    d5 bs (8 * q + 1) * 64 % 256 + d5 bs (8 * q + 2) * 2 + d5 bs (8 * q + 3) / 16 = xb bs (5 * q + 1) ∧
    d5 bs (8 * q + 3) * 16 % 256 + d5 bs (8 * q + 4) / 2 = xb bs (5 * q + 2) ∧
    d5 bs (8 * q + 4) * 128 % 256 + d5 bs (8 * q + 5) * 4 + d5 bs (8 * q + 6) / 8 = xb bs (5 * q + 3) ∧
    d5 bs (8 * q + 6) * 32 % 256 + d5 bs (8 * q + 7) = xb bs (5 * q + 4) := by
  obtain ⟨h0, h1, h2, h3, h4, h5, h6, h7⟩ := group5 bs q
  rw [h0, h1, h2, h3, h4, h5, h6, h7]
  have x0 := xb_lt bs (5 * q)
  have x1 := xb_lt bs (5 * q + 1)
  have x2 := xb_lt bs (5 * q + 2)
  have x3 := xb_lt bs (5 * q + 3)
  have x4 := xb_lt bs (5 * q + 4)
  generalize xb bs (5 * q) = a at *
  generalize xb bs (5 * q + 1) = b at *
  generalize xb bs (5 * q + 2) = c at *
  generalize xb bs (5 * q + 3) = d at *
  generalize xb bs (5 * q + 4) = e at *
  clear h0 h1 h2 h3 h4 h5 h6 h7
  refine ⟨?_, ?_, ?_, ?_, ?_⟩ <;> omega
/-- a digit of six bits -/
def d6 (bs : List UInt8) (j : Nat) : Nat := digk bs (6 * j) 6
theorem d6_lt (bs : List UInt8) (j : Nat) : d6 bs j < 64 := digk_lt bs _ 6
set_option maxHeartbeats 1000000 in
theorem group6 (bs : List UInt8) (q : Nat) :
    d6 bs (4 * q) = xb bs (3 * q) / 4 ∧ d6 bs (4 * q + 1) = xb bs (3 * q) % 4 * 16 + xb bs (3 * q + 1) / 16 ∧
    d6 bs (4 * q + 2) = xb bs (3 * q + 1) % 16 * 4 + xb bs (3 * q + 2) / 64 ∧ d6 bs (4 * q + 3) = xb bs (3 * q + 2) % 64 := by
  have x0 := xb_lt bs (3 * q)
  have x1 := xb_lt bs (3 * q + 1)
  have x2 := xb_lt bs (3 * q + 2)
  unfold d6
  refine ⟨?_, ?_, ?_, ?_⟩ <;> rw [digk6]
  · rw [bit_at (m := 3 * q) (k := 0) (by omega) (by decide), bit_at (m := 3 * q) (k := 1) (by omega) (by decide), bit_at (m := 3 * q) (k := 2) (by omega) (by decide), bit_at (m := 3 * q) (k := 3) (by omega) (by decide), bit_at (m := 3 * q) (k := 4) (by omega) (by decide), bit_at (m := 3 * q) (k := 5) (by omega) (by decide)]
    simp only [Nat.reducePow, Nat.reduceSub]; omega
  · rw [bit_at (m := 3 * q) (k := 6) (by omega) (by decide), bit_at (m := 3 * q) (k := 7) (by omega) (by decide), bit_at (m := 3 * q + 1) (k := 0) (by omega) (by decide), bit_at (m := 3 * q + 1) (k := 1) (by omega) (by decide), bit_at (m := 3 * q + 1) (k := 2) (by omega) (by decide), bit_at (m := 3 * q + 1) (k := 3) (by omega) (by decide)]
    simp only [Nat.reducePow, Nat.reduceSub]; omega
  · rw [bit_at (m := 3 * q + 1) (k := 4) (by omega) (by decide), bit_at (m := 3 * q + 1) (k := 5) (by omega) (by decide), bit_at (m := 3 * q + 1) (k := 6) (by omega) (by decide), bit_at (m := 3 * q + 1) (k := 7) (by omega) (by decide), bit_at (m := 3 * q + 2) (k := 0) (by omega) (by decide), bit_at (m := 3 * q + 2) (k := 1) (by omega) (by decide)]
    simp only [Nat.reducePow, Nat.reduceSub]; omega
  · rw [bit_at (m := 3 * q + 2) (k := 2) (by omega) (by decide), bit_at (m := 3 * q + 2) (k := 3) (by omega) (by decide), bit_at (m := 3 * q + 2) (k := 4) (by omega) (by decide), bit_at (m := 3 * q + 2) (k := 5) (by omega) (by decide), bit_at (m := 3 * q + 2) (k := 6) (by omega) (by decide), bit_at (m := 3 * q + 2) (k := 7) (by omega) (by decide)]
    simp only [Nat.reducePow, Nat.reduceSub]; omega
/-- four digits of six bits are three bytes -/
theorem back6 (bs : List UInt8) (q : Nat) :
    d6 bs (4 * q) * 262144 + d6 bs (4 * q + 1) * 4096 + d6 bs (4 * q + 2) * 64 + d6 bs (4 * q + 3) = xb bs (3 * q) * 65536 + xb bs (3 * q + 1) * 256 + xb bs (3 * q + 2) := by
  obtain ⟨h0, h1, h2, h3⟩ := group6 bs q
  rw [h0, h1, h2, h3]
  generalize xb bs (3 * q) = a
  generalize xb bs (3 * q + 1) = b
  generalize xb bs (3 * q + 2) = c
  clear h0 h1 h2 h3
  omega
theorem xb_none (bs : List UInt8) (i : Nat) (h : bs.length ≤ i) : xb bs i = 0 := by
  unfold xb
  rw [List.getD_eq_getElem?_getD, List.getElem?_eq_none h]; rfl
/-- eight bits are a byte -/
theorem byte8 (bs : List UInt8) (i : Nat) : digk bs (8 * i) 8 = xb bs i := by
  have x0 := xb_lt bs i
  simp only [digk, Nat.add_zero]
  rw [bit_at (m := i) (k := 0) (by omega) (by decide), bit_at (m := i) (k := 1) (by omega) (by decide), bit_at (m := i) (k := 2) (by omega) (by decide), bit_at (m := i) (k := 3) (by omega) (by decide), bit_at (m := i) (k := 4) (by omega) (by decide), bit_at (m := i) (k := 5) (by omega) (by decide), bit_at (m := i) (k := 6) (by omega) (by decide), bit_at (m := i) (k := 7) (by omega) (by decide)]
  simp only [Nat.reducePow, Nat.reduceSub]; omega
/-- two digits of four bits are a byte -/
theorem back4 (bs : List UInt8) (i : Nat) : digk bs (4 * (2 * i)) 4 = xb bs i / 16 ∧ digk bs (4 * (2 * i + 1)) 4 = xb bs i % 16 := by
  have x0 := xb_lt bs i
  refine ⟨?_, ?_⟩ <;> rw [digk4]
  · rw [bit_at (m := i) (k := 0) (by omega) (by decide), bit_at (m := i) (k := 1) (by omega) (by decide), bit_at (m := i) (k := 2) (by omega) (by decide), bit_at (m := i) (k := 3) (by omega) (by decide)]
    simp only [Nat.reducePow, Nat.reduceSub]; omega
  · rw [bit_at (m := i) (k := 4) (by omega) (by decide), bit_at (m := i) (k := 5) (by omega) (by decide), bit_at (m := i) (k := 6) (by omega) (by decide), bit_at (m := i) (k := 7) (by omega) (by decide)]
    simp only [Nat.reducePow, Nat.reduceSub]; omega
end Go.Proofs.YtchlkclpikdbjaaGreatDoor
namespace Go.Proofs.YtchlkclpikdbjaaGreatDoor
set_option linter.unusedVariables false
set_option linter.unusedSimpArgs false
open Go.RowKit Go.Sort

/-- the number of digits of base 2 -/
def bval (l : List UInt8) : Nat := l.foldl (fun a x => 2 * a + (x.toNat - 48)) 0
theorem bval_snoc (l : List UInt8) (x : UInt8) : bval (l ++ [x]) = 2 * bval l + (x.toNat - 48) := by unfold bval; rw [List.foldl_append]; rfl
theorem takeD_snoc {l : List UInt8} {i : Nat} (h : i < l.length) : l.take (i + 1) = l.take i ++ [l.getD i 0] := by
  rw [List.take_succ_eq_append_getElem h, getD_lt _ _ h]

set_option maxHeartbeats 4000000 in
set_option maxRecDepth 100000 in
theorem parseUint2_ok (l : List UInt8) (h8 : l.length ≤ 16) (hl : 0 < l.length) (hd : ∀ x ∈ l, x = 48 ∨ x = 49) (w : World) : Calls Tryz.prog 200 #[.string ⟨l.toArray⟩, .int .i64 2, .int .i64 0] w fun e w' =>
    e = .returned (.tuple #[.int .u64 (bval l : Int), .nilIface]) ∧ Ext w w' := by
  obtain ⟨S, hS⟩ : ∃ S : ByteArray, S = ⟨l.toArray⟩ := ⟨_, rfl⟩
  rw [← hS]
  have hSz : S.size = l.length := by rw [Lib.size_eq, hS]
  have hne : S.toList.isEmpty = false := by
    rw [ByteArray.toList_eq, hS]
    cases l with
    | nil => simp at hl
    | cons a r => rfl
  have HSL : Hid (S.data.toList = l) := Lib.hid (by rw [hS])
  have HD := Lib.hid hd
  obtain ⟨len, hlen⟩ : ∃ len, len = l.length := ⟨_, rfl⟩
  rw [← hlen] at h8 hl hSz
  have HL := Lib.hid hlen
  have hmx : IntKind.u64.wrap (IntKind.u64.wrap 18446744073709551616 - 1) = 18446744073709551615 := by rw [IntKind.wrap_u64, IntKind.wrap_u64]; decide
  clear hS hd hlen
  go_enter Tryz.func200, Tryz.ntmps200
  go_wp2_with (refine wpList_bytes rfl _ rfl S rfl ?_; intro c w1 hc hr he _hsz; rw [HSL.out] at hr; have HR := Lib.hid hr; clear hr)
  go_loopg [12, 13, 101] (len + 1) (fun gk s12 s13 s101 wx => w1 = wx ∧ s12 = .bool false ∧ ∃ (i : Nat) (a : Int), s101 = .int .i64 (i : Int) ∧ s13 = .int .u64 a ∧ i ≤ len ∧ gk = len + 1 - i ∧ 0 ≤ a ∧ a < 65536 ∧ Hid (a = (bval (l.take i) : Int) ∧ bval (l.take i) < 2 ^ i))
  case atStart => exact ⟨rfl, rfl, 0, 0, rfl, rfl, by omega, rfl, by decide, by decide, Lib.hid ⟨rfl, by simp [bval]⟩⟩
  case round =>
    obtain ⟨rfl, rfl, i, a, rfl, rfl, hi, hgk, ha0, ha1, HN⟩ := hrel
    by_cases hlt : i < len
    · have hltI : (i : Int) < (len : Int) := by omega
      have hil : i < l.length := by rw [← HL.out]; exact hlt
      have c1 : w1.cell? ⟨w.heap.size, 0 + i, none⟩ = some (.int .u8 ((l.getD i 0).toNat : Int)) := HR.out i _ (map_at l hil)
      rw [Nat.zero_add] at c1
      have hx : l.getD i 0 = 48 ∨ l.getD i 0 = 49 := by rw [getD_lt _ _ hil]; exact HD.out _ (List.getElem_mem hil)
      have HS := Lib.hid (takeD_snoc hil)
      have hpw : 2 ^ (i + 1) ≤ 65536 := Nat.le_trans (Nat.pow_le_pow_right (by decide) (show i + 1 ≤ 16 by omega)) (by decide)
      have hp2 : 2 * bval (l.take i) + 2 ≤ 2 ^ (i + 1) := by have := HN.out.2; rw [Nat.pow_succ]; omega
      have hn2 : 2 * a + 2 ≤ 65536 := by have := HN.out.1; omega
      have HP2 := Lib.hid hp2
      clear hpw hp2 hil
      rcases hx with hx | hx
      all_goals
        rw [hx] at c1 HS
        first | replace c1 : w1.cell? ⟨w.heap.size, i, none⟩ = some (.int .u8 48) := c1 | replace c1 : w1.cell? ⟨w.heap.size, i, none⟩ = some (.int .u8 49) := c1
        clear hx
        go_wp2
        go_roundg (len + 1 - (i + 1))
        case measure => omega
        case rel =>
          have h1 := HN.out.1
          have h2 := HP2.out
          first
          | exact ⟨rfl, rfl, i + 1, 2 * a, by go_num, by go_num, by omega, rfl, by omega, by omega, Lib.hid (by
              rw [HS.out, bval_snoc]
              have e : (48 : UInt8).toNat - 48 = 0 := rfl
              rw [e]; omega)⟩
          | exact ⟨rfl, rfl, i + 1, 2 * a + 1, by go_num, by go_num, by omega, rfl, by omega, by omega, Lib.hid (by
              rw [HS.out, bval_snoc]
              have e : (49 : UInt8).toNat - 48 = 1 := rfl
              rw [e]; omega)⟩
    · obtain rfl : i = len := by omega
      have hle : ¬ ((i : Int) < (i : Int)) := by omega
      have HF : Hid (a = (bval l : Int)) := Lib.hid (by have := HN.out.1; rw [HL.out, List.take_length] at this; exact this)
      go_wp2
      go_ret2
      exact ⟨by rw [← HF.out]; rfl, he⟩

set_option maxHeartbeats 800000 in
set_option maxRecDepth 100000 in
theorem parseInt2_ok (l : List UInt8) (h8 : l.length = 8) (hd : ∀ x ∈ l, x = 48 ∨ x = 49) (hv : bval l < 256) (w : World) : Calls Tryz.prog 317 #[.string ⟨l.toArray⟩, .int .i64 2, .int .i64 0] w fun e w' =>
    e = .returned (.tuple #[.int .i64 (bval l : Int), .nilIface]) ∧ Ext w w' := by
  have HU := Lib.hid (fun w => parseUint2_ok l (by omega) (by omega) hd w)
  obtain ⟨n, hn⟩ : ∃ n : Int, n = (bval l : Int) := ⟨_, rfl⟩
  have hv1 : n < 256 := by omega
  have hv0 : 0 ≤ n := by omega
  rw [← hn] at HU ⊢
  clear hv
  have h0 : l.getD 0 0 = 48 ∨ l.getD 0 0 = 49 := by rw [getD_lt _ _ (by omega)]; exact hd _ (List.getElem_mem _)
  obtain ⟨S, hS⟩ : ∃ S : ByteArray, S = ⟨l.toArray⟩ := ⟨_, rfl⟩
  rw [← hS] at HU ⊢
  have hSz : S.size = 8 := by rw [Lib.size_eq, hS]; exact h8
  have hne : S.toList.isEmpty = false := by
    rw [ByteArray.toList_eq, hS]
    cases l with
    | nil => simp at h8
    | cons a r => rfl
  have hc0 := getElem_eq hS (d := 0) (by omega)
  have hd0 : 0 < S.size := by omega
  have h43 : ((S[0].toNat : Int) == 43) = false := by rw [hc0]; rcases h0 with h | h <;> rw [h] <;> rfl
  have h45 : ((S[0].toNat : Int) == 45) = false := by rw [hc0]; rcases h0 with h | h <;> rw [h] <;> rfl
  clear hS hd hn hc0 h0 h8
  go_enter Tryz.func317, Tryz.ntmps317
  go_wp2_with (fail)
  refine (HU.out _).mono ?_
  rintro e w1 ⟨rfl, he⟩
  go_wp2_with (fail)
  go_ret2
  exact ⟨rfl, he⟩

set_option maxRecDepth 100000 in
theorem parseInt2p_ok (l : List UInt8) (h8 : l.length = 8) (hd : ∀ x ∈ l, x = 48 ∨ x = 49) (hv : bval l < 256) (w : World) : Calls Tryz.prog 278 #[.string ⟨l.toArray⟩, .int .i64 2, .int .i64 0] w fun e w' =>
    e = .returned (.tuple #[.int .i64 (bval l : Int), .nilIface]) ∧ Ext w w' := by
  have HU := Lib.hid (fun w => parseInt2_ok l h8 hd hv w)
  generalize (⟨l.toArray⟩ : ByteArray) = S at HU
  clear h8 hd hv
  go_enter Tryz.func278, Tryz.ntmps278
  go_wp2_with (fail)
  refine (HU.out _).mono ?_
  rintro e w1 ⟨rfl, he⟩
  go_wp2_with (fail)
  go_ret2
  exact ⟨rfl, he⟩

/-- a cut of a text -/
theorem extract_list {S : ByteArray} {l : List UInt8} (h : S = ⟨l.toArray⟩) (a b : Nat) : S.extract a b = ⟨((l.drop a).take (b - a)).toArray⟩ := by
  subst h
  apply ByteArray.ext
  simp [List.extract_eq_take_drop]
/-- the characters of a base of bits, from one on -/
theorem bitText_cut (cs : List UInt8) (n : Nat) (bs : List UInt8) (m a k : Nat) (h : a + k ≤ m) : ((bitText cs n bs m).drop a).take k = (List.range k).map fun j => cs.getD (digk bs (n * (a + j)) n) 0 := by
  apply List.ext_getElem
  · simp [bitText]; omega
  · intro i h1 h2
    simp [bitText]
theorem bval_range (bs : List UInt8) (p : Nat) : ∀ t, bval ((List.range t).map fun j => ([48, 49] : List UInt8).getD (digk bs (1 * (p + j)) 1) 0) = digk bs p t
  | 0 => rfl
  | t + 1 => by
    have h1 : digk bs (1 * (p + t)) 1 = bitv bs (p + t) := by simp [digk]
    have h2 : digk bs p (t + 1) = 2 * digk bs p t + bitv bs (p + t) := rfl
    rw [List.range_succ, List.map_append, List.map_singleton, bval_snoc, bval_range bs p t, h1, h2]
    have := bitv_lt bs (p + t)
    have h : bitv bs (p + t) = 0 ∨ bitv bs (p + t) = 1 := by omega
    rcases h with h | h <;> rw [h] <;> rfl
theorem two_chars (bs : List UInt8) (p k : Nat) : ∀ x ∈ (List.range k).map fun j => ([48, 49] : List UInt8).getD (digk bs (1 * (p + j)) 1) 0, x = 48 ∨ x = 49 := by
  intro x hx
  obtain ⟨j, -, rfl⟩ := List.mem_map.1 hx
  have := digk_lt bs (1 * (p + j)) 1
  have h : digk bs (1 * (p + j)) 1 = 0 ∨ digk bs (1 * (p + j)) 1 = 1 := by omega
  rcases h with h | h <;> rw [h]
  · exact .inl rfl
  · exact .inr rfl
/-- what 'make' made may be written -/
theorem wr_made {w : World} {base g n c k : Nat} {e : TypeId} {z : Value} (h : w.ownsRow base e 1 (.slice (some ⟨g, 0, none⟩) n c) n (madeCells z.cells k).toList) (hz : z.cells = #[z]) (hk : k = n * 1) : Wr w g n (fun _ => z) := fun i hi => by
  subst hk
  refine ⟨?_, h.frozenAt _⟩
  have e : (madeCells z.cells (n * 1)).toList = List.replicate n z := by rw [Nat.mul_one, hz]; exact toList_madeCells_one _ _
  rw [h.cellAt i (by omega), e]
  rw [List.getElem?_replicate, if_pos hi]
theorem Ext.wr {w w' : World} (h : Ext w w') {b n : Nat} {f : Nat → Value} (hw : Wr w b n f) : Wr w' b n f := fun i hi => by
  have hlt : b < w.heap.size := block_lt_of_cell (hw i hi).1
  exact Wr.of_block (w := w) (w' := w') hw (Below.block h b hlt) i hi

set_option maxHeartbeats 1000000 in
set_option maxRecDepth 100000 in
theorem decodeBinary_ok (bs : List UInt8) (hlen : bs.length ≤ 1000) (w : World) : Calls Tryz.prog 217 #[.string ⟨(bitText [48, 49] 1 bs (8 * bs.length)).toArray⟩] w fun e w' =>
    ∃ v, e = .returned (.tuple #[v, .nilIface]) ∧ By w' bs v ∧ Ext w w' := by
  obtain ⟨S, hS⟩ : ∃ S : ByteArray, S = ⟨(bitText [48, 49] 1 bs (8 * bs.length)).toArray⟩ := ⟨_, rfl⟩
  rw [← hS]
  obtain ⟨len, hl⟩ : ∃ len, len = bs.length := ⟨_, rfl⟩
  rw [← hl] at hlen hS
  have hSz : S.size = 8 * len := by rw [Lib.size_eq, hS]; exact bitText_len _ _ _ _
  have HP := Lib.hid (fun (k : Nat) (hk : k < len) (w : World) => by
    have h1 : S.extract (8 * k) (8 * k + 8) = ⟨((List.range 8).map fun j => ([48, 49] : List UInt8).getD (digk bs (1 * (8 * k + j)) 1) 0).toArray⟩ := by
      rw [extract_list hS, show 8 * k + 8 - 8 * k = 8 by omega, bitText_cut _ _ _ _ _ _ (by omega)]
    have h2 : bval ((List.range 8).map fun j => ([48, 49] : List UInt8).getD (digk bs (1 * (8 * k + j)) 1) 0) = xb bs k := by rw [bval_range, byte8]
    have := parseInt2p_ok ((List.range 8).map fun j => ([48, 49] : List UInt8).getD (digk bs (1 * (8 * k + j)) 1) 0) (by simp) (two_chars bs (8 * k) 8) (by rw [h2]; exact xb_lt bs k) w
    rw [← h1, h2] at this
    exact this)
  have HL := Lib.hid hl
  obtain ⟨i0, hi, hz0, hz1, hz2⟩ := info_parts info_u8
  have b2 : i0.bytes * len ≤ 281474976710656 := by rw [hz2]; omega
  have b3 : len ≤ maxLen := by unfold maxLen; omega
  have hand : bits .and .i64 (8 * (len : Int)) 7 = 0 := by
    have := bits_mask .i64 63 (by decide) (fun n h0 h1 => by rw [IntKind.wrap_i64]; omega) 3 (by decide) ((8 * len : Nat) : Int) (by omega) (by omega)
    have e : ((8 * len : Nat) : Int) % 2 ^ 3 = 0 := by omega
    rw [e] at this
    rw [show (8 * (len : Int)) = ((8 * len : Nat) : Int) by omega]
    simpa using this
  clear hS hl
  go_enter Tryz.func217, Tryz.ntmps217
  go_wp2_with (refine wpList_make_full _ rfl _ _ 22 rfl w.heap.size 5 i0 (.int .u8 0) 1 Tryz.underlying22 hi hz0 hz1 _ _ _ _ len rfl rfl (by omega) (by omega) b2 b3 (Nat.le_refl _) ?_; intro w1 hown hgr)
  have HW := Lib.hid (wr_made hown rfl rfl)
  have HE := Lib.hid (below_of_grown hgr)
  clear hown hgr
  go_loopg [5, 6] (len + 1) (fun gk s5 s6 wx => ∃ k : Nat, s5 = .int .i64 (8 * (k : Int)) ∧ s6 = .int .i64 (k : Int) ∧ k ≤ len ∧ gk = len + 1 - k ∧ Hid (Wr wx w.heap.size len (fun j => if j < k then B (bs.getD j 0) else .int .u8 0)) ∧ Hid (Ext w wx))
  case atStart => exact ⟨0, rfl, rfl, by omega, rfl, Lib.hid (by simpa using HW.out), HE⟩
  case round =>
    obtain ⟨k, rfl, rfl, hk, hgk, HWR, HEX⟩ := hrel
    by_cases hlt : k < len
    · have hltI : 8 * (k : Int) < 8 * (len : Int) := by omega
      have hlt2 : (k : Int) < (len : Int) := by omega
      have HC := Lib.hid (HP.out k hlt)
      have hbx : B (bs.getD k 0) = .int .u8 (xb bs k : Int) := rfl
      have hx := xb_lt bs k
      have hcv : IntKind.u8.wrap (xb bs k : Int) = (xb bs k : Int) := by rw [IntKind.wrap_u8]; omega
      have HBX := Lib.hid hbx
      clear hbx
      go_wp2_with (fail)
      refine (HC.out _).mono ?_
      rintro e w2 ⟨rfl, he2⟩
      have hW2 := he2.wr HWR.out
      have hc0 : w2.cell? ⟨w.heap.size, k, none⟩ = some (.int .u8 0) := by rw [(hW2 k hlt).1]; simp
      have hf0 := (hW2 k hlt).2
      have HE2 := Lib.hid (ext_setCell (HEX.out.trans he2) (Nat.le_refl _) k (.int .u8 (xb bs k : Int)))
      have HW2 := Lib.hid ((hW2.set k (.int .u8 (xb bs k : Int))).congr (g := fun j => if j < k + 1 then B (bs.getD j 0) else .int .u8 0) fun j hj => by
        by_cases h1 : j = k
        · subst h1
          rw [if_pos rfl, if_pos (by omega), HBX.out]
        · rw [if_neg h1]
          by_cases h2 : j < k
          · rw [if_pos h2, if_pos (by omega)]
          · rw [if_neg h2, if_neg (by omega)])
      clear hW2
      go_wp2_with (fail)
      go_roundg (len + 1 - (k + 1))
      case measure => omega
      case rel => exact ⟨k + 1, by go_num, by go_num, by omega, rfl, HW2, HE2⟩
    · obtain rfl : k = len := by omega
      have hltI : ¬ (8 * (k : Int) < 8 * (k : Int)) := by omega
      go_wp2_with (fail)
      go_ret2
      refine ⟨_, rfl, ?_, HEX.out⟩
      have := Wr.by HWR.out bs (by rw [← HL.out]; exact Nat.le_refl _) k (by rw [← HL.out]; exact Nat.le_refl _) (fun i hi => by
        rw [if_pos (by rw [HL.out]; exact hi), getD_lt _ _ hi])
      rw [← HL.out] at this
      exact this
end Go.Proofs.YtchlkclpikdbjaaGreatDoor
namespace Go.Proofs.YtchlkclpikdbjaaGreatDoor
set_option linter.unusedVariables false
set_option linter.unusedSimpArgs false

/-- the value of the last k of n words -/
def sufv (f : Nat → Nat) (n : Nat) : Nat → Nat
  | 0 => 0
  | k + 1 => f (n - 1 - k) * 4294967296 ^ k + sufv f n k
theorem sufv_congr {f g : Nat → Nat} {n : Nat} : ∀ {k : Nat}, (∀ i, n - k ≤ i → i < n → f i = g i) → k ≤ n → sufv f n k = sufv g n k
  | 0, _, _ => rfl
  | k + 1, h, hk => by
    rw [sufv, sufv, h (n - 1 - k) (by omega) (by omega), sufv_congr (fun i h1 h2 => h i (by omega) h2) (by omega)]
theorem sufv_zero (n : Nat) : ∀ k, sufv (fun _ => 0) n k = 0
  | 0 => rfl
  | k + 1 => by rw [sufv, sufv_zero n k]; simp
theorem sufv_lt {f : Nat → Nat} {n : Nat} (hf : ∀ i, i < n → f i < 4294967296) : ∀ {k : Nat}, k ≤ n → sufv f n k < 4294967296 ^ k
  | 0, _ => by simp [sufv]
  | k + 1, hk => by
    rw [sufv, Nat.pow_succ]
    have h1 := sufv_lt hf (k := k) (by omega)
    have h2 := hf (n - 1 - k) (by omega)
    have h3 : f (n - 1 - k) * 4294967296 ^ k ≤ 4294967295 * 4294967296 ^ k := Nat.mul_le_mul_right _ (by omega)
    omega
/-- one word of a multiplication -/
theorem sufv_step {f f' : Nat → Nat} {n k K d c : Nat} (hk : k < n) (hlow : ∀ i, i < n - k → f' i = f i) (h : sufv f' n k + c * 4294967296 ^ k = sufv f n k * K + d) :
    sufv (fun i => if i = n - 1 - k then (f' i * K + c) % 4294967296 else f' i) n (k + 1) + (f' (n - 1 - k) * K + c) / 4294967296 * 4294967296 ^ (k + 1) = sufv f n (k + 1) * K + d := by
  rw [sufv, sufv, if_pos rfl, sufv_congr (g := f') (fun i h1 h2 => if_neg (by omega)) (by omega), hlow (n - 1 - k) (by omega)]
  have e := Nat.div_add_mod (f (n - 1 - k) * K + c) 4294967296
  generalize ht : f (n - 1 - k) * K + c = t at e
  generalize t / 4294967296 = q at e ⊢
  generalize t % 4294967296 = r at e ⊢
  have h1 : r * 4294967296 ^ k + q * 4294967296 ^ (k + 1) = t * 4294967296 ^ k := by
    rw [← e, Nat.pow_succ, Nat.add_mul]
    have : q * (4294967296 ^ k * 4294967296) = 4294967296 * q * 4294967296 ^ k := by
      rw [Nat.mul_comm (4294967296 ^ k), ← Nat.mul_assoc, Nat.mul_comm q]
    omega
  have h2 : t * 4294967296 ^ k = f (n - 1 - k) * 4294967296 ^ k * K + c * 4294967296 ^ k := by
    rw [← ht, Nat.add_mul, Nat.mul_assoc, Nat.mul_comm K, ← Nat.mul_assoc]
  rw [Nat.add_mul]
  omega
theorem carry_none {f' : Nat → Nat} {n c V : Nat} (h : sufv f' n n + c * 4294967296 ^ n = V) (hV : V < 4294967296 ^ n) : c = 0 ∧ sufv f' n n = V := by
  have : c = 0 := by
    rcases Nat.eq_zero_or_pos c with h0 | h0
    · exact h0
    · have := Nat.le_mul_of_pos_left (4294967296 ^ n) h0
      omega
  subst this
  exact ⟨rfl, by omega⟩
/-- a word of a value -/
theorem sufv_word {f : Nat → Nat} {n : Nat} (hf : ∀ i, i < n → f i < 4294967296) : ∀ {k q : Nat}, k ≤ n → q < k → f (n - 1 - q) = sufv f n k / 4294967296 ^ q % 4294967296
  | 0, q, _, h => by omega
  | k + 1, q, hk, h => by
    by_cases e : q = k
    · subst e
      rw [sufv, Nat.mul_comm, Nat.mul_add_div (Nat.pow_pos (by decide)), Nat.div_eq_of_lt (sufv_lt hf (by omega)), Nat.add_zero, Nat.mod_eq_of_lt (hf _ (by omega))]
    · have ih := sufv_word hf (k := k) (q := q) (by omega) (by omega)
      rw [ih, sufv]
      have e2 : f (n - 1 - k) * 4294967296 ^ k = 4294967296 ^ q * (4294967296 * (f (n - 1 - k) * 4294967296 ^ (k - 1 - q))) := by
        have : 4294967296 ^ k = 4294967296 ^ q * 4294967296 * 4294967296 ^ (k - 1 - q) := by
          rw [← Nat.pow_succ, ← Nat.pow_add]; congr 1; omega
        rw [this]
        simp only [Nat.mul_comm, Nat.mul_left_comm, Nat.mul_assoc]
      rw [e2, Nat.mul_add_div (Nat.pow_pos (by decide)), Nat.mul_add_mod]
/-- the byte p of a value, from the right -/
theorem word_byte {f : Nat → Nat} {n p : Nat} (hf : ∀ i, i < n → f i < 4294967296) (hp : p / 4 < n) : f (n - 1 - p / 4) / 2 ^ (8 * (p % 4)) % 256 = sufv f n n / 256 ^ p % 256 := by
  rw [sufv_word hf (Nat.le_refl n) hp]
  have e : (256 : Nat) ^ p = 4294967296 ^ (p / 4) * 2 ^ (8 * (p % 4)) := by
    have h1 : (4294967296 : Nat) = 256 ^ 4 := by decide
    have h2 : (2 : Nat) ^ (8 * (p % 4)) = 256 ^ (p % 4) := by rw [Nat.pow_mul]
    rw [h1, h2, ← Nat.pow_mul, ← Nat.pow_add]
    congr 1; omega
  rw [e, ← Nat.div_div_eq_div_mul]
  generalize sufv f n n / 4294967296 ^ (p / 4) = z
  have : p % 4 = 0 ∨ p % 4 = 1 ∨ p % 4 = 2 ∨ p % 4 = 3 := by omega
  rcases this with h | h | h | h <;> rw [h] <;> simp only [Nat.reduceMul, Nat.reducePow] <;> omega
/-- L bytes of a value, the most significant first -/
def be (V L : Nat) : List UInt8 := (List.range L).map fun i => UInt8.ofNat (V / 256 ^ (L - 1 - i) % 256)
theorem be_len (V L : Nat) : (be V L).length = L := by simp [be]
theorem be_getD (V L i : Nat) (h : i < L) : ((be V L).getD i 0).toNat = V / 256 ^ (L - 1 - i) % 256 := by
  rw [List.getD_eq_getElem?_getD]
  unfold be
  rw [List.getElem?_map, List.getElem?_range h]
  simp
theorem val_byte : ∀ (l : List UInt8) (i : Nat), i < l.length → (l.getD i 0).toNat = val l / 256 ^ (l.length - 1 - i) % 256
  | [], i, h => by simp at h
  | x :: r, 0, _ => by
    rw [val_cons]
    simp only [List.getD_cons_zero, List.length_cons, Nat.add_sub_cancel, Nat.sub_zero]
    rw [Nat.mul_comm, Nat.mul_add_div (Nat.pow_pos (by decide)), Nat.div_eq_of_lt (val_lt r), Nat.add_zero, Nat.mod_eq_of_lt x.toNat_lt]
  | x :: r, i + 1, h => by
    have hi : i < r.length := by simpa using h
    rw [val_cons, List.getD_cons_succ, val_byte r i hi]
    have e1 : (x :: r).length - 1 - (i + 1) = r.length - 1 - i := by simp; omega
    rw [e1]
    have e2 : x.toNat * 256 ^ r.length = 256 ^ (r.length - 1 - i) * (256 * (x.toNat * 256 ^ i)) := by
      have : 256 ^ r.length = 256 ^ (r.length - 1 - i) * 256 * 256 ^ i := by
        rw [← Nat.pow_succ, ← Nat.pow_add]; congr 1; omega
      rw [this]
      simp only [Nat.mul_comm, Nat.mul_left_comm, Nat.mul_assoc]
    rw [e2, Nat.mul_add_div (Nat.pow_pos (by decide)), Nat.mul_add_mod]
/-- bytes of a value are zeros and the bytes -/
theorem be_val (l : List UInt8) (L : Nat) (h : l.length ≤ L) : be (val l) L = List.replicate (L - l.length) 0 ++ l := by
  apply List.ext_getElem
  · simp [be_len]; omega
  · intro i h1 h2
    rw [be_len] at h1
    apply UInt8.toNat.inj
    have hb := be_getD (val l) L i h1
    rw [getD_lt _ _ (by rw [be_len]; exact h1)] at hb
    rw [hb, List.getElem_append]
    split
    · rename_i h3
      rw [List.length_replicate] at h3
      rw [List.getElem_replicate]
      have : val l / 256 ^ (L - 1 - i) = 0 := Nat.div_eq_of_lt (Nat.lt_of_lt_of_le (val_lt l) (Nat.pow_le_pow_right (by decide) (by omega)))
      rw [this]; rfl
    · rename_i h3
      rw [List.length_replicate] at h3
      have hj : i - (List.replicate (L - l.length) (0 : UInt8)).length < l.length := by rw [List.length_replicate]; omega
      have := val_byte l _ hj
      rw [getD_lt _ _ hj] at this
      rw [this, List.length_replicate]
      congr 3
      omega
/-- the value of digits -/
def pv (K : Nat) (ds : List Nat) : Nat := ds.foldl (fun a d => K * a + d) 0
theorem pv_snoc (K : Nat) (ds : List Nat) (d : Nat) : pv K (ds ++ [d]) = K * pv K ds + d := by unfold pv; rw [List.foldl_append]; rfl
theorem pv_nil (K : Nat) : pv K [] = 0 := rfl
theorem pv_fold (K : Nat) : ∀ (ds : List Nat) (a : Nat), ds.foldl (fun a d => K * a + d) a = a * K ^ ds.length + pv K ds
  | [], a => by simp [pv]
  | d :: r, a => by
    have h0 : pv K (d :: r) = d * K ^ r.length + pv K r := by
      have := pv_fold K r (K * 0 + d)
      simpa [pv] using this
    rw [List.foldl_cons, pv_fold K r, h0, List.length_cons, Nat.pow_succ, Nat.add_mul, Nat.mul_comm K a, Nat.mul_assoc, Nat.mul_comm K, Nat.add_assoc]
theorem pv_cons (K d : Nat) (r : List Nat) : pv K (d :: r) = d * K ^ r.length + pv K r := by
  have := pv_fold K r (K * 0 + d)
  simpa [pv] using this
theorem pv_lt {K : Nat} : ∀ {ds : List Nat}, (∀ d ∈ ds, d < K) → pv K ds < K ^ ds.length
  | [], _ => by simp [pv]
  | d :: r, h => by
    rw [pv_cons, List.length_cons, Nat.pow_succ]
    have h1 := pv_lt (ds := r) (fun x hx => h x (List.mem_cons_of_mem _ hx))
    have h2 : (d + 1) * K ^ r.length ≤ K * K ^ r.length := Nat.mul_le_mul_right _ (h d (by simp))
    rw [Nat.add_mul, Nat.mul_comm K] at h2
    omega
theorem pv_zeros (K : Nat) : ∀ z, pv K (List.replicate z 0) = 0
  | 0 => rfl
  | z + 1 => by rw [List.replicate_succ, pv_cons, pv_zeros K z]; simp
theorem pv_append (K : Nat) (a b : List Nat) : pv K (a ++ b) = pv K a * K ^ b.length + pv K b := by
  conv => lhs; unfold pv
  rw [List.foldl_append, pv_fold]
  rfl
theorem numDigs_spec {K : Nat} (hK : 2 ≤ K) (N : Nat) : pv K (numDigs K N) = N ∧ ∀ d ∈ numDigs K N, d < K := by
  induction N using Nat.strongRecOn with
  | _ N ih =>
    by_cases h : N = 0
    · subst h; rw [numDigs_zero]; simp [pv]
    · rw [numDigs_pos hK h]
      obtain ⟨h1, h2⟩ := ih (N / K) (Nat.div_lt_self (Nat.pos_of_ne_zero h) hK)
      constructor
      · rw [pv_snoc, h1]; exact Nat.div_add_mod N K
      · intro d hd
        rcases List.mem_append.1 hd with hd | hd
        · exact h2 d hd
        · have : d = N % K := by simpa using hd
          rw [this]; exact Nat.mod_lt _ (by omega)
/-- all digits of the text of bytes -/
def allDigs (K : Nat) (bs : List UInt8) : List Nat := List.replicate (leadZ bs) 0 ++ numDigs K (val bs)
theorem allDigs_lt {K : Nat} (hK : 2 ≤ K) (bs : List UInt8) : ∀ d ∈ allDigs K bs, d < K := by
  intro d hd
  rcases List.mem_append.1 hd with hd | hd
  · rw [(List.mem_replicate.1 hd).2]; omega
  · exact (numDigs_spec hK _).2 d hd
theorem allDigs_pv {K : Nat} (hK : 2 ≤ K) (bs : List UInt8) : pv K (allDigs K bs) = val bs := by
  unfold allDigs
  rw [pv_append, pv_zeros, (numDigs_spec hK _).1]; omega
theorem numText_eq (cs : List UInt8) (K : Nat) (bs : List UInt8) : numText cs K bs = (allDigs K bs).map fun d => cs.getD d 0 := by
  unfold numText allDigs
  rw [List.map_append, List.map_replicate]
/-- the digits are no fewer than the bytes -/
theorem numDigs_many {K : Nat} (hK : 2 ≤ K) (h256 : K ≤ 256) {l : List UInt8} (h : NZ l) : l.length ≤ (numDigs K (val l)).length := by
  by_cases hne : l = []
  · rw [hne]; simp
  · have h1 := val_pos h hne
    have h2 := pv_lt (numDigs_spec hK (val l)).2
    rw [(numDigs_spec hK (val l)).1] at h2
    by_cases h3 : l.length ≤ (numDigs K (val l)).length
    · exact h3
    · exfalso
      have h4 : K ^ (numDigs K (val l)).length ≤ 256 ^ (l.length - 1) := Nat.le_trans (Nat.pow_le_pow_left h256 _) (Nat.pow_le_pow_right (by decide) (by omega))
      omega
/-- What the decoders take out of the bytes of the value. -/
theorem digits_back {K : Nat} (hK : 2 ≤ K) (h256 : K ≤ 256) (bs : List UInt8) (hz : leadZ bs < bs.length) :
    ∃ s, be (val bs) (allDigs K bs).length = List.replicate (leadZ bs + s) 0 ++ bs.drop (leadZ bs) ∧ (bs.drop (leadZ bs)).head? ≠ some 0 ∧ bs.drop (leadZ bs) ≠ [] ∧ (be (val bs) (allDigs K bs).length).drop s = bs ∧ (allDigs K bs).length = s + bs.length := by
  have hnz := leadZ_drop bs
  have hv := leadZ_val bs
  have h1 := numDigs_many hK h256 hnz
  rw [hv] at h1
  have hl : (allDigs K bs).length = leadZ bs + (numDigs K (val bs)).length := by simp [allDigs]
  have hd : (bs.drop (leadZ bs)).length = bs.length - leadZ bs := by simp
  have hb : be (val bs) (allDigs K bs).length = List.replicate ((allDigs K bs).length - (bs.drop (leadZ bs)).length) 0 ++ bs.drop (leadZ bs) := by
    rw [← hv]; exact be_val _ _ (by rw [hv] at *; omega)
  refine ⟨(allDigs K bs).length - bs.length, ?_, hnz, ?_, ?_, by omega⟩
  · rw [hb]; congr 2; omega
  · intro h; rw [h] at hd; simp at hd; omega
  · rw [hb]
    have e : (allDigs K bs).length - (bs.drop (leadZ bs)).length = ((allDigs K bs).length - bs.length) + leadZ bs := by omega
    rw [e, ← List.replicate_append_replicate, List.append_assoc, List.drop_left' (by simp)]
    apply List.ext_getElem
    · simp; omega
    · intro i h2 h3
      rw [List.getElem_append]
      split
      · rename_i h4
        rw [List.length_replicate] at h4
        have := leadZ_at bs i h4
        rw [getD_lt _ _ h3] at this
        rw [List.getElem_replicate, this]
      · rename_i h4
        rw [List.length_replicate] at h4
        rw [List.getElem_drop]
        congr 1
        simp; omega
theorem numDigs_head {K : Nat} (hK : 2 ≤ K) (N : Nat) : (numDigs K N).head? ≠ some 0 := by
  induction N using Nat.strongRecOn with
  | _ N ih =>
    by_cases h : N = 0
    · subst h; rw [numDigs_zero]; simp
    · rw [numDigs_pos hK h]
      by_cases h2 : N / K = 0
      · rw [h2, numDigs_zero, List.nil_append, List.head?_cons]
        intro e
        have e2 := Option.some.inj e
        have := Nat.div_add_mod N K
        rw [h2, e2] at this
        omega
      · have ih2 := ih (N / K) (Nat.div_lt_self (Nat.pos_of_ne_zero h) hK)
        cases hc : numDigs K (N / K) with
        | nil =>
          exfalso
          have := (numDigs_spec hK (N / K)).1
          rw [hc] at this
          exact h2 this.symm
        | cons a r => rw [hc] at ih2; simpa using ih2
theorem allDigs_zero (K : Nat) (bs : List UInt8) (j : Nat) (h : j < leadZ bs) : (allDigs K bs).getD j 0 = 0 := by
  unfold allDigs
  rw [List.getD_eq_getElem?_getD, List.getElem?_append_left (by simpa using h), List.getElem?_replicate, if_pos h]; rfl
theorem val_pos_of {bs : List UInt8} (hz : leadZ bs < bs.length) : val bs ≠ 0 := by
  rw [← leadZ_val bs]
  exact val_zero (leadZ_drop bs) (by intro h; have := congrArg List.length h; simp at this; omega)
theorem allDigs_stop {K : Nat} (hK : 2 ≤ K) (bs : List UInt8) (hz : leadZ bs < bs.length) : leadZ bs < (allDigs K bs).length ∧ (allDigs K bs).getD (leadZ bs) 0 ≠ 0 := by
  have hv := val_pos_of hz
  have hh := numDigs_head hK (val bs)
  cases hc : numDigs K (val bs) with
  | nil =>
    exfalso
    have := (numDigs_spec hK (val bs)).1
    rw [hc] at this
    exact hv this.symm
  | cons a r =>
    rw [hc] at hh
    constructor
    · simp [allDigs, hc]
    · unfold allDigs
      rw [List.getD_eq_getElem?_getD, List.getElem?_append_right (by simp), hc]
      simp
      intro e; apply hh; rw [e]; rfl
theorem pv_take {K : Nat} {ds : List Nat} {i : Nat} (h : i < ds.length) : pv K (ds.take (i + 1)) = K * pv K (ds.take i) + ds.getD i 0 := by
  rw [List.take_succ_eq_append_getElem h, pv_snoc, getD_lt _ _ h]
theorem pv_take_lt {K : Nat} {ds : List Nat} (h : ∀ d ∈ ds, d < K) (i : Nat) (hi : i ≤ ds.length) : pv K (ds.take i) < K ^ i := by
  have := pv_lt (K := K) (ds := ds.take i) (fun d hd => h d (List.mem_of_mem_take hd))
  rwa [List.length_take, Nat.min_eq_left hi] at this
/-- the value so far has room in the words -/
theorem pv_room {K : Nat} (h256 : K ≤ 256) {ds : List Nat} (h : ∀ d ∈ ds, d < K) {i n : Nat} (hi : i ≤ ds.length) (hn : ds.length ≤ 4 * n) : pv K (ds.take i) < 4294967296 ^ n := by
  refine Nat.lt_of_lt_of_le (pv_take_lt h i hi) ?_
  have h1 : (4294967296 : Nat) = 256 ^ 4 := by decide
  rw [h1, ← Nat.pow_mul]
  exact Nat.le_trans (Nat.pow_le_pow_left h256 i) (Nat.pow_le_pow_right (by decide) (by omega))
theorem be_at (f : Nat → Nat) (n V L i j m : Nat) (hf : ∀ i, i < n → f i < 4294967296) (hV : sufv f n n = V) (hj : j < n) (hm : m < 4) (hi : i + 1 + m + 4 * (n - 1 - j) = L) : ((be V L).getD i 0).toNat = f j / 2 ^ (8 * m) % 256 := by
  rw [be_getD V L i (by omega)]
  have hp : L - 1 - i = m + 4 * (n - 1 - j) := by omega
  rw [hp]
  have h1 : (m + 4 * (n - 1 - j)) / 4 = n - 1 - j := by omega
  have h2 : (m + 4 * (n - 1 - j)) % 4 = m := by omega
  have := word_byte (p := m + 4 * (n - 1 - j)) hf (by omega)
  rw [h1, h2, hV, show n - 1 - (n - 1 - j) = j by omega] at this
  exact this.symm
theorem top_word {f : Nat → Nat} {n bl : Nat} (hf : ∀ i, i < n → f i < 4294967296) (hn : 1 ≤ n) (hV : sufv f n n < 256 ^ (4 * (n - 1) + bl)) : f 0 < 256 ^ bl := by
  have h := sufv_word hf (Nat.le_refl n) (show n - 1 < n by omega)
  rw [show n - 1 - (n - 1) = 0 by omega] at h
  rw [h]
  refine Nat.lt_of_le_of_lt (Nat.mod_le _ _) ?_
  have h1 : (4294967296 : Nat) = 256 ^ 4 := by decide
  rw [Nat.div_lt_iff_lt_mul (Nat.pow_pos (by decide)), h1, ← Nat.pow_mul, Nat.mul_comm, ← Nat.pow_add]
  exact hV
theorem pv_small {K : Nat} (h256 : K ≤ 256) {ds : List Nat} (h : ∀ d ∈ ds, d < K) {i : Nat} (hi : i ≤ ds.length) : pv K (ds.take i) < 256 ^ ds.length :=
  Nat.lt_of_lt_of_le (pv_take_lt h i hi) (Nat.le_trans (Nat.pow_le_pow_left h256 i) (Nat.pow_le_pow_right (by decide) hi))
end Go.Proofs.YtchlkclpikdbjaaGreatDoor
namespace Go.Proofs.YtchlkclpikdbjaaGreatDoor
set_option linter.unusedVariables false
set_option linter.unusedSimpArgs false
open Go.RowKit Go.Sort

section
variable {P : Program}
theorem run_next_here (w : World) (k : Nat) (s : ByteArray) (pos : Nat) (ty : TypeId) (hk : w.heap[k]? = some (.stringIter s pos)) (h : pos < s.size) (ha : (s[pos]'h).toNat < 128) :
    (Instr.next (.pointer (some ⟨k, 0, none⟩)) true ty).run P w = .ok (.tuple #[.bool true, .int .i64 pos, .int .i32 ((s[pos]'h).toNat : Int)]) { w with heap := w.heap.setIfInBounds k (.stringIter s (pos + 1)) } := by
  simp only [Instr.next, getObj, setObj, Sem.run_bind, Sem.run, hk, Result.andThen, h, if_true, decode_ascii s pos h ha]
  simp [goInt, Sem.run, hk]
theorem run_next_over (w : World) (k : Nat) (s : ByteArray) (pos : Nat) (ty : TypeId) (hk : w.heap[k]? = some (.stringIter s pos)) (h : ¬ pos < s.size) :
    (Instr.next (.pointer (some ⟨k, 0, none⟩)) true ty).run P w = .ok (.tuple #[.bool false]) w := by
  simp [Instr.next, getObj, Sem.run, hk, h]
/-- The world behind one step of a range over a text. -/
def stepped (w : World) (k : Nat) (s : ByteArray) (pos : Nat) : World := { w with heap := w.heap.setIfInBounds k (.stringIter s pos) }
theorem stepped_same {w : World} {k : Nat} {s : ByteArray} {pos p : Nat} (hk : w.heap[k]? = some (.stringIter s p)) : (stepped w k s pos).heap[k]? = some (.stringIter s pos) := by
  have := (Array.getElem?_eq_some_iff.1 hk).1
  simp [stepped, this]
theorem stepped_other {w : World} {k j : Nat} {s : ByteArray} {pos : Nat} (h : j ≠ k) : (stepped w k s pos).heap[j]? = w.heap[j]? := by
  simp only [stepped]
  rw [Array.getElem?_setIfInBounds_ne (fun e => h e.symm)]
theorem stepped_ext {w0 w : World} {k : Nat} {s : ByteArray} {pos : Nat} (h : Ext w0 w) (hk : w0.heap.size ≤ k) : Ext w0 (stepped w k s pos) :=
  ⟨h.os, h.tape, h.output, by simpa [stepped] using h.size, fun j hj => by rw [stepped_other (by omega)]; exact Below.block h j hj⟩
theorem wpList_next {ops : Array Oper} {rest : List Oper} {o : Oper} {a : Act} {w : World} {Q : Exit → Act → World → Prop} (hgd : o.guard = none) (x : Operand) (ho : o.op = .next x true) (k : Nat) (hx : a.eval x = .pointer (some ⟨k, 0, none⟩)) (s : ByteArray) (pos : Nat)
    (hk : w.heap[k]? = some (.stringIter s pos)) (hp : pos < s.size) (ha : (s[pos]'hp).toNat < 128)
    (h : wpList P ops Q rest (a.put o.dst (.tuple #[.bool true, .int .i64 pos, .int .i32 ((s[pos]'hp).toNat : Int)])) (stepped w k s (pos + 1))) : wpList P ops Q (o :: rest) a w := by
  refine Great.wpList_runTo hgd _ rfl _ _ ?_ h
  unfold execOp
  simp only [ho, hx]
  simp only [Sem.run_bind, run_next_here w k s pos _ hk hp ha, Result.andThen_ok]
  rfl
theorem wpList_over {ops : Array Oper} {rest : List Oper} {o : Oper} {a : Act} {w : World} {Q : Exit → Act → World → Prop} (hgd : o.guard = none) (x : Operand) (ho : o.op = .next x true) (k : Nat) (hx : a.eval x = .pointer (some ⟨k, 0, none⟩)) (s : ByteArray) (pos : Nat)
    (hk : w.heap[k]? = some (.stringIter s pos)) (hp : ¬ pos < s.size)
    (h : wpList P ops Q rest (a.put o.dst (.tuple #[.bool false])) w) : wpList P ops Q (o :: rest) a w := by
  refine Great.wpList_runTo hgd _ rfl _ _ ?_ h
  unfold execOp
  simp only [ho, hx]
  simp only [Sem.run_bind, run_next_over w k s pos _ hk hp, Result.andThen_ok]
  rfl
theorem wpList_rangeS {ops : Array Oper} {rest : List Oper} {o : Oper} {a : Act} {w : World} {Q : Exit → Act → World → Prop} (hgd : o.guard = none) (t : TypeId) (ht : P.underlying t = some .string) (x : Operand) (ho : o.op = .range t x) (s : ByteArray) (hx : a.eval x = .string s)
    (h : ∀ w1, w1.heap[w.heap.size]? = some (.stringIter s 0) → Ext w w1 → w1.heap.size = w.heap.size + 1 → wpList P ops Q rest (a.put o.dst (.pointer (some ⟨w.heap.size, 0, none⟩))) w1) : wpList P ops Q (o :: rest) a w := by
  refine Great.wpList_runTo hgd _ rfl _ _ ?_ (h (w.iter s 0) (World.iter_heap w s 0) (Ext.alloc (Ext.refl w) _) (by simp [World.iter]))
  unfold execOp
  simp only [ho, hx]
  simp only [Sem.run_bind, run_range_string w t s ht, Result.andThen_ok]
  rfl
end
theorem Wr.stepped {w : World} {b n : Nat} {f : Nat → Value} (h : Wr w b n f) {k : Nat} (hne : b ≠ k) (s : ByteArray) (pos : Nat) : Wr (stepped w k s pos) b n f := h.of_block (stepped_other hne)

/-- runes of a text of one byte each -/
theorem runesFrom_ascii (s : ByteArray) (h : ∀ x ∈ s.data.toList, x.toNat < 128) : ∀ (bound i : Nat) (acc : Array Value), s.size - i ≤ bound → Conv.runesFrom s bound i acc = acc ++ ((s.data.toList.drop i).map fun x : UInt8 => (.int .i32 (x.toNat : Int) : Value)).toArray
  | 0, i, acc, hb => by
    have : s.data.toList.drop i = [] := List.drop_of_length_le (by rw [← Lib.size_eq]; omega)
    rw [this]; simp [Conv.runesFrom]
  | bound + 1, i, acc, hb => by
    unfold Conv.runesFrom
    by_cases hi : i < s.size
    · have hil : i < s.data.toList.length := by rw [← Lib.size_eq]; exact hi
      have hg : s.data.toList[i] = s[i]'hi := by
        have := Lib.data_getElem? s i hi
        rw [List.getElem?_eq_getElem hil] at this
        exact Option.some.inj this
      have h7 : (s[i]'hi).toNat < 128 := by rw [← hg]; exact h _ (List.getElem_mem hil)
      rw [if_pos hi, decode_ascii s i hi h7]
      simp only []
      rw [runesFrom_ascii s h bound (i + 1) _ (by omega), List.drop_eq_getElem_cons hil, hg]
      simp
    · rw [if_neg hi]
      have : s.data.toList.drop i = [] := List.drop_of_length_le (by rw [← Lib.size_eq]; omega)
      rw [this]; simp
/-- '[]rune(s)' -/
theorem wpList_runes {ops : Array Oper} {rest : List Oper} {o : Oper} {a : Act} {w : World} {Q : Exit → Act → World → Prop} (hgd : o.guard = none) (x : Operand) (ho : o.op = .convert 9 269 x) (l : List UInt8) (hx : a.eval x = .string ⟨l.toArray⟩) (h7 : ∀ y ∈ l, y.toNat < 128) (hlen : l.length ≤ 70368744177664)
    (h : ∀ c w1, l.length ≤ c → Row w1 w.heap.size 0 (l.map fun y : UInt8 => (.int .i32 (y.toNat : Int) : Value)) → Ext w w1 → w1.heap.size = w.heap.size + 1 → wpList Tryz.prog ops Q rest (a.put o.dst (.slice (some ⟨w.heap.size, 0, none⟩) l.length c)) w1) : wpList Tryz.prog ops Q (o :: rest) a w := by
  have hr := runesFrom_ascii ⟨l.toArray⟩ (by simpa using h7) (⟨l.toArray⟩ : ByteArray).size 0 #[] (by omega)
  simp only [List.drop_zero, Array.empty_append] at hr
  have hsz : (Conv.runesFrom ⟨l.toArray⟩ (⟨l.toArray⟩ : ByteArray).size 0 #[]).size = l.length := by rw [hr]; simp
  have hrun := run_runes_of_string (P := Tryz.prog) w 9 269 21 ⟨l.toArray⟩ Tryz.underlying9 Tryz.underlying269 Tryz.underlying21 (by rw [hsz]; exact hlen)
  rw [hsz, hr] at hrun
  have hE : Ext w (w.drew.alloc (.cells ((l.map fun x : UInt8 => (.int .i32 (x.toNat : Int) : Value)).toArray ++ Array.replicate (grownCap w l.length 0 21 - l.length) (.int .i32 0)) 21)) := Ext.alloc (Ext.drew (Ext.refl w)) _
  have hS : (w.drew.alloc (.cells ((l.map fun x : UInt8 => (.int .i32 (x.toNat : Int) : Value)).toArray ++ Array.replicate (grownCap w l.length 0 21 - l.length) (.int .i32 0)) 21)).heap.size = w.heap.size + 1 := by simp
  have hR : Row (w.drew.alloc (.cells ((l.map fun x : UInt8 => (.int .i32 (x.toNat : Int) : Value)).toArray ++ Array.replicate (grownCap w l.length 0 21 - l.length) (.int .i32 0)) 21)) w.heap.size 0 (l.map fun x : UInt8 => (.int .i32 (x.toNat : Int) : Value)) := fun j v hj => by
    have hjl : j < l.length := by have := (List.getElem?_eq_some_iff.1 hj).1; simpa using this
    rw [Nat.zero_add]
    refine (cell_of_row _ _ j _ _ _ (heap_alloc_new w.drew _)).trans ?_
    rw [Array.getElem?_append_left (by simpa using hjl)]
    simpa using hj
  refine Great.wpList_runTo hgd _ rfl _ _ ?_ (h _ _ (grownCap_ge w l.length 0 21) hR hE hS)
  unfold execOp
  simp only [ho, hx]
  simp only [Sem.run_bind, hrun, Result.andThen_ok]
  rfl
end Go.Proofs.YtchlkclpikdbjaaGreatDoor
