/-
  Varints of any length, read. Written by gen_uv.py.
-/
import Derived.Test.YtchlkclpikdbjaaGreatDoorMb
import Derived.Test.YtchlkclpikdbjaaGreatDoorText
import Derived.Lib.EndianBits
namespace Go.Proofs.YtchlkclpikdbjaaGreatDoor
set_option linter.unusedVariables false
set_option linter.unusedSimpArgs false
open Go.RowKit Go.Sort

theorem ret3q' (a b c d : Int) (u : Value) (h : a = b) (h2 : c = d) : Ending.returned (.tuple #[.int .u64 a, .int .i64 c, u]) = Ending.returned (.tuple #[.int .u64 b, .int .i64 d, u]) := by rw [h, h2]
/-- the bytes of a varint -/
theorem uv_at (x : Nat) : ∀ i, i < (Lib.uvarint x).length → ((Lib.uvarint x).getD i 0).toNat = x / 128 ^ i % 128 + (if i + 1 = (Lib.uvarint x).length then 0 else 128) := by
  induction x using Nat.strongRecOn with
  | _ x ih =>
    by_cases h : x < 128
    · rw [Lib.uvarint_small h]
      intro i hi
      obtain rfl : i = 0 := by simpa using hi
      simp; omega
    · rw [Lib.uvarint_big (by omega)]
      intro i hi
      have hp := Lib.uvarint_pos (x / 128)
      cases i with
      | zero =>
        rw [List.length_cons, if_neg (by omega)]
        simp; omega
      | succ i =>
        have := ih (x / 128) (by omega) i (by simpa using hi)
        rw [List.getD_cons_succ, this, Nat.div_div_eq_div_mul, Nat.pow_succ, Nat.mul_comm 128]
        simp only [List.length_cons, Nat.add_right_cancel_iff]
theorem uv_len (x : Nat) : x < 128 ^ (Lib.uvarint x).length ∧ (1 < (Lib.uvarint x).length → 128 ^ ((Lib.uvarint x).length - 1) ≤ x) := by
  induction x using Nat.strongRecOn with
  | _ x ih =>
    by_cases h : x < 128
    · rw [Lib.uvarint_small h]; simp; exact h
    · rw [Lib.uvarint_big (by omega)]
      obtain ⟨h1, h2⟩ := ih (x / 128) (by omega)
      have hp := Lib.uvarint_pos (x / 128)
      rw [List.length_cons]
      constructor
      · rw [Nat.pow_succ]
        have : x / 128 < 128 ^ (Lib.uvarint (x / 128)).length := h1
        rw [Nat.div_lt_iff_lt_mul (by decide)] at this
        exact this
      · intro _
        rw [Nat.add_sub_cancel]
        by_cases h3 : 1 < (Lib.uvarint (x / 128)).length
        · have h4 := h2 h3
          have h5 : 128 ^ (Lib.uvarint (x / 128)).length = 128 ^ ((Lib.uvarint (x / 128)).length - 1) * 128 := by rw [← Nat.pow_succ]; congr 1; omega
          rw [h5]
          have := Nat.mul_le_mul_right 128 h4
          omega
        · have h6 : (Lib.uvarint (x / 128)).length = 1 := by omega
          rw [h6]; omega
theorem uv_le9 {x : Nat} (hx : x < 9223372036854775808) : (Lib.uvarint x).length ≤ 9 := by
  rcases Nat.lt_or_ge 9 (Lib.uvarint x).length with h | h
  · have h1 := (uv_len x).2 (by omega)
    have h2 : 128 ^ 9 ≤ 128 ^ ((Lib.uvarint x).length - 1) := Nat.pow_le_pow_right (by decide) (by omega)
    have h3 : (128 : Nat) ^ 9 = 9223372036854775808 := by decide
    omega
  · exact h
/-- What a reader of a varint meets at the byte i: its low bits; whether it is the last one. -/
theorem uv_step (x L i : Nat) (hL : L = (Lib.uvarint x).length) (hi : i < L) (c : Nat) (hc : c = ((Lib.uvarint x).getD i 0).toNat) :
    (i + 1 = L ∧ c < 128 ∧ x % 128 ^ i + c * 128 ^ i = x ∧ (0 < i → c ≠ 0)) ∨ (i + 1 < L ∧ 128 ≤ c ∧ c < 256 ∧ x % 128 ^ i + (c % 128) * 128 ^ i = x % 128 ^ (i + 1)) := by
  have h1 := uv_at x i (by omega)
  rw [← hc, ← hL] at h1
  obtain ⟨h2, h3⟩ := uv_len x
  rw [← hL] at h2 h3
  have hmod : x % 128 ^ i + x / 128 ^ i % 128 * 128 ^ i = x % 128 ^ (i + 1) := by
    rw [Nat.pow_succ, Nat.mod_mul, Nat.mul_comm (128 ^ i)]
  by_cases he : i + 1 = L
  · left
    rw [if_pos he, Nat.add_zero] at h1
    have hlt : x < 128 ^ (i + 1) := by rw [he]; exact h2
    have hq : x / 128 ^ i < 128 := by
      rw [Nat.div_lt_iff_lt_mul (Nat.pow_pos (by decide)), Nat.mul_comm, ← Nat.pow_succ]; exact hlt
    rw [Nat.mod_eq_of_lt hlt] at hmod
    rw [← h1] at hmod
    refine ⟨he, by omega, hmod, fun hi0 hc0 => ?_⟩
    have h4 := h3 (by omega)
    rw [show L - 1 = i by omega] at h4
    rw [hc0] at hmod
    have := Nat.mod_lt x (Nat.pow_pos (n := i) (show 0 < 128 by decide))
    omega
  · right
    rw [if_neg he] at h1
    have hq := Nat.mod_lt (x / 128 ^ i) (show 0 < 128 by decide)
    refine ⟨by omega, by omega, by omega, ?_⟩
    rw [h1, show (x / 128 ^ i % 128 + 128) % 128 = x / 128 ^ i % 128 by omega]
    exact hmod

set_option maxHeartbeats 2000000 in
set_option maxRecDepth 100000 in
theorem fromUv_ok (x : Nat) (hx : x < 9223372036854775808) (rest : List UInt8) (hr : rest.length ≤ 100000) (v : Value) (w : World) (hv : By w (Lib.uvarint x ++ rest) v) :
    Calls Tryz.prog 193 #[v] w fun e w' => e = .returned (.tuple #[.int .u64 (x : Int), .int .i64 ((Lib.uvarint x).length : Int), .nilIface]) ∧ w = w' := by
  obtain ⟨a, c, rfl, h2, h4⟩ := hv
  have hpos := Lib.uvarint_pos x
  obtain ⟨g, o, rfl, hrow⟩ := h4 (by intro h; rw [List.append_eq_nil_iff] at h; rw [h.1] at hpos; simp at hpos)
  obtain ⟨L, hL⟩ : ∃ L, L = (Lib.uvarint x).length := ⟨_, rfl⟩
  have hL9 := uv_le9 hx
  rw [← hL] at hL9 hpos ⊢
  obtain ⟨n, hn⟩ : ∃ n, n = (Lib.uvarint x ++ rest).length := ⟨_, rfl⟩
  have hnL : L ≤ n ∧ n ≤ 100009 := by rw [hn, List.length_append]; omega
  rw [← hn] at h2 ⊢
  have hcell : ∀ i, i < L → w.cell? ⟨g, o + i, none⟩ = some (.int .u8 (((Lib.uvarint x).getD i 0).toNat : Int)) := fun i hi => by
    refine hrow i _ ?_
    rw [List.getElem?_map, List.getElem?_append_left (by omega), List.getElem?_eq_getElem (by omega), getD_lt _ _ (by omega)]; rfl
  have HC := Lib.hid hcell
  have HL := Lib.hid hL
  obtain ⟨X, hX⟩ : ∃ X : Int, X = (x : Int) := ⟨_, rfl⟩
  rw [← hX]
  have HX := Lib.hid hX
  clear hcell hrow h4 hL hn hx hX
  go_enter Tryz.func193, Tryz.ntmps193
  go_wp2
  go_loopg [5, 6, 11] 10 (fun gk s5 s6 s11 wx => w = wx ∧ ∃ (i : Nat) (A : Int), s5 = .int .u64 A ∧ s6 = .int .u64 (7 * (i : Int)) ∧ s11 = .int .i64 (i : Int) ∧ i < L ∧ gk = 10 - i ∧ Hid (A = ((x % 128 ^ i : Nat) : Int)))
  case atStart => exact ⟨rfl, 0, 0, rfl, rfl, rfl, by omega, rfl, Lib.hid (by simp [Nat.mod_one])⟩
  case round =>
    obtain ⟨rfl, i, A, rfl, rfl, rfl, hi, hgk, HA⟩ := hrel
    obtain ⟨cn, hcn⟩ : ∃ cn, cn = ((Lib.uvarint x).getD i 0).toNat := ⟨_, rfl⟩
    have hc := HC.out i hi
    rw [← hcn] at hc
    have hst := uv_step x L i HL.out hi cn hcn
    have hA0 : 0 ≤ A ∧ A < ((128 ^ i : Nat) : Int) := by
      have := Nat.mod_lt x (Nat.pow_pos (n := i) (show 0 < 128 by decide))
      have hA := HA.out
      omega
    obtain ⟨hA0, hA1⟩ := hA0
    have hin : (i : Int) < (n : Int) := by omega
    have hi9 : i = 0 ∨ i = 1 ∨ i = 2 ∨ i = 3 ∨ i = 4 ∨ i = 5 ∨ i = 6 ∨ i = 7 ∨ i = 8 := by omega
    have HAA := Lib.hid HA.out
    clear hcn
    rcases hst with ⟨hlast, hc7, hsum, hne⟩ | ⟨hmore, hc8, hc9, hsum⟩
    · have HS := Lib.hid (And.intro hsum (And.intro hlast HAA.out))
      have hz : cn ≠ 0 ∨ (cn = 0 ∧ i = 0) := by
        by_cases h : i = 0
        · by_cases h2 : cn = 0
          · exact .inr ⟨h2, h⟩
          · exact .inl h2
        · exact .inl (hne (by omega))
      clear hsum hne HA HAA hlast
      rcases hz with hz | ⟨rfl, rfl⟩
      · have hcz : ((cn : Int) == 0) = false := by rw [beq_eq_false_iff_ne]; omega
        have hcI : (cn : Int) < 128 := by omega
        rcases hi9 with rfl | rfl | rfl | rfl | rfl | rfl | rfl | rfl | rfl
        · simp only [Nat.reducePow] at hA1
          (try simp only [Nat.add_zero] at hc)
          go_wp2
          go_ret3
          refine ⟨?_, rfl⟩
          obtain ⟨s1, s2, s3⟩ := HS.out
          have hx0 := HX.out
          simp only [Nat.reducePow] at s1 s3
          have hor : bits .or .u64 A ((cn : Int)) = X := by
            rw [bits_join_low .u64 64 (by decide) w64 0 A ((cn : Int)) (by omega) (by omega) (by omega) (by omega) (by omega) (by omega)]
            omega
          show Ending.returned (.tuple #[.int .u64 (bits .or .u64 A ((cn : Int))), .int .i64 1, .nilIface]) = _
          rw [hor]
          exact ret3q' _ _ _ _ _ rfl (by omega)
        · simp only [Nat.reducePow] at hA1
          (try simp only [Nat.add_zero] at hc)
          go_wp2
          go_ret3
          refine ⟨?_, rfl⟩
          obtain ⟨s1, s2, s3⟩ := HS.out
          have hx0 := HX.out
          simp only [Nat.reducePow] at s1 s3
          have hor : bits .or .u64 A ((cn : Int) * 128) = X := by
            rw [bits_join_low .u64 64 (by decide) w64 7 A ((cn : Int) * 128) (by omega) (by omega) (by omega) (by omega) (by omega) (by omega)]
            omega
          show Ending.returned (.tuple #[.int .u64 (bits .or .u64 A ((cn : Int) * 128)), .int .i64 2, .nilIface]) = _
          rw [hor]
          exact ret3q' _ _ _ _ _ rfl (by omega)
        · simp only [Nat.reducePow] at hA1
          (try simp only [Nat.add_zero] at hc)
          go_wp2
          go_ret3
          refine ⟨?_, rfl⟩
          obtain ⟨s1, s2, s3⟩ := HS.out
          have hx0 := HX.out
          simp only [Nat.reducePow] at s1 s3
          have hor : bits .or .u64 A ((cn : Int) * 16384) = X := by
            rw [bits_join_low .u64 64 (by decide) w64 14 A ((cn : Int) * 16384) (by omega) (by omega) (by omega) (by omega) (by omega) (by omega)]
            omega
          show Ending.returned (.tuple #[.int .u64 (bits .or .u64 A ((cn : Int) * 16384)), .int .i64 3, .nilIface]) = _
          rw [hor]
          exact ret3q' _ _ _ _ _ rfl (by omega)
        · simp only [Nat.reducePow] at hA1
          (try simp only [Nat.add_zero] at hc)
          go_wp2
          go_ret3
          refine ⟨?_, rfl⟩
          obtain ⟨s1, s2, s3⟩ := HS.out
          have hx0 := HX.out
          simp only [Nat.reducePow] at s1 s3
          have hor : bits .or .u64 A ((cn : Int) * 2097152) = X := by
            rw [bits_join_low .u64 64 (by decide) w64 21 A ((cn : Int) * 2097152) (by omega) (by omega) (by omega) (by omega) (by omega) (by omega)]
            omega
          show Ending.returned (.tuple #[.int .u64 (bits .or .u64 A ((cn : Int) * 2097152)), .int .i64 4, .nilIface]) = _
          rw [hor]
          exact ret3q' _ _ _ _ _ rfl (by omega)
        · simp only [Nat.reducePow] at hA1
          (try simp only [Nat.add_zero] at hc)
          go_wp2
          go_ret3
          refine ⟨?_, rfl⟩
          obtain ⟨s1, s2, s3⟩ := HS.out
          have hx0 := HX.out
          simp only [Nat.reducePow] at s1 s3
          have hor : bits .or .u64 A ((cn : Int) * 268435456) = X := by
            rw [bits_join_low .u64 64 (by decide) w64 28 A ((cn : Int) * 268435456) (by omega) (by omega) (by omega) (by omega) (by omega) (by omega)]
            omega
          show Ending.returned (.tuple #[.int .u64 (bits .or .u64 A ((cn : Int) * 268435456)), .int .i64 5, .nilIface]) = _
          rw [hor]
          exact ret3q' _ _ _ _ _ rfl (by omega)
        · simp only [Nat.reducePow] at hA1
          (try simp only [Nat.add_zero] at hc)
          go_wp2
          go_ret3
          refine ⟨?_, rfl⟩
          obtain ⟨s1, s2, s3⟩ := HS.out
          have hx0 := HX.out
          simp only [Nat.reducePow] at s1 s3
          have hor : bits .or .u64 A ((cn : Int) * 34359738368) = X := by
            rw [bits_join_low .u64 64 (by decide) w64 35 A ((cn : Int) * 34359738368) (by omega) (by omega) (by omega) (by omega) (by omega) (by omega)]
            omega
          show Ending.returned (.tuple #[.int .u64 (bits .or .u64 A ((cn : Int) * 34359738368)), .int .i64 6, .nilIface]) = _
          rw [hor]
          exact ret3q' _ _ _ _ _ rfl (by omega)
        · simp only [Nat.reducePow] at hA1
          (try simp only [Nat.add_zero] at hc)
          go_wp2
          go_ret3
          refine ⟨?_, rfl⟩
          obtain ⟨s1, s2, s3⟩ := HS.out
          have hx0 := HX.out
          simp only [Nat.reducePow] at s1 s3
          have hor : bits .or .u64 A ((cn : Int) * 4398046511104) = X := by
            rw [bits_join_low .u64 64 (by decide) w64 42 A ((cn : Int) * 4398046511104) (by omega) (by omega) (by omega) (by omega) (by omega) (by omega)]
            omega
          show Ending.returned (.tuple #[.int .u64 (bits .or .u64 A ((cn : Int) * 4398046511104)), .int .i64 7, .nilIface]) = _
          rw [hor]
          exact ret3q' _ _ _ _ _ rfl (by omega)
        · simp only [Nat.reducePow] at hA1
          (try simp only [Nat.add_zero] at hc)
          go_wp2
          go_ret3
          refine ⟨?_, rfl⟩
          obtain ⟨s1, s2, s3⟩ := HS.out
          have hx0 := HX.out
          simp only [Nat.reducePow] at s1 s3
          have hor : bits .or .u64 A ((cn : Int) * 562949953421312) = X := by
            rw [bits_join_low .u64 64 (by decide) w64 49 A ((cn : Int) * 562949953421312) (by omega) (by omega) (by omega) (by omega) (by omega) (by omega)]
            omega
          show Ending.returned (.tuple #[.int .u64 (bits .or .u64 A ((cn : Int) * 562949953421312)), .int .i64 8, .nilIface]) = _
          rw [hor]
          exact ret3q' _ _ _ _ _ rfl (by omega)
        · simp only [Nat.reducePow] at hA1
          (try simp only [Nat.add_zero] at hc)
          go_wp2
          go_ret3
          refine ⟨?_, rfl⟩
          obtain ⟨s1, s2, s3⟩ := HS.out
          have hx0 := HX.out
          simp only [Nat.reducePow] at s1 s3
          have hor : bits .or .u64 A ((cn : Int) * 72057594037927936) = X := by
            rw [bits_join_low .u64 64 (by decide) w64 56 A ((cn : Int) * 72057594037927936) (by omega) (by omega) (by omega) (by omega) (by omega) (by omega)]
            omega
          show Ending.returned (.tuple #[.int .u64 (bits .or .u64 A ((cn : Int) * 72057594037927936)), .int .i64 9, .nilIface]) = _
          rw [hor]
          exact ret3q' _ _ _ _ _ rfl (by omega)
      · simp only [Nat.add_zero] at hc
        have hor : bits .or .u64 A 0 = A := by
          rw [bits_join .u64 64 (by decide) w64 0 A 0 (by omega) (by omega) (by simp at hA1; omega) (by omega) (by omega) (by omega)]; omega
        go_wp2
        go_ret3
        refine ⟨?_, rfl⟩
        obtain ⟨s1, s2, s3⟩ := HS.out
        have hx0 := HX.out
        simp only [Nat.reducePow, Nat.mod_one] at s1 s3
        exact ret3q' _ _ _ _ _ (by omega) (by omega)
    · have hcI : (128 : Int) ≤ (cn : Int) := by omega
      have hcI2 : (cn : Int) < 256 := by omega
      have hand : bits .and .u8 (cn : Int) 127 = (cn : Int) % 128 := by
        have := bits_mask .u8 8 (by decide) wraps_u8 7 (by decide) (cn : Int) (by omega) (by omega)
        simpa using this
      have HS := Lib.hid (And.intro hsum (And.intro hmore HAA.out))
      clear hsum HA HAA
      rcases hi9 with rfl | rfl | rfl | rfl | rfl | rfl | rfl | rfl | rfl
      · simp only [Nat.reducePow] at hA1
        (try simp only [Nat.add_zero] at hc)
        obtain ⟨s1, s2, s3⟩ := HS.out
        have hor : bits .or .u64 A ((cn : Int) % 128) = A + (cn : Int) % 128 := by
          rw [bits_join_low .u64 64 (by decide) w64 0 A ((cn : Int) % 128) (by omega) (by omega) (by omega) (by omega) (by omega) (by omega)]
        clear s1 s2 s3
        go_wp2
        go_roundg (10 - (0 + 1))
        case measure => omega
        case rel =>
          obtain ⟨s1, s2, s3⟩ := HS.out
          simp only [Nat.reducePow, Nat.reduceAdd] at s1 s3
          exact ⟨rfl, 1, _, rfl, rfl, rfl, by omega, rfl, Lib.hid (by simp only [Nat.reducePow]; omega)⟩
      · simp only [Nat.reducePow] at hA1
        (try simp only [Nat.add_zero] at hc)
        obtain ⟨s1, s2, s3⟩ := HS.out
        have hor : bits .or .u64 A ((cn : Int) % 128 * 128) = A + (cn : Int) % 128 * 128 := by
          rw [bits_join_low .u64 64 (by decide) w64 7 A ((cn : Int) % 128 * 128) (by omega) (by omega) (by omega) (by omega) (by omega) (by omega)]
        clear s1 s2 s3
        go_wp2
        go_roundg (10 - (1 + 1))
        case measure => omega
        case rel =>
          obtain ⟨s1, s2, s3⟩ := HS.out
          simp only [Nat.reducePow, Nat.reduceAdd] at s1 s3
          exact ⟨rfl, 2, _, rfl, rfl, rfl, by omega, rfl, Lib.hid (by simp only [Nat.reducePow]; omega)⟩
      · simp only [Nat.reducePow] at hA1
        (try simp only [Nat.add_zero] at hc)
        obtain ⟨s1, s2, s3⟩ := HS.out
        have hor : bits .or .u64 A ((cn : Int) % 128 * 16384) = A + (cn : Int) % 128 * 16384 := by
          rw [bits_join_low .u64 64 (by decide) w64 14 A ((cn : Int) % 128 * 16384) (by omega) (by omega) (by omega) (by omega) (by omega) (by omega)]
        clear s1 s2 s3
        go_wp2
        go_roundg (10 - (2 + 1))
        case measure => omega
        case rel =>
          obtain ⟨s1, s2, s3⟩ := HS.out
          simp only [Nat.reducePow, Nat.reduceAdd] at s1 s3
          exact ⟨rfl, 3, _, rfl, rfl, rfl, by omega, rfl, Lib.hid (by simp only [Nat.reducePow]; omega)⟩
      · simp only [Nat.reducePow] at hA1
        (try simp only [Nat.add_zero] at hc)
        obtain ⟨s1, s2, s3⟩ := HS.out
        have hor : bits .or .u64 A ((cn : Int) % 128 * 2097152) = A + (cn : Int) % 128 * 2097152 := by
          rw [bits_join_low .u64 64 (by decide) w64 21 A ((cn : Int) % 128 * 2097152) (by omega) (by omega) (by omega) (by omega) (by omega) (by omega)]
        clear s1 s2 s3
        go_wp2
        go_roundg (10 - (3 + 1))
        case measure => omega
        case rel =>
          obtain ⟨s1, s2, s3⟩ := HS.out
          simp only [Nat.reducePow, Nat.reduceAdd] at s1 s3
          exact ⟨rfl, 4, _, rfl, rfl, rfl, by omega, rfl, Lib.hid (by simp only [Nat.reducePow]; omega)⟩
      · simp only [Nat.reducePow] at hA1
        (try simp only [Nat.add_zero] at hc)
        obtain ⟨s1, s2, s3⟩ := HS.out
        have hor : bits .or .u64 A ((cn : Int) % 128 * 268435456) = A + (cn : Int) % 128 * 268435456 := by
          rw [bits_join_low .u64 64 (by decide) w64 28 A ((cn : Int) % 128 * 268435456) (by omega) (by omega) (by omega) (by omega) (by omega) (by omega)]
        clear s1 s2 s3
        go_wp2
        go_roundg (10 - (4 + 1))
        case measure => omega
        case rel =>
          obtain ⟨s1, s2, s3⟩ := HS.out
          simp only [Nat.reducePow, Nat.reduceAdd] at s1 s3
          exact ⟨rfl, 5, _, rfl, rfl, rfl, by omega, rfl, Lib.hid (by simp only [Nat.reducePow]; omega)⟩
      · simp only [Nat.reducePow] at hA1
        (try simp only [Nat.add_zero] at hc)
        obtain ⟨s1, s2, s3⟩ := HS.out
        have hor : bits .or .u64 A ((cn : Int) % 128 * 34359738368) = A + (cn : Int) % 128 * 34359738368 := by
          rw [bits_join_low .u64 64 (by decide) w64 35 A ((cn : Int) % 128 * 34359738368) (by omega) (by omega) (by omega) (by omega) (by omega) (by omega)]
        clear s1 s2 s3
        go_wp2
        go_roundg (10 - (5 + 1))
        case measure => omega
        case rel =>
          obtain ⟨s1, s2, s3⟩ := HS.out
          simp only [Nat.reducePow, Nat.reduceAdd] at s1 s3
          exact ⟨rfl, 6, _, rfl, rfl, rfl, by omega, rfl, Lib.hid (by simp only [Nat.reducePow]; omega)⟩
      · simp only [Nat.reducePow] at hA1
        (try simp only [Nat.add_zero] at hc)
        obtain ⟨s1, s2, s3⟩ := HS.out
        have hor : bits .or .u64 A ((cn : Int) % 128 * 4398046511104) = A + (cn : Int) % 128 * 4398046511104 := by
          rw [bits_join_low .u64 64 (by decide) w64 42 A ((cn : Int) % 128 * 4398046511104) (by omega) (by omega) (by omega) (by omega) (by omega) (by omega)]
        clear s1 s2 s3
        go_wp2
        go_roundg (10 - (6 + 1))
        case measure => omega
        case rel =>
          obtain ⟨s1, s2, s3⟩ := HS.out
          simp only [Nat.reducePow, Nat.reduceAdd] at s1 s3
          exact ⟨rfl, 7, _, rfl, rfl, rfl, by omega, rfl, Lib.hid (by simp only [Nat.reducePow]; omega)⟩
      · simp only [Nat.reducePow] at hA1
        (try simp only [Nat.add_zero] at hc)
        obtain ⟨s1, s2, s3⟩ := HS.out
        have hor : bits .or .u64 A ((cn : Int) % 128 * 562949953421312) = A + (cn : Int) % 128 * 562949953421312 := by
          rw [bits_join_low .u64 64 (by decide) w64 49 A ((cn : Int) % 128 * 562949953421312) (by omega) (by omega) (by omega) (by omega) (by omega) (by omega)]
        clear s1 s2 s3
        go_wp2
        go_roundg (10 - (7 + 1))
        case measure => omega
        case rel =>
          obtain ⟨s1, s2, s3⟩ := HS.out
          simp only [Nat.reducePow, Nat.reduceAdd] at s1 s3
          exact ⟨rfl, 8, _, rfl, rfl, rfl, by omega, rfl, Lib.hid (by simp only [Nat.reducePow]; omega)⟩
      · exfalso
        have := HS.out.2.1
        omega
end Go.Proofs.YtchlkclpikdbjaaGreatDoor
namespace Go.Proofs.YtchlkclpikdbjaaGreatDoor
set_option linter.unusedVariables false
set_option linter.unusedSimpArgs false
open Go.RowKit Go.Sort

set_option maxHeartbeats 1000000 in
set_option maxRecDepth 100000 in
theorem maVarint_ok (x : Nat) (hx : x < 9223372036854775808) (w : World) : Calls Tryz.prog 9 #[.int .u64 (x : Int)] w fun e w' => ∃ v, e = .returned v ∧ By w' (Lib.uvarint x) v ∧ Ext w w' := by
  obtain ⟨i0, hi, hz0, hz1, hz2⟩ := info_parts info_u8
  have hl9 := uv_le9 hx
  have HL9 := Lib.hid hl9
  obtain ⟨X, hX⟩ : ∃ X : Int, X = (x : Int) := ⟨_, rfl⟩
  rw [← hX]
  have hX0 : 0 ≤ X ∧ X < 9223372036854775808 := by omega
  have HX := Lib.hid hX
  clear hX hx hl9
  go_enter Tryz.func9, Tryz.ntmps9
  go_wp2
  go_loopg [0, 3] (x + 1) (fun gk s0 s3 wx => ∃ (Y : Int) (pre : List UInt8), s0 = .int .u64 Y ∧ 0 ≤ Y ∧ Y < 9223372036854775808 ∧ pre.length ≤ 9 ∧ Hid (∃ y : Nat, Y = (y : Int) ∧ gk = y + 1 ∧ Lib.uvarint x = pre ++ Lib.uvarint y) ∧ Hid (wx.ownsRow w.heap.size 5 1 s3 pre.length (pre.map B)) ∧ Hid (Ext w wx))
  case atStart => exact ⟨X, [], rfl, hX0.1, hX0.2, by decide, Lib.hid ⟨x, HX.out, rfl, rfl⟩, Lib.hid (World.ownsRow_nil _ _ _ _), Lib.hid (Ext.refl _)⟩
  case round =>
    obtain ⟨Y, pre, rfl, hY0, hY1, hpl, HY, hown, hE⟩ := hrel
    have hwE := hE.out.size
    have hlt5 := Lib.hid hown.out.lt
    by_cases h128 : (128 : Int) ≤ Y
    · go_wp2_with (at_builtin; refine wpList_append_any rfl _ _ 22 rfl w.heap.size 5 i0 _ 1 1 Tryz.underlying22 hi hz0 hz1 hz2 rfl (by decide) _ pre.length (pre.map B) rfl (Ext.own (Ext.alloc (Ext.refl _) _) hown.out) _ 1 [.int .u8 (Y % 128 + 128)] rfl (src_one1 _ _ _) (by simp [Value.oneCell']) (by unfold maxLen; omega) (by omega) (by simp; omega) ?_; intro u' w5 hown5 hgr5 hwh5)
      have HO := Lib.hid (And.intro hown5 (below_grown (Ext.alloc hE.out _) (Ext.alloc hE.out _).size hgr5 (fun j hj => (hlt5.out j hj).1)))
      clear hown5 hgr5 hwh5
      obtain ⟨y, hy1, hy2, hy3⟩ := HY.out
      have hyb : 128 ≤ y := by omega
      have hpos := Lib.uvarint_pos (y / 128)
      have hlen := congrArg List.length hy3
      rw [Lib.uvarint_big hyb, List.length_append, List.length_cons] at hlen
      have hl9 := HL9.out
      have hpl2 : pre.length + 1 ≤ 9 := by omega
      have HN : Hid (∃ y' : Nat, Y / 128 = (y' : Int) ∧ y / 128 + 1 = y' + 1 ∧ Lib.uvarint x = (pre ++ [(y % 128 + 128).toUInt8]) ++ Lib.uvarint y') := Lib.hid ⟨y / 128, by omega, rfl, by rw [hy3, Lib.uvarint_big hyb]; simp⟩
      have HO2 : Hid (w5.ownsRow w.heap.size 5 1 u' (pre ++ [(y % 128 + 128).toUInt8]).length ((pre ++ [(y % 128 + 128).toUInt8]).map B)) := Lib.hid (by
        have := HO.out.1
        have e : (.int .u8 (Y % 128 + 128) : Value) = B (y % 128 + 128).toUInt8 := by simp [B]; omega
        rw [e] at this
        simpa using this)
      have hyd : y / 128 < y := by omega
      have hgk : gk = y + 1 := hy2
      clear hy1 hy2 hy3 hlen hl9 hpos hyb
      go_wp2
      go_roundg (y / 128 + 1)
      case measure => omega
      case rel => exact ⟨Y / 128, pre ++ [(y % 128 + 128).toUInt8], rfl, by omega, by omega, by simp; omega, HN, HO2, Lib.hid HO.out.2⟩
    · go_wp2_with (at_builtin; refine wpList_append_any rfl _ _ 22 rfl w.heap.size 5 i0 _ 1 1 Tryz.underlying22 hi hz0 hz1 hz2 rfl (by decide) _ pre.length (pre.map B) rfl (Ext.own (Ext.alloc (Ext.refl _) _) hown.out) _ 1 [.int .u8 Y] rfl (src_one1 _ _ _) (by simp [Value.oneCell']) (by unfold maxLen; omega) (by omega) (by simp; omega) ?_; intro u' w5 hown5 hgr5 hwh5)
      go_ret
      obtain ⟨y, hy1, hy2, hy3⟩ := HY.out
      refine ⟨_, rfl, ?_, below_grown (Ext.alloc hE.out _) (Ext.alloc hE.out _).size hgr5 (fun j hj => (hlt5.out j hj).1)⟩
      have hys : y < 128 := by omega
      rw [hy3, Lib.uvarint_small hys]
      have e : (.int .u8 Y : Value) = B y.toUInt8 := by simp [B]; omega
      rw [e] at hown5
      exact own_by (by simpa using hown5)

/-- What MaReadVarint says of bytes. -/
structure RV (l : List UInt8) (n k : Int) (ok : Bool) : Prop where
  n0 : 0 ≤ n ∧ n < 9223372036854775808
  k0 : 0 ≤ k ∧ k ≤ (l.length : Int)
  pos : ok = true → 1 ≤ k
  yes : ok = true → (k = 1 ∧ n = ((l.getD 0 0).toNat : Int) ∧ n < 128 ∧ l ≠ []) ∨ 128 ≤ n

/-- How MaReadVarint ends. -/
def RVEnd (l : List UInt8) (w : World) (e : Ending) (w' : World) : Prop := ∃ (n k : Int) (ok : Bool), e = .returned (.tuple #[.int .u64 n, .int .i64 k, .bool ok]) ∧ RV l n k ok ∧ Ext w w'

theorem RVEnd.no (l : List UInt8) (w : World) : RVEnd l w (.returned (.tuple #[.int .u64 0, .int .i64 0, .bool false])) w := ⟨0, 0, false, rfl, ⟨by decide, ⟨by decide, by omega⟩, by simp, by simp⟩, Ext.refl _⟩

set_option maxHeartbeats 2000000 in
set_option maxRecDepth 100000 in
theorem maRead_ok (l : List UInt8) (hl : l.length ≤ 281474976710656) (v : Value) (w : World) (hv : By w l v) :
    Calls Tryz.prog 22 #[v] w (RVEnd l w) := by
  obtain ⟨a, c, rfl, h2, h4⟩ := hv
  have hcell : ∀ i, i < l.length → ∃ g o, a = some ⟨g, o, none⟩ ∧ w.cell? ⟨g, o + i, none⟩ = some (.int .u8 ((l.getD i 0).toNat : Int)) := fun i hi => by
    obtain ⟨g, o, rfl, hrow⟩ := h4 (by intro h; rw [h] at hi; simp at hi)
    exact ⟨g, o, rfl, hrow i _ (map_at l hi)⟩
  have HC := Lib.hid hcell
  obtain ⟨len, hlen⟩ : ∃ len, len = l.length := ⟨_, rfl⟩
  rw [← hlen] at hl h2 ⊢
  have HL := Lib.hid hlen
  clear h4 hcell hlen
  go_enter Tryz.func22, Tryz.ntmps22
  go_wp2
  go_loopg [5, 6] 11 (fun gk s5 s6 wx => w = wx ∧ ∃ (i : Nat) (A : Int), s5 = .int .u64 A ∧ s6 = .int .i64 (i : Int) ∧ i ≤ len ∧ i ≤ 9 ∧ gk = 11 - i ∧ 0 ≤ A ∧ Hid (A < ((128 ^ i : Nat) : Int)))
  case atStart => exact ⟨rfl, 0, 0, rfl, rfl, by omega, by decide, rfl, by decide, Lib.hid (by decide)⟩
  case round =>
    obtain ⟨rfl, i, A, rfl, rfl, hi, hi9, hgk, hA0, HA⟩ := hrel
    by_cases hlt : i < len
    · by_cases h9 : i < 9
      · obtain ⟨g, o, rfl, hc⟩ := HC.out i (by rw [← HL.out]; exact hlt)
        have hcb := (l.getD i 0).toNat_lt
        obtain ⟨cn, hcn⟩ : ∃ cn, cn = (l.getD i 0).toNat := ⟨_, rfl⟩
        rw [← hcn] at hc hcb
        have HCN := Lib.hid hcn
        have hcI : (cn : Int) < 256 := by omega
        have hin : (i : Int) < (len : Int) := by omega
        have hiv : i = 0 ∨ i = 1 ∨ i = 2 ∨ i = 3 ∨ i = 4 ∨ i = 5 ∨ i = 6 ∨ i = 7 ∨ i = 8 := by omega
        have hA1 := HA.out
        clear hcn HA
        rcases hiv with rfl | rfl | rfl | rfl | rfl | rfl | rfl | rfl | rfl
        · simp only [Nat.reducePow] at hA1
          (try simp only [Nat.add_zero] at hc)
          have hor : bits .or .u64 A ((cn : Int) % 128) = A + (cn : Int) % 128 := by
            rw [bits_join_low .u64 64 (by decide) w64 0 A ((cn : Int) % 128) (by omega) (by omega) (by omega) (by omega) (by omega) (by omega)]
          by_cases h128 : cn < 128
          · have h128I : (cn : Int) < 128 := by omega
            have hj0 : ((cn : Int) == 0) = true ∨ ((cn : Int) == 0) = false := by cases ((cn : Int) == 0) <;> simp
            go_wp2
            go_quiet (fail)
            go_wp2
            go_ret3
            refine ⟨_, 1, true, rfl, RV.mk ⟨by omega, by omega⟩ ⟨by omega, by rw [← HL.out]; omega⟩ (fun _ => by omega) ?_, ext_drewN _ _⟩
            intro _
            refine Or.inl ⟨rfl, by rw [← HCN.out]; omega, by omega, ?_⟩
            intro h
            have h' := HL.out
            rw [h] at h'
            simp at h'
            omega
          · have h128I : ¬ ((cn : Int) < 128) := by omega
            go_wp2
            go_roundg (11 - (0 + 1))
            case measure => omega
            case rel => exact ⟨rfl, 1, _, rfl, rfl, by omega, by decide, rfl, by omega, Lib.hid (by simp only [Nat.reducePow]; omega)⟩
        · simp only [Nat.reducePow] at hA1
          (try simp only [Nat.add_zero] at hc)
          have hor : bits .or .u64 A ((cn : Int) % 128 * 128) = A + (cn : Int) % 128 * 128 := by
            rw [bits_join_low .u64 64 (by decide) w64 7 A ((cn : Int) % 128 * 128) (by omega) (by omega) (by omega) (by omega) (by omega) (by omega)]
          by_cases h128 : cn < 128
          · have h128I : (cn : Int) < 128 := by omega
            have hj0 : ((cn : Int) == 0) = true ∨ ((cn : Int) == 0) = false := by cases ((cn : Int) == 0) <;> simp
            go_wp2
            go_quiet (fail)
            go_wp2
            go_ret3
            refine ⟨_, 2, _, rfl, RV.mk ⟨by omega, by omega⟩ ⟨by omega, by rw [← HL.out]; omega⟩ (fun _ => by omega) ?_, ext_drewN _ _⟩
            intro h
            have h0 : cn ≠ 0 := by
              intro h0
              rw [h0] at h
              simp at h
            exact Or.inr (by omega)
          · have h128I : ¬ ((cn : Int) < 128) := by omega
            go_wp2
            go_roundg (11 - (1 + 1))
            case measure => omega
            case rel => exact ⟨rfl, 2, _, rfl, rfl, by omega, by decide, rfl, by omega, Lib.hid (by simp only [Nat.reducePow]; omega)⟩
        · simp only [Nat.reducePow] at hA1
          (try simp only [Nat.add_zero] at hc)
          have hor : bits .or .u64 A ((cn : Int) % 128 * 16384) = A + (cn : Int) % 128 * 16384 := by
            rw [bits_join_low .u64 64 (by decide) w64 14 A ((cn : Int) % 128 * 16384) (by omega) (by omega) (by omega) (by omega) (by omega) (by omega)]
          by_cases h128 : cn < 128
          · have h128I : (cn : Int) < 128 := by omega
            have hj0 : ((cn : Int) == 0) = true ∨ ((cn : Int) == 0) = false := by cases ((cn : Int) == 0) <;> simp
            go_wp2
            go_quiet (fail)
            go_wp2
            go_ret3
            refine ⟨_, 3, _, rfl, RV.mk ⟨by omega, by omega⟩ ⟨by omega, by rw [← HL.out]; omega⟩ (fun _ => by omega) ?_, ext_drewN _ _⟩
            intro h
            have h0 : cn ≠ 0 := by
              intro h0
              rw [h0] at h
              simp at h
            exact Or.inr (by omega)
          · have h128I : ¬ ((cn : Int) < 128) := by omega
            go_wp2
            go_roundg (11 - (2 + 1))
            case measure => omega
            case rel => exact ⟨rfl, 3, _, rfl, rfl, by omega, by decide, rfl, by omega, Lib.hid (by simp only [Nat.reducePow]; omega)⟩
        · simp only [Nat.reducePow] at hA1
          (try simp only [Nat.add_zero] at hc)
          have hor : bits .or .u64 A ((cn : Int) % 128 * 2097152) = A + (cn : Int) % 128 * 2097152 := by
            rw [bits_join_low .u64 64 (by decide) w64 21 A ((cn : Int) % 128 * 2097152) (by omega) (by omega) (by omega) (by omega) (by omega) (by omega)]
          by_cases h128 : cn < 128
          · have h128I : (cn : Int) < 128 := by omega
            have hj0 : ((cn : Int) == 0) = true ∨ ((cn : Int) == 0) = false := by cases ((cn : Int) == 0) <;> simp
            go_wp2
            go_quiet (fail)
            go_wp2
            go_ret3
            refine ⟨_, 4, _, rfl, RV.mk ⟨by omega, by omega⟩ ⟨by omega, by rw [← HL.out]; omega⟩ (fun _ => by omega) ?_, ext_drewN _ _⟩
            intro h
            have h0 : cn ≠ 0 := by
              intro h0
              rw [h0] at h
              simp at h
            exact Or.inr (by omega)
          · have h128I : ¬ ((cn : Int) < 128) := by omega
            go_wp2
            go_roundg (11 - (3 + 1))
            case measure => omega
            case rel => exact ⟨rfl, 4, _, rfl, rfl, by omega, by decide, rfl, by omega, Lib.hid (by simp only [Nat.reducePow]; omega)⟩
        · simp only [Nat.reducePow] at hA1
          (try simp only [Nat.add_zero] at hc)
          have hor : bits .or .u64 A ((cn : Int) % 128 * 268435456) = A + (cn : Int) % 128 * 268435456 := by
            rw [bits_join_low .u64 64 (by decide) w64 28 A ((cn : Int) % 128 * 268435456) (by omega) (by omega) (by omega) (by omega) (by omega) (by omega)]
          by_cases h128 : cn < 128
          · have h128I : (cn : Int) < 128 := by omega
            have hj0 : ((cn : Int) == 0) = true ∨ ((cn : Int) == 0) = false := by cases ((cn : Int) == 0) <;> simp
            go_wp2
            go_quiet (fail)
            go_wp2
            go_ret3
            refine ⟨_, 5, _, rfl, RV.mk ⟨by omega, by omega⟩ ⟨by omega, by rw [← HL.out]; omega⟩ (fun _ => by omega) ?_, ext_drewN _ _⟩
            intro h
            have h0 : cn ≠ 0 := by
              intro h0
              rw [h0] at h
              simp at h
            exact Or.inr (by omega)
          · have h128I : ¬ ((cn : Int) < 128) := by omega
            go_wp2
            go_roundg (11 - (4 + 1))
            case measure => omega
            case rel => exact ⟨rfl, 5, _, rfl, rfl, by omega, by decide, rfl, by omega, Lib.hid (by simp only [Nat.reducePow]; omega)⟩
        · simp only [Nat.reducePow] at hA1
          (try simp only [Nat.add_zero] at hc)
          have hor : bits .or .u64 A ((cn : Int) % 128 * 34359738368) = A + (cn : Int) % 128 * 34359738368 := by
            rw [bits_join_low .u64 64 (by decide) w64 35 A ((cn : Int) % 128 * 34359738368) (by omega) (by omega) (by omega) (by omega) (by omega) (by omega)]
          by_cases h128 : cn < 128
          · have h128I : (cn : Int) < 128 := by omega
            have hj0 : ((cn : Int) == 0) = true ∨ ((cn : Int) == 0) = false := by cases ((cn : Int) == 0) <;> simp
            go_wp2
            go_quiet (fail)
            go_wp2
            go_ret3
            refine ⟨_, 6, _, rfl, RV.mk ⟨by omega, by omega⟩ ⟨by omega, by rw [← HL.out]; omega⟩ (fun _ => by omega) ?_, ext_drewN _ _⟩
            intro h
            have h0 : cn ≠ 0 := by
              intro h0
              rw [h0] at h
              simp at h
            exact Or.inr (by omega)
          · have h128I : ¬ ((cn : Int) < 128) := by omega
            go_wp2
            go_roundg (11 - (5 + 1))
            case measure => omega
            case rel => exact ⟨rfl, 6, _, rfl, rfl, by omega, by decide, rfl, by omega, Lib.hid (by simp only [Nat.reducePow]; omega)⟩
        · simp only [Nat.reducePow] at hA1
          (try simp only [Nat.add_zero] at hc)
          have hor : bits .or .u64 A ((cn : Int) % 128 * 4398046511104) = A + (cn : Int) % 128 * 4398046511104 := by
            rw [bits_join_low .u64 64 (by decide) w64 42 A ((cn : Int) % 128 * 4398046511104) (by omega) (by omega) (by omega) (by omega) (by omega) (by omega)]
          by_cases h128 : cn < 128
          · have h128I : (cn : Int) < 128 := by omega
            have hj0 : ((cn : Int) == 0) = true ∨ ((cn : Int) == 0) = false := by cases ((cn : Int) == 0) <;> simp
            go_wp2
            go_quiet (fail)
            go_wp2
            go_ret3
            refine ⟨_, 7, _, rfl, RV.mk ⟨by omega, by omega⟩ ⟨by omega, by rw [← HL.out]; omega⟩ (fun _ => by omega) ?_, ext_drewN _ _⟩
            intro h
            have h0 : cn ≠ 0 := by
              intro h0
              rw [h0] at h
              simp at h
            exact Or.inr (by omega)
          · have h128I : ¬ ((cn : Int) < 128) := by omega
            go_wp2
            go_roundg (11 - (6 + 1))
            case measure => omega
            case rel => exact ⟨rfl, 7, _, rfl, rfl, by omega, by decide, rfl, by omega, Lib.hid (by simp only [Nat.reducePow]; omega)⟩
        · simp only [Nat.reducePow] at hA1
          (try simp only [Nat.add_zero] at hc)
          have hor : bits .or .u64 A ((cn : Int) % 128 * 562949953421312) = A + (cn : Int) % 128 * 562949953421312 := by
            rw [bits_join_low .u64 64 (by decide) w64 49 A ((cn : Int) % 128 * 562949953421312) (by omega) (by omega) (by omega) (by omega) (by omega) (by omega)]
          by_cases h128 : cn < 128
          · have h128I : (cn : Int) < 128 := by omega
            have hj0 : ((cn : Int) == 0) = true ∨ ((cn : Int) == 0) = false := by cases ((cn : Int) == 0) <;> simp
            go_wp2
            go_quiet (fail)
            go_wp2
            go_ret3
            refine ⟨_, 8, _, rfl, RV.mk ⟨by omega, by omega⟩ ⟨by omega, by rw [← HL.out]; omega⟩ (fun _ => by omega) ?_, ext_drewN _ _⟩
            intro h
            have h0 : cn ≠ 0 := by
              intro h0
              rw [h0] at h
              simp at h
            exact Or.inr (by omega)
          · have h128I : ¬ ((cn : Int) < 128) := by omega
            go_wp2
            go_roundg (11 - (7 + 1))
            case measure => omega
            case rel => exact ⟨rfl, 8, _, rfl, rfl, by omega, by decide, rfl, by omega, Lib.hid (by simp only [Nat.reducePow]; omega)⟩
        · simp only [Nat.reducePow] at hA1
          (try simp only [Nat.add_zero] at hc)
          have hor : bits .or .u64 A ((cn : Int) % 128 * 72057594037927936) = A + (cn : Int) % 128 * 72057594037927936 := by
            rw [bits_join_low .u64 64 (by decide) w64 56 A ((cn : Int) % 128 * 72057594037927936) (by omega) (by omega) (by omega) (by omega) (by omega) (by omega)]
          by_cases h128 : cn < 128
          · have h128I : (cn : Int) < 128 := by omega
            have hj0 : ((cn : Int) == 0) = true ∨ ((cn : Int) == 0) = false := by cases ((cn : Int) == 0) <;> simp
            go_wp2
            go_quiet (fail)
            go_wp2
            go_ret3
            refine ⟨_, 9, _, rfl, RV.mk ⟨by omega, by omega⟩ ⟨by omega, by rw [← HL.out]; omega⟩ (fun _ => by omega) ?_, ext_drewN _ _⟩
            intro h
            have h0 : cn ≠ 0 := by
              intro h0
              rw [h0] at h
              simp at h
            exact Or.inr (by omega)
          · have h128I : ¬ ((cn : Int) < 128) := by omega
            go_wp2
            go_roundg (11 - (8 + 1))
            case measure => omega
            case rel => exact ⟨rfl, 9, _, rfl, rfl, by omega, by decide, rfl, by omega, Lib.hid (by simp only [Nat.reducePow]; omega)⟩
      · obtain rfl : i = 9 := by omega
        have hin : (9 : Int) < (len : Int) ∨ ¬ ((9 : Int) < (len : Int)) := by omega
        go_wp2
        all_goals
          go_ret3
          exact RVEnd.no _ _
    · have hle : ¬ ((i : Int) < (len : Int)) := by omega
      go_wp2
      go_ret3
      exact RVEnd.no _ _
end Go.Proofs.YtchlkclpikdbjaaGreatDoor
namespace Go.Proofs.YtchlkclpikdbjaaGreatDoor
set_option linter.unusedVariables false
set_option linter.unusedSimpArgs false
open Go.RowKit Go.Sort

theorem by_drop {w : World} {l : List UInt8} {g o n c : Nat} (h : By w l (.slice (some ⟨g, o, none⟩) n c)) (k : Nat) (hk : k ≤ n) : By w (l.drop k) (.slice (some ⟨g, o + k, none⟩) (n - k) (c - k)) := by
  obtain ⟨a, c', he, h2, h3⟩ := h
  injection he with e1 e2 e3
  subst e2; subst e3; subst e1
  refine ⟨_, _, by rw [List.length_drop], by rw [List.length_drop]; omega, fun hne => ?_⟩
  have hl : l ≠ [] := by intro hn; rw [hn] at hne; simp at hne
  obtain ⟨g', o', ha, hr⟩ := h3 hl
  injection ha with ha
  injection ha with e4 e5
  subst e4; subst e5
  exact ⟨_, _, rfl, by rw [List.map_drop]; exact hr.drop k⟩

theorem results_tmp4 {fn : Func} {t u v z : Tmp} (h : fn.results = #[.tmp t, .tmp u, .tmp v, .tmp z]) (tmps : Array Value) (P : Program) (w : World) :
    (results fn tmps).run P w = .ok (.tuple #[tmps.getD t undef, tmps.getD u undef, tmps.getD v undef, tmps.getD z undef]) w := by
  simp [results, h]

/-- How HashOf ends. -/
def HOEnd (l : List UInt8) (w : World) (e : Ending) (w' : World) : Prop := ∃ (n u : Int) (a : Option Addr) (d c : Nat) (ok : Bool), e = .returned (.tuple #[.int .u64 n, .slice a d c, .int .i64 u, .bool ok]) ∧ (ok = true → n < 128 → d < 128 → u = (l.length : Int) → ∃ r : List UInt8, r.length = d ∧ l = UInt8.ofNat n.toNat :: UInt8.ofNat d :: r) ∧ Ext w w'

theorem ho_split (l : List UInt8) (n L k m : Int) (d : Nat) (k1 : Nat) (h1 : RV l n (k1 : Int) true) (h2 : RV (l.drop k1) L m true) (hn : n < 128) (hL : L < 128) (hd : (d : Int) = L) (hu : (k1 : Int) + m + L = (l.length : Int)) : ∃ r : List UInt8, r.length = d ∧ l = UInt8.ofNat n.toNat :: UInt8.ofNat d :: r := by
  rcases h1.yes rfl with ⟨e1, e2, e3, e4⟩ | h
  · have hk1 : k1 = 1 := by omega
    subst hk1
    rcases h2.yes rfl with ⟨f1, f2, f3, f4⟩ | h
    · cases l with
      | nil => exact absurd rfl e4
      | cons x t =>
        cases t with
        | nil => exact absurd rfl f4
        | cons y r =>
          simp only [List.drop_succ_cons, List.drop_zero, List.getD_cons_zero] at e2 f2
          refine ⟨r, ?_, ?_⟩
          · simp only [List.length_cons] at hu; omega
          · rw [e2, show d = y.toNat by omega]
            simp
    · omega
  · omega

set_option maxHeartbeats 2000000 in
set_option maxRecDepth 100000 in
theorem hashOf_ok (l : List UInt8) (hl : l.length ≤ 281474976710656) (v : Value) (w : World) (hv : By w l v) :
    Calls Tryz.prog 12 #[v] w (HOEnd l w) := by
  have HR := Lib.hid (maRead_ok l hl v w hv)
  have HV := Lib.hid hv
  obtain ⟨a, c, rfl, h2, h4⟩ := hv
  obtain ⟨len, hlen⟩ : ∃ len, len = l.length := ⟨_, rfl⟩
  rw [← hlen] at hl h2 HR HV ⊢
  have HL := Lib.hid hlen
  have H4 := Lib.hid h4
  clear h4 hlen
  go_enter Tryz.func12, Tryz.ntmps12
  go_wp2_with (fail)
  refine HR.out.mono ?_
  rintro e w1 ⟨n, k, ok, rfl, hrv, he1⟩
  have HRV := Lib.hid hrv
  have HE1 := Lib.hid he1
  obtain ⟨k1, hk1⟩ : ∃ k1 : Nat, k = (k1 : Int) := ⟨k.toNat, by have := hrv.k0; omega⟩
  subst hk1
  have hn0 := hrv.n0
  have hk0 := hrv.k0
  rw [← HL.out] at hk0
  have hpos := hrv.pos
  clear hrv he1
  cases ok
  · go_wp2_with (fail)
    (try simp only [Exit.inBlock, Exit.then])
    refine bodyPost_ret (results_tmp4 rfl _ _ _) rfl ?_
    exact ⟨_, _, _, _, _, false, rfl, by simp, HE1.out⟩
  · have hk1 := hpos rfl
    have hne : l ≠ [] := by
      intro h
      have := HL.out
      rw [h] at this
      simp at this
      omega
    obtain ⟨g, o, rfl, hrow⟩ := H4.out hne
    have HB2 := Lib.hid (by_drop (Ext.by HE1.out HV.out) k1 (by omega))
    have HR2 := Lib.hid (maRead_ok (l.drop k1) (by rw [List.length_drop, ← HL.out]; omega) _ _ HB2.out)
    clear hrow hne hpos
    have hkl : k1 ≤ len := by omega
    have hkc : k1 ≤ c := by omega
    by_cases hck : c = k1
    · subst hck
      have hlk : len = c := by omega
      have HR3 := Lib.hid (maRead_ok (l.drop c) (by rw [List.length_drop, ← HL.out]; omega) (.slice (some ⟨g, o, none⟩) 0 0) w1 ⟨_, _, by rw [List.length_drop, ← HL.out, show len - c = 0 by omega], by rw [List.length_drop, ← HL.out]; omega, fun hne => absurd (List.length_eq_zero_iff.1 (by rw [List.length_drop, ← HL.out]; omega)) hne⟩)
      go_wp2_with (fail)
      refine HR3.out.mono ?_
      rintro e w2 ⟨L, m, ok2, rfl, hrv2, he2⟩
      have hp2 := hrv2.pos
      have hm0 := hrv2.k0
      rw [List.length_drop, ← HL.out] at hm0
      have HE2 := Lib.hid (HE1.out.trans he2)
      clear hrv2 he2
      cases ok2
      · go_wp2_with (fail)
        (try simp only [Exit.inBlock, Exit.then])
        refine bodyPost_ret (results_tmp4 rfl _ _ _) rfl ?_
        exact ⟨_, _, _, _, _, false, rfl, by simp, HE2.out⟩
      · exact absurd (hp2 rfl) (by omega)
    · have hck2 : k1 < c := by omega
      go_wp2_with (fail)
      refine HR2.out.mono ?_
      rintro e w2 ⟨L, m, ok2, rfl, hrv2, he2⟩
      have HRV2 := Lib.hid hrv2
      have hL0 := hrv2.n0
      have hp2 := hrv2.pos
      have hm0 := hrv2.k0
      rw [List.length_drop, ← HL.out] at hm0
      have HE2 := Lib.hid (HE1.out.trans he2)
      clear hrv2 he2
      cases ok2
      · go_wp2_with (fail)
        (try simp only [Exit.inBlock, Exit.then])
        refine bodyPost_ret (results_tmp4 rfl _ _ _) rfl ?_
        exact ⟨_, _, _, _, _, false, rfl, by simp, HE2.out⟩
      · obtain ⟨k2, hk2⟩ : ∃ k2 : Nat, m = (k2 : Int) := ⟨m.toNat, by omega⟩
        subst hk2
        obtain ⟨d, hd⟩ : ∃ d : Nat, L = (d : Int) := ⟨L.toNat, by omega⟩
        subst hd
        by_cases hgt : (len : Int) - (k1 : Int) - (k2 : Int) < (d : Int)
        · go_wp2_with (fail)
          (try simp only [Exit.inBlock, Exit.then])
          refine bodyPost_ret (results_tmp4 rfl _ _ _) rfl ?_
          exact ⟨_, _, _, _, _, false, rfl, by simp, HE2.out⟩
        · have hu : (k1 : Int) + (k2 : Int) + (d : Int) ≤ (len : Int) := by omega
          have hlc : (len : Int) ≤ (c : Int) := by omega
          go_wp2_with (fail)
          go_quiet (fail)
          go_wp2_with (fail)
          all_goals
            (try simp only [Exit.inBlock, Exit.then])
            refine bodyPost_ret (results_tmp4 rfl _ _ _) rfl ?_
            exact ⟨n, _, _, d, _, true, rfl, fun _ h1 h2 h3 => ho_split l n (d : Int) 0 (k2 : Int) d k1 HRV.out HRV2.out h1 (by omega) rfl h3, HE2.out.trans (ext_drewN _ _)⟩

/-- the reference's multihashes of peers -/
def peerL (l : List UInt8) : Prop := ∃ r : List UInt8, (r.length = 32 ∧ l = 18 :: 32 :: r) ∨ (1 ≤ r.length ∧ r.length ≤ 100 ∧ l = 0 :: UInt8.ofNat r.length :: r)

/-- How PeerHash ends. -/
def PHEnd (l : List UInt8) (w : World) (e : Ending) (w' : World) : Prop := ∃ r : Bool, e = .returned (.bool r) ∧ (r = true → peerL l) ∧ Ext w w'


theorem peer_of (n : Int) (d : Nat) (h : (n = 18 ∧ d = 32) ∨ (n = 0 ∧ 1 ≤ d ∧ d ≤ 100)) (l r : List UInt8) (hr : r.length = d) (hl : l = UInt8.ofNat n.toNat :: UInt8.ofNat d :: r) : peerL l := by
  rcases h with ⟨rfl, rfl⟩ | ⟨rfl, h1, h2⟩
  · exact ⟨r, Or.inl ⟨hr, hl⟩⟩
  · exact ⟨r, Or.inr ⟨by omega, by omega, by rw [hl, hr]; rfl⟩⟩

set_option maxHeartbeats 2000000 in
set_option maxRecDepth 100000 in
theorem peerHash_ok (l : List UInt8) (hl : l.length ≤ 281474976710656) (v : Value) (w : World) (hv : By w l v) :
    Calls Tryz.prog 5 #[v] w (PHEnd l w) := by
  have HR := Lib.hid (hashOf_ok l hl v w hv)
  obtain ⟨a, c, rfl, h2, h4⟩ := hv
  obtain ⟨len, hlen⟩ : ∃ len, len = l.length := ⟨_, rfl⟩
  rw [← hlen] at hl h2 HR ⊢
  have HL := Lib.hid hlen
  clear h4 hlen
  go_enter Tryz.func5, Tryz.ntmps5
  go_wp2_with (fail)
  refine HR.out.mono ?_
  rintro e w1 ⟨n, u, a2, d, c2, ok, rfl, hok, he1⟩
  have HOK := Lib.hid hok
  have HE1 := Lib.hid he1
  clear hok he1
  go_wp2_with (fail)
  all_goals
    go_ret
    refine ⟨_, rfl, ?_, HE1.out⟩
    intro h
    first
    | exact absurd h Bool.false_ne_true
    | (simp only [decide_eq_true_eq, beq_iff_eq, Bool.and_eq_true] at h
       obtain ⟨r, hr1, hr2⟩ := HOK.out (by first | rfl | assumption) (by omega) (by omega) (by rw [← HL.out]; omega)
       exact peer_of n d (by omega) l r hr1 hr2)
end Go.Proofs.YtchlkclpikdbjaaGreatDoor
namespace Go.Proofs.YtchlkclpikdbjaaGreatDoor
set_option linter.unusedVariables false
set_option linter.unusedSimpArgs false
open Go.RowKit Go.Sort

set_option maxHeartbeats 1000000 in
set_option maxRecDepth 100000 in
theorem mhUv_ok (x : UInt8) (hx : x.toNat < 128) (rest : List UInt8) (hr : rest.length ≤ 1000) (v : Value) (w : World) (hv : By w (x :: rest) v) :
    Calls Tryz.prog 321 #[v] w fun e w' => ∃ v', e = .returned (.tuple #[.int .u64 (x.toNat : Int), v', .nilIface]) ∧ By w' rest v' ∧ Ext w w' := by
  have hu : Lib.uvarint x.toNat = [x] := by rw [Lib.uvarint_small hx]; simp
  have HC := Lib.hid (fromUv_ok x.toNat (by omega) rest (by omega) v w (by rw [hu]; exact hv))
  rw [hu] at HC
  have HV := Lib.hid hv
  obtain ⟨a, c, rfl, h2, h4⟩ := hv
  obtain ⟨g, o, rfl, hrow⟩ := h4 (by simp)
  obtain ⟨X, hX⟩ : ∃ X : Int, X = (x.toNat : Int) := ⟨_, rfl⟩
  rw [← hX] at HC ⊢
  obtain ⟨n, hn⟩ : ∃ n, n = (x :: rest).length := ⟨_, rfl⟩
  rw [← hn] at HC HV h2 ⊢
  have hn1 : n = rest.length + 1 := by rw [hn]; simp
  have HN := Lib.hid hn1
  have hnb : 1 ≤ n ∧ n ≤ 1001 := by omega
  have HX := Lib.hid hX
  clear h4 hrow hn hn1 hX hx hu hr
  by_cases hc1 : c = 1
  · subst hc1
    have hn2 : n = 1 := by omega
    subst hn2
    have HR : Hid (rest = []) := Lib.hid (List.length_eq_zero_iff.1 (by have := HN.out; omega))
    clear hnb h2
    go_enter Tryz.func321, Tryz.ntmps321
    go_wp2_with (fail)
    refine HC.out.mono ?_
    rintro e w0 ⟨rfl, rfl⟩
    go_wp2_with (fail)
    go_quiet (fail)
    go_wp2_with (fail)
    go_ret3
    exact ⟨_, rfl, by rw [HR.out]; exact ⟨_, _, rfl, Nat.zero_le _, fun h => absurd rfl h⟩, ext_drewN _ _⟩
  · have hcI : 1 < c := by omega
    go_enter Tryz.func321, Tryz.ntmps321
    go_wp2_with (fail)
    refine HC.out.mono ?_
    rintro e w0 ⟨rfl, rfl⟩
    go_wp2_with (fail)
    go_quiet (fail)
    go_wp2_with (fail)
    go_ret3
    exact ⟨_, rfl, Ext.by (ext_drewN _ _) (by_drop HV.out 1 hnb.1), ext_drewN _ _⟩

/-- A multihash whose two numbers have one byte each. -/
def Mh (c : Nat) (r l : List UInt8) : Prop := c < 128 ∧ 1 ≤ r.length ∧ r.length < 128 ∧ l = UInt8.ofNat c :: UInt8.ofNat r.length :: r

set_option maxHeartbeats 1000000 in
set_option maxRecDepth 100000 in
theorem mhRead_ok (c : Nat) (r l : List UInt8) (h : Mh c r l) (v : Value) (w : World) (hv : By w l v) :
    Calls Tryz.prog 290 #[v] w fun e w' => ∃ a cc, e = .returned (.tuple #[.int .i64 (r.length + 2 : Int), .int .u64 (c : Int), .slice a r.length cc, .nilIface]) ∧ By w' r (.slice a r.length cc) ∧ Ext w w' := by
  obtain ⟨hc, h1, h2, rfl⟩ := h
  have e1 : (UInt8.ofNat c).toNat = c := by simp; omega
  have e2 : (UInt8.ofNat r.length).toNat = r.length := by simp; omega
  have HC := Lib.hid (mhUv_ok (UInt8.ofNat c) (by omega) (UInt8.ofNat r.length :: r) (by simp; omega) v w hv)
  have HD := Lib.hid (fun v w hv => mhUv_ok (UInt8.ofNat r.length) (by omega) r (by omega) v w hv)
  rw [e1] at HC
  rw [e2] at HD
  obtain ⟨a, cc, rfl, h3, h4⟩ := hv
  obtain ⟨n, hn⟩ : ∃ n, n = r.length := ⟨_, rfl⟩
  have hn2 : (UInt8.ofNat c :: UInt8.ofNat r.length :: r).length = n + 2 := by rw [hn]; simp
  rw [hn2] at HC h3 ⊢
  obtain ⟨D, hD⟩ : ∃ D, D = UInt8.ofNat r.length := ⟨_, rfl⟩
  rw [← hD] at HC HD
  clear hD
  rw [← hn] at h1 h2 HD ⊢
  have HN := Lib.hid hn
  clear h4 hn2 e1 e2 hn
  go_enter Tryz.func290, Tryz.ntmps290
  go_wp2_with (fail)
  refine HC.out.mono ?_
  rintro e w1 ⟨v1, rfl, hb1, he1⟩
  have HB1 := Lib.hid hb1
  have HE1 := Lib.hid he1
  clear hb1 he1
  go_wp2_with (fail)
  refine (HD.out v1 w1 HB1.out).mono ?_
  rintro e w2 ⟨v2, rfl, hb2, he2⟩
  have HB2 := Lib.hid hb2
  have HE2 := Lib.hid (HE1.out.trans he2)
  obtain ⟨a2, c2, rfl, h5, h6⟩ := hb2
  obtain ⟨g, o, rfl, hrow⟩ := h6 (by intro h; have := HN.out; rw [h] at this; simp at this; omega)
  rw [← HN.out] at h5 HB2 ⊢
  clear h6 hrow he2
  go_wp2_with (fail)
  go_quiet (fail)
  go_wp2_with (fail)
  (try simp only [Exit.inBlock, Exit.then])
  refine bodyPost_ret (results_tmp4 rfl _ _ _) rfl ?_
  refine ⟨_, _, rfl, ?_, HE2.out.trans (ext_drewN _ _)⟩
  exact Ext.by (ext_drewN _ _) HB2.out
end Go.Proofs.YtchlkclpikdbjaaGreatDoor
namespace Go.Proofs.YtchlkclpikdbjaaGreatDoor
set_option linter.unusedVariables false
set_option linter.unusedSimpArgs false
open Go.RowKit Go.Sort



set_option maxHeartbeats 2000000 in
set_option maxRecDepth 100000 in
theorem cidUv_ok (x : Nat) (hx : x < 9223372036854775808) (rest : List UInt8) (hr : rest.length ≤ 100000) (w : World) :
    Calls Tryz.prog 254 #[.string ⟨(Lib.uvarint x ++ rest).toArray⟩] w fun e w' => e = .returned (.tuple #[.int .u64 (x : Int), .int .i64 ((Lib.uvarint x).length : Int), .nilIface]) ∧ w = w' := by
  have hpos := Lib.uvarint_pos x
  obtain ⟨S, hS⟩ : ∃ S : ByteArray, S = ⟨(Lib.uvarint x ++ rest).toArray⟩ := ⟨_, rfl⟩
  rw [← hS]
  obtain ⟨L, hL⟩ : ∃ L, L = (Lib.uvarint x).length := ⟨_, rfl⟩
  have hL9 := uv_le9 hx
  rw [← hL] at hL9 hpos ⊢
  obtain ⟨n, hn⟩ : ∃ n, n = (Lib.uvarint x ++ rest).length := ⟨_, rfl⟩
  have hnL : L ≤ n ∧ n ≤ 100009 := by rw [hn, List.length_append]; omega
  have hSz : S.size = n := by rw [Lib.size_eq, hS, hn]
  have hcell : ∀ i, i < L → ∀ h : i < S.size, (S[i]'h).toNat = ((Lib.uvarint x).getD i 0).toNat := fun i hi h => by
    rw [getElem_eq hS h, List.getD_eq_getElem?_getD, List.getElem?_append_left (by omega), ← List.getD_eq_getElem?_getD]
  have HC := Lib.hid hcell
  have HL := Lib.hid hL
  obtain ⟨X, hX⟩ : ∃ X : Int, X = (x : Int) := ⟨_, rfl⟩
  rw [← hX]
  have HX := Lib.hid hX
  clear hcell hL hn hx hX hS
  go_enter Tryz.func254, Tryz.ntmps254
  go_wp2
  go_loopg [5, 6, 7] 10 (fun gk s5 s6 s11 wx => w = wx ∧ ∃ (i : Nat) (A : Int), s5 = .int .u64 A ∧ s6 = .int .u64 (7 * (i : Int)) ∧ s11 = .int .i64 (i : Int) ∧ i < L ∧ gk = 10 - i ∧ Hid (A = ((x % 128 ^ i : Nat) : Int)))
  case atStart => exact ⟨rfl, 0, 0, rfl, rfl, rfl, by omega, rfl, Lib.hid (by simp [Nat.mod_one])⟩
  case round =>
    obtain ⟨rfl, i, A, rfl, rfl, rfl, hi, hgk, HA⟩ := hrel
    obtain ⟨cn, hcn⟩ : ∃ cn, cn = ((Lib.uvarint x).getD i 0).toNat := ⟨_, rfl⟩
    have hiS : i < S.size := by omega
    have hc := HC.out i hi hiS
    rw [← hcn] at hc
    have hst := uv_step x L i HL.out hi cn hcn
    have hA0 : 0 ≤ A ∧ A < ((128 ^ i : Nat) : Int) := by
      have := Nat.mod_lt x (Nat.pow_pos (n := i) (show 0 < 128 by decide))
      have hA := HA.out
      omega
    obtain ⟨hA0, hA1⟩ := hA0
    have hin : (i : Int) < (n : Int) := by omega
    have hi9 : i = 0 ∨ i = 1 ∨ i = 2 ∨ i = 3 ∨ i = 4 ∨ i = 5 ∨ i = 6 ∨ i = 7 ∨ i = 8 := by omega
    have HAA := Lib.hid HA.out
    clear hcn
    rcases hst with ⟨hlast, hc7, hsum, hne⟩ | ⟨hmore, hc8, hc9, hsum⟩
    · have HS := Lib.hid (And.intro hsum (And.intro hlast HAA.out))
      have hz : cn ≠ 0 ∨ (cn = 0 ∧ i = 0) := by
        by_cases h : i = 0
        · by_cases h2 : cn = 0
          · exact .inr ⟨h2, h⟩
          · exact .inl h2
        · exact .inl (hne (by omega))
      clear hsum hne HA HAA hlast
      rcases hz with hz | ⟨hz, rfl⟩
      · have hcz : ((cn : Int) == 0) = false := by rw [beq_eq_false_iff_ne]; omega
        have hcI : (cn : Int) < 128 := by omega
        rcases hi9 with rfl | rfl | rfl | rfl | rfl | rfl | rfl | rfl | rfl
        · simp only [Nat.reducePow] at hA1
          (try simp only [Nat.add_zero] at hc)
          go_wp2
          go_ret3
          refine ⟨?_, rfl⟩
          obtain ⟨s1, s2, s3⟩ := HS.out
          have hx0 := HX.out
          simp only [Nat.reducePow] at s1 s3
          have hor : bits .or .u64 A ((cn : Int)) = X := by
            rw [bits_join_low .u64 64 (by decide) w64 0 A ((cn : Int)) (by omega) (by omega) (by omega) (by omega) (by omega) (by omega)]
            omega
          show Ending.returned (.tuple #[.int .u64 (bits .or .u64 A ((cn : Int))), .int .i64 1, .nilIface]) = _
          rw [hor]
          exact ret3q' _ _ _ _ _ rfl (by omega)
        · simp only [Nat.reducePow] at hA1
          (try simp only [Nat.add_zero] at hc)
          go_wp2
          go_ret3
          refine ⟨?_, rfl⟩
          obtain ⟨s1, s2, s3⟩ := HS.out
          have hx0 := HX.out
          simp only [Nat.reducePow] at s1 s3
          have hor : bits .or .u64 A ((cn : Int) * 128) = X := by
            rw [bits_join_low .u64 64 (by decide) w64 7 A ((cn : Int) * 128) (by omega) (by omega) (by omega) (by omega) (by omega) (by omega)]
            omega
          show Ending.returned (.tuple #[.int .u64 (bits .or .u64 A ((cn : Int) * 128)), .int .i64 2, .nilIface]) = _
          rw [hor]
          exact ret3q' _ _ _ _ _ rfl (by omega)
        · simp only [Nat.reducePow] at hA1
          (try simp only [Nat.add_zero] at hc)
          go_wp2
          go_ret3
          refine ⟨?_, rfl⟩
          obtain ⟨s1, s2, s3⟩ := HS.out
          have hx0 := HX.out
          simp only [Nat.reducePow] at s1 s3
          have hor : bits .or .u64 A ((cn : Int) * 16384) = X := by
            rw [bits_join_low .u64 64 (by decide) w64 14 A ((cn : Int) * 16384) (by omega) (by omega) (by omega) (by omega) (by omega) (by omega)]
            omega
          show Ending.returned (.tuple #[.int .u64 (bits .or .u64 A ((cn : Int) * 16384)), .int .i64 3, .nilIface]) = _
          rw [hor]
          exact ret3q' _ _ _ _ _ rfl (by omega)
        · simp only [Nat.reducePow] at hA1
          (try simp only [Nat.add_zero] at hc)
          go_wp2
          go_ret3
          refine ⟨?_, rfl⟩
          obtain ⟨s1, s2, s3⟩ := HS.out
          have hx0 := HX.out
          simp only [Nat.reducePow] at s1 s3
          have hor : bits .or .u64 A ((cn : Int) * 2097152) = X := by
            rw [bits_join_low .u64 64 (by decide) w64 21 A ((cn : Int) * 2097152) (by omega) (by omega) (by omega) (by omega) (by omega) (by omega)]
            omega
          show Ending.returned (.tuple #[.int .u64 (bits .or .u64 A ((cn : Int) * 2097152)), .int .i64 4, .nilIface]) = _
          rw [hor]
          exact ret3q' _ _ _ _ _ rfl (by omega)
        · simp only [Nat.reducePow] at hA1
          (try simp only [Nat.add_zero] at hc)
          go_wp2
          go_ret3
          refine ⟨?_, rfl⟩
          obtain ⟨s1, s2, s3⟩ := HS.out
          have hx0 := HX.out
          simp only [Nat.reducePow] at s1 s3
          have hor : bits .or .u64 A ((cn : Int) * 268435456) = X := by
            rw [bits_join_low .u64 64 (by decide) w64 28 A ((cn : Int) * 268435456) (by omega) (by omega) (by omega) (by omega) (by omega) (by omega)]
            omega
          show Ending.returned (.tuple #[.int .u64 (bits .or .u64 A ((cn : Int) * 268435456)), .int .i64 5, .nilIface]) = _
          rw [hor]
          exact ret3q' _ _ _ _ _ rfl (by omega)
        · simp only [Nat.reducePow] at hA1
          (try simp only [Nat.add_zero] at hc)
          go_wp2
          go_ret3
          refine ⟨?_, rfl⟩
          obtain ⟨s1, s2, s3⟩ := HS.out
          have hx0 := HX.out
          simp only [Nat.reducePow] at s1 s3
          have hor : bits .or .u64 A ((cn : Int) * 34359738368) = X := by
            rw [bits_join_low .u64 64 (by decide) w64 35 A ((cn : Int) * 34359738368) (by omega) (by omega) (by omega) (by omega) (by omega) (by omega)]
            omega
          show Ending.returned (.tuple #[.int .u64 (bits .or .u64 A ((cn : Int) * 34359738368)), .int .i64 6, .nilIface]) = _
          rw [hor]
          exact ret3q' _ _ _ _ _ rfl (by omega)
        · simp only [Nat.reducePow] at hA1
          (try simp only [Nat.add_zero] at hc)
          go_wp2
          go_ret3
          refine ⟨?_, rfl⟩
          obtain ⟨s1, s2, s3⟩ := HS.out
          have hx0 := HX.out
          simp only [Nat.reducePow] at s1 s3
          have hor : bits .or .u64 A ((cn : Int) * 4398046511104) = X := by
            rw [bits_join_low .u64 64 (by decide) w64 42 A ((cn : Int) * 4398046511104) (by omega) (by omega) (by omega) (by omega) (by omega) (by omega)]
            omega
          show Ending.returned (.tuple #[.int .u64 (bits .or .u64 A ((cn : Int) * 4398046511104)), .int .i64 7, .nilIface]) = _
          rw [hor]
          exact ret3q' _ _ _ _ _ rfl (by omega)
        · simp only [Nat.reducePow] at hA1
          (try simp only [Nat.add_zero] at hc)
          go_wp2
          go_ret3
          refine ⟨?_, rfl⟩
          obtain ⟨s1, s2, s3⟩ := HS.out
          have hx0 := HX.out
          simp only [Nat.reducePow] at s1 s3
          have hor : bits .or .u64 A ((cn : Int) * 562949953421312) = X := by
            rw [bits_join_low .u64 64 (by decide) w64 49 A ((cn : Int) * 562949953421312) (by omega) (by omega) (by omega) (by omega) (by omega) (by omega)]
            omega
          show Ending.returned (.tuple #[.int .u64 (bits .or .u64 A ((cn : Int) * 562949953421312)), .int .i64 8, .nilIface]) = _
          rw [hor]
          exact ret3q' _ _ _ _ _ rfl (by omega)
        · simp only [Nat.reducePow] at hA1
          (try simp only [Nat.add_zero] at hc)
          go_wp2
          go_ret3
          refine ⟨?_, rfl⟩
          obtain ⟨s1, s2, s3⟩ := HS.out
          have hx0 := HX.out
          simp only [Nat.reducePow] at s1 s3
          have hor : bits .or .u64 A ((cn : Int) * 72057594037927936) = X := by
            rw [bits_join_low .u64 64 (by decide) w64 56 A ((cn : Int) * 72057594037927936) (by omega) (by omega) (by omega) (by omega) (by omega) (by omega)]
            omega
          show Ending.returned (.tuple #[.int .u64 (bits .or .u64 A ((cn : Int) * 72057594037927936)), .int .i64 9, .nilIface]) = _
          rw [hor]
          exact ret3q' _ _ _ _ _ rfl (by omega)
      · have hor : bits .or .u64 A 0 = A := by
          rw [bits_join .u64 64 (by decide) w64 0 A 0 (by omega) (by omega) (by simp at hA1; omega) (by omega) (by omega) (by omega)]; omega
        rw [hz] at hc HS
        go_wp2
        go_ret3
        refine ⟨?_, rfl⟩
        obtain ⟨s1, s2, s3⟩ := HS.out
        have hx0 := HX.out
        simp only [Nat.reducePow, Nat.mod_one] at s1 s3
        exact ret3q' _ _ _ _ _ (by omega) (by omega)
    · have hcI : (128 : Int) ≤ (cn : Int) := by omega
      have hcI2 : (cn : Int) < 256 := by omega
      have hand : bits .and .u8 (cn : Int) 127 = (cn : Int) % 128 := by
        have := bits_mask .u8 8 (by decide) wraps_u8 7 (by decide) (cn : Int) (by omega) (by omega)
        simpa using this
      have HS := Lib.hid (And.intro hsum (And.intro hmore HAA.out))
      clear hsum HA HAA
      rcases hi9 with rfl | rfl | rfl | rfl | rfl | rfl | rfl | rfl | rfl
      · simp only [Nat.reducePow] at hA1
        (try simp only [Nat.add_zero] at hc)
        obtain ⟨s1, s2, s3⟩ := HS.out
        have hor : bits .or .u64 A ((cn : Int) % 128) = A + (cn : Int) % 128 := by
          rw [bits_join_low .u64 64 (by decide) w64 0 A ((cn : Int) % 128) (by omega) (by omega) (by omega) (by omega) (by omega) (by omega)]
        clear s1 s2 s3
        go_wp2
        go_roundg (10 - (0 + 1))
        case measure => omega
        case rel =>
          obtain ⟨s1, s2, s3⟩ := HS.out
          simp only [Nat.reducePow, Nat.reduceAdd] at s1 s3
          exact ⟨rfl, 1, _, rfl, rfl, rfl, by omega, rfl, Lib.hid (by simp only [Nat.reducePow]; omega)⟩
      · simp only [Nat.reducePow] at hA1
        (try simp only [Nat.add_zero] at hc)
        obtain ⟨s1, s2, s3⟩ := HS.out
        have hor : bits .or .u64 A ((cn : Int) % 128 * 128) = A + (cn : Int) % 128 * 128 := by
          rw [bits_join_low .u64 64 (by decide) w64 7 A ((cn : Int) % 128 * 128) (by omega) (by omega) (by omega) (by omega) (by omega) (by omega)]
        clear s1 s2 s3
        go_wp2
        go_roundg (10 - (1 + 1))
        case measure => omega
        case rel =>
          obtain ⟨s1, s2, s3⟩ := HS.out
          simp only [Nat.reducePow, Nat.reduceAdd] at s1 s3
          exact ⟨rfl, 2, _, rfl, rfl, rfl, by omega, rfl, Lib.hid (by simp only [Nat.reducePow]; omega)⟩
      · simp only [Nat.reducePow] at hA1
        (try simp only [Nat.add_zero] at hc)
        obtain ⟨s1, s2, s3⟩ := HS.out
        have hor : bits .or .u64 A ((cn : Int) % 128 * 16384) = A + (cn : Int) % 128 * 16384 := by
          rw [bits_join_low .u64 64 (by decide) w64 14 A ((cn : Int) % 128 * 16384) (by omega) (by omega) (by omega) (by omega) (by omega) (by omega)]
        clear s1 s2 s3
        go_wp2
        go_roundg (10 - (2 + 1))
        case measure => omega
        case rel =>
          obtain ⟨s1, s2, s3⟩ := HS.out
          simp only [Nat.reducePow, Nat.reduceAdd] at s1 s3
          exact ⟨rfl, 3, _, rfl, rfl, rfl, by omega, rfl, Lib.hid (by simp only [Nat.reducePow]; omega)⟩
      · simp only [Nat.reducePow] at hA1
        (try simp only [Nat.add_zero] at hc)
        obtain ⟨s1, s2, s3⟩ := HS.out
        have hor : bits .or .u64 A ((cn : Int) % 128 * 2097152) = A + (cn : Int) % 128 * 2097152 := by
          rw [bits_join_low .u64 64 (by decide) w64 21 A ((cn : Int) % 128 * 2097152) (by omega) (by omega) (by omega) (by omega) (by omega) (by omega)]
        clear s1 s2 s3
        go_wp2
        go_roundg (10 - (3 + 1))
        case measure => omega
        case rel =>
          obtain ⟨s1, s2, s3⟩ := HS.out
          simp only [Nat.reducePow, Nat.reduceAdd] at s1 s3
          exact ⟨rfl, 4, _, rfl, rfl, rfl, by omega, rfl, Lib.hid (by simp only [Nat.reducePow]; omega)⟩
      · simp only [Nat.reducePow] at hA1
        (try simp only [Nat.add_zero] at hc)
        obtain ⟨s1, s2, s3⟩ := HS.out
        have hor : bits .or .u64 A ((cn : Int) % 128 * 268435456) = A + (cn : Int) % 128 * 268435456 := by
          rw [bits_join_low .u64 64 (by decide) w64 28 A ((cn : Int) % 128 * 268435456) (by omega) (by omega) (by omega) (by omega) (by omega) (by omega)]
        clear s1 s2 s3
        go_wp2
        go_roundg (10 - (4 + 1))
        case measure => omega
        case rel =>
          obtain ⟨s1, s2, s3⟩ := HS.out
          simp only [Nat.reducePow, Nat.reduceAdd] at s1 s3
          exact ⟨rfl, 5, _, rfl, rfl, rfl, by omega, rfl, Lib.hid (by simp only [Nat.reducePow]; omega)⟩
      · simp only [Nat.reducePow] at hA1
        (try simp only [Nat.add_zero] at hc)
        obtain ⟨s1, s2, s3⟩ := HS.out
        have hor : bits .or .u64 A ((cn : Int) % 128 * 34359738368) = A + (cn : Int) % 128 * 34359738368 := by
          rw [bits_join_low .u64 64 (by decide) w64 35 A ((cn : Int) % 128 * 34359738368) (by omega) (by omega) (by omega) (by omega) (by omega) (by omega)]
        clear s1 s2 s3
        go_wp2
        go_roundg (10 - (5 + 1))
        case measure => omega
        case rel =>
          obtain ⟨s1, s2, s3⟩ := HS.out
          simp only [Nat.reducePow, Nat.reduceAdd] at s1 s3
          exact ⟨rfl, 6, _, rfl, rfl, rfl, by omega, rfl, Lib.hid (by simp only [Nat.reducePow]; omega)⟩
      · simp only [Nat.reducePow] at hA1
        (try simp only [Nat.add_zero] at hc)
        obtain ⟨s1, s2, s3⟩ := HS.out
        have hor : bits .or .u64 A ((cn : Int) % 128 * 4398046511104) = A + (cn : Int) % 128 * 4398046511104 := by
          rw [bits_join_low .u64 64 (by decide) w64 42 A ((cn : Int) % 128 * 4398046511104) (by omega) (by omega) (by omega) (by omega) (by omega) (by omega)]
        clear s1 s2 s3
        go_wp2
        go_roundg (10 - (6 + 1))
        case measure => omega
        case rel =>
          obtain ⟨s1, s2, s3⟩ := HS.out
          simp only [Nat.reducePow, Nat.reduceAdd] at s1 s3
          exact ⟨rfl, 7, _, rfl, rfl, rfl, by omega, rfl, Lib.hid (by simp only [Nat.reducePow]; omega)⟩
      · simp only [Nat.reducePow] at hA1
        (try simp only [Nat.add_zero] at hc)
        obtain ⟨s1, s2, s3⟩ := HS.out
        have hor : bits .or .u64 A ((cn : Int) % 128 * 562949953421312) = A + (cn : Int) % 128 * 562949953421312 := by
          rw [bits_join_low .u64 64 (by decide) w64 49 A ((cn : Int) % 128 * 562949953421312) (by omega) (by omega) (by omega) (by omega) (by omega) (by omega)]
        clear s1 s2 s3
        go_wp2
        go_roundg (10 - (7 + 1))
        case measure => omega
        case rel =>
          obtain ⟨s1, s2, s3⟩ := HS.out
          simp only [Nat.reducePow, Nat.reduceAdd] at s1 s3
          exact ⟨rfl, 8, _, rfl, rfl, rfl, by omega, rfl, Lib.hid (by simp only [Nat.reducePow]; omega)⟩
      · exfalso
        have := HS.out.2.1
        omega
end Go.Proofs.YtchlkclpikdbjaaGreatDoor
