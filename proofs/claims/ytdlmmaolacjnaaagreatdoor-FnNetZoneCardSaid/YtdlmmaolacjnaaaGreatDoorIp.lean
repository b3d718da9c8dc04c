/-
  The texts of IP addresses, in plain Lean: hexadecimal digits, groups, the text of an address of sixteen bytes and of four. No program in it.
-/
import Derived.Test.YtdlmmaolacjnaaaGreatDoorCore
import Derived.Lib.ItoaNum
namespace Go.Proofs.YtdlmmaolacjnaaaGreatDoor
set_option linter.unusedVariables false
set_option linter.unusedSimpArgs false

theorem mk_append (a b : List UInt8) : (⟨a.toArray⟩ : ByteArray) ++ ⟨b.toArray⟩ = ⟨(a ++ b).toArray⟩ := by
  apply ByteArray.ext; simp
/-- A hexadecimal digit. -/
def hexc (n : Nat) : UInt8 := if n < 10 then UInt8.ofNat (48 + n) else UInt8.ofNat (87 + n)
/-- A number in hexadecimal digits. -/
def hexs (n : Nat) : List UInt8 := if n < 16 then [hexc n] else hexs (n / 16) ++ [hexc (n % 16)]
  termination_by n
  decreasing_by omega
/-- The value of a hexadecimal digit, -1 for none. -/
def digv (c : UInt8) : Int :=
  if 48 ≤ c.toNat ∧ c.toNat ≤ 57 then (c.toNat : Int) - 48
  else if 97 ≤ c.toNat ∧ c.toNat ≤ 102 then (c.toNat : Int) - 87
  else if 65 ≤ c.toNat ∧ c.toNat ≤ 70 then (c.toNat : Int) - 55 else -1

theorem digv_hexc : ∀ n : Fin 16, digv (hexc n) = (n.val : Int) := by decide
theorem hexc_not : ∀ n : Fin 16, hexc n ≠ 58 ∧ hexc n ≠ 46 ∧ hexc n ≠ 37 := by decide
theorem digv_hex {n : Nat} (h : n < 16) : digv (hexc n) = (n : Int) := digv_hexc ⟨n, h⟩

/-- The value of digits behind a value. -/
def hexval (l : List UInt8) (a : Nat) : Nat := l.foldl (fun a c => a * 16 + (digv c).toNat) a

theorem hexs_small {n : Nat} (h : n < 16) : hexs n = [hexc n] := by rw [hexs, if_pos h]
theorem hexs_big {n : Nat} (h : ¬ n < 16) : hexs n = hexs (n / 16) ++ [hexc (n % 16)] := by rw [hexs, if_neg h]

theorem hexs_val (n : Nat) : hexval (hexs n) 0 = n := by
  induction n using Nat.strongRecOn with
  | _ n ih =>
    by_cases h : n < 16
    · rw [hexs_small h]; simp [hexval, digv_hex h]
    · rw [hexs_big h, hexval, List.foldl_append]
      have := ih (n / 16) (by omega)
      unfold hexval at this
      rw [this]
      simp [digv_hex (show n % 16 < 16 by omega)]
      omega

theorem hexs_pos (n : Nat) : hexs n ≠ [] := by
  by_cases h : n < 16
  · rw [hexs_small h]; simp
  · rw [hexs_big h]; simp

theorem hexs_len (k : Nat) : ∀ n, n < 16 ^ (k + 1) → (hexs n).length ≤ k + 1 := by
  induction k with
  | zero => intro n h; rw [hexs_small (by simpa using h)]; simp
  | succ k ih =>
    intro n h
    by_cases h16 : n < 16
    · rw [hexs_small h16]; simp
    · rw [hexs_big h16]
      have : (hexs (n / 16)).length ≤ k + 1 := ih _ (by rw [Nat.pow_succ] at h; omega)
      simp; omega
theorem hexs_len4 {n : Nat} (h : n < 65536) : (hexs n).length ≤ 4 := hexs_len 3 n h

theorem hexs_mem (n : Nat) : ∀ c ∈ hexs n, ∃ d, d < 16 ∧ c = hexc d := by
  induction n using Nat.strongRecOn with
  | _ n ih =>
    intro c hc
    by_cases h : n < 16
    · rw [hexs_small h] at hc; exact ⟨n, h, by simpa using hc⟩
    · rw [hexs_big h, List.mem_append] at hc
      rcases hc with hc | hc
      · exact ih _ (by omega) c hc
      · exact ⟨n % 16, by omega, by simpa using hc⟩

theorem hexval_lt (l : List UInt8) : (∀ c ∈ l, ∃ d, d < 16 ∧ c = hexc d) → ∀ a, hexval l a < (a + 1) * 16 ^ l.length := by
  induction l with
  | nil => intro _ a; simp [hexval]
  | cons x r ih =>
    intro h a
    obtain ⟨d, hd, rfl⟩ := h x (by simp)
    have := ih (fun c hc => h c (by simp [hc])) (a * 16 + d)
    have e : hexval (hexc d :: r) a = hexval r (a * 16 + d) := by simp [hexval, digv_hex hd]
    rw [e, List.length_cons, Nat.pow_succ]
    have h2 : (a * 16 + d + 1) * 16 ^ r.length ≤ ((a + 1) * 16) * 16 ^ r.length := Nat.mul_le_mul_right _ (by omega)
    have h3 : ((a + 1) * 16) * 16 ^ r.length = (a + 1) * (16 ^ r.length * 16) := by rw [Nat.mul_assoc, Nat.mul_comm 16]
    exact h3 ▸ Nat.lt_of_lt_of_le this h2

/-- The digits that were read, k of them. -/
theorem hexval_take {n : Nat} (h : n < 65536) (k : Nat) : hexval ((hexs n).take k) 0 < 65536 := by
  have h4 := hexs_len4 h
  have hl := hexval_lt ((hexs n).take k) (fun c hc => hexs_mem n c (List.mem_of_mem_take hc)) 0
  have : ((hexs n).take k).length ≤ 4 := by rw [List.length_take]; omega
  have h2 : 16 ^ ((hexs n).take k).length ≤ 16 ^ 4 := Nat.pow_le_pow_right (by decide) this
  have h3 : (16 : Nat) ^ 4 = 65536 := by decide
  omega
theorem hexval_succ (l : List UInt8) (k : Nat) (h : k < l.length) : hexval (l.take (k + 1)) 0 = hexval (l.take k) 0 * 16 + (digv l[k]).toNat := by
  unfold hexval
  rw [List.take_add_one, List.getElem?_eq_getElem h, Option.toList_some, List.foldl_append]
  rfl

/-- Groups behind one another, a colon between. -/
def join : List Nat → List UInt8
  | [] => []
  | [g] => hexs g
  | g :: h :: r => hexs g ++ 58 :: join (h :: r)
/-- What stands behind the first part of an address's text: nothing, or two colons and the second part. -/
def tl : Option (List Nat) → List UInt8
  | none => []
  | some q => 58 :: 58 :: join q

theorem join_cons (g : Nat) (r : List Nat) : join (g :: r) = hexs g ++ (if r = [] then [] else 58 :: join r) := by
  cases r <;> simp [join]
theorem join_ne {r : List Nat} (h : r ≠ []) : join r ≠ [] := by
  cases r with
  | nil => exact absurd rfl h
  | cons g r => rw [join_cons]; simp [hexs_pos]
theorem join_snoc (l : List Nat) (g : Nat) : join (l ++ [g]) = if l = [] then hexs g else join l ++ 58 :: hexs g := by
  induction l with
  | nil => simp [join]
  | cons x r ih =>
    rw [List.cons_append, join_cons, ih, join_cons]
    cases r <;> simp
/-- the first sign of a text of groups is a digit -/
theorem join_head {r : List Nat} (h : r ≠ []) : ∃ d t, d < 16 ∧ join r = hexc d :: t := by
  cases r with
  | nil => exact absurd rfl h
  | cons g r =>
    cases hg : hexs g with
    | nil => exact absurd hg (hexs_pos g)
    | cons c t =>
      obtain ⟨d, hd, rfl⟩ := hexs_mem g c (by rw [hg]; simp)
      exact ⟨d, t ++ (if r = [] then [] else 58 :: join r), hd, by rw [join_cons, hg]; rfl⟩
theorem join_mem (r : List Nat) : ∀ c ∈ join r, c = 58 ∨ ∃ d, d < 16 ∧ c = hexc d := by
  induction r with
  | nil => intro c hc; simp [join] at hc
  | cons g r ih =>
    intro c hc
    rw [join_cons, List.mem_append] at hc
    rcases hc with hc | hc
    · exact .inr (hexs_mem g c hc)
    · split at hc
      · simp at hc
      · rcases List.mem_cons.1 hc with rfl | hc
        · exact .inl rfl
        · exact ih c hc

/-- The two bytes of a group. -/
def gb (g : Nat) : List UInt8 := [UInt8.ofNat (g / 256), UInt8.ofNat g]
def gbs (r : List Nat) : List UInt8 := r.flatMap gb
theorem gbs_length (r : List Nat) : (gbs r).length = 2 * r.length := by
  induction r with
  | nil => rfl
  | cons g r ih => simp only [gbs, List.flatMap_cons, List.length_append, List.length_cons] at ih ⊢; rw [ih]; simp [gb]; omega
theorem gbs_append (a b : List Nat) : gbs (a ++ b) = gbs a ++ gbs b := by simp [gbs]
theorem gbs_zeros (n : Nat) : gbs (List.replicate n 0) = List.replicate (2 * n) 0 := by
  induction n with
  | zero => rfl
  | succ n ih => rw [List.replicate_succ, gbs, List.flatMap_cons, show (List.replicate n 0).flatMap gb = gbs (List.replicate n 0) from rfl, ih]; rfl

/-- The groups of bytes. -/
def groups : List UInt8 → List Nat
  | a :: b :: r => (a.toNat * 256 + b.toNat) :: groups r
  | _ => []
theorem groups_length : ∀ (n : Nat) (l : List UInt8), l.length = 2 * n → (groups l).length = n
  | 0, l, h => by have : l = [] := by simpa using h
                  subst this; rfl
  | n + 1, [], h => by simp at h
  | n + 1, [a], h => by simp at h; omega
  | n + 1, a :: b :: r, h => by simp only [groups, List.length_cons]; rw [groups_length n r (by simp at h; omega)]
theorem groups_lt : ∀ (l : List UInt8), ∀ g ∈ groups l, g < 65536
  | [], g, h => by simp [groups] at h
  | [a], g, h => by simp [groups] at h
  | a :: b :: r, g, h => by
    simp only [groups, List.mem_cons] at h
    rcases h with rfl | h
    · have := a.toNat_lt; have := b.toNat_lt; omega
    · exact groups_lt r g h
theorem gb_of (a b : UInt8) : gb (a.toNat * 256 + b.toNat) = [a, b] := by
  have ha := a.toNat_lt; have hb := b.toNat_lt
  unfold gb
  have e1 : (a.toNat * 256 + b.toNat) / 256 = a.toNat := by omega
  rw [e1]
  congr 1
  · exact UInt8.ofNat_toNat
  · congr 1
    apply UInt8.toNat.inj
    simp
theorem gbs_groups : ∀ (n : Nat) (l : List UInt8), l.length = 2 * n → gbs (groups l) = l
  | 0, l, h => by have : l = [] := by simpa using h
                  subst this; rfl
  | n + 1, [], h => by simp at h
  | n + 1, [a], h => by simp at h; omega
  | n + 1, a :: b :: r, h => by
    have ih := gbs_groups n r (by simp at h; omega)
    simp only [groups, gbs, List.flatMap_cons] at ih ⊢
    rw [ih, gb_of]; rfl

/-- The text of an address of sixteen bytes whose run of zeros stands from p to q (255: none). -/
def text6 (G : List Nat) (p q : Nat) : List UInt8 := if p = 255 then join G else join (G.take p) ++ 58 :: 58 :: join (G.drop q)

theorem join_len (r : List Nat) : (∀ g ∈ r, g < 65536) → (join r).length ≤ 5 * r.length := by
  induction r with
  | nil => intro _; simp [join]
  | cons g r ih =>
    intro h
    have h4 := hexs_len4 (h g (by simp))
    have := ih (fun x hx => h x (by simp [hx]))
    rw [join_cons, List.length_append, List.length_cons]
    split <;> simp <;> omega

/-- A run of two or more zeros from p to q, or none (255, 255). -/
def IsRun (G : List Nat) (p q : Nat) : Prop := (p = 255 ∧ q = 255) ∨ (p + 2 ≤ q ∧ q ≤ 8 ∧ ∀ k, p ≤ k → k < q → G.getD k 0 = 0)
/-- What has been written when the groups below i are done. -/
def textAt (G : List Nat) (p q i : Nat) : List UInt8 := if p = 255 ∨ i ≤ p then join (G.take i) else join (G.take p) ++ 58 :: 58 :: join ((G.take i).drop q)
theorem textAt_len (G : List Nat) (h : ∀ g ∈ G, g < 65536) (h8 : G.length = 8) (p q i : Nat) : (textAt G p q i).length ≤ 200 := by
  have h1 : ∀ k, (join (G.take k)).length ≤ 40 := fun k => by
    have := join_len (G.take k) (fun g hg => h g (List.mem_of_mem_take hg))
    rw [List.length_take] at this; omega
  have h2 : (join ((G.take i).drop q)).length ≤ 40 := by
    have := join_len ((G.take i).drop q) (fun g hg => h g (List.mem_of_mem_take (List.mem_of_mem_drop hg)))
    rw [List.length_drop, List.length_take] at this; omega
  unfold textAt
  split
  · have := h1 i; omega
  · have := h1 p; simp; omega
theorem take_snoc (G : List Nat) {i : Nat} (h : i < G.length) : G.take (i + 1) = G.take i ++ [G.getD i 0] := by
  rw [List.take_add_one, List.getElem?_eq_getElem h, List.getD_eq_getElem?_getD, List.getElem?_eq_getElem h]; rfl
/-- a group ahead of the run -/
theorem textAt_first (G : List Nat) (p q : Nat) (h : 0 < G.length) (hp : p ≠ 0) : textAt G p q 1 = textAt G p q 0 ++ hexs (G.getD 0 0) := by
  unfold textAt
  rw [if_pos (by omega), if_pos (by omega), take_snoc G h]
  simp [join]
theorem textAt_more (G : List Nat) (p q i : Nat) (h : i < G.length) (hi : 0 < i) (hp : p = 255 ∨ i < p) : textAt G p q (i + 1) = textAt G p q i ++ 58 :: hexs (G.getD i 0) := by
  unfold textAt
  rw [if_pos (by omega), if_pos (by omega), take_snoc G h, join_snoc, if_neg]
  intro he
  have := congrArg List.length he
  rw [List.length_take, List.length_nil] at this; omega
/-- the run, and the first group behind it -/
theorem textAt_run (G : List Nat) (p q : Nat) (h : q < G.length) (hpq : p < q) (h255 : p ≠ 255) : textAt G p q (q + 1) = textAt G p q p ++ 58 :: 58 :: hexs (G.getD q 0) := by
  unfold textAt
  rw [if_neg (by omega), if_pos (by omega), take_snoc G h, List.drop_append_of_le_length (by rw [List.length_take]; omega), List.drop_of_length_le (by rw [List.length_take]; omega)]
  simp [join]
/-- a group behind the run -/
theorem textAt_behind (G : List Nat) (p q i : Nat) (h : i < G.length) (hpq : p < q) (hqi : q < i) (h255 : p ≠ 255) : textAt G p q (i + 1) = textAt G p q i ++ 58 :: hexs (G.getD i 0) := by
  unfold textAt
  rw [if_neg (by omega), if_neg (by omega), take_snoc G h, List.drop_append_of_le_length (by rw [List.length_take]; omega), join_snoc, if_neg]
  · simp
  · intro he
    have := congrArg List.length he
    rw [List.length_drop, List.length_take, List.length_nil] at this; omega
theorem textAt_all (G : List Nat) (p q : Nat) (h8 : G.length = 8) (hr : IsRun G p q) : textAt G p q 8 = text6 G p q := by
  unfold textAt text6
  rcases hr with ⟨rfl, rfl⟩ | ⟨h1, h2, -⟩
  · rw [if_pos (by omega), if_pos rfl, List.take_of_length_le (by omega)]
  · rw [if_neg (by omega), if_neg (by omega), show G.take 8 = G from List.take_of_length_le (by omega)]
theorem textAt_end (G : List Nat) (p : Nat) (h8 : G.length = 8) (hp : p < 8) : textAt G p 8 p ++ [58, 58] = text6 G p 8 := by
  unfold textAt text6
  rw [if_pos (by omega), if_neg (by omega), List.drop_of_length_le (by omega)]
  simp [join]

/-- The numeral of a byte, and the text of four bytes. -/
abbrev dec (x : UInt8) : List UInt8 := Lib.decDigits x.toNat
def text4 (a b c d : UInt8) : List UInt8 := dec a ++ 46 :: (dec b ++ 46 :: (dec c ++ 46 :: dec d))
/-- The value of decimal digits. -/
def decval (l : List UInt8) : Nat := l.foldl (fun a c => a * 10 + (c.toNat - 48)) 0
theorem decval_succ (l : List UInt8) (k : Nat) (h : k < l.length) : decval (l.take (k + 1)) = decval (l.take k) * 10 + (l[k].toNat - 48) := by
  unfold decval
  rw [List.take_add_one, List.getElem?_eq_getElem h, Option.toList_some, List.foldl_append]
  rfl

theorem decDigits_small (n : Nat) (h : n < 10) : Lib.decDigits n = [UInt8.ofNat (48 + n)] := by rw [Lib.decDigits, dif_pos h]
theorem decDigits_big (n : Nat) (h : ¬ n < 10) : Lib.decDigits n = Lib.decDigits (n / 10) ++ [UInt8.ofNat (48 + n % 10)] := by rw [Lib.decDigits, dif_neg h]
/-- the numeral of a byte, by its digits -/
def dig3 (n : Nat) : List UInt8 := if n < 10 then [UInt8.ofNat (48 + n)] else if n < 100 then [UInt8.ofNat (48 + n / 10), UInt8.ofNat (48 + n % 10)] else [UInt8.ofNat (48 + n / 100), UInt8.ofNat (48 + n / 10 % 10), UInt8.ofNat (48 + n % 10)]
theorem dec_eq (n : Nat) (h : n < 1000) : Lib.decDigits n = dig3 n := by
  unfold dig3
  by_cases h1 : n < 10
  · rw [decDigits_small n h1, if_pos h1]
  · rw [if_neg h1, decDigits_big n h1]
    by_cases h2 : n < 100
    · rw [if_pos h2, decDigits_small (n / 10) (by omega)]; rfl
    · rw [if_neg h2, decDigits_big (n / 10) (by omega), decDigits_small (n / 10 / 10) (by omega), show n / 10 / 10 = n / 100 by omega]; rfl
/-- What the reader of numerals asks at each digit of a byte's numeral. -/
theorem dig3_reads : ∀ n : Fin 256, (dig3 n).length ≤ 3 ∧ 1 ≤ (dig3 n).length ∧ decval (dig3 n) = n.val ∧
    ∀ k : Fin 3, (hk : k.val < (dig3 n).length) → 48 ≤ ((dig3 n)[k.val]).toNat ∧ ((dig3 n)[k.val]).toNat ≤ 57 ∧ decval ((dig3 n).take (k.val + 1)) ≤ 255 ∧ ¬ (k.val = 1 ∧ decval ((dig3 n).take k.val) = 0) := by
  decide +kernel
theorem dec_reads (x : UInt8) : (dec x).length ≤ 3 ∧ 1 ≤ (dec x).length ∧ decval (dec x) = x.toNat ∧
    ∀ k, (hk : k < (dec x).length) → 48 ≤ ((dec x)[k]).toNat ∧ ((dec x)[k]).toNat ≤ 57 ∧ decval ((dec x).take (k + 1)) ≤ 255 ∧ ¬ (k = 1 ∧ decval ((dec x).take k) = 0) := by
  have h := dig3_reads ⟨x.toNat, x.toNat_lt⟩
  have e : dec x = dig3 x.toNat := dec_eq _ (by have := x.toNat_lt; omega)
  rw [e]
  exact ⟨h.1, h.2.1, h.2.2.1, fun k hk => h.2.2.2 ⟨k, by have := h.1; simp at this hk ⊢; omega⟩ hk⟩
end Go.Proofs.YtdlmmaolacjnaaaGreatDoor
