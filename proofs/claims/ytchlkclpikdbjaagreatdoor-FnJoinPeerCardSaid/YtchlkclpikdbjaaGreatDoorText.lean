/-
  The contract of the text of an IP address.
-/
import Derived.Test.YtchlkclpikdbjaaGreatDoorCore
import Derived.Test.YtchlkclpikdbjaaGreatDoorShelf
import Derived.Lib.SmallJoins
import Derived.Lib.AppendIntMem
import Derived.Deep.RegionHeld3
import Derived.Lib.ConvBytes
import Derived.Laws.IdiomStrings
import Derived.Lib.IndexAny
import Derived.Test.YtchlkclpikdbjaaGreatDoorProg
import Derived.WalkLawsBesides
import Derived.WalkSpells
import Derived.Deep.LoopGhost
import Derived.Outline
import Derived.Lib.Varint
import Derived.Lib.EndianMore
namespace Go.Proofs.YtchlkclpikdbjaaGreatDoor
set_option linter.unusedVariables false
set_option linter.unusedSimpArgs false
open Go.RowKit Go.Sort

/-- Of the table of the powers of ten nothing is known here: numbers below 100 alone are written. -/
abbrev Tab (_w : World) : Prop := True
theorem Ext.tab {w w' : World} (_h : Ext w w') (_ht : Tab w) : Tab w' := trivial
theorem ext_grow (w : World) (k : Nat) (os : Array Obj) : Ext w (grow (w.drewN k) os) := Lib.below_grow _ w (Nat.le_refl _) k os

theorem itoa_ok (x : UInt8) (hx : x.toNat < 100) (w : World) : Calls Tryz.prog 166 #[.int .i64 (x.toNat : Int)] w fun e w' => e = .returned (.string ⟨(dec x).toArray⟩) ∧ Ext w w' := by
  refine (Tryz.strconv_Itoa_small x.toNat hx w).mono ?_
  rintro e w' ⟨rfl, rfl⟩
  exact ⟨rfl, Ext.refl _⟩

end Go.Proofs.YtchlkclpikdbjaaGreatDoor
namespace Go.Proofs.YtchlkclpikdbjaaGreatDoor
set_option linter.unusedVariables false
set_option linter.unusedSimpArgs false
open Go.RowKit Go.Sort

/-- A slice of the bytes l. -/
def By (w : World) (l : List UInt8) (v : Value) : Prop :=
  ∃ a c, v = .slice a l.length c ∧ l.length ≤ c ∧ (l ≠ [] → ∃ g o, a = some ⟨g, o, none⟩ ∧ Row w g o (l.map B))
theorem Bs.by {w : World} {l : List UInt8} {v : Value} (h : Bs w l v) : By w l v := by
  obtain ⟨a, c, h1, h2, -, h4⟩ := h
  exact ⟨a, c, h1, h2, fun hne => h4 (by simpa using hne)⟩
theorem Ext.by {w w' : World} (h : Ext w w') {l : List UInt8} {v : Value} (hs : By w l v) : By w' l v := by
  obtain ⟨a, c, h1, h2, h4⟩ := hs
  exact ⟨a, c, h1, h2, fun hne => by obtain ⟨g, o, ha, hr⟩ := h4 hne; exact ⟨g, o, ha, h.row hr⟩⟩
theorem By.of_row {w : World} {g o c : Nat} {l : List UInt8} (h : Row w g o (l.map B)) (hc : l.length ≤ c) : By w l (.slice (some ⟨g, o, none⟩) l.length c) := ⟨_, c, rfl, hc, fun _ => ⟨g, o, rfl, h⟩⟩
theorem addr_add (g o j : Nat) : (⟨g, o, none⟩ : Addr).add j = ⟨g, o + j, none⟩ := by unfold Addr.add; split <;> simp_all

/-- 'string(b)' -/
theorem conv_str {w : World} {l : List UInt8} {v : Value} (h : By w l v) : (convert 22 9 v).run Tryz.prog w = .ok (.string ⟨l.toArray⟩) w := by
  obtain ⟨a, c, rfl, h2, h4⟩ := h
  by_cases hl : l = []
  · subst hl
    exact run_convert_bytes_zero w 22 5 Tryz.underlying22 Tryz.underlying5 a c 9 Tryz.underlying9
  · obtain ⟨g, o, rfl, hr⟩ := h4 hl
    refine run_convert_bytes_back w 22 9 5 ⟨g, o, none⟩ c l Tryz.underlying22 Tryz.underlying5 Tryz.underlying9 fun j hj => ?_
    rw [addr_add]
    exact hr j _ (by rw [List.getElem?_map, List.getElem?_eq_getElem hj]; rfl)

theorem ext_bytesWorld (w : World) (e : TypeId) (s : ByteArray) : Ext w (Lib.bytesWorld w e s) := by
  refine ⟨?_, ?_, ?_, by rw [Lib.bytesWorld_size]; omega, fun k hk => Lib.bytesWorld_at_old w e s k hk⟩
  all_goals simp [Lib.bytesWorld, World.freeze, World.alloc, World.drew, -World.alloc_eq, -World.drew_eq]
theorem row_bytesWorld (w : World) (e : TypeId) (s : ByteArray) : Row (Lib.bytesWorld w e s) w.heap.size 0 (s.data.toList.map B) := fun j v hj => by
  have hl : j < s.data.toList.length := by have := (List.getElem?_eq_some_iff.1 hj).1; simpa using this
  rw [Nat.zero_add, Lib.bytesWorld_cell w e s j (by rw [Lib.size_eq]; exact hl)]
  rw [List.getElem?_map, List.getElem?_eq_getElem hl] at hj
  rw [getD_lt _ _ hl]
  exact hj

theorem run_bytes (w : World) (s : ByteArray) : (convert 9 22 (.string s)).run Tryz.prog w = .ok (.slice (some ⟨w.heap.size, 0, none⟩) s.size (grownCap w s.size 0 5)) (Lib.bytesWorld w 5 s) :=
  Lib.run_convert_string_bytes w 9 22 5 s Tryz.underlying9 Tryz.underlying22 Tryz.underlying5

/-- '[]byte(s)': the new slice and its world under names. -/
theorem wpList_bytes {ops : Array Oper} {rest : List Oper} {o : Oper} {a : Act} {w : World} {Q : Exit → Act → World → Prop} (hgd : o.guard = none) (x : Operand) (ho : o.op = .convert 9 22 x) (s : ByteArray) (hx : a.eval x = .string s)
    (h : ∀ c w1, s.size ≤ c → Row w1 w.heap.size 0 (s.data.toList.map B) → Ext w w1 → w1.heap.size = w.heap.size + 1 → wpList Tryz.prog ops Q rest (a.put o.dst (.slice (some ⟨w.heap.size, 0, none⟩) s.size c)) w1) : wpList Tryz.prog ops Q (o :: rest) a w := by
  refine Great.wpList_runTo hgd _ rfl _ _ ?_ (h _ _ (grownCap_ge w s.size 0 5) (row_bytesWorld w 5 s) (ext_bytesWorld w 5 s) (Lib.bytesWorld_size w 5 s))
  unfold execOp
  simp only [ho, hx]
  simp only [Sem.run_bind, run_bytes, Result.andThen_ok]
  rfl
/-- 'string(b)' -/
theorem wpList_str {ops : Array Oper} {rest : List Oper} {o : Oper} {a : Act} {w : World} {Q : Exit → Act → World → Prop} (hgd : o.guard = none) (x : Operand) (ho : o.op = .convert 22 9 x) (l : List UInt8) (hx : By w l (a.eval x))
    (h : wpList Tryz.prog ops Q rest (a.put o.dst (.string ⟨l.toArray⟩)) w) : wpList Tryz.prog ops Q (o :: rest) a w := by
  refine Great.wpList_runTo hgd _ rfl _ _ ?_ h
  unfold execOp
  simp only [ho, conv_str hx, Sem.run_bind, Result.andThen_ok]
  rfl

theorem indexByte_none (l : List UInt8) (c : UInt8) (h : c ∉ l) : Lib.indexByte l c = -1 := by
  have h1 := Lib.contains_iff_indexByte l c
  have h2 := Lib.indexByte_ge l c
  have h3 : l.contains c = false := by simpa using h
  rw [h3] at h1
  have h4 := of_decide_eq_false h1.symm
  omega
/-- bytes.IndexByte of a sign that is not there -/
theorem indexByte_ok (l : List UInt8) (k : Nat) (h : UInt8.ofNat k ∉ l) (hl : l ≠ []) (v : Value) (w : World) (hv : By w l v) :
    Calls Tryz.prog 163 #[v, .int .u8 (k : Int)] w fun e w' => e = .returned (.int .i64 (-1)) ∧ w = w' := by
  obtain ⟨a, c, rfl, h2, h4⟩ := hv
  obtain ⟨g, o, rfl, hr⟩ := h4 hl
  refine (Tryz.bytes_IndexByte_bytes g o c ⟨l.toArray⟩ (k : Int) w ?_).mono ?_
  · intro i hi
    have hi' : i < l.length := by simpa [ByteArray.size] using hi
    exact hr i _ (by rw [List.getElem?_map, List.getElem?_eq_getElem hi']; rfl)
  · rintro e w' ⟨rfl, rfl⟩
    refine ⟨?_, rfl⟩
    rw [indexByte_none]
    simpa using h
/-- bytes.Equal -/
theorem bytesEqual_ok (l m : List UInt8) (v u : Value) (w : World) (hv : By w l v) (hu : By w m u) :
    Calls Tryz.prog 194 #[v, u] w fun e w' => e = .returned (.bool (decide (l = m))) ∧ w = w' := by
  refine (Tryz.bytes_Equal_strs v u ⟨l.toArray⟩ ⟨m.toArray⟩ w (conv_str hv) (conv_str hu)).mono ?_
  rintro e w' ⟨rfl, rfl⟩
  refine ⟨?_, rfl⟩
  congr 2
  rw [Bool.eq_iff_iff]
  simp [ByteArray.toList_eq]
end Go.Proofs.YtchlkclpikdbjaaGreatDoor
namespace Go.Proofs.YtchlkclpikdbjaaGreatDoor
set_option linter.unusedVariables false
set_option linter.unusedSimpArgs false
open Go.RowKit

theorem Tryz.info5 : (Tryz.prog.info? 5).map (fun i => (i.zero, i.size, i.bytes)) = some (some (.int .u8 0), 1, 1) := by kernel_rfl

/-- How many bytes a varint has, out of the number of bits. -/
theorem usize_eq (x : Nat) : x < 18446744073709551616 → (Lib.uvarint x).length = Lib.bitLen x / 7 + (if Lib.bitLen x % 7 = 0 ∧ Lib.bitLen x ≠ 0 then 0 else 1) := by
  induction x using Nat.strongRecOn with
  | _ x ih =>
    intro hx
    by_cases h : x < 128
    · rw [Lib.uvarint_small h]
      have h7 : Lib.bitLen x ≤ 7 := Lib.bitLen_le x 7 (by decide) (by simpa using h)
      by_cases h0 : Lib.bitLen x = 7
      · rw [h0]; rfl
      · have : Lib.bitLen x / 7 = 0 := by omega
        rw [this, if_neg (by omega)]; rfl
    · rw [Lib.uvarint_big (by omega), List.length_cons, ih (x / 128) (by omega) (by omega), Lib.bitLen_shift 7 x (by simp; omega) (by simpa using hx)]
      rw [show (2 : Nat) ^ 7 = 128 from rfl]
      have e1 : (7 + Lib.bitLen (x / 128)) / 7 = Lib.bitLen (x / 128) / 7 + 1 := by omega
      have e2 : (7 + Lib.bitLen (x / 128)) % 7 = Lib.bitLen (x / 128) % 7 := by omega
      have h1 : Lib.bitLen (x / 128) ≠ 0 := by
        intro h0
        have := Lib.bitLen_half (x / 128) (by omega) (by omega)
        omega
      rw [e1, e2]
      by_cases hm : Lib.bitLen (x / 128) % 7 = 0
      · rw [if_pos ⟨hm, h1⟩, if_pos ⟨hm, by omega⟩]
      · rw [if_neg (by omega), if_neg (by omega)]

theorem uvarintSize_ok (x : Nat) (hx : x < 18446744073709551616) (w : World) :
    Calls Tryz.prog 101 #[.int .u64 x] w fun e w' => e = .returned (.int .i64 (Lib.uvarint x).length) ∧ w' = w := by
  have hu := Lib.hid (usize_eq x hx)
  have hb : Lib.bitLen x ≤ 64 := Lib.bitLen_le x 64 (by decide) (by simpa using hx)
  generalize hn : Lib.bitLen x = n at hu hb
  have Hn := Lib.hid hn
  clear hn
  go_enter Tryz.func101, Tryz.ntmps101
  go_wp2_with (go_at_call 152; refine (Tryz.bits_Len64 _ _ (by omega) (by omega)).mono ?_; rintro e w' ⟨rfl, rfl⟩; simp only [Int.toNat_natCast, Hn.out])
  all_goals
    go_ret
    refine ⟨ret_int ?_, rfl⟩
    rw [hu.out]
    split <;> simp at * <;> omega

theorem toUvarint_ok (x : Nat) (hx : x < 18446744073709551616) (w : World) :
    Calls Tryz.prog 74 #[.int .u64 x] w fun e w' =>
      e = .returned (.slice (some ⟨w.heap.size, 0, none⟩) (Lib.uvarint x).length (Lib.uvarint x).length) ∧ Bs w' (Lib.uvarint x) (.slice (some ⟨w.heap.size, 0, none⟩) (Lib.uvarint x).length (Lib.uvarint x).length) ∧ Ext w w' := by
  have hl := Lib.uvarint_length64 hx
  have hp := Lib.uvarint_pos x
  generalize hn : Lib.uvarint x = l at hl hp
  have Hn := Lib.hid hn
  clear hn
  obtain ⟨i0, hi, hz0, hz1, hz2⟩ := info_parts Tryz.info5
  have b2 : i0.bytes * l.length ≤ 281474976710656 := by rw [hz2]; omega
  have b3 : l.length ≤ maxLen := by unfold maxLen; omega
  go_enter Tryz.func74, Tryz.ntmps74
  go_wp2_with (first
    | (go_at_call 101; refine (uvarintSize_ok _ hx _).mono ?_; rintro e w' ⟨rfl, rfl⟩; simp only [Hn.out])
    | (refine wpList_make_full _ rfl _ _ 22 rfl w'.heap.size 5 i0 (.int .u8 0) 1 Tryz.underlying22 hi hz0 hz1 _ _ _ _ l.length rfl rfl rfl rfl b2 b3 (Nat.le_refl _) ?_; intro w1 hown hgr))
  have hcell : ∀ j, j < l.length → (w1.cell? ⟨w'.heap.size, 0 + j, none⟩).isSome = true ∧ w1.frozen? ⟨w'.heap.size, 0 + j, none⟩ = false := fun j hj => by
    refine ⟨?_, hown.frozenAt _⟩
    have e : (madeCells (Value.int .u8 0).cells (l.length * 1)).toList = List.replicate l.length (.int .u8 0) := by rw [Nat.mul_one]; exact toList_madeCells_one _ _
    rw [hown.cellAt _ (by omega), e]
    simp; omega
  refine (Tryz.binary_PutUvarint w'.heap.size 0 l.length l.length x hx _ (by rw [Hn.out]; exact Nat.le_refl _) (by rw [Hn.out]; exact hcell)).mono ?_
  rintro e w2 ⟨rfl, rfl⟩
  simp only [Hn.out]
  go_wp2
  go_ret
  refine ⟨rfl, ⟨_, _, rfl, Nat.le_refl _, by omega, fun _ => ⟨_, _, rfl, row_setCells fun j hj => (hcell j (by simpa [Lib.byteCells] using hj)).1⟩⟩, ?_⟩
  exact below_setCells' (below_of_grown hgr) (Nat.le_refl _) _ _

theorem codeToVarint_ok (x : Nat) (hx : x ≤ 2147483647) (w : World) :
    Calls Tryz.prog 78 #[.int .i64 x] w fun e w' =>
      e = .returned (.slice (some ⟨w.heap.size, 0, none⟩) (Lib.uvarint x).length (Lib.uvarint x).length) ∧ Bs w' (Lib.uvarint x) (.slice (some ⟨w.heap.size, 0, none⟩) (Lib.uvarint x).length (Lib.uvarint x).length) ∧ Ext w w' := by
  go_enter Tryz.func78, Tryz.ntmps78
  go_wp2_with (go_at_call 74; refine (toUvarint_ok x (by omega) _).mono ?_; rintro e w1 ⟨rfl, hb, he⟩)
  go_ret
  exact ⟨rfl, hb, he⟩
end Go.Proofs.YtchlkclpikdbjaaGreatDoor
