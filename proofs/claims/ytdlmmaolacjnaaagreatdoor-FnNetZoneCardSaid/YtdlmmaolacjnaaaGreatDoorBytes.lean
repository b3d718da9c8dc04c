/-
  Slices of bytes with whatever capacity, and the conversions between bytes and strings.
-/
import Derived.Test.YtdlmmaolacjnaaaGreatDoorText
import Derived.Test.YtdlmmaolacjnaaaGreatDoorShelf
import Derived.Lib.ConvBytes
import Derived.Laws.IdiomStrings
import Derived.Lib.IndexAny
namespace Go.Proofs.YtdlmmaolacjnaaaGreatDoor
set_option linter.unusedVariables false
set_option linter.unusedSimpArgs false
open Go.RowKit Go.Sort

/-- A slice of the bytes l. -/
def By (w : World) (l : List UInt8) (v : Value) : Prop :=
  ∃ a c, v = .slice a l.length c ∧ l.length ≤ c ∧ (l ≠ [] → ∃ g o, a = some ⟨g, o, none⟩ ∧ Row w g o (l.map B))
theorem Bs.by {w : World} {l : List UInt8} {v : Value} (h : Bs w l v) : By w l v := by
  obtain ⟨a, c, h1, h2, -, h4⟩ := h
  exact ⟨a, c, h1, h2, fun hne => h4 (by simpa using hne)⟩
theorem Ext.by {w w' : World} (h : Ext w w') {l : List UInt8} {v : Value} (hs : By w l v) : By w' l v := by
  obtain ⟨a, c, h1, h2, h4⟩ := hs
  exact ⟨a, c, h1, h2, fun hne => by obtain ⟨g, o, ha, hr⟩ := h4 hne; exact ⟨g, o, ha, h.row hr⟩⟩
theorem By.of_row {w : World} {g o c : Nat} {l : List UInt8} (h : Row w g o (l.map B)) (hc : l.length ≤ c) : By w l (.slice (some ⟨g, o, none⟩) l.length c) := ⟨_, c, rfl, hc, fun _ => ⟨g, o, rfl, h⟩⟩
theorem addr_add (g o j : Nat) : (⟨g, o, none⟩ : Addr).add j = ⟨g, o + j, none⟩ := by unfold Addr.add; split <;> simp_all

/-- 'string(b)' -/
theorem conv_str {w : World} {l : List UInt8} {v : Value} (h : By w l v) : (convert 22 9 v).run Tryz.prog w = .ok (.string ⟨l.toArray⟩) w := by
  obtain ⟨a, c, rfl, h2, h4⟩ := h
  by_cases hl : l = []
  · subst hl
    exact run_convert_bytes_zero w 22 5 Tryz.underlying22 Tryz.underlying5 a c 9 Tryz.underlying9
  · obtain ⟨g, o, rfl, hr⟩ := h4 hl
    refine run_convert_bytes_back w 22 9 5 ⟨g, o, none⟩ c l Tryz.underlying22 Tryz.underlying5 Tryz.underlying9 fun j hj => ?_
    rw [addr_add]
    exact hr j _ (by rw [List.getElem?_map, List.getElem?_eq_getElem hj]; rfl)

theorem ext_bytesWorld (w : World) (e : TypeId) (s : ByteArray) : Ext w (Lib.bytesWorld w e s) := by
  refine ⟨?_, ?_, ?_, by rw [Lib.bytesWorld_size]; omega, fun k hk => Lib.bytesWorld_at_old w e s k hk⟩
  all_goals simp [Lib.bytesWorld, World.freeze, World.alloc, World.drew, -World.alloc_eq, -World.drew_eq]
theorem row_bytesWorld (w : World) (e : TypeId) (s : ByteArray) : Row (Lib.bytesWorld w e s) w.heap.size 0 (s.data.toList.map B) := fun j v hj => by
  have hl : j < s.data.toList.length := by have := (List.getElem?_eq_some_iff.1 hj).1; simpa using this
  rw [Nat.zero_add, Lib.bytesWorld_cell w e s j (by rw [Lib.size_eq]; exact hl)]
  rw [List.getElem?_map, List.getElem?_eq_getElem hl] at hj
  rw [getD_lt _ _ hl]
  exact hj

theorem run_bytes (w : World) (s : ByteArray) : (convert 9 22 (.string s)).run Tryz.prog w = .ok (.slice (some ⟨w.heap.size, 0, none⟩) s.size (grownCap w s.size 0 5)) (Lib.bytesWorld w 5 s) :=
  Lib.run_convert_string_bytes w 9 22 5 s Tryz.underlying9 Tryz.underlying22 Tryz.underlying5

/-- '[]byte(s)': the new slice and its world under names. -/
theorem wpList_bytes {ops : Array Oper} {rest : List Oper} {o : Oper} {a : Act} {w : World} {Q : Exit → Act → World → Prop} (hgd : o.guard = none) (x : Operand) (ho : o.op = .convert 9 22 x) (s : ByteArray) (hx : a.eval x = .string s)
    (h : ∀ c w1, s.size ≤ c → Row w1 w.heap.size 0 (s.data.toList.map B) → Ext w w1 → w1.heap.size = w.heap.size + 1 → wpList Tryz.prog ops Q rest (a.put o.dst (.slice (some ⟨w.heap.size, 0, none⟩) s.size c)) w1) : wpList Tryz.prog ops Q (o :: rest) a w := by
  refine Great.wpList_runTo hgd _ rfl _ _ ?_ (h _ _ (grownCap_ge w s.size 0 5) (row_bytesWorld w 5 s) (ext_bytesWorld w 5 s) (Lib.bytesWorld_size w 5 s))
  unfold execOp
  simp only [ho, hx]
  simp only [Sem.run_bind, run_bytes, Result.andThen_ok]
  rfl
/-- 'string(b)' -/
theorem wpList_str {ops : Array Oper} {rest : List Oper} {o : Oper} {a : Act} {w : World} {Q : Exit → Act → World → Prop} (hgd : o.guard = none) (x : Operand) (ho : o.op = .convert 22 9 x) (l : List UInt8) (hx : By w l (a.eval x))
    (h : wpList Tryz.prog ops Q rest (a.put o.dst (.string ⟨l.toArray⟩)) w) : wpList Tryz.prog ops Q (o :: rest) a w := by
  refine Great.wpList_runTo hgd _ rfl _ _ ?_ h
  unfold execOp
  simp only [ho, conv_str hx, Sem.run_bind, Result.andThen_ok]
  rfl

theorem indexByte_none (l : List UInt8) (c : UInt8) (h : c ∉ l) : Lib.indexByte l c = -1 := by
  have h1 := Lib.contains_iff_indexByte l c
  have h2 := Lib.indexByte_ge l c
  have h3 : l.contains c = false := by simpa using h
  rw [h3] at h1
  have h4 := of_decide_eq_false h1.symm
  omega
/-- bytes.IndexByte of a sign that is not there -/
theorem indexByte_ok (l : List UInt8) (k : Nat) (h : UInt8.ofNat k ∉ l) (hl : l ≠ []) (v : Value) (w : World) (hv : By w l v) :
    Calls Tryz.prog 204 #[v, .int .u8 (k : Int)] w fun e w' => e = .returned (.int .i64 (-1)) ∧ w = w' := by
  obtain ⟨a, c, rfl, h2, h4⟩ := hv
  obtain ⟨g, o, rfl, hr⟩ := h4 hl
  refine (Tryz.bytes_IndexByte_bytes g o c ⟨l.toArray⟩ (k : Int) w ?_).mono ?_
  · intro i hi
    have hi' : i < l.length := by simpa [ByteArray.size] using hi
    exact hr i _ (by rw [List.getElem?_map, List.getElem?_eq_getElem hi']; rfl)
  · rintro e w' ⟨rfl, rfl⟩
    refine ⟨?_, rfl⟩
    rw [indexByte_none]
    simpa using h
/-- bytes.Equal -/
theorem bytesEqual_ok (l m : List UInt8) (v u : Value) (w : World) (hv : By w l v) (hu : By w m u) :
    Calls Tryz.prog 128 #[v, u] w fun e w' => e = .returned (.bool (decide (l = m))) ∧ w = w' := by
  refine (Tryz.bytes_Equal_strs v u ⟨l.toArray⟩ ⟨m.toArray⟩ w (conv_str hv) (conv_str hu)).mono ?_
  rintro e w' ⟨rfl, rfl⟩
  refine ⟨?_, rfl⟩
  congr 2
  rw [Bool.eq_iff_iff]
  simp [ByteArray.toList_eq]
end Go.Proofs.YtdlmmaolacjnaaaGreatDoor
