/-
  The alphabets of base 58: NewAlphabet.
-/
import Derived.Test.YtchlkclpikdbjaaGreatDoorDig
import Derived.Laws.IdiomCopy
import Derived.Test.YtchlkclpikdbjaaGreatDoorNum
import Derived.Test.YtchlkclpikdbjaaGreatDoorShelf
import Derived.Lib.HexFns2
namespace Go.Proofs.YtchlkclpikdbjaaGreatDoor
set_option linter.unusedVariables false
set_option linter.unusedSimpArgs false
open Go.RowKit Go.Sort

theorem wr_setCells {b n : Nat} : ∀ (cs : List Value) (o : Nat) (w : World) (f : Nat → Value), Wr w b n f → o + cs.length ≤ n → Wr (w.setCells b o cs) b n (fun j => if h : o ≤ j ∧ j < o + cs.length then cs[j - o]'(by omega) else f j)
  | [], o, w, f, h, _ => h.congr fun i hi => by rw [dif_neg (by simp; try omega)]
  | v :: r, o, w, f, h, hl => by
    have hl2 : o + 1 + r.length ≤ n := by simp at hl; omega
    have := wr_setCells r (o + 1) (w.setCell ⟨b, o, none⟩ v) _ (h.set o v) hl2
    refine this.congr fun j hj => ?_
    by_cases h1 : j = o
    · subst h1
      rw [dif_neg (by omega), dif_pos (by simp)]
      simp
    · by_cases h2 : o + 1 ≤ j ∧ j < o + 1 + r.length
      · rw [dif_pos h2, dif_pos (by simp; omega)]
        have e : j - o = (j - (o + 1)) + 1 := by omega
        simp only [e, List.getElem_cons_succ]
      · rw [dif_neg h2, dif_neg (by simp; omega), if_neg h1]
theorem grown_setCells {w w' : World} {b : Nat} (cs : List Value) (o : Nat) (h : w.grownBy w' (some b)) : w.grownBy (w'.setCells b o cs) (some b) := by
  induction cs generalizing o w' with
  | nil => exact h
  | cons v r ih => rw [World.setCells]; exact ih (o + 1) (grown_set h o v)
section
variable {P : Program}
/-- 'copy' of a text into a row -/
theorem wpList_copy_str {ops : Array Oper} {rest : List Oper} {o : Oper} {a : Act} {w : World} {Q : Exit → Act → World → Prop} (hgd : o.guard = none) (d s : Operand) (dT sT e : TypeId)
    (ho : o.op = .call { callee := .builtin .copy, args := #[d, s], argTypes := #[dT, sT] }) (hu : P.underlying dT = some (.slice e)) (hs : (P.info? e).map (·.size) = some 1)
    (b off n m c : Nat) (f : Nat → Value) (hd : a.eval d = .slice (some ⟨b, off, none⟩) m c) (hw : Wr w b n f) (l : List UInt8) (hx : a.eval s = .string ⟨l.toArray⟩) (hl : l.length = m) (hn : off + m ≤ n)
    (h : ∀ w1, Wr w1 b n (fun j => if off ≤ j ∧ j < off + m then B (l.getD (j - off) 0) else f j) → w.grownBy w1 (some b) → wpList P ops Q rest (a.put o.dst (goInt m)) w1) : wpList P ops Q (o :: rest) a w :=
  wpList_plain hgd fun K hK => by
    have hst := run_storeCells_cells (P := P) b off (l.map B) 0 w (by intro j hj; rw [Nat.add_zero, (hw (off + j) (by simp at hj; omega)).1]; rfl) (by intro j hj; rw [Nat.add_zero]; exact (hw (off + j) (by simp at hj; omega)).2) (by intro v hv; obtain ⟨x, -, rfl⟩ := List.mem_map.1 hv; rfl)
    rw [Nat.add_zero] at hst
    have hex : ((⟨l.toArray⟩ : ByteArray).extract 0 m).data.map (fun b => (.int .u8 (b.toNat : Int) : Value)) = (l.map B).toArray := by
      rw [extract_list rfl, List.drop_zero, Nat.sub_zero, List.take_of_length_le (by omega)]
      simp
    have hr : (Builtin.copy_ #[dT, sT] o.type #[.slice (some ⟨b, off, none⟩) m c, .string ⟨l.toArray⟩]).run P w = .ok (goInt m) (w.setCells b off (l.map B)) := by
      cases hq : P.info? e with
      | none => simp [hq] at hs
      | some i =>
        have hi : i.size = 1 := by simpa [hq] using hs
        have hmin : Nat.min (⟨l.toArray⟩ : ByteArray).size m = m := by simp [ByteArray.size, hl]
        simp only [Builtin.copy_, List.getElem?_toArray, List.getElem?_cons_zero, List.getElem?_cons_succ, Sem.run_bind, run_underlying hu, Result.andThen_ok, Builtin.lenOf, Builtin.firstCells, sizeOf, typeInfo, hq, hi, Sem.run_pure, hmin, hex, hst]
        simp [Sem.run, hq, hi, hex, hst, hmin]
    unfold Oper.wp execOp
    simp only [ho, resolve, invoke, builtin, Sem.run_bind, Sem.run_pure, Result.andThen_ok, List.map_toArray, List.map_cons, List.map_nil, hd, hx, hr]
    refine hK _ _ (h _ ?_ (grown_setCells _ _ (grown_refl _ _)))
    have hws := wr_setCells (l.map B) off w f hw (by simp; omega)
    refine hws.congr fun j hj => ?_
    by_cases h2 : off ≤ j ∧ j < off + m
    · rw [if_pos h2, dif_pos (by simp; omega)]
      rw [List.getElem_map, getD_lt _ _ (by omega)]
    · rw [if_neg h2, dif_neg (by simp; omega)]
theorem wpList_load_at {ops : Array Oper} {rest : List Oper} {o : Oper} {a : Act} {w : World} {Q : Exit → Act → World → Prop} (hgd : o.guard = none) (ty : TypeId) (x : Operand) (ho : o.op = .load ty x)
    (g off : Nat) (hx : a.eval x = .pointer (some ⟨g, off, none⟩)) (cs : List Value) (hr : Row w g off cs) (d : TypeDesc)
    (hu : P.underlying ty = some d) (hd : (match d with | .struct _ | .array _ _ => true | _ => false) = true) (hi : (P.info? ty).map (·.size) = some cs.length)
    (h : ∀ X : Array Value, Hid (X = cs.toArray) → wpList P ops Q rest (a.put o.dst (.agg X)) w) : wpList P ops Q (o :: rest) a w :=
  wpList_plain hgd fun K hK => by
    unfold Oper.wp execOp
    simp only [ho, hx, Instr.loadAt, Instr.sureAddr, Sem.run_bind, Sem.run_pure, Result.andThen_ok, run_loadRow w g off cs hr ty d hu hd hi]
    exact hK _ _ (h _ (Lib.hid rfl))
end
theorem run_index_agg {P : Program} (t e : TypeId) (n : Nat) (X : Array Value) (v : Value) (h : P.underlying t = some (.array n e)) (ik : IntKind) (he : P.underlying e = some (.int ik)) (hi : (P.info? e).map (·.size) = some 1) (k : Nat) (hk : k < n) (hx : X[k]? = some v) (w : World) :
    (Instr.index t (.agg X) (.int .i64 (k : Int))).run P w = .ok v w := by
  cases hq : P.info? e with
  | none => simp [hq] at hi
  | some i =>
    have hs : i.size = 1 := by simpa [hq] using hi
    have hagg : (isAgg e).run P w = .ok false w := by
      unfold isAgg
      rw [Sem.run_bind, run_underlying he w]
      rfl
    have hkI : (k : Int) < (n : Int) := by omega
    simp [Instr.index, asIntOf, Sem.run_bind, run_underlying h w, hkI, sizeOf, typeInfo, hq, hs, part, hagg, hx]
    intro hc; omega
/-- the numbers of the letters, after the first k -/
def amap (l : List UInt8) : Nat → Nat → Int
  | 0 => fun _ => -1
  | k + 1 => fun c => if c = (l.getD k 0).toNat then (k : Int) else amap l k c
def alphF (l : List UInt8) (d : Nat → Int) : Nat → Value := fun j => if j < 128 then .int .i8 (d j) else B (l.getD (j - 128) 0)
def AlphAt (w : World) (g : Nat) (l : List UInt8) : Prop := Wr w g 186 (alphF l (amap l 58))
theorem zero_alph : (Tryz.prog.info? 273).map (fun i => (i.zero.map (·.cells))) = some (some ((Array.range 186).map (fun j => if j < 128 then .int .i8 0 else .int .u8 0))) := by kernel_rfl

set_option maxHeartbeats 1000000 in
set_option maxRecDepth 100000 in
theorem newAlph_ok (l : List UInt8) (hl : l.length = 58) (h7 : ∀ x ∈ l, x.toNat < 128) (w : World) : Calls Tryz.prog 286 #[.string ⟨l.toArray⟩] w fun e w' => e = .returned (.pointer (some ⟨w.heap.size, 0, none⟩)) ∧ AlphAt w' w.heap.size l ∧ Ext w w' := by
  obtain ⟨S, hS⟩ : ∃ S : ByteArray, S = ⟨l.toArray⟩ := ⟨_, rfl⟩
  rw [← hS]
  have hSz : S.size = 58 := by rw [Lib.size_eq, hS]; exact hl
  have HS := Lib.hid hS
  have H7 := Lib.hid h7
  have HL := Lib.hid hl
  have hi1 : (Tryz.prog.info? 5).map (·.size) = some 1 := by kernel_rfl
  clear hS h7 hl
  go_enter Tryz.func286, Tryz.ntmps286
  go_wp2_with (first
    | (refine wpList_newrow rfl 273 rfl 186 _ zero_alph ?_; intro w1 hr1 he1 hs1; have HR1 := Lib.hid (Wr.of_row hr1); have HE1 := Lib.hid he1; clear hr1 he1 hs1)
    | (refine wpList_copy_str rfl _ _ 22 9 5 rfl Tryz.underlying22 hi1 w.heap.size 128 186 58 58 _ rfl HR1.out l (by first | exact congrArg Value.string HS.out) HL.out (by decide) ?_; intro w2 hw2 hg2; have HW2 := Lib.hid hw2; have HG2 := Lib.hid hg2; clear hw2 hg2))
  have hW0 : Hid (Wr w2 w.heap.size 186 (fun j => if j < 128 then (if j < 0 then .int .i8 (-1) else .int .i8 0) else B (l.getD (j - 128) 0)) ∧ Ext w w2) := Lib.hid ⟨HW2.out.congr fun j hj => by
      by_cases h1 : j < 128
      · rw [if_neg (by omega), if_pos h1, if_pos h1, if_neg (by omega)]
      · rw [if_pos (by omega), if_neg h1], below_grown HE1.out HE1.out.size HG2.out (fun q hq => by injection hq with hq; exact Nat.le_of_eq hq)⟩
  clear HR1 HE1 HW2 HG2
  go_loopg [18] 129 (fun gk s18 wx => ∃ i : Nat, s18 = .int .i64 (i : Int) ∧ i ≤ 128 ∧ gk = 129 - i ∧ Hid (Wr wx w.heap.size 186 (fun j => if j < 128 then (if j < i then .int .i8 (-1) else .int .i8 0) else B (l.getD (j - 128) 0)) ∧ Ext w wx))
  case atStart => exact ⟨0, rfl, by omega, rfl, hW0⟩
  case round =>
    obtain ⟨i, rfl, hi, hgk, HH⟩ := hrel
    by_cases hlt : i < 128
    · have hltI : (i : Int) < 128 := by omega
      obtain ⟨h1, h2⟩ := HH.out
      have hc0 : wr.cell? ⟨w.heap.size, i, none⟩ = some (.int .i8 0) := by rw [(h1 i (by omega)).1]; simp [hlt]
      have hf0 := (h1 i (by omega)).2
      have HN : Hid (Wr (wr.setCell ⟨w.heap.size, i, none⟩ (.int .i8 (-1))) w.heap.size 186 (fun j => if j < 128 then (if j < i + 1 then .int .i8 (-1) else .int .i8 0) else B (l.getD (j - 128) 0)) ∧ Ext w (wr.setCell ⟨w.heap.size, i, none⟩ (.int .i8 (-1)))) := Lib.hid ⟨(h1.set i _).congr fun j hj => by
          by_cases h3 : j = i
          · subst h3; rw [if_pos rfl, if_pos hlt, if_pos (by omega)]
          · rw [if_neg h3]
            by_cases h4 : j < 128
            · rw [if_pos h4, if_pos h4]
              by_cases h5 : j < i
              · rw [if_pos h5, if_pos (by omega)]
              · rw [if_neg h5, if_neg (by omega)]
            · rw [if_neg h4, if_neg h4], ext_setCell h2 (Nat.le_refl _) i _⟩
      clear h1 h2
      go_wp2
      go_roundg (129 - (i + 1))
      case measure => omega
      case rel => exact ⟨i + 1, by go_num, by omega, rfl, HN⟩
    · obtain rfl : i = 128 := by omega
      obtain ⟨h1, h2⟩ := HH.out
      have hrow : Row wr w.heap.size 128 (l.map B) := fun j v hj => by
        have hjl : j < l.length := by have := (List.getElem?_eq_some_iff.1 hj).1; simpa using this
        have hjl2 := hjl
        rw [HL.out] at hjl2
        rw [(h1 (128 + j) (by omega)).1]
        have e : 128 + j - 128 = j := by omega
        simp only [if_neg (show ¬ 128 + j < 128 by omega), e]
        rw [← hj, List.getElem?_map, List.getElem?_eq_getElem hjl, getD_lt _ _ hjl]; rfl
      have hst : Hid (Wr wr w.heap.size 186 (alphF l (amap l 0)) ∧ Ext w wr) := Lib.hid ⟨h1.congr fun j hj => by
        unfold alphF amap
        by_cases h4 : j < 128
        · rw [if_pos h4, if_pos h4, if_pos h4]
        · rw [if_neg h4, if_neg h4], h2⟩
      have hsz : (Tryz.prog.info? 271).map (·.size) = some (l.map B).length := by rw [List.length_map, HL.out]; kernel_rfl
      have HROW := Lib.hid hrow
      have HSZ := Lib.hid hsz
      clear h1 h2 hrow hsz
      go_wp2_with (refine wpList_load_at rfl 271 _ rfl w.heap.size 128 rfl (l.map B) HROW.out _ Tryz.underlying271 rfl HSZ.out ?_; intro X HX)
      have hXs : X.size = 58 := by rw [HX.out]; simpa using HL.out
      go_loopg [31] 59 (fun gk s31 wx => ∃ k : Nat, s31 = .int .i64 (k : Int) ∧ k ≤ 58 ∧ gk = 59 - k ∧ Hid (Wr wx w.heap.size 186 (alphF l (amap l k)) ∧ Ext w wx))
      case atStart => exact ⟨0, rfl, by omega, rfl, hst⟩
      case round =>
        obtain ⟨k, rfl, hk, hgk2, HH2⟩ := hrel
        by_cases hlt2 : k < 58
        · have hltI : (k : Int) < 58 := by omega
          have hkl : k < l.length := by rw [HL.out]; exact hlt2
          obtain ⟨c, hc⟩ : ∃ c, c = (l.getD k 0).toNat := ⟨_, rfl⟩
          have hc7 : c < 128 := by rw [hc, getD_lt _ _ hkl]; exact H7.out _ (List.getElem_mem hkl)
          have hXk : X[k]? = some (.int .u8 (c : Int)) := by rw [HX.out, hc]; simpa using map_at l hkl
          have hc7I : (c : Int) < 128 := by omega
          obtain ⟨h1, h2⟩ := HH2.out
          have hc0 : wr.cell? ⟨w.heap.size, c, none⟩ = some (.int .i8 (amap l k c)) := by rw [(h1 c (by omega)).1]; simp [alphF, hc7]
          have hf0 := (h1 c (by omega)).2
          have hkw : IntKind.i8.wrap (k : Int) = (k : Int) := by unfold IntKind.wrap; simp [IntKind.bits, IntKind.signed]; omega
          have HN : Hid (Wr (wr.setCell ⟨w.heap.size, c, none⟩ (.int .i8 (k : Int))) w.heap.size 186 (alphF l (amap l (k + 1))) ∧ Ext w (wr.setCell ⟨w.heap.size, c, none⟩ (.int .i8 (k : Int)))) := Lib.hid ⟨(h1.set c _).congr fun j hj => by
              unfold alphF
              rw [amap, ← hc]
              by_cases h3 : j = c
              · subst h3; simp [hc7]
              · simp [h3], ext_setCell h2 (Nat.le_refl _) c _⟩
          clear h1 h2 hc
          generalize amap l k c = dc at hc0
          have hidx := run_index_agg (P := Tryz.prog) 271 5 58 X _ Tryz.underlying271 _ Tryz.underlying5 hi1 k hlt2 hXk
          go_wp2
          go_roundg (59 - (k + 1))
          case measure => omega
          case rel => exact ⟨k + 1, by go_num, by omega, rfl, HN⟩
        · obtain rfl : k = 58 := by omega
          clear hXs hst HROW HSZ
          go_wp2
          go_ret
          exact ⟨rfl, HH2.out⟩
def btcL : List UInt8 := charsL 122
def flickrL : List UInt8 := charsL 90
theorem btc_ok (w : World) : Calls Tryz.prog 226 #[] w fun e w' => ∃ g, e = .returned (.pointer (some ⟨g, 0, none⟩)) ∧ AlphAt w' g (charsL 122) ∧ Ext w w' := by
  have HN := Lib.hid (fun w => newAlph_ok (charsL 122) (by decide) (by decide) w)
  go_enter Tryz.func226, Tryz.ntmps226
  go_wp2_with (fail)
  refine (HN.out _).mono ?_
  rintro e w1 ⟨rfl, hr, he⟩
  have HR := Lib.hid hr
  clear hr
  go_wp2
  go_ret
  exact ⟨_, rfl, HR.out, he⟩
theorem flickr_ok (w : World) : Calls Tryz.prog 227 #[] w fun e w' => ∃ g, e = .returned (.pointer (some ⟨g, 0, none⟩)) ∧ AlphAt w' g (charsL 90) ∧ Ext w w' := by
  have HN := Lib.hid (fun w => newAlph_ok (charsL 90) (by decide) (by decide) w)
  go_enter Tryz.func227, Tryz.ntmps227
  go_wp2_with (fail)
  refine (HN.out _).mono ?_
  rintro e w1 ⟨rfl, hr, he⟩
  have HR := Lib.hid hr
  clear hr
  go_wp2
  go_ret
  exact ⟨_, rfl, HR.out, he⟩
theorem amap_at : ∀ b ∈ [122, 90], ∀ d : Fin 58, amap (charsL b) 58 ((charsL b).getD d.val 0).toNat = (d.val : Int) ∧ ((charsL b).getD d.val 0).toNat < 128 ∧ (((charsL b).getD d.val 0) = 49 ↔ d.val = 0) := by decide
end Go.Proofs.YtchlkclpikdbjaaGreatDoor
namespace Go.Proofs.YtchlkclpikdbjaaGreatDoor
set_option linter.unusedVariables false
set_option linter.unusedSimpArgs false
open Go.RowKit Go.Sort

/-- the numbers of the letters, after the first k -/
def emap (l : List UInt8) : Nat → Nat → Nat
  | 0 => fun _ => 255
  | k + 1 => fun c => if c = (l.getD k 0).toNat then k else emap l k c
def e64F (l : List UInt8) (d : Nat → Nat) (pad : Int) : Nat → Value := fun j => if j < 64 then B (l.getD j 0) else if j < 320 then .int .u8 (d (j - 64) : Int) else if j = 320 then .int .i32 pad else .bool false
def E64At (w : World) (g : Nat) (l : List UInt8) (pad : Int) : Prop := Wr w g 322 (e64F l (emap l 64) pad)
theorem row_wr {w : World} {g n : Nat} {f : Nat → Value} (h : Wr w g n f) : Row w g 0 ((List.range n).map f) := fun j v hj => by
  have hj' : j < n := by have := (List.getElem?_eq_some_iff.1 hj).1; simpa using this
  rw [Nat.zero_add, (h j hj').1, ← hj]
  simp [hj']
theorem zero_e64 : (Tryz.prog.info? 216).map (fun i => (i.zero.map (·.cells))) = some (some ((Array.range 322).map (fun j => if j < 320 then .int .u8 0 else if j = 320 then .int .i32 0 else .bool false))) := by kernel_rfl
theorem info_e64 : (Tryz.prog.info? 216).map (·.size) = some 322 := by kernel_rfl
def ff256 : List UInt8 := List.replicate 256 255

set_option maxHeartbeats 2000000 in
set_option maxRecDepth 100000 in
theorem newEnc64_ok (l : List UInt8) (hl : l.length = 64) (h7 : ∀ x ∈ l, x.toNat < 128 ∧ x.toNat ≠ 10 ∧ x.toNat ≠ 13) (hd : ∀ k, k < 64 → emap l k (l.getD k 0).toNat = 255) (w : World) : Calls Tryz.prog 211 #[.string ⟨l.toArray⟩] w fun e w' => e = .returned (.pointer (some ⟨w.heap.size, 0, none⟩)) ∧ E64At w' w.heap.size l 61 ∧ Ext w w' := by
  obtain ⟨S, hS⟩ : ∃ S : ByteArray, S = ⟨l.toArray⟩ := ⟨_, rfl⟩
  rw [← hS]
  have hSz : S.size = 64 := by rw [Lib.size_eq, hS]; exact hl
  have HS := Lib.hid hS
  have H7 := Lib.hid h7
  have HD := Lib.hid hd
  have HL := Lib.hid hl
  have hi1 : (Tryz.prog.info? 5).map (·.size) = some 1 := by kernel_rfl
  clear hS h7 hl hd
  go_enter Tryz.func211, Tryz.ntmps211
  go_wp2_with (first
    | (refine wpList_newrow rfl 216 rfl 322 _ zero_e64 ?_; intro w1 hr1 he1 hs1; have hf0 := hr1.frozen 320; have hc0 := hr1.cell (i := 320) (by decide); have HR1 := Lib.hid (And.intro (Wr.of_row hr1) he1); clear hr1 he1 hs1)
    | (refine wpList_copy_str rfl _ _ 22 9 5 rfl Tryz.underlying22 hi1 w.heap.size 0 322 64 64 _ rfl (HR1.out.1.set 320 (.int .i32 61)) l (by first | exact congrArg Value.string HS.out) HL.out (by decide) ?_; intro w2 hw2 hg2; have HW2 := Lib.hid (And.intro hw2 hg2); clear hw2 hg2)
    | (refine wpList_copy_str rfl _ _ 22 9 5 rfl Tryz.underlying22 hi1 w.heap.size 64 322 256 256 _ rfl HW2.out.1 ff256 (by first | kernel_rfl) (by decide) (by decide) ?_; intro w3 hw3 hg3; have HW3 := Lib.hid (And.intro hw3 hg3); clear hw3 hg3))
  have hst : Hid (Wr w3 w.heap.size 322 (e64F l (emap l 0) 61) ∧ Ext w w3) := Lib.hid ⟨HW3.out.1.congr fun j hj => by
      unfold e64F emap
      by_cases h1 : j < 64
      · simp only [if_neg (show ¬ (64 ≤ j ∧ j < 64 + 256) by omega), if_pos (show 0 ≤ j ∧ j < 0 + 64 by omega), if_pos h1, Nat.sub_zero]
      · by_cases h2 : j < 320
        · have : ff256.getD (j - 64) 0 = 255 := by
            unfold ff256
            rw [List.getD_eq_getElem?_getD, List.getElem?_replicate, if_pos (by omega)]; rfl
          simp only [if_pos (show 64 ≤ j ∧ j < 64 + 256 by omega), if_neg h1, if_pos h2]
          rw [this]; rfl
        · by_cases h3 : j = 320
          · subst h3; simp
          · simp only [if_neg (show ¬ (64 ≤ j ∧ j < 64 + 256) by omega), if_neg (show ¬ (0 ≤ j ∧ j < 0 + 64) by omega), if_neg h1, if_neg h2, if_neg h3],
    below_grown (below_grown (ext_setCell HR1.out.2 (Nat.le_refl _) _ _) (ext_setCell HR1.out.2 (Nat.le_refl _) _ _).size HW2.out.2 (fun q hq => by injection hq with hq; exact Nat.le_of_eq hq)) (below_grown (ext_setCell HR1.out.2 (Nat.le_refl _) _ _) (ext_setCell HR1.out.2 (Nat.le_refl _) _ _).size HW2.out.2 (fun q hq => by injection hq with hq; exact Nat.le_of_eq hq)).size HW3.out.2 (fun q hq => by injection hq with hq; exact Nat.le_of_eq hq)⟩
  clear HR1 HW2 HW3 hf0 hc0
  go_loopg [4] 65 (fun gk s4 wx => ∃ k : Nat, s4 = .int .i64 (k : Int) ∧ k ≤ 64 ∧ gk = 65 - k ∧ Hid (Wr wx w.heap.size 322 (e64F l (emap l k) 61) ∧ Ext w wx))
  case atStart => exact ⟨0, rfl, by omega, rfl, hst⟩
  case round =>
    obtain ⟨k, rfl, hk, hgk, HH⟩ := hrel
    by_cases hlt : k < 64
    · have hltI : (k : Int) < 64 := by omega
      have hkS : k < S.size := by rw [hSz]; exact hlt
      have hkl : k < l.length := by rw [HL.out]; exact hlt
      have hx := getElem_eq HS.out hkS
      obtain ⟨h128, h10, h13⟩ : S[k].toNat < 128 ∧ S[k].toNat ≠ 10 ∧ S[k].toNat ≠ 13 := by
        rw [hx, getD_lt _ _ hkl]; exact H7.out _ (List.getElem_mem hkl)
      have hd := HD.out k hlt
      rw [← hx] at hd
      obtain ⟨c, hc⟩ : ∃ c, c = S[k].toNat := ⟨_, rfl⟩
      rw [← hc] at h128 h10 h13 hd
      obtain ⟨h1, h2⟩ := HH.out
      have hcell : ∀ wx, Ext wr wx → wx.cell? ⟨w.heap.size, 64 + c, none⟩ = some (.int .u8 255) ∧ wx.frozen? ⟨w.heap.size, 64 + c, none⟩ = false := fun wx he => by
        have hw := he.wr h1
        refine ⟨?_, (hw (64 + c) (by omega)).2⟩
        rw [(hw (64 + c) (by omega)).1]
        simp only [e64F, if_neg (show ¬ 64 + c < 64 by omega), if_pos (show 64 + c < 320 by omega), show 64 + c - 64 = c by omega, hd]
        rfl
      have HCELL := Lib.hid hcell
      have hb10 : ((S[k].toNat : Int) == 10) = false := by rw [beq_eq_false_iff_ne, ← hc]; omega
      have hb13 : ((S[k].toNat : Int) == 13) = false := by rw [beq_eq_false_iff_ne, ← hc]; omega
      have hkw : IntKind.u8.wrap (k : Int) = (k : Int) := by rw [IntKind.wrap_u8]; omega
      have hcI : (S[k].toNat : Int) < 256 := by rw [← hc]; omega
      have hcl := (hcell wr (Ext.refl _)).1
      rw [hc] at hcl
      have HCC := Lib.hid hc
      clear h1 h2 hd hx h10 h13 hcell
      go_wp2
      go_still (by kernel_rfl)
      change Exit.then _ _ _ _ wr.drew
      have HH2 := Lib.hid (And.intro ((Ext.drew (Ext.refl wr)).wr HH.out.1) (Ext.drew HH.out.2))
      have HC2 := Lib.hid (HCELL.out wr.drew (Ext.drew (Ext.refl wr)))
      clear hcl
      generalize wr.drew = wd at HH2 HC2
      go_wp2
      go_still_tail 9, (by kernel_rfl)
      change wpList _ _ _ _ _ wd.drew
      have HN : Hid (Wr (wd.drew.setCell ⟨w.heap.size, 64 + S[k].toNat, none⟩ (.int .u8 (k : Int))) w.heap.size 322 (e64F l (emap l (k + 1)) 61) ∧ Ext w (wd.drew.setCell ⟨w.heap.size, 64 + S[k].toNat, none⟩ (.int .u8 (k : Int)))) := Lib.hid ⟨(((Ext.drew (Ext.refl wd)).wr HH2.out.1).set (64 + S[k].toNat) _).congr fun j hj => by
          have hcc := HCC.out
          have hlx : (l.getD k 0).toNat = c := by rw [hcc, getElem_eq HS.out hkS]
          rw [← hcc]
          unfold e64F
          by_cases h3 : j = 64 + c
          · subst h3
            rw [if_pos rfl, if_neg (by omega), if_pos (by omega), emap, hlx, show 64 + c - 64 = c by omega]
            simp
          · rw [if_neg h3]
            by_cases h4 : j < 64
            · rw [if_pos h4, if_pos h4]
            · by_cases h5 : j < 320
              · rw [if_neg h4, if_neg h4, if_pos h5, if_pos h5, emap, hlx]
                simp only [if_neg (show ¬ j - 64 = c by omega)]
              · rw [if_neg h4, if_neg h4, if_neg h5, if_neg h5], ext_setCell (Ext.drew HH2.out.2) (Nat.le_refl _) _ _⟩
      have hc3 : wd.drew.cell? ⟨w.heap.size, 64 + S[k].toNat, none⟩ = some (.int .u8 255) := by rw [← HCC.out]; exact (Ext.drew (Ext.refl wd)).cell HC2.out.1
      have hf3 : wd.drew.frozen? ⟨w.heap.size, 64 + S[k].toNat, none⟩ = false := by rw [← HCC.out]; exact HC2.out.2
      generalize wd.drew = we at HN hc3 hf3
      go_wp2
      go_roundg (65 - (k + 1))
      case measure => omega
      case rel => exact ⟨k + 1, by go_num, by omega, rfl, HN⟩
    · obtain rfl : k = 64 := by omega
      go_wp2
      go_ret
      exact ⟨rfl, HH.out⟩

set_option maxRecDepth 100000 in
theorem withPad64_ok (l : List UInt8) (X : Array Value) (HX : Hid (X = ((List.range 322).map (e64F l (emap l 64) 61)).toArray)) (w : World) : Calls Tryz.prog 287 #[.agg X, .int .i32 (-1)] w fun e w' =>
    e = .returned (.pointer (some ⟨w.heap.size, 0, none⟩)) ∧ E64At w' w.heap.size l (-1) ∧ Ext w w' := by
  have hX := HX.out
  have hs : X.size = 322 := by rw [hX]; simp
  have hc1 : X[320]? = some (.int .i32 61) := by rw [hX]; rfl
  have hc2 : (w.alloc (.cells X 216 (0, 0))).cell? ⟨w.heap.size, 320, none⟩ = some (.int .i32 61) := by
    rw [cell_of_row _ _ 320 _ _ _ (heap_alloc_new w _)]; exact hc1
  have HS := Lib.hid hs
  clear hX hs hc1
  go_enter Tryz.func287, Tryz.ntmps287
  go_wp2
  go_ret
  refine ⟨rfl, ?_, Ext.alloc (Ext.refl w) _⟩
  have := World.rowIs_alloc w (X.setIfInBounds 320 (.int .i32 (-1))) 216 (e64F l (emap l 64) (-1)) (fun i hi => by
    have hi' : i < 322 := by rw [Array.size_setIfInBounds, HS.out] at hi; exact hi
    rw [Array.getElem?_setIfInBounds, HS.out]
    by_cases h : i = 320
    · subst h; simp [e64F]
    · rw [if_neg (fun e => h e.symm), HX.out]
      simp [hi', e64F, h])
  rw [Array.size_setIfInBounds, HS.out] at this
  exact Wr.of_row this
/-- the letters of base64, and of its form for addresses -/
def std64 : List UInt8 := [65, 66, 67, 68, 69, 70, 71, 72, 73, 74, 75, 76, 77, 78, 79, 80, 81, 82, 83, 84, 85, 86, 87, 88, 89, 90, 97, 98, 99, 100, 101, 102, 103, 104, 105, 106, 107, 108, 109, 110, 111, 112, 113, 114, 115, 116, 117, 118, 119, 120, 121, 122, 48, 49, 50, 51, 52, 53, 54, 55, 56, 57, 43, 47]
def url64 : List UInt8 := [65, 66, 67, 68, 69, 70, 71, 72, 73, 74, 75, 76, 77, 78, 79, 80, 81, 82, 83, 84, 85, 86, 87, 88, 89, 90, 97, 98, 99, 100, 101, 102, 103, 104, 105, 106, 107, 108, 109, 110, 111, 112, 113, 114, 115, 116, 117, 118, 119, 120, 121, 122, 48, 49, 50, 51, 52, 53, 54, 55, 56, 57, 45, 95]
def l64 (url : Bool) : List UInt8 := if url then url64 else std64
theorem l64_facts (url : Bool) : (l64 url).length = 64 ∧ (∀ x ∈ l64 url, x.toNat < 128 ∧ x.toNat ≠ 10 ∧ x.toNat ≠ 13) ∧ (∀ k, k < 64 → emap (l64 url) k ((l64 url).getD k 0).toNat = 255) := by
  have h1 : ∀ k : Fin 64, emap std64 k.val (std64.getD k.val 0).toNat = 255 := by decide
  have h2 : ∀ k : Fin 64, emap url64 k.val (url64.getD k.val 0).toNat = 255 := by decide
  cases url
  · exact ⟨rfl, by decide, fun k hk => h1 ⟨k, hk⟩⟩
  · exact ⟨rfl, by decide, fun k hk => h2 ⟨k, hk⟩⟩
set_option maxHeartbeats 4000000 in
set_option maxRecDepth 100000 in
theorem zzBase64_ok (pad url : Bool) (w : World) : Calls Tryz.prog 228 #[.bool pad, .bool url] w fun e w' => ∃ g, e = .returned (.pointer (some ⟨g, 0, none⟩)) ∧ E64At w' g (l64 url) (if pad then 61 else -1) ∧ Ext w w' := by
  have HN := Lib.hid (fun w => newEnc64_ok (l64 url) (l64_facts url).1 (l64_facts url).2.1 (l64_facts url).2.2 w)
  cases url
  all_goals
    cases pad
    all_goals
      go_enter Tryz.func228, Tryz.ntmps228
      go_wp2_with (fail)
      refine (HN.out _).mono ?_
      rintro e w1 ⟨rfl, hr, he⟩
      have HR := Lib.hid (And.intro hr he)
      clear hr he
      first
      | (go_wp2_with (fail)
         go_ret
         exact ⟨_, rfl, HR.out⟩)
      | (go_wp2_with (refine wpList_load_at rfl 216 _ rfl w.heap.size 0 rfl ((List.range 322).map (e64F (l64 _) (emap (l64 _) 64) 61)) (row_wr HR.out.1) _ Tryz.underlying216 rfl (by rw [List.length_map, List.length_range]; exact info_e64) ?_; intro X HX)
         refine (withPad64_ok _ X HX _).mono ?_
         rintro e w2 ⟨rfl, hr2, he2⟩
         have HR2 := Lib.hid (And.intro hr2 he2)
         clear hr2 he2
         go_wp2_with (fail)
         go_ret
         exact ⟨_, rfl, HR2.out.1, HR.out.2.trans HR2.out.2⟩)
end Go.Proofs.YtchlkclpikdbjaaGreatDoor
namespace Go.Proofs.YtchlkclpikdbjaaGreatDoor
set_option linter.unusedVariables false
set_option linter.unusedSimpArgs false
open Go.RowKit Go.Sort

/-- an encoding's cells: its letters, the numbers of the characters, the padding -/
def encF (S : ByteArray) (d : Nat → Nat) (pad : Int) : Nat → Value := fun j => if j = 0 then .string S else if j < 257 then .int .u8 (d (j - 1) : Int) else .int .i32 pad
def lowB (c : Nat) : Nat := if 65 ≤ c ∧ c ≤ 90 then c + 32 else c
def upB (c : Nat) : Nat := if 97 ≤ c ∧ c ≤ 122 then c - 32 else c
/-- the numbers of the characters, after the first k letters -/
def dmap (l : List UInt8) : Nat → Nat → Nat
  | 0 => fun _ => 255
  | k + 1 => fun c => if c = upB (l.getD k 0).toNat then k else if c = lowB (l.getD k 0).toNat then k else dmap l k c

theorem encF_set (S : ByteArray) (d : Nat → Nat) (pad : Int) (c k j : Nat) (hc : c < 256) : (if j = 1 + c then (.int .u8 (k : Int) : Value) else encF S d pad j) = encF S (fun x => if x = c then k else d x) pad j := by
  unfold encF
  by_cases h0 : j = 0
  · subst h0
    rw [if_neg (by omega), if_pos rfl, if_pos rfl]
  · by_cases h1 : j = 1 + c
    · subst h1
      rw [if_pos rfl, if_neg (by omega), if_pos (by omega)]
      have e : 1 + c - 1 = c := by omega
      simp only [e, if_pos]
    · rw [if_neg h1, if_neg h0, if_neg h0]
      by_cases h2 : j < 257
      · have e : j - 1 ≠ c := by omega
        rw [if_pos h2, if_pos h2]
        simp only [if_neg e]
      · rw [if_neg h2, if_neg h2]
theorem asciiToLower_ok (c : Nat) (hc : c < 128) (w : World) : Calls Tryz.prog 318 #[.int .u8 (c : Int)] w fun e w' => e = .returned (.int .u8 (lowB c : Int)) ∧ w = w' := by
  go_enter Tryz.func318, Tryz.ntmps318
  go_wp2
  all_goals
    go_ret
    refine ⟨ret_int ?_, rfl⟩
    unfold lowB
    split <;> omega
theorem asciiToUpper_ok (c : Nat) (hc : c < 128) (w : World) : Calls Tryz.prog 319 #[.int .u8 (c : Int)] w fun e w' => e = .returned (.int .u8 (upB c : Int)) ∧ w = w' := by
  go_enter Tryz.func319, Tryz.ntmps319
  go_wp2
  all_goals
    go_ret
    refine ⟨ret_int ?_, rfl⟩
    unfold upB
    split <;> omega
theorem zero_enc : (Tryz.prog.info? 268).map (fun i => (i.zero.map (·.cells))) = some (some ((Array.range 258).map (encF ⟨#[]⟩ (fun _ => 0) 0))) := by kernel_rfl

set_option maxHeartbeats 4000000 in
set_option maxRecDepth 100000 in
theorem newEnc_ok (l : List UInt8) (hl : l.length = 32) (h7 : ∀ x ∈ l, x.toNat < 128) (w : World) :
    Calls Tryz.prog 281 #[.string ⟨l.toArray⟩] w fun e w' => e = .returned (.pointer (some ⟨w.heap.size, 0, none⟩)) ∧ w'.rowIs w.heap.size 268 258 (encF ⟨l.toArray⟩ (dmap l 32) 61) ∧ Ext w w' := by
  obtain ⟨S, hS⟩ : ∃ S : ByteArray, S = ⟨l.toArray⟩ := ⟨_, rfl⟩
  rw [← hS]
  have hSz : S.size = 32 := by rw [Lib.size_eq, hS]; simpa using hl
  have HS := Lib.hid hS
  have H7 := Lib.hid h7
  have HL := Lib.hid hl
  clear hS h7 hl
  go_enter Tryz.func281, Tryz.ntmps281
  go_wp2_with (refine wpList_newrow rfl 268 rfl 258 _ zero_enc ?_; intro w1 hr1 he1 hs1; have hf0 := hr1.frozen 0; have hf1 := hr1.frozen 257; have hc0 := hr1.cell (i := 0) (by decide); have hc1 := hr1.cell (i := 257) (by decide))
  have hR0 : Hid (((w1.setCell ⟨w.heap.size, 257, none⟩ (.int .i32 61)).setCell ⟨w.heap.size, 0, none⟩ (.string S)).rowIs w.heap.size 268 258 (encF S (fun c => if c < 0 then 255 else 0) 61)) := Lib.hid (((hr1.set 257 _).set 0 _).congr fun j hj => by
    unfold encF
    by_cases h0 : j = 0
    · simp [h0]
    · by_cases h1 : j = 257
      · simp [h1]
      · have h2 : j < 257 := by omega
        simp [h0, h1, h2])
  have hE0 : Hid (Ext w ((w1.setCell ⟨w.heap.size, 257, none⟩ (.int .i32 61)).setCell ⟨w.heap.size, 0, none⟩ (.string S))) := Lib.hid (ext_setCell (ext_setCell he1 (Nat.le_refl _) _ _) (Nat.le_refl _) _ _)
  clear hr1 he1 hf0 hf1 hc0 hc1
  go_loopg [4] 257 (fun gk s4 wx => ∃ i : Nat, s4 = .int .i64 (i : Int) ∧ i ≤ 256 ∧ gk = 257 - i ∧ Hid (wx.rowIs w.heap.size 268 258 (encF S (fun c => if c < i then 255 else 0) 61)) ∧ Hid (Ext w wx))
  case atStart => exact ⟨0, rfl, by omega, rfl, hR0, hE0⟩
  case round =>
    obtain ⟨i, rfl, hi, hgk, hR, hE⟩ := hrel
    by_cases hlt : i < 256
    · have hltI : (i : Int) < 256 := by omega
      have hf0 := hR.out.frozen (1 + i)
      have hc0 := hR.out.cell (i := 1 + i) (by omega)
      go_wp2
      have hR2 := Lib.hid ((hR.out.set (1 + i) (.int .u8 255)).congr (g := encF S (fun c => if c < i + 1 then 255 else 0) 61) fun j hj => by
        unfold encF
        by_cases h0 : j = 0
        · simp [h0]; omega
        · by_cases h1 : j = 1 + i
          · subst h1; simp; omega
          · by_cases h2 : j < 257
            · by_cases h3 : j - 1 < i
              · have : j - 1 < i + 1 := by omega
                simp [h0, h1, h2, h3, this]
              · have : ¬ j - 1 < i + 1 := by omega
                simp [h0, h1, h2, h3, this]
            · simp [h0, h1, h2])
      have hE2 := Lib.hid (ext_setCell hE.out (Nat.le_refl _) (1 + i) (.int .u8 255))
      clear hf0 hc0
      go_roundg (257 - (i + 1))
      case measure => omega
      case rel => exact ⟨i + 1, by go_num, by omega, rfl, hR2, hE2⟩
    · obtain rfl : i = 256 := by omega
      have hR1 := Lib.hid (hR.out.congr (g := encF S (dmap l 0) 61) fun j hj => by
        unfold encF
        by_cases h0 : j = 0
        · simp [h0]
        · by_cases h2 : j < 257
          · have : j - 1 < 256 := by omega
            simp [h0, h2, this, dmap]
          · simp [h0, h2])
      clear hR hgk
      go_wp2
      go_loopg [5] 33 (fun gk s5 wx => ∃ k : Nat, s5 = .int .i64 (k : Int) ∧ k ≤ 32 ∧ gk = 33 - k ∧ Hid (wx.rowIs w.heap.size 268 258 (encF S (dmap l k) 61)) ∧ Hid (Ext w wx))
      case atStart => exact ⟨0, rfl, by omega, rfl, hR1, hE⟩
      case round =>
        obtain ⟨k, rfl, hk, hgk, hR, hE2⟩ := hrel
        by_cases hlt : k < 32
        · have hltI : (k : Int) < 32 := by omega
          have hkS : k < S.size := by rw [hSz]; exact hlt
          have hx := getElem_eq HS.out hkS
          have hx7 : S[k].toNat < 128 := by
            rw [hx]
            have hkl : k < l.length := by rw [HL.out]; exact hlt
            rw [getD_lt _ _ hkl]
            exact H7.out _ (List.getElem_mem hkl)
          have HX := Lib.hid hx
          have HLO := Lib.hid (fun w => asciiToLower_ok S[k].toNat hx7 w)
          have HUP := Lib.hid (fun w => asciiToUpper_ok S[k].toNat hx7 w)
          clear hx
          have hlo : lowB S[k].toNat < 256 := by unfold lowB; split <;> omega
          have hloI : ((lowB S[k].toNat : Nat) : Int) < 256 := by exact_mod_cast hlo
          have hup : upB S[k].toNat < 256 := by unfold upB; split <;> omega
          have hupI : ((upB S[k].toNat : Nat) : Int) < 256 := by exact_mod_cast hup
          have hkw : IntKind.u8.wrap (k : Int) = (k : Int) := by rw [IntKind.wrap_u8]; omega
          go_wp2
          go_still_tail 10, (by kernel_rfl)
          still_call ((HLO.out _).mono fun _ _ h => ⟨h.1, h.2.symm⟩)
          repeat still_step
          refine wpStill_nil ?_
          change wpList _ _ _ _ _ wr.drew
          have hR3 := Lib.hid hR.out.drew
          have hE3 := Lib.hid hE2.out.drew
          generalize wr.drew = w2 at hR3 hE3
          have hf2 := hR3.out.frozen (1 + lowB S[k].toNat)
          have hc2 := hR3.out.cell (i := 1 + lowB S[k].toNat) (by omega)
          go_wp2
          have hR4 := Lib.hid ((hR3.out.set (1 + lowB S[k].toNat) (.int .u8 (k : Int))).congr (g := encF S (fun c => if c = lowB S[k].toNat then k else dmap l k c) 61) fun j hj => encF_set S _ _ _ _ j (by omega))
          have hE4 := Lib.hid (ext_setCell hE3.out (Nat.le_refl _) (1 + lowB S[k].toNat) (.int .u8 (k : Int)))
          generalize w2.setCell ⟨w.heap.size, 1 + lowB S[k].toNat, none⟩ (.int .u8 (k : Int)) = w3 at hR4 hE4 ⊢
          clear hf2 hc2
          go_still_tail 10, (by kernel_rfl)
          still_call ((HUP.out _).mono fun _ _ h => ⟨h.1, h.2.symm⟩)
          repeat still_step
          refine wpStill_nil ?_
          change wpList _ _ _ _ _ w3.drew
          have hR5 := Lib.hid hR4.out.drew
          have hE5 := Lib.hid hE4.out.drew
          generalize w3.drew = w4 at hR5 hE5
          have hf2 := hR5.out.frozen (1 + upB S[k].toNat)
          have hc2 := hR5.out.cell (i := 1 + upB S[k].toNat) (by omega)
          go_wp2
          have hR6 := Lib.hid ((hR5.out.set (1 + upB S[k].toNat) (.int .u8 (k : Int))).congr (g := encF S (dmap l (k + 1)) 61) fun j hj => by
            rw [dmap, ← HX.out]
            exact encF_set S _ _ _ _ j (by omega))
          have hE6 := Lib.hid (ext_setCell hE5.out (Nat.le_refl _) (1 + upB S[k].toNat) (.int .u8 (k : Int)))
          clear hf2 hc2
          go_roundg (33 - (k + 1))
          case measure => omega
          case rel => exact ⟨k + 1, by go_num, by omega, rfl, hR6, hE6⟩
        · obtain rfl : k = 32 := by omega
          clear hR1 hE
          go_wp2
          go_ret
          exact ⟨rfl, hR.out, hE2.out⟩

set_option maxRecDepth 100000 in
theorem withPad_ok (X : Array Value) (f g : Nat → Value) (HX : Hid (X = ((List.range 258).map f).toArray)) (p : Int) (w : World) (hf : ∀ j, j < 258 → g j = if j = 257 then .int .i32 p else f j) : Calls Tryz.prog 282 #[.agg X, .int .i32 p] w fun e w' =>
    e = .returned (.pointer (some ⟨w.heap.size, 0, none⟩)) ∧ w'.rowIs w.heap.size 268 258 g ∧ Ext w w' := by
  have hX := HX.out
  have hc1 : X[257]? = some (f 257) := by rw [hX]; rfl
  have hs : X.size = 258 := by rw [hX]; simp
  have HF := Lib.hid hf
  have hE := Ext.alloc (Ext.refl w) (.cells X 268 (0, 0))
  have hc2 : (w.alloc (.cells X 268 (0, 0))).cell? ⟨w.heap.size, 257, none⟩ = some (f 257) := by
    rw [cell_of_row _ _ 257 _ _ _ (heap_alloc_new w _)]; exact hc1
  have HS := Lib.hid hs
  clear hX hf hE hs
  go_enter Tryz.func282, Tryz.ntmps282
  go_wp2
  go_ret
  refine ⟨rfl, ?_, Ext.alloc (Ext.refl w) _⟩
  have := World.rowIs_alloc w (X.setIfInBounds 257 (.int .i32 p)) 268 g (fun i hi => by
    have hi' : i < 258 := by rw [Array.size_setIfInBounds, HS.out] at hi; exact hi
    rw [Array.getElem?_setIfInBounds, HS.out, HF.out i hi']
    by_cases h : i = 257
    · subst h; simp
    · rw [if_neg (fun e => h e.symm), if_neg h, HX.out]
      simp [hi'])
  rw [Array.size_setIfInBounds, HS.out] at this
  exact this
def stdL : List UInt8 := [65, 66, 67, 68, 69, 70, 71, 72, 73, 74, 75, 76, 77, 78, 79, 80, 81, 82, 83, 84, 85, 86, 87, 88, 89, 90, 50, 51, 52, 53, 54, 55]
def hexL : List UInt8 := [48, 49, 50, 51, 52, 53, 54, 55, 56, 57, 65, 66, 67, 68, 69, 70, 71, 72, 73, 74, 75, 76, 77, 78, 79, 80, 81, 82, 83, 84, 85, 86]
/-- An encoding lies at a place: letters, numbers, padding. -/
def EncAt (w : World) (g : Nat) (l : List UInt8) (pad : Int) : Prop := w.rowIs g 268 258 (encF ⟨l.toArray⟩ (dmap l 32) pad)
theorem info_enc : (Tryz.prog.info? 268).map (·.size) = some 258 := by kernel_rfl
theorem stdEnc_ok (w : World) : Calls Tryz.prog 222 #[] w fun e w' => ∃ g, e = .returned (.pointer (some ⟨g, 0, none⟩)) ∧ EncAt w' g stdL 61 ∧ Ext w w' := by
  have HN := Lib.hid (fun w => newEnc_ok stdL rfl (by decide) w)
  go_enter Tryz.func222, Tryz.ntmps222
  go_wp2_with (fail)
  refine (HN.out _).mono ?_
  rintro e w1 ⟨rfl, hr, he⟩
  have HR := Lib.hid hr
  clear hr
  go_wp2
  go_ret
  exact ⟨_, rfl, HR.out, he⟩
theorem hexEnc_ok (w : World) : Calls Tryz.prog 223 #[] w fun e w' => ∃ g, e = .returned (.pointer (some ⟨g, 0, none⟩)) ∧ EncAt w' g hexL 61 ∧ Ext w w' := by
  have HN := Lib.hid (fun w => newEnc_ok hexL rfl (by decide) w)
  go_enter Tryz.func223, Tryz.ntmps223
  go_wp2_with (fail)
  refine (HN.out _).mono ?_
  rintro e w1 ⟨rfl, hr, he⟩
  have HR := Lib.hid hr
  clear hr
  go_wp2
  go_ret
  exact ⟨_, rfl, HR.out, he⟩
set_option maxRecDepth 100000 in
theorem rawStd_ok (w : World) : Calls Tryz.prog 219 #[] w fun e w' => ∃ g, e = .returned (.pointer (some ⟨g, 0, none⟩)) ∧ EncAt w' g stdL (-1) ∧ Ext w w' := by
  have HN := Lib.hid (fun w => newEnc_ok stdL rfl (by decide) w)
  have HW := Lib.hid (fun X HX w => withPad_ok X (encF ⟨stdL.toArray⟩ (dmap stdL 32) 61) (encF ⟨stdL.toArray⟩ (dmap stdL 32) (-1)) HX (-1) w (fun j hj => by unfold encF; by_cases h : j = 257 <;> by_cases h2 : j = 0 <;> by_cases h3 : j < 257 <;> simp [h, h2, h3] <;> omega))
  go_enter Tryz.func219, Tryz.ntmps219
  go_wp2_with (fail)
  refine (HN.out _).mono ?_
  rintro e w1 ⟨rfl, hr, he⟩
  have HR := Lib.hid hr
  clear hr
  go_wp2_with (refine wpList_load_row rfl 268 _ rfl w.heap.size rfl _ 258 _ HR.out _ Tryz.underlying268 rfl info_enc ?_; intro X HX)
  refine (HW.out X HX _).mono ?_
  rintro e w2 ⟨rfl, hr2, he2⟩
  have HR2 := Lib.hid hr2
  clear hr2
  go_wp2
  go_ret
  exact ⟨_, rfl, HR2.out, he.trans he2⟩
set_option maxRecDepth 100000 in
theorem rawHex_ok (w : World) : Calls Tryz.prog 221 #[] w fun e w' => ∃ g, e = .returned (.pointer (some ⟨g, 0, none⟩)) ∧ EncAt w' g hexL (-1) ∧ Ext w w' := by
  have HN := Lib.hid (fun w => newEnc_ok hexL rfl (by decide) w)
  have HW := Lib.hid (fun X HX w => withPad_ok X (encF ⟨hexL.toArray⟩ (dmap hexL 32) 61) (encF ⟨hexL.toArray⟩ (dmap hexL 32) (-1)) HX (-1) w (fun j hj => by unfold encF; by_cases h : j = 257 <;> by_cases h2 : j = 0 <;> by_cases h3 : j < 257 <;> simp [h, h2, h3] <;> omega))
  go_enter Tryz.func221, Tryz.ntmps221
  go_wp2_with (fail)
  refine (HN.out _).mono ?_
  rintro e w1 ⟨rfl, hr, he⟩
  have HR := Lib.hid hr
  clear hr
  go_wp2_with (refine wpList_load_row rfl 268 _ rfl w.heap.size rfl _ 258 _ HR.out _ Tryz.underlying268 rfl info_enc ?_; intro X HX)
  refine (HW.out X HX _).mono ?_
  rintro e w2 ⟨rfl, hr2, he2⟩
  have HR2 := Lib.hid hr2
  clear hr2
  go_wp2
  go_ret
  exact ⟨_, rfl, HR2.out, he.trans he2⟩
end Go.Proofs.YtchlkclpikdbjaaGreatDoor
namespace Go.Proofs.YtchlkclpikdbjaaGreatDoor
set_option linter.unusedVariables false
set_option linter.unusedSimpArgs false
open Go.RowKit Go.Sort

theorem hexv : ∀ b ∈ [102, 70], ∀ d : Fin 16, Lib.Hx.v ((charsL b).getD d.val 0) = d.val := by decide
theorem bitText_at (cs : List UInt8) (n : Nat) (bs : List UInt8) (m k : Nat) (h : k < m) : (bitText cs n bs m).getD k 0 = cs.getD (digk bs (n * k) n) 0 := by
  rw [getD_lt _ _ (by rw [bitText_len]; exact h)]
  simp [bitText]
theorem hex_back (b : Nat) (hb : b ∈ [102, 70]) (bs : List UInt8) : ∀ m k, m + k = bs.length → Lib.Hx.decode ((bitText (charsL b) 4 bs (2 * bs.length)).drop (2 * k)) = (bs.drop k, .ok)
  | 0, k, h => by
    rw [List.drop_of_length_le (by rw [bitText_len]; omega), List.drop_of_length_le (by omega), Lib.Hx.decode_nil]
  | m + 1, k, h => by
    have hk : k < bs.length := by omega
    have e1 : (bitText (charsL b) 4 bs (2 * bs.length)).drop (2 * k) = (charsL b).getD (xb bs k / 16) 0 :: (charsL b).getD (xb bs k % 16) 0 :: (bitText (charsL b) 4 bs (2 * bs.length)).drop (2 * (k + 1)) := by
      obtain ⟨h1, h2⟩ := back4 bs k
      rw [List.drop_eq_getElem_cons (by rw [bitText_len]; omega), List.drop_eq_getElem_cons (by rw [bitText_len]; omega)]
      have a1 := bitText_at (charsL b) 4 bs (2 * bs.length) (2 * k) (by omega)
      have a2 := bitText_at (charsL b) 4 bs (2 * bs.length) (2 * k + 1) (by omega)
      rw [h1, getD_lt _ _ (by rw [bitText_len]; omega)] at a1
      rw [h2, getD_lt _ _ (by rw [bitText_len]; omega)] at a2
      rw [a1, a2]
      rfl
    have hx := xb_lt bs k
    have v1 := hexv b hb ⟨xb bs k / 16, by omega⟩
    have v2 := hexv b hb ⟨xb bs k % 16, by omega⟩
    simp only [] at v1 v2
    rw [e1, Lib.Hx.decode_two, v1, v2, if_neg (by omega), if_neg (by omega), hex_back b hb bs m (k + 1) (by omega)]
    have e2 : bs.drop k = UInt8.ofNat (xb bs k / 16 * 16 + xb bs k % 16) :: bs.drop (k + 1) := by
      rw [List.drop_eq_getElem_cons hk]
      congr 1
      apply UInt8.toNat.inj
      have : bs[k].toNat = xb bs k := by unfold xb; rw [getD_lt _ _ hk]
      rw [this]
      simp; omega
    rw [e2]
/-- What is asked of the start: the variable of hex has a value. -/
def PreV (w : World) : Prop := ∃ ev, w.cell? ⟨17, 0, none⟩ = some ev
theorem Ext.preV {w w' : World} (h : Ext w w') (hp : PreV w) : PreV w' := by
  obtain ⟨ev, he⟩ := hp
  exact ⟨ev, h.cell he⟩
theorem hexDecode_ok (b : Nat) (hb : b ∈ [102, 70]) (bs : List UInt8) (hlen : bs.length ≤ 1000) (w : World) (hp : PreV w) : Calls Tryz.prog 218 #[.string ⟨(bitText (charsL b) 4 bs (2 * bs.length)).toArray⟩] w fun e w' =>
    ∃ v, e = .returned (.tuple #[v, .nilIface]) ∧ By w' bs v ∧ Ext w w' := by
  obtain ⟨ev, hE⟩ := hp
  refine (Tryz.hex_DecodeString_owns ⟨(bitText (charsL b) 4 bs (2 * bs.length)).toArray⟩ w ev hE (by simp [ByteArray.size, bitText_len]; omega)).mono ?_
  rintro e w' ⟨v, rfl, hown, hel⟩
  have hd := hex_back b hb bs bs.length 0 (by omega)
  simp only [Nat.mul_zero, List.drop_zero] at hd
  rw [hd] at hown
  simp only [hd]
  exact ⟨v, rfl, own_by hown, hel⟩
end Go.Proofs.YtchlkclpikdbjaaGreatDoor
namespace Go.Proofs.YtchlkclpikdbjaaGreatDoor
set_option linter.unusedVariables false
set_option linter.unusedSimpArgs false
open Go.RowKit Go.Sort

theorem or_u8 (x y s : Nat) (hx : x % 2 ^ s = 0) (hx2 : x < 256) (hy : y < 2 ^ s) (hy2 : y < 256) : bits .or .u8 (x : Int) (y : Int) = ((x + y : Nat) : Int) := by
  rw [bits_join .u8 8 (by decide) wraps_u8 s _ _ (by omega) (by exact_mod_cast hx) (by omega) (by omega) (by exact_mod_cast hy) (by omega)]
  omega
theorem grown_two {a b c : World} {r : Option Nat} {d : Nat} (h : a.grownBy b r) (k : b.grownBy c (some d)) (hd : a.heap.size ≤ d) : a.grownBy c r :=
  ⟨k.os.trans h.os, k.tape.trans h.tape, k.output.trans h.output, Nat.le_trans h.size k.size, fun j hj hr => by
    rw [k.block j (Nat.lt_of_lt_of_le hj h.size) (by intro e; injection e with e; omega)]
    exact h.block j hj hr⟩
theorem or_a (x y : Nat) (hy : y < 32) : bits .or .u8 ((x : Int) * 32 % 256) (y : Int) = ((x * 32 % 256 + y : Nat) : Int) := by
  rw [show (x : Int) * 32 % 256 = ((x * 32 % 256 : Nat) : Int) by omega, or_u8 _ _ 5 (by omega) (by omega) (by simpa using hy) (by omega)]
theorem or_b (x y z : Nat) (hy : y < 32) (hz : z < 32) : bits .or .u8 (bits .or .u8 ((x : Int) * 128 % 256) ((y : Int) * 4)) ((z : Int) / 8) = ((x * 128 % 256 + y * 4 + z / 8 : Nat) : Int) := by
  rw [show (x : Int) * 128 % 256 = ((x * 128 % 256 : Nat) : Int) by omega, show (y : Int) * 4 = ((y * 4 : Nat) : Int) by omega, show (z : Int) / 8 = ((z / 8 : Nat) : Int) by omega,
    or_u8 _ _ 7 (by omega) (by omega) (by simp; omega) (by omega), or_u8 _ _ 2 (by omega) (by omega) (by simp; omega) (by omega)]
theorem or_c (x y : Nat) (hy : y < 32) : bits .or .u8 ((x : Int) * 16 % 256) ((y : Int) / 2) = ((x * 16 % 256 + y / 2 : Nat) : Int) := by
  rw [show (x : Int) * 16 % 256 = ((x * 16 % 256 : Nat) : Int) by omega, show (y : Int) / 2 = ((y / 2 : Nat) : Int) by omega, or_u8 _ _ 4 (by omega) (by omega) (by simp; omega) (by omega)]
theorem or_d (x y z : Nat) (hy : y < 32) (hz : z < 32) : bits .or .u8 (bits .or .u8 ((x : Int) * 64 % 256) ((y : Int) * 2)) ((z : Int) / 16) = ((x * 64 % 256 + y * 2 + z / 16 : Nat) : Int) := by
  rw [show (x : Int) * 64 % 256 = ((x * 64 % 256 : Nat) : Int) by omega, show (y : Int) * 2 = ((y * 2 : Nat) : Int) by omega, show (z : Int) / 16 = ((z / 16 : Nat) : Int) by omega,
    or_u8 _ _ 6 (by omega) (by omega) (by simp; omega) (by omega), or_u8 _ _ 1 (by omega) (by omega) (by simp; omega) (by omega)]
theorem or_e (x y : Nat) (hx : x < 32) (hy : y < 32) : bits .or .u8 ((x : Int) * 8) ((y : Int) / 4) = ((x * 8 % 256 + y / 4 : Nat) : Int) := by
  rw [show (x : Int) * 8 = ((x * 8 % 256 : Nat) : Int) by omega, show (y : Int) / 4 = ((y / 4 : Nat) : Int) by omega, or_u8 _ _ 3 (by omega) (by omega) (by simp; omega) (by omega)]
/-- what the bytes written make of a row -/
theorem wrote {F : Nat → Value} {bs : List UInt8} {i k N8 N : Nat} (hF1 : ∀ t, t < i → F t = B (bs.getD t 0)) (G : Nat → Value) (hG : ∀ t, G t = if i ≤ t ∧ t < i + k then B (bs.getD t 0) else F t) {T : List UInt8}
    (hF2 : ∀ t, N8 ≤ t → t < N → F t = B (T.getD t 0)) (h8 : i + k ≤ N8 + 8) : (∀ t, t < i + k → G t = B (bs.getD t 0)) ∧ (∀ t, N8 + 8 ≤ t → t < N → G t = B (T.getD t 0)) := by
  constructor
  · intro t ht
    rw [hG]
    by_cases h : i ≤ t
    · rw [if_pos ⟨h, ht⟩]
    · rw [if_neg (by omega)]; exact hF1 t (by omega)
  · intro t h1 h2
    rw [hG, if_neg (by omega)]
    exact hF2 t (by omega) h2
theorem zero_dbuf : (Tryz.prog.info? 211).map (fun i => (i.zero.map (·.cells))) = some (some ((Array.range 8).map (fun _ => .int .u8 0))) := by kernel_rfl
/-- the facts of an encoding and a text of base 32 -/
structure Txt32 (l : List UInt8) (pad : Int) (bs T : List UInt8) (m : Nat) : Prop where
  m_eq : m = (8 * bs.length + 4) / 5
  dig : ∀ i, i < m → dmap l 32 (T.getD i 0).toNat = d5 bs i ∧ (T.getD i 0).toNat < 128 ∧ T.getD i 0 ≠ 61
  tail : ∀ i, m ≤ i → i < T.length → T.getD i 0 = 61
  pads : (pad = -1 ∧ T.length = m) ∨ (pad = 61 ∧ T.length = m + (8 - m % 8) % 8)

end Go.Proofs.YtchlkclpikdbjaaGreatDoor
namespace Go.Proofs.YtchlkclpikdbjaaGreatDoor
set_option linter.unusedVariables false
set_option linter.unusedSimpArgs false
open Go.RowKit Go.Sort

theorem or_64 (a b : Int) (ha0 : 0 ≤ a) (ha : a < 64) (hb0 : 0 ≤ b) (hb : b < 64) : ∃ c : Int, 0 ≤ c ∧ c < 64 ∧ bits .or .u8 a b = c := by
  obtain ⟨x, rfl⟩ := Int.eq_ofNat_of_zero_le ha0
  obtain ⟨y, rfl⟩ := Int.eq_ofNat_of_zero_le hb0
  have h := (bits_nat .u8 8 (by decide) wraps_u8 x y (by omega) (by omega)).2
  refine ⟨((x ||| y : Nat) : Int), by omega, ?_, h⟩
  have := Nat.or_lt_two_pow (n := 6) (x := x) (y := y) (by omega) (by omega)
  omega
theorem w32 (n : Int) (h0 : 0 ≤ n) (h1 : n < 2 ^ 32) : IntKind.u32.wrap n = n := by rw [IntKind.wrap_u32]; omega
theorem w64 (n : Int) (h0 : 0 ≤ n) (h1 : n < 2 ^ 64) : IntKind.u64.wrap n = n := by rw [IntKind.wrap_u64]; omega

set_option maxRecDepth 100000 in
theorem assemble32_ok (a b c d : Int) (ha0 : 0 ≤ a) (ha : a < 64) (hb0 : 0 ≤ b) (hb : b < 64) (hc0 : 0 ≤ c) (hc : c < 64) (hd0 : 0 ≤ d) (hd : d < 64) (w : World) : Calls Tryz.prog 274 #[.int .u8 a, .int .u8 b, .int .u8 c, .int .u8 d] w fun e w' =>
    e = .returned (.tuple #[.int .u32 ((a * 262144 + b * 4096 + c * 64 + d) * 256), .bool true]) ∧ w = w' := by
  obtain ⟨y1, hy10, hy1, e1⟩ := or_64 a b ha0 ha hb0 hb
  obtain ⟨y2, hy20, hy2, e2⟩ := or_64 y1 c hy10 hy1 hc0 hc
  obtain ⟨y3, hy30, hy3, e3⟩ := or_64 y2 d hy20 hy2 hd0 hd
  have hne : (y3 == 255) = false := by rw [beq_eq_false_iff_ne]; omega
  have s1 : bits .or .u32 (a * 67108864) (b * 1048576) = a * 67108864 + b * 1048576 := bits_join .u32 32 (by decide) w32 26 _ _ (by omega) (by omega) (by omega) (by omega) (by omega) (by omega)
  have s2 : bits .or .u32 (a * 67108864 + b * 1048576) (c * 16384) = a * 67108864 + b * 1048576 + c * 16384 := bits_join .u32 32 (by decide) w32 20 _ _ (by omega) (by omega) (by omega) (by omega) (by omega) (by omega)
  have s3 : bits .or .u32 (a * 67108864 + b * 1048576 + c * 16384) (d * 256) = (a * 262144 + b * 4096 + c * 64 + d) * 256 := by
    rw [bits_join .u32 32 (by decide) w32 14 _ _ (by omega) (by omega) (by omega) (by omega) (by omega) (by omega)]
    omega
  go_enter Tryz.func274, Tryz.ntmps274
  go_wp2
  go_ret2
  exact ⟨rfl, rfl⟩

set_option maxHeartbeats 1000000 in
set_option maxRecDepth 100000 in
theorem assemble64_ok (a b c d e f g h : Int) (ha0 : 0 ≤ a) (ha : a < 64) (hb0 : 0 ≤ b) (hb : b < 64) (hc0 : 0 ≤ c) (hc : c < 64) (hd0 : 0 ≤ d) (hd : d < 64) (he0 : 0 ≤ e) (he : e < 64) (hf0 : 0 ≤ f) (hf : f < 64) (hg0 : 0 ≤ g) (hg : g < 64) (hh0 : 0 ≤ h) (hh : h < 64) (w : World) : Calls Tryz.prog 271 #[.int .u8 a, .int .u8 b, .int .u8 c, .int .u8 d, .int .u8 e, .int .u8 f, .int .u8 g, .int .u8 h] w fun r w' =>
    r = .returned (.tuple #[.int .u64 (((a * 262144 + b * 4096 + c * 64 + d) * 16777216 + (e * 262144 + f * 4096 + g * 64 + h)) * 65536), .bool true]) ∧ w = w' := by
  obtain ⟨y1, hy10, hy1, e1⟩ := or_64 a b ha0 ha hb0 hb
  obtain ⟨y2, hy20, hy2, e2⟩ := or_64 y1 c hy10 hy1 hc0 hc
  obtain ⟨y3, hy30, hy3, e3⟩ := or_64 y2 d hy20 hy2 hd0 hd
  obtain ⟨y4, hy40, hy4, e4⟩ := or_64 y3 e hy30 hy3 he0 he
  obtain ⟨y5, hy50, hy5, e5⟩ := or_64 y4 f hy40 hy4 hf0 hf
  obtain ⟨y6, hy60, hy6, e6⟩ := or_64 y5 g hy50 hy5 hg0 hg
  obtain ⟨y7, hy70, hy7, e7⟩ := or_64 y6 h hy60 hy6 hh0 hh
  have hne : (y7 == 255) = false := by rw [beq_eq_false_iff_ne]; omega
  have s1 : bits .or .u64 (a * 288230376151711744) (b * 4503599627370496) = a * 288230376151711744 + b * 4503599627370496 := bits_join .u64 64 (by decide) w64 58 _ _ (by omega) (by omega) (by omega) (by omega) (by omega) (by omega)
  have s2 : bits .or .u64 (a * 288230376151711744 + b * 4503599627370496) (c * 70368744177664) = a * 288230376151711744 + b * 4503599627370496 + c * 70368744177664 := bits_join .u64 64 (by decide) w64 52 _ _ (by omega) (by omega) (by omega) (by omega) (by omega) (by omega)
  have s3 : bits .or .u64 (a * 288230376151711744 + b * 4503599627370496 + c * 70368744177664) (d * 1099511627776) = a * 288230376151711744 + b * 4503599627370496 + c * 70368744177664 + d * 1099511627776 := bits_join .u64 64 (by decide) w64 46 _ _ (by omega) (by omega) (by omega) (by omega) (by omega) (by omega)
  have s4 : bits .or .u64 (a * 288230376151711744 + b * 4503599627370496 + c * 70368744177664 + d * 1099511627776) (e * 17179869184) = a * 288230376151711744 + b * 4503599627370496 + c * 70368744177664 + d * 1099511627776 + e * 17179869184 := bits_join .u64 64 (by decide) w64 40 _ _ (by omega) (by omega) (by omega) (by omega) (by omega) (by omega)
  have s5 : bits .or .u64 (a * 288230376151711744 + b * 4503599627370496 + c * 70368744177664 + d * 1099511627776 + e * 17179869184) (f * 268435456) = a * 288230376151711744 + b * 4503599627370496 + c * 70368744177664 + d * 1099511627776 + e * 17179869184 + f * 268435456 := bits_join .u64 64 (by decide) w64 34 _ _ (by omega) (by omega) (by omega) (by omega) (by omega) (by omega)
  have s6 : bits .or .u64 (a * 288230376151711744 + b * 4503599627370496 + c * 70368744177664 + d * 1099511627776 + e * 17179869184 + f * 268435456) (g * 4194304) = a * 288230376151711744 + b * 4503599627370496 + c * 70368744177664 + d * 1099511627776 + e * 17179869184 + f * 268435456 + g * 4194304 := bits_join .u64 64 (by decide) w64 28 _ _ (by omega) (by omega) (by omega) (by omega) (by omega) (by omega)
  have s7 : bits .or .u64 (a * 288230376151711744 + b * 4503599627370496 + c * 70368744177664 + d * 1099511627776 + e * 17179869184 + f * 268435456 + g * 4194304) (h * 65536) = ((a * 262144 + b * 4096 + c * 64 + d) * 16777216 + (e * 262144 + f * 4096 + g * 64 + h)) * 65536 := by
    rw [bits_join .u64 64 (by decide) w64 22 _ _ (by omega) (by omega) (by omega) (by omega) (by omega) (by omega)]
    omega
  go_enter Tryz.func271, Tryz.ntmps271
  go_wp2
  go_ret2
  exact ⟨rfl, rfl⟩

set_option maxHeartbeats 1000000 in
set_option maxRecDepth 100000 in
theorem bePut64_ok (y0 y1 y2 y3 y4 y5 : Nat) (h0 : y0 < 256) (h1 : y1 < 256) (h2 : y2 < 256) (h3 : y3 < 256) (h4 : y4 < 256) (h5 : y5 < 256) (v : Int) (hv : v = ((((((y0 * 256 + y1) * 256 + y2) * 256 + y3) * 256 + y4) * 256 + y5 : Nat) : Int) * 65536)
    (b o n c N : Nat) (F : Nat → Value) (hn : 8 ≤ n) (w : World) (hW : Wr w b N F) (hN : o + 8 ≤ N) : Calls Tryz.prog 272 #[.slice (some ⟨b, o, none⟩) n c, .int .u64 v] w fun r w' =>
    r = .returned (.tuple #[]) ∧ (∃ G : Nat → Value, (∀ j, j < o → G j = F j) ∧ G o = .int .u8 (y0 : Int) ∧ G (o + 1) = .int .u8 (y1 : Int) ∧ G (o + 2) = .int .u8 (y2 : Int) ∧ G (o + 3) = .int .u8 (y3 : Int) ∧ G (o + 4) = .int .u8 (y4 : Int) ∧ G (o + 5) = .int .u8 (y5 : Int) ∧ Wr w' b N G) ∧ w.grownBy w' (some b) := by
  have hv0 : 0 ≤ v := by omega
  have hv1 : v < 18446744073709551616 := by omega
  obtain ⟨s0, f0⟩ := hW o (by omega)
  obtain ⟨s1, f1⟩ := hW (o + 1) (by omega)
  obtain ⟨s2, f2⟩ := hW (o + 2) (by omega)
  obtain ⟨s3, f3⟩ := hW (o + 3) (by omega)
  obtain ⟨s4, f4⟩ := hW (o + 4) (by omega)
  obtain ⟨s5, f5⟩ := hW (o + 5) (by omega)
  obtain ⟨s6, f6⟩ := hW (o + 6) (by omega)
  obtain ⟨s7, f7⟩ := hW (o + 7) (by omega)
  have HV := Lib.hid hv
  have HW := Lib.hid hW
  have hnI : (8 : Int) ≤ (n : Int) := by omega
  generalize hF0 : F o = u0 at s0
  generalize hF1 : F (o + 1) = u1 at s1
  generalize hF2 : F (o + 2) = u2 at s2
  generalize hF3 : F (o + 3) = u3 at s3
  generalize hF4 : F (o + 4) = u4 at s4
  generalize hF5 : F (o + 5) = u5 at s5
  generalize hF6 : F (o + 6) = u6 at s6
  generalize hF7 : F (o + 7) = u7 at s7
  clear hv hW hF0 hF1 hF2 hF3 hF4 hF5 hF6 hF7 hv1
  go_enter Tryz.func272, Tryz.ntmps272
  go_wp2
  go_end0
  have hv := HV.out
  refine ⟨rfl, ⟨_, fun j hj => ?_, ?_, ?_, ?_, ?_, ?_, ?_, ((((((((HW.out.set o _).set (o + 1) _).set (o + 2) _).set (o + 3) _).set (o + 4) _).set (o + 5) _).set (o + 6) _).set (o + 7) _)⟩, grown_set (grown_set (grown_set (grown_set (grown_set (grown_set (grown_set (grown_set (grown_refl _ _) _ _) _ _) _ _) _ _) _ _) _ _) _ _) _ _⟩
  · simp only [if_neg (show ¬ j = o by omega), if_neg (show ¬ j = o + 1 by omega), if_neg (show ¬ j = o + 2 by omega), if_neg (show ¬ j = o + 3 by omega), if_neg (show ¬ j = o + 4 by omega), if_neg (show ¬ j = o + 5 by omega), if_neg (show ¬ j = o + 6 by omega), if_neg (show ¬ j = o + 7 by omega)]
  · simp only [if_neg (show ¬ o = o + 7 by omega), if_neg (show ¬ o = o + 6 by omega), if_neg (show ¬ o = o + 5 by omega), if_neg (show ¬ o = o + 4 by omega), if_neg (show ¬ o = o + 3 by omega), if_neg (show ¬ o = o + 2 by omega), if_neg (show ¬ o = o + 1 by omega), if_pos]
    congr 1; omega
  · simp only [if_neg (show ¬ o + 1 = o + 7 by omega), if_neg (show ¬ o + 1 = o + 6 by omega), if_neg (show ¬ o + 1 = o + 5 by omega), if_neg (show ¬ o + 1 = o + 4 by omega), if_neg (show ¬ o + 1 = o + 3 by omega), if_neg (show ¬ o + 1 = o + 2 by omega), if_pos]
    congr 1; omega
  · simp only [if_neg (show ¬ o + 2 = o + 7 by omega), if_neg (show ¬ o + 2 = o + 6 by omega), if_neg (show ¬ o + 2 = o + 5 by omega), if_neg (show ¬ o + 2 = o + 4 by omega), if_neg (show ¬ o + 2 = o + 3 by omega), if_pos]
    congr 1; omega
  · simp only [if_neg (show ¬ o + 3 = o + 7 by omega), if_neg (show ¬ o + 3 = o + 6 by omega), if_neg (show ¬ o + 3 = o + 5 by omega), if_neg (show ¬ o + 3 = o + 4 by omega), if_pos]
    congr 1; omega
  · simp only [if_neg (show ¬ o + 4 = o + 7 by omega), if_neg (show ¬ o + 4 = o + 6 by omega), if_neg (show ¬ o + 4 = o + 5 by omega), if_pos]
    congr 1; omega
  · simp only [if_neg (show ¬ o + 5 = o + 7 by omega), if_neg (show ¬ o + 5 = o + 6 by omega), if_pos]
    congr 1; omega

set_option maxHeartbeats 1000000 in
set_option maxRecDepth 100000 in
theorem bePut32_ok (y0 y1 y2 : Nat) (h0 : y0 < 256) (h1 : y1 < 256) (h2 : y2 < 256) (v : Int) (hv : v = (((y0 * 256 + y1) * 256 + y2 : Nat) : Int) * 256)
    (b o n c N : Nat) (F : Nat → Value) (hn : 4 ≤ n) (w : World) (hW : Wr w b N F) (hN : o + 4 ≤ N) : Calls Tryz.prog 275 #[.slice (some ⟨b, o, none⟩) n c, .int .u32 v] w fun r w' =>
    r = .returned (.tuple #[]) ∧ (∃ G : Nat → Value, (∀ j, j < o → G j = F j) ∧ G o = .int .u8 (y0 : Int) ∧ G (o + 1) = .int .u8 (y1 : Int) ∧ G (o + 2) = .int .u8 (y2 : Int) ∧ Wr w' b N G) ∧ w.grownBy w' (some b) := by
  have hv0 : 0 ≤ v := by omega
  have hv1 : v < 4294967296 := by omega
  obtain ⟨s0, f0⟩ := hW o (by omega)
  obtain ⟨s1, f1⟩ := hW (o + 1) (by omega)
  obtain ⟨s2, f2⟩ := hW (o + 2) (by omega)
  obtain ⟨s3, f3⟩ := hW (o + 3) (by omega)
  have HV := Lib.hid hv
  have HW := Lib.hid hW
  have hnI : (4 : Int) ≤ (n : Int) := by omega
  generalize hF0 : F o = u0 at s0
  generalize hF1 : F (o + 1) = u1 at s1
  generalize hF2 : F (o + 2) = u2 at s2
  generalize hF3 : F (o + 3) = u3 at s3
  clear hv hW hF0 hF1 hF2 hF3
  go_enter Tryz.func275, Tryz.ntmps275
  go_wp2
  go_end0
  have hv := HV.out
  refine ⟨rfl, ⟨_, fun j hj => ?_, ?_, ?_, ?_, ((((HW.out.set o _).set (o + 1) _).set (o + 2) _).set (o + 3) _)⟩, grown_set (grown_set (grown_set (grown_set (grown_refl _ _) _ _) _ _) _ _) _ _⟩
  · simp only [if_neg (show ¬ j = o by omega), if_neg (show ¬ j = o + 1 by omega), if_neg (show ¬ j = o + 2 by omega), if_neg (show ¬ j = o + 3 by omega)]
  · simp only [if_neg (show ¬ o = o + 3 by omega), if_neg (show ¬ o = o + 2 by omega), if_neg (show ¬ o = o + 1 by omega), if_pos]
    congr 1; omega
  · simp only [if_neg (show ¬ o + 1 = o + 3 by omega), if_neg (show ¬ o + 1 = o + 2 by omega), if_pos]
    congr 1; omega
  · simp only [if_neg (show ¬ o + 2 = o + 3 by omega), if_pos]
    congr 1; omega
end Go.Proofs.YtchlkclpikdbjaaGreatDoor
