/-
  The transcoder of ports at the port 5.
-/
import Derived.Test.YtchlkclpikdbjaaGreatDoorTextA
import Derived.Test.YtchlkclpikdbjaaGreatDoorShelf
import Derived.Lib.EndianMore
import Derived.Deep.QuietTactic
import Derived.BigQuiet
import Derived.Deep.DeepCutAuto
import Derived.Test.YtchlkclpikdbjaaGreatDoorMore
import Derived.Test.YtchlkclpikdbjaaGreatDoorProto
import Derived.Shelf.Bytes.WriteAny
namespace Go.Proofs.YtchlkclpikdbjaaGreatDoor
set_option linter.unusedVariables false
set_option linter.unusedSimpArgs false
open Go.RowKit Go.Sort

theorem enters_portStB : Enters 107 := enters_of Tryz.func107 (by kernel_rfl) rfl
theorem enters_portBtS : Enters 108 := enters_of Tryz.func108 (by kernel_rfl) rfl
theorem parse_five : Lib.parseUintB 16 [53] = .ok 5 := by decide
theorem parse_at (w : World) : Calls Tryz.prog 159 #[.string ⟨#[53]⟩, .int .i64 10, .int .i64 16] w fun e w' => e = .returned (.tuple #[.int .u64 5, .nilIface]) ∧ Ext w w' := by
  refine (Tryz.strconv_ParseUint_10_at16_ok ⟨#[53]⟩ (by decide) 5 parse_five w).mono ?_
  rintro e w' ⟨rfl, rfl | rfl⟩
  · exact ⟨rfl, Ext.refl _⟩
  · exact ⟨rfl, ext_bytesWorld _ _ _⟩

theorem formatI_five (w : World) : Calls Tryz.prog 202 #[.int .u64 5, .int .i64 10] w fun e w' => e = .returned (.string ⟨(Lib.decDigits 5).toArray⟩) ∧ w = w' := by
  have hw5 : IntKind.i64.wrap 5 = 5 := by rfl
  go_enter Tryz.func202, Tryz.ntmps202
  go_wp2_with (go_at_call 265; refine (Tryz.internal_strconv_small 5 (by decide) _).mono ?_; rintro e w2 ⟨rfl, rfl⟩)
  go_ret
  exact ⟨rfl, rfl⟩
theorem formatUint_five (w : World) : Calls Tryz.prog 162 #[.int .u64 5, .int .i64 10] w fun e w' => e = .returned (.string ⟨(Lib.decDigits 5).toArray⟩) ∧ w = w' := by
  go_enter Tryz.func162, Tryz.ntmps162
  go_wp2_with (go_at_call 202; refine (formatI_five _).mono ?_; rintro e w2 ⟨rfl, rfl⟩)
  go_ret
  exact ⟨rfl, rfl⟩

set_option maxRecDepth 100000 in
theorem s2b_port : S2B 107 ⟨#[53]⟩ [0, 5] := by
  intro w _
  obtain ⟨S, hS⟩ : ∃ S : ByteArray, S = ⟨#[53]⟩ := ⟨_, rfl⟩
  have HP := Lib.hid (fun w => parse_at w)
  rw [← hS] at HP ⊢
  clear hS
  have hmk : ∀ w, (Instr.makeSlice 22 (.int .i64 2) (.int .i64 2)).run Tryz.prog w = .ok (.slice (some ⟨w.heap.size, 0, none⟩) 2 2) (w.alloc (.cells #[.int .u8 0, .int .u8 0] 5)) := fun _ => by kernel_rfl
  have hw5 : IntKind.u16.wrap 5 = 5 := by rfl
  have hbb : Lib.byteCells (Lib.beBytes 2 5) = [.int .u8 0, .int .u8 5] := by rfl
  go_enter Tryz.func107, Tryz.ntmps107
  go_wp2_with (first
    | (go_at_call 159; refine (HP.out _).mono ?_; rintro e w1 ⟨rfl, he1⟩)
    | (go_at_call 160; refine (Tryz.binary_BE_PutUint16 w1.heap.size 0 2 2 5 (by decide) (.int .u8 0) (.int .u8 0) _ (by decide) (by simp [go_sem]) (by simp [go_sem]) (by simp [go_sem]) (by simp [go_sem])).mono ?_; rintro e w2 ⟨rfl, hw2⟩; rw [hbb] at hw2))
  go_ret2
  refine ⟨_, rfl, ⟨_, _, rfl, by simp, fun _ => ⟨w1.heap.size, 0, rfl, ?_⟩⟩, ?_⟩
  · intro j v hj
    have hc := World.cell?_setCells_in w1.heap.size [.int .u8 0, .int .u8 5] 0 ((w1.alloc (.cells #[.int .u8 0, .int .u8 0] 5)).alloc (.cells #[] 121)) (fun j hj => by
      simp only [List.length_cons, List.length_nil] at hj
      have : j = 0 ∨ j = 1 := by omega
      rcases this with rfl | rfl <;> simp [go_sem])
    have hj2 : j < 2 := by
      have := (List.getElem?_eq_some_iff.1 hj).1
      simpa using this
    have h2 := hc j (by simpa using hj2)
    rw [h2]
    have : j = 0 ∨ j = 1 := by omega
    rcases this with rfl | rfl
    · simpa [B] using hj
    · simpa [B] using hj
  · exact Below.trans (Ext.alloc (Ext.alloc he1 _) _) (Lib.below_setCells_w he1.size _ _ _)

set_option maxRecDepth 100000 in
theorem b2s_port : B2S 108 [0, 5] := by
  intro w v ht hv
  obtain ⟨a, c, rfl, hc, h4⟩ := hv
  obtain ⟨g, o, rfl, hr⟩ := h4 (by simp)
  have HT := Lib.hid (Tryz.binary_BE_Uint16 g o 2 c 0 5 w (by decide) (hr 0 _ rfl) (hr 1 _ rfl))
  show Calls _ _ #[.slice (some ⟨g, o, none⟩) 2 c] _ _
  clear hr
  have hb5 : Lib.beNat [0, 5] = 5 := by rfl
  rw [hb5] at HT
  have hw5 : IntKind.u64.wrap 5 = 5 := by rfl
  go_enter Tryz.func108, Tryz.ntmps108
  go_wp2_with (first
    | (go_at_call 161; refine HT.out.mono ?_; rintro e w' ⟨rfl, he⟩)
    | (go_at_call 162; refine (formatUint_five _).mono ?_; rintro e w2 ⟨rfl, rfl⟩))
  go_ret2
  exact ⟨_, rfl, he⟩
end Go.Proofs.YtchlkclpikdbjaaGreatDoor
namespace Go.Proofs.YtchlkclpikdbjaaGreatDoor
set_option linter.unusedVariables false
set_option linter.unusedSimpArgs false
open Go.RowKit Go.Sort

theorem withName_ok (p : Pr) (h : Named p) (h1 : p.tc.oneCell' = true) (w : World) : Calls Tryz.prog 71 #[.string p.name] w fun e w' =>
    e = .returned (p.val (vc (w.heap.size + 3) p.code)) ∧ Bs w' (Lib.uvarint p.code) (vc (w.heap.size + 3) p.code) ∧ Ext w w' := by
  have H := Lib.hid h
  clear h
  go_enter Tryz.func71, Tryz.ntmps71
  go_wp2_with (first
    | (go_at_call 95; refine (H.out _).mono ?_; rintro e w1 ⟨rfl, hb, he⟩; rw [World.size_alloc] at hb ⊢; have Hb := Lib.hid hb; have He := Lib.hid he; have hg1 := he.block (heap_alloc_new w _); clear hb he)
    | (refine wpList_store_row rfl 46 _ _ rfl w.heap.size (p.cells _) rfl rfl 46 _ hg1 ?c1 ?c2 ?c3 ?c4; (case c1 => kernel_rfl); (case c2 => rfl); (case c3 => exact Pr.one _ h1 _ _)))
  refine bodyPost_ret (results_cell_row Tryz.results71 _ _ w.heap.size 46 _ (0, 0) _ rfl (setRow_heap _ _ _ _ _ _ hg1) Tryz.underlying46 rfl (by kernel_rfl)) rfl ⟨rfl, Bs.block Hb.out (setRow_other _ _ _ _ (by simp)), ?_⟩
  exact below_setRow' (Ext.trans (Ext.alloc (Ext.refl w) _) He.out) (Nat.le_refl _) _

/-- the buffer b holds the bytes l; what is its own lies from block k on -/
abbrev BufAt (k b : Nat) (l : List UInt8) (w : World) : Prop := Lib.IsBuffer 77 5 k b (l.map B) w
theorem BufAt.ext {k b : Nat} {l : List UInt8} {w w' : World} (h : BufAt k b l w) (he : Ext w w') : BufAt k b l w' := by
  obtain ⟨hB, v, lr, hk, ho, hn⟩ := h
  exact ⟨hB, v, lr, he.block hk, he.own ho, hn⟩
theorem BufAt.not {k b : Nat} {l : List UInt8} {w : World} (h : BufAt k b l w) {g o : Nat} {x : UInt8} (hc : w.cell? ⟨g, o, none⟩ = some (B x)) : g ≠ b := by
  rintro rfl
  obtain ⟨-, v, lr, hk, ho, -⟩ := h
  rw [cell_of_row w g o _ _ _ hk] at hc
  match o with
  | 0 =>
    have hv : v = B x := by simpa using hc
    rcases ho.2 with ⟨rfl, -⟩ | ⟨g', cap, cur, rfl, -⟩
    · simp [B] at hv
    · simp [B] at hv
  | 1 => simp [B] at hc
  | 2 => simp [B] at hc
  | o + 3 => simp at hc
theorem write_ok (k b : Nat) (l m : List UInt8) (hl : l.length ≤ 1000) (hm : m ≠ []) (hm2 : m.length ≤ 1000) (v : Value) (w : World) (h : BufAt k b l w) (hv : By w m v) :
    Calls Tryz.prog 72 #[.pointer (some ⟨b, 0, none⟩), v] w fun e w' => ∃ n, e = .returned (.tuple #[.int .i64 n, .nilIface]) ∧ BufAt k b (l ++ m) w' ∧ Below k w w' ∧ Lib.OthersKept 5 (some b) w w' := by
  obtain ⟨a, c, rfl, h2, h4⟩ := hv
  obtain ⟨g, o, rfl, hr⟩ := h4 hm
  have hbw : k ≤ w.heap.size := by have := h.lt; have := h.1; omega
  have hne : g ≠ b := by
    cases m with
    | nil => exact absurd rfl hm
    | cons x r => exact h.not (hr 0 (B x) rfl)
  refine (Any.Buffer_Write_any Tryz.laysM180 k b (l.map B) (m.map B) ⟨g, o, none⟩ m.length c w h hbw (fun u hu => by obtain ⟨x, -, rfl⟩ := List.mem_map.1 hu; rfl) (by simp) hne (fun j u hj => by rw [addr_add]; exact hr j u hj) (fun u hu => by obtain ⟨x, -, rfl⟩ := List.mem_map.1 hu; rfl) (by simp; omega)).mono ?_
  rintro e w' ⟨rfl, h5, h6, h7⟩
  refine ⟨_, rfl, ?_, h6, h7⟩
  unfold BufAt
  rw [List.map_append]
  exact h5
theorem bytes_ok (k b : Nat) (l : List UInt8) (w : World) (h : BufAt k b l w) : Calls Tryz.prog 75 #[.pointer (some ⟨b, 0, none⟩)] w fun e w' => ∃ v, e = .returned v ∧ By w' l v ∧ Ext w w' := by
  refine (Tryz.Buffer_Bytes k b (l.map B) w h).mono ?_
  rintro e w' ⟨v, rfl, ho, n, rfl⟩
  refine ⟨v, rfl, own_by (by simpa using ho), ext_drewN _ _⟩
end Go.Proofs.YtchlkclpikdbjaaGreatDoor
namespace Go.Proofs.YtchlkclpikdbjaaGreatDoor
set_option linter.unusedVariables false
set_option linter.unusedSimpArgs false
open Go.RowKit Go.Sort

theorem slice_fromN (s : ByteArray) (n : Nat) (h : n ≤ s.size) (w : World) : (Instr.slice 9 (.string s) (some (.int .i64 (n : Int))) none none).run Tryz.prog w = .ok (.string (s.extract n s.size)) w := by
  have h' : (n : Int) ≤ (s.size : Int) := by omega
  have := Tryz.underlying9
  simp [go_sem, h', this]

set_option maxRecDepth 100000 in
/-- zzIndex of a slash: the first one -/
theorem zzIndex_at (s : ByteArray) (hs : s.size ≤ 140737488351232) (i0 : Nat) (hi0 : i0 < s.size) (h0 : s[i0] = 47) (h : ∀ j, (hj : j < i0) → s[j]'(by omega) ≠ 47) (w : World) :
    Calls Tryz.prog 94 #[.string s, .string ⟨#[47]⟩] w fun e w' => e = .returned (.int .i64 (i0 : Int)) ∧ w = w' := by
  have H := Lib.hid h
  have H0 := Lib.hid h0
  clear h h0
  obtain ⟨sub, hsub⟩ : ∃ sub : ByteArray, sub = ⟨#[47]⟩ := ⟨_, rfl⟩
  rw [← hsub]
  have h1 : sub.size = 1 := by rw [hsub]; rfl
  have Hs := Lib.hid hsub
  clear hsub
  go_enter Tryz.func94, Tryz.ntmps94
  go_wp2
  go_loopg [5] (i0 + 1) (fun gk s5 wx => w = wx ∧ ∃ i : Nat, s5 = .int .i64 (i : Int) ∧ i ≤ i0 ∧ gk = i0 + 1 - i)
  case atStart => exact ⟨rfl, 0, rfl, by omega, rfl⟩
  case round =>
    obtain ⟨rfl, i, rfl, hi, hgk⟩ := hrel
    have hl1 : (i : Int) + 1 ≤ (s.size : Int) := by omega
    by_cases hlt : i < i0
    · have hne : ((s.extract i (i + 1)).toList == sub.toList) = false := by
        rw [str_one s i (by omega), Hs.out, ByteArray.toList_eq, ByteArray.toList_eq]
        simp only [beq_eq_false_iff_ne, ne_eq]
        intro he
        exact H.out i hlt (by simpa using he)
      go_wp2
      go_roundg (i0 + 1 - (i + 1))
      case measure => omega
      case rel => exact ⟨rfl, i + 1, by go_num, by omega, rfl⟩
    · obtain rfl : i = i0 := by omega
      have hne : ((s.extract i (i + 1)).toList == sub.toList) = true := by
        rw [str_one s i (by omega), Hs.out, H0.out]
        exact beq_self_eq_true _
      go_wp2
      go_ret
      exact ⟨rfl, rfl⟩

/-- zzTrimRight of slashes: a text that ends otherwise -/
theorem zzTrim_ok (s : ByteArray) (hs : s.size ≤ 140737488351232) (hp : 0 < s.size) (h : s[s.size - 1] ≠ 47) (w : World) :
    Calls Tryz.prog 69 #[.string s, .string ⟨#[47]⟩] w fun e w' => e = .returned (.string s) ∧ Ext w w' := by
  obtain ⟨sub, hsub⟩ : ∃ sub : ByteArray, sub = ⟨#[47]⟩ := ⟨_, rfl⟩
  rw [← hsub]
  have h1 : sub.size = 1 := by rw [hsub]; rfl
  have h1' : (0 : Int) < (sub.size : Int) := by omega
  have h47 : sub[0]'(by omega) = 47 := by subst hsub; rfl
  have Hs := Lib.hid h
  clear hsub h
  have hpI : (0 : Int) < (s.size : Int) := by omega
  go_enter Tryz.func69, Tryz.ntmps69
  go_wp2
  go_loopg [5] 1 (fun gk s5 wx => Ext w wx ∧ s5 = .int .i64 (s.size : Int))
  case atStart => exact ⟨Ext.refl _, rfl⟩
  case round =>
    obtain ⟨hE, rfl⟩ := hrel
    go_wp2
    go_loopg [6, 7] 2 (fun gk s6 s7 wx => Ext w wx ∧ s6 = .bool false ∧ ∃ i : Nat, s7 = .int .i64 (i : Int) ∧ i ≤ 1 ∧ gk = 2 - i)
    case atStart => exact ⟨hE, rfl, 0, rfl, by omega, rfl⟩
    case round =>
      obtain ⟨hE2, rfl, i, rfl, hi, hgk⟩ := hrel
      by_cases hlt : i < 1
      · obtain rfl : i = 0 := by omega
        have hs1 : (s.size : Int) - 1 = ((s.size - 1 : Nat) : Int) := by omega
        have hw1 : IntKind.i64.wrap ((s.size - 1 : Nat) : Int) = ((s.size - 1 : Nat) : Int) := by rw [IntKind.wrap_i64]; omega
        have hg0 : 0 < sub.size := by omega
        have hg1 : s.size - 1 < s.size := by omega
        have hne : ((47 : Int) == ((s[s.size - 1]).toNat : Int)) = false := by
          simp only [beq_eq_false_iff_ne, ne_eq]
          intro he
          exact Hs.out (by apply UInt8.toNat.inj; have : (s[s.size - 1]).toNat = 47 := by omega
                           rw [this]; rfl)
        go_wp2
        go_quiet (fail)
        go_wp2
        go_roundg 1
        case measure => omega
        case rel => exact ⟨hE2.trans (ext_drewN _ _), rfl, 1, by go_num, by omega, rfl⟩
      · obtain rfl : i = 1 := by omega
        go_wp2
        go_ret
        exact ⟨rfl, hE2⟩

/-- pieces with a slash between each two -/
def joinS : List (List UInt8) → List UInt8
  | [] => []
  | p :: r => if r = [] then p else p ++ 47 :: joinS r
theorem joinS_one (p : List UInt8) : joinS [p] = p := by simp [joinS]
theorem joinS_two (p q : List UInt8) (r : List (List UInt8)) : joinS (p :: q :: r) = p ++ 47 :: joinS (q :: r) := by simp [joinS]
theorem joinS_len : ∀ (ps : List (List UInt8)) (p : List UInt8), p ∈ ps → p.length ≤ (joinS ps).length
  | [], p, h => by simp at h
  | [q], p, h => by simp at h; subst h; rw [joinS_one]; exact Nat.le_refl _
  | q :: q' :: r, p, h => by
    rw [joinS_two, List.length_append, List.length_cons]
    rcases List.mem_cons.1 h with rfl | h
    · omega
    · have := joinS_len (q' :: r) p h; omega

theorem info_str : (Tryz.prog.info? 9).map (fun i => (i.zero, i.size, i.bytes)) = some (some (.string ⟨#[]⟩), 1, 16) := by kernel_rfl
def S (p : List UInt8) : Value := .string ⟨p.toArray⟩

set_option maxHeartbeats 1000000 in
set_option maxRecDepth 100000 in
theorem zzSplit_ok (ps : List (List UInt8)) (hne : ps ≠ []) (hno : ∀ p ∈ ps, (47 : UInt8) ∉ p) (hlen : (joinS ps).length ≤ 10000) (hl2 : ps.length ≤ 1000) (w : World) :
    Calls Tryz.prog 70 #[.string ⟨(joinS ps).toArray⟩, .string ⟨#[47]⟩] w fun e w' => ∃ v, e = .returned v ∧ w'.ownsRow w.heap.size 9 1 v ps.length (ps.map S) ∧ Ext w w' := by
  obtain ⟨i0, hi, hz0, hz1, hz2⟩ := info_parts info_str
  obtain ⟨sub, hsub⟩ : ∃ sub : ByteArray, sub = ⟨#[47]⟩ := ⟨_, rfl⟩
  have h1 : sub.size = 1 := by rw [hsub]; rfl
  have HN := Lib.hid hno
  have HSUB := Lib.hid hsub
  rw [← hsub]
  clear hno hsub
  go_enter Tryz.func70, Tryz.ntmps70
  go_wp2
  go_loopg [0, 5] (ps.length + 1) (fun gk s0 s5 wx => ∃ (done : List (List UInt8)) (p : List UInt8) (r : List (List UInt8)), Hid (ps = done ++ p :: r) ∧ s0 = .string ⟨(joinS (p :: r)).toArray⟩ ∧ (joinS (p :: r)).length ≤ 10000 ∧ gk = r.length + 2 ∧ Hid (wx.ownsRow w.heap.size 9 1 s5 done.length (done.map S)) ∧ Hid (Ext w wx))
  case atStart =>
    obtain ⟨p, r, rfl⟩ : ∃ p r, ps = p :: r := by
      cases ps with
      | nil => exact absurd rfl hne
      | cons p r => exact ⟨p, r, rfl⟩
    exact ⟨[], p, r, Lib.hid rfl, rfl, hlen, by simp, Lib.hid (World.ownsRow_nil _ _ _ _), Lib.hid (Ext.refl _)⟩
  case round =>
    obtain ⟨done, p, r, HPS, rfl, hjl, hgk, hown, hE⟩ := hrel
    have hnp : (47 : UInt8) ∉ p := HN.out p (by rw [HPS.out]; simp)
    cases r with
    | nil =>
      rw [joinS_one] at *
      obtain ⟨T, hT⟩ : ∃ T : ByteArray, T = ⟨p.toArray⟩ := ⟨_, rfl⟩
      have HZ := Lib.hid (zzIndex_none ⟨p.toArray⟩ (by simp [ByteArray.size]; omega) (by simpa using hnp))
      rw [← HSUB.out, ← hT] at HZ
      rw [← hT]
      have hdl : done.length + 1 = ps.length := by rw [HPS.out]; simp
      have HT := Lib.hid hT
      have hb : w.heap.size ≤ wr.heap.size := hE.out.size
      clear hT hnp hjl
      go_wp2_with (first
        | (go_at_call 94; refine (HZ.out _).mono ?_; rintro e w2 ⟨rfl, rfl⟩)
        | (at_builtin; refine wpList_append_any rfl _ _ 78 rfl w.heap.size 9 i0 _ 1 16 Tryz.underlying78 hi hz0 hz1 hz2 rfl (by decide) _ done.length (done.map S) rfl (Ext.own (Ext.alloc (Ext.refl _) _) hown.out) _ 1 [.string T] rfl (src_one1 _ _ _) (by simp [Value.oneCell']) (by unfold maxLen; omega) (by omega) (by simp; omega) ?_; intro u' w5 hown5 hgr5 hwh5))
      go_ret
      have hlt5 := hown.out.lt
      refine ⟨_, rfl, ?_, below_grown (Ext.alloc hE.out _) (Ext.alloc hE.out _).size hgr5 (fun j hj => (hlt5 j hj).1)⟩
      rw [HPS.out, List.length_append, List.map_append]
      rw [HT.out] at hown5
      exact hown5
    | cons q r =>
      rw [joinS_two] at hjl
      rw [joinS_two]
      have hjl2 : p.length + 1 + (joinS (q :: r)).length ≤ 10000 := by simpa [Nat.add_assoc, Nat.add_comm, Nat.add_left_comm] using hjl
      obtain ⟨T, hT⟩ : ∃ T : ByteArray, T = ⟨(p ++ 47 :: joinS (q :: r)).toArray⟩ := ⟨_, rfl⟩
      have hTl : T.data.toList = p ++ 47 :: joinS (q :: r) := by rw [hT]
      have hTs : T.size = p.length + 1 + (joinS (q :: r)).length := by rw [str_len hTl, List.length_append, List.length_cons]; omega
      have HZ := Lib.hid (zzIndex_at T (by omega) p.length (by omega) (by rw [str_get hTl (by omega) (by simp), List.getElem_append_right (by omega)]; simp) (fun j hj => by
        rw [str_get hTl (by omega) (by simp; omega), List.getElem_append_left hj]
        intro he; exact hnp (he ▸ List.getElem_mem hj)))
      rw [← HSUB.out] at HZ
      have ht1 : T.extract 0 p.length = ⟨p.toArray⟩ := by
        apply ByteArray.ext; apply Array.toList_inj.1
        rw [Lib.extract_eq, hTl]; simp
      have ht2 : T.extract (p.length + 1) T.size = ⟨(joinS (q :: r)).toArray⟩ := by
        apply ByteArray.ext; apply Array.toList_inj.1
        rw [str_tail (a := p ++ [47]) (b := joinS (q :: r)) (by rw [hTl]; simp) _ (by simp)]
      have hdl : done.length + 1 ≤ ps.length := by rw [HPS.out]; simp
      rw [← hT]
      obtain ⟨n, hn⟩ : ∃ n, n = p.length := ⟨_, rfl⟩
      obtain ⟨m, hm⟩ : ∃ m, m = T.size := ⟨_, rfl⟩
      have hnm : n + 1 ≤ m := by omega
      have hb : w.heap.size ≤ wr.heap.size := hE.out.size
      have hm0 : T.size ≤ 10000 := by omega
      have hjl3 : (joinS (q :: r)).length ≤ 10000 := by omega
      rw [← hn] at HZ ht1 ht2
      have hnI : ¬ ((n : Int) < 0) := by omega
      have hw1 : IntKind.i64.wrap ((n : Int) + 1) = (n : Int) + 1 := by rw [IntKind.wrap_i64]; omega
      have hsl1 : ∀ w, (Instr.slice 9 (.string T) none (some (.int .i64 (n : Int))) none).run Tryz.prog w = .ok (.string ⟨p.toArray⟩) w := by
        intro w
        have h' : (n : Int) ≤ (T.size : Int) := by omega
        have := Tryz.underlying9
        simp [go_sem, h', this, ht1]
      have hsl2 : ∀ w, (Instr.slice 9 (.string T) (some (.int .i64 ((n : Int) + 1))) none none).run Tryz.prog w = .ok (.string ⟨(joinS (q :: r)).toArray⟩) w := by
        intro w
        have := slice_fromN T (n + 1) (by omega) w
        rw [ht2] at this
        simpa using this
      obtain ⟨X, hX⟩ : ∃ X : ByteArray, X = ⟨p.toArray⟩ := ⟨_, rfl⟩
      obtain ⟨Y, hY⟩ : ∃ Y : ByteArray, Y = ⟨(joinS (q :: r)).toArray⟩ := ⟨_, rfl⟩
      rw [← hX] at hsl1
      rw [← hY] at hsl2
      have HX := Lib.hid hX
      have HY := Lib.hid hY
      have HJ := Lib.hid hjl3
      clear hT hTl hTs ht1 ht2 hX hY hjl hjl2 hjl3 hm hnm hn hnp hm0
      go_wp2_with (first
        | (go_at_call 94; refine (HZ.out _).mono ?_; rintro e w2 ⟨rfl, rfl⟩)
        | (at_builtin; refine wpList_append_any rfl _ _ 78 rfl w.heap.size 9 i0 _ 1 16 Tryz.underlying78 hi hz0 hz1 hz2 rfl (by decide) _ done.length (done.map S) rfl (Ext.own (Ext.alloc (Ext.refl _) _) hown.out) _ 1 [.string X] rfl (src_one1 _ _ _) (by simp [Value.oneCell']) (by unfold maxLen; omega) (by omega) (by simp; omega) ?_; intro u' w5 hown5 hgr5 hwh5))
      have hlt5 := hown.out.lt
      have hE5 : Ext w w5 := below_grown (Ext.alloc hE.out _) (Ext.alloc hE.out _).size hgr5 (fun j hj => (hlt5 j hj).1)
      go_roundg (r.length + 1 + 1)
      case measure => simp at hgk; omega
      case rel =>
        refine ⟨done ++ [p], q, r, Lib.hid (by rw [HPS.out]; simp), by rw [HY.out], HJ.out, rfl, Lib.hid ?_, Lib.hid hE5⟩
        rw [HX.out] at hown5
        rw [List.length_append, List.map_append]
        exact hown5
end Go.Proofs.YtchlkclpikdbjaaGreatDoor
namespace Go.Proofs.YtchlkclpikdbjaaGreatDoor
set_option linter.unusedVariables false
set_option linter.unusedSimpArgs false
open Go.RowKit Go.Sort
theorem txt4 : text4 1 2 3 4 = [49, 46, 50, 46, 51, 46, 52] := by decide +kernel
theorem s2b_t4 : S2B 105 ⟨([49, 46, 50, 46, 51, 46, 52] : List UInt8).toArray⟩ [1, 2, 3, 4] := by
  have h := s2b_ip4 1 2 3 4
  rw [txt4] at h
  exact h
theorem s2b_t6 : S2B 107 ⟨([53] : List UInt8).toArray⟩ [0, 5] := s2b_port
end Go.Proofs.YtchlkclpikdbjaaGreatDoor
