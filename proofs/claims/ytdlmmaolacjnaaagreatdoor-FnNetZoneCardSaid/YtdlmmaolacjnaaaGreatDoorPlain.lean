/-
  The contract of the reference's MaPlain.
-/
import Derived.Test.YtdlmmaolacjnaaaGreatDoorBytes
import Derived.Deep.LoopGhost
import Derived.Deep.DeepCutAuto
namespace Go.Proofs.YtdlmmaolacjnaaaGreatDoor
set_option linter.unusedVariables false
set_option linter.unusedSimpArgs false
open Go.RowKit Go.Sort

/-- a sign of a plain name -/
def plainC (c : UInt8) : Bool := (97 ≤ c.toNat && c.toNat ≤ 122) || (65 ≤ c.toNat && c.toNat ≤ 90) || (48 ≤ c.toNat && c.toNat ≤ 57) || c.toNat == 46 || c.toNat == 45 || c.toNat == 95
def plainB (l : List UInt8) : Bool := l.all plainC && decide (1 ≤ l.length) && decide (l.length ≤ 60)
theorem plainC_cases {c : UInt8} (h : plainC c = true) : (97 ≤ c.toNat ∧ c.toNat ≤ 122) ∨ (65 ≤ c.toNat ∧ c.toNat ≤ 90) ∨ (48 ≤ c.toNat ∧ c.toNat ≤ 57) ∨ c.toNat = 46 ∨ c.toNat = 45 ∨ c.toNat = 95 := by
  unfold plainC at h
  simp only [Bool.or_eq_true, Bool.and_eq_true, decide_eq_true_eq, beq_iff_eq] at h
  omega
theorem plainC_not {c : UInt8} (h : plainC c = false) : ¬ (97 ≤ c.toNat ∧ c.toNat ≤ 122) ∧ ¬ (65 ≤ c.toNat ∧ c.toNat ≤ 90) ∧ ¬ (48 ≤ c.toNat ∧ c.toNat ≤ 57) ∧ c.toNat ≠ 46 ∧ c.toNat ≠ 45 ∧ c.toNat ≠ 95 := by
  unfold plainC at h
  simp only [Bool.or_eq_false_iff, Bool.and_eq_false_iff, decide_eq_false_iff_not, beq_eq_false_iff_ne] at h
  omega

set_option maxHeartbeats 2000000 in
set_option maxRecDepth 100000 in
theorem maPlain_ok (s : ByteArray) (hs : s.size ≤ 140737488351232) (w : World) :
    Calls Tryz.prog 5 #[.string s] w fun e w' => e = .returned (.bool (plainB s.data.toList)) ∧ w = w' := by
  go_enter Tryz.func5, Tryz.ntmps5
  go_wp2
  go_loopg [3] (s.size + 1) (fun gk s3 wx => w = wx ∧ ∃ i : Nat, s3 = .int .i64 (i : Int) ∧ i ≤ s.size ∧ gk = s.size + 1 - i ∧ Aside (∀ c ∈ s.data.toList.take i, plainC c = true))
  case atStart => exact ⟨rfl, 0, rfl, by omega, rfl, fun c hc => by simp at hc⟩
  case round =>
    obtain ⟨rfl, i, rfl, hi, hgk, HA⟩ := hrel
    by_cases hlt : i < s.size
    · have hltI : (i : Int) < (s.size : Int) := by omega
      obtain ⟨c, hc⟩ : ∃ c, s[i]'hlt = c := ⟨_, rfl⟩
      have hcl : Hid (s.data.toList[i]? = some c) := Lib.hid (by rw [← hc]; exact Lib.data_getElem? s i hlt)
      obtain ⟨b, hb⟩ : ∃ b, b = plainC c := ⟨_, rfl⟩
      have HB := Lib.hid hb
      clear hb
      go_upto_region 5 with (fail)
      have hy : (b = true ∧ ((97 ≤ c.toNat ∧ c.toNat ≤ 122) ∨ (65 ≤ c.toNat ∧ c.toNat ≤ 90) ∨ (48 ≤ c.toNat ∧ c.toNat ≤ 57) ∨ c.toNat = 46 ∨ c.toNat = 45 ∨ c.toNat = 95)) ∨
          (b = false ∧ ¬ (97 ≤ c.toNat ∧ c.toNat ≤ 122) ∧ ¬ (65 ≤ c.toNat ∧ c.toNat ≤ 90) ∧ ¬ (48 ≤ c.toNat ∧ c.toNat ≤ 57) ∧ c.toNat ≠ 46 ∧ c.toNat ≠ 45 ∧ c.toNat ≠ 95) := by
        cases b with
        | true => exact .inl ⟨rfl, plainC_cases HB.out.symm⟩
        | false => exact .inr ⟨rfl, plainC_not HB.out.symm⟩
      generalize c.toNat = y at hy ⊢
      have HY := Lib.hid hy
      clear hy
      go_cut [47] (fun s47 wx => w = wx ∧ s47 = .bool (!b))
      case first =>
        rcases HY.out with ⟨rfl, h6⟩ | ⟨rfl, h6⟩
        · clear hcl HA HB HY
          have h7 : ((97 : Int) ≤ (y : Int) ∧ (y : Int) ≤ 122) ∨ ((65 : Int) ≤ (y : Int) ∧ (y : Int) ≤ 90) ∨ ((48 : Int) ≤ (y : Int) ∧ (y : Int) ≤ 57) ∨ y = 46 ∨ y = 45 ∨ y = 95 := by omega
          clear h6
          rcases h7 with ⟨p1, p2⟩ | ⟨p1, p2⟩ | ⟨p1, p2⟩ | rfl | rfl | rfl
          · as_aux_lemma =>
              have t0 : ¬ ((y : Int) < 97) := by omega
              have t1 : ¬ ((122 : Int) < (y : Int)) := by omega
              have t2 : ¬ ((y : Int) < 65) := by omega
              have t3 : (90 : Int) < (y : Int) := by omega
              have t4 : ¬ ((y : Int) < 48) := by omega
              have t5 : (57 : Int) < (y : Int) := by omega
              clear p1 p2
              go_wp2
              go_meet
              exact ⟨rfl, rfl⟩
          · as_aux_lemma =>
              have t0 : (y : Int) < 97 := by omega
              have t1 : ¬ ((122 : Int) < (y : Int)) := by omega
              have t2 : ¬ ((y : Int) < 65) := by omega
              have t3 : ¬ ((90 : Int) < (y : Int)) := by omega
              have t4 : ¬ ((y : Int) < 48) := by omega
              have t5 : (57 : Int) < (y : Int) := by omega
              clear p1 p2
              go_wp2
              go_meet
              exact ⟨rfl, rfl⟩
          · as_aux_lemma =>
              have t0 : (y : Int) < 97 := by omega
              have t1 : ¬ ((122 : Int) < (y : Int)) := by omega
              have t2 : (y : Int) < 65 := by omega
              have t3 : ¬ ((90 : Int) < (y : Int)) := by omega
              have t4 : ¬ ((y : Int) < 48) := by omega
              have t5 : ¬ ((57 : Int) < (y : Int)) := by omega
              clear p1 p2
              go_wp2
              go_meet
              exact ⟨rfl, rfl⟩
          · as_aux_lemma =>
              go_wp2
              go_meet
              exact ⟨rfl, rfl⟩
          · as_aux_lemma =>
              go_wp2
              go_meet
              exact ⟨rfl, rfl⟩
          · as_aux_lemma =>
              go_wp2
              go_meet
              exact ⟨rfl, rfl⟩
        · clear hcl HA HB HY
          have h7 : ((y : Int) < 45) ∨ (y = 47) ∨ ((57 : Int) < (y : Int) ∧ (y : Int) < 65) ∨ ((90 : Int) < (y : Int) ∧ (y : Int) < 95) ∨ (y = 96) ∨ ((122 : Int) < (y : Int)) := by omega
          have e1 : ((y : Int) != 46) = true := by simp; omega
          have e2 : ((y : Int) != 45) = true := by simp; omega
          have e3 : ((y : Int) != 95) = true := by simp; omega
          clear h6
          rcases h7 with p | rfl | ⟨p1, p2⟩ | ⟨p1, p2⟩ | rfl | p
          · as_aux_lemma =>
              have t0 : (y : Int) < 97 := by omega
              have t1 : ¬ ((122 : Int) < (y : Int)) := by omega
              have t2 : (y : Int) < 65 := by omega
              have t3 : ¬ ((90 : Int) < (y : Int)) := by omega
              have t4 : (y : Int) < 48 := by omega
              have t5 : ¬ ((57 : Int) < (y : Int)) := by omega
              clear p
              go_wp2
              go_meet
              exact ⟨rfl, rfl⟩
          · as_aux_lemma =>
              go_wp2
              go_meet
              exact ⟨rfl, rfl⟩
          · as_aux_lemma =>
              have t0 : (y : Int) < 97 := by omega
              have t1 : ¬ ((122 : Int) < (y : Int)) := by omega
              have t2 : (y : Int) < 65 := by omega
              have t3 : ¬ ((90 : Int) < (y : Int)) := by omega
              have t4 : ¬ ((y : Int) < 48) := by omega
              have t5 : (57 : Int) < (y : Int) := by omega
              clear p1 p2
              go_wp2
              go_meet
              exact ⟨rfl, rfl⟩
          · as_aux_lemma =>
              have t0 : (y : Int) < 97 := by omega
              have t1 : ¬ ((122 : Int) < (y : Int)) := by omega
              have t2 : ¬ ((y : Int) < 65) := by omega
              have t3 : (90 : Int) < (y : Int) := by omega
              have t4 : ¬ ((y : Int) < 48) := by omega
              have t5 : (57 : Int) < (y : Int) := by omega
              clear p1 p2
              go_wp2
              go_meet
              exact ⟨rfl, rfl⟩
          · as_aux_lemma =>
              go_wp2
              go_meet
              exact ⟨rfl, rfl⟩
          · as_aux_lemma =>
              have t0 : ¬ ((y : Int) < 97) := by omega
              have t1 : (122 : Int) < (y : Int) := by omega
              have t2 : ¬ ((y : Int) < 65) := by omega
              have t3 : (90 : Int) < (y : Int) := by omega
              have t4 : ¬ ((y : Int) < 48) := by omega
              have t5 : (57 : Int) < (y : Int) := by omega
              clear p
              go_wp2
              go_meet
              exact ⟨rfl, rfl⟩
      case rest =>
        obtain ⟨rfl, rfl⟩ := hcut
        cases b with
        | true =>
          go_wp2
          go_roundg (s.size + 1 - (i + 1))
          case measure => omega
          case rel =>
            refine ⟨rfl, i + 1, by go_num, by omega, rfl, fun d hd => ?_⟩
            rw [List.take_add_one, hcl.out, List.mem_append] at hd
            rcases hd with hd | hd
            · exact HA d hd
            · have : d = c := by simpa using hd
              rw [this]; exact HB.out.symm
        | false =>
          go_wp2
          go_ret
          refine ⟨ret_bool ?_, rfl⟩
          have hm : c ∈ s.data.toList := List.mem_of_getElem? hcl.out
          have : s.data.toList.all plainC = false := by
            rw [List.all_eq_false]
            exact ⟨c, hm, by rw [← HB.out]; simp⟩
          unfold plainB
          rw [this]; rfl
    · have hltI : ¬ ((i : Int) < (s.size : Int)) := by omega
      have hall : Hid (s.data.toList.all plainC = true) := Lib.hid (by
        rw [List.all_eq_true]
        intro c hc
        exact HA c (by rw [List.take_of_length_le (by rw [← Lib.size_eq]; omega)]; exact hc))
      have hz := Lib.hid (Lib.size_eq s)
      by_cases h1 : 1 ≤ s.size
      · by_cases h2 : s.size ≤ 60
        · have h1I : (1 : Int) ≤ (s.size : Int) := by omega
          have h2I : (s.size : Int) ≤ 60 := by omega
          go_wp2
          go_ret
          refine ⟨ret_bool ?_, rfl⟩
          unfold plainB
          rw [hall.out, ← hz.out, decide_eq_true h1, decide_eq_true h2]; rfl
        · have h1I : (1 : Int) ≤ (s.size : Int) := by omega
          have h2I : ¬ ((s.size : Int) ≤ 60) := by omega
          go_wp2
          go_ret
          refine ⟨ret_bool ?_, rfl⟩
          unfold plainB
          rw [hall.out, ← hz.out, decide_eq_true h1, decide_eq_false h2]; rfl
      · have h1I : ¬ ((1 : Int) ≤ (s.size : Int)) := by omega
        go_wp2
        go_ret
        refine ⟨ret_bool ?_, rfl⟩
        unfold plainB
        rw [hall.out, ← hz.out, decide_eq_false h1]; rfl
end Go.Proofs.YtdlmmaolacjnaaaGreatDoor
