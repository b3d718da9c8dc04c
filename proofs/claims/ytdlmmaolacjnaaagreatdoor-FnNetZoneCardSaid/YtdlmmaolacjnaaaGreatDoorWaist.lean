/-
  The contracts of questions about addresses: splitFirstSlice, zoneless, zzLoopback, IsIPLoopback, Protocols, IsThinWaist, at addresses of one and of two components without a zone.
-/
import Derived.Test.YtdlmmaolacjnaaaGreatDoorAsk
import Derived.Deep.QuietTactic
import Derived.BigQuiet
namespace Go.Proofs.YtdlmmaolacjnaaaGreatDoor
set_option linter.unusedVariables false
set_option linter.unusedSimpArgs false
open Go.RowKit Go.Sort

theorem split1_ok (a : Option Addr) (cap : Nat) (w : World) : Calls Tryz.prog 40 #[.slice a 1 cap] w fun e w' => e = .returned (.tuple #[.slice a 1 cap, .slice none 0 0]) ∧ Ext w w' := by
  go_enter Tryz.func40, Tryz.ntmps40
  go_wp2
  go_ret2
  exact ⟨rfl, Ext.refl _⟩
theorem split2_ok (g o cap : Nat) (hc : 2 ≤ cap) (w : World) : Calls Tryz.prog 40 #[.slice (some ⟨g, o, none⟩) 2 cap] w fun e w' => e = .returned (.tuple #[.slice (some ⟨g, o, none⟩) 1 cap, .slice (some ⟨g, o + 3, none⟩) 1 (cap - 1)]) ∧ Ext w w' := by
  have h1 : (1 : Int) ≤ (cap : Int) := by omega
  have h2 : (2 : Int) ≤ (cap : Int) := by omega
  have h3 : ¬ cap = 1 := by omega
  go_enter Tryz.func40, Tryz.ntmps40
  go_wp2
  go_quiet (fail)
  go_wp2
  go_ret2
  exact ⟨rfl, ext_drewN _ _⟩
theorem zoneless_ok (c : Cmp) (hc : c.p.code ≠ 42) (g o n cap : Nat) (hn : n = 1 ∨ n = 2 ∧ 2 ≤ cap) (w : World) (h : CmpAt w c g o) : Calls Tryz.prog 38 #[.slice (some ⟨g, o, none⟩) n cap] w fun e w' => e = .returned (.slice (some ⟨g, o, none⟩) n cap) ∧ Ext w w' := by
  have h42 : ((c.p.code : Int) == 42) = false := szB (k := 42) hc
  have HC := Lib.hid h
  clear h hc
  rcases hn with rfl | ⟨rfl, hcap⟩
  · go_enter Tryz.func38, Tryz.ntmps38
    go_wp2_with (first
      | (go_at_call 40; refine (split1_ok _ cap w).mono ?_; rintro e w1 ⟨rfl, he1⟩)
      | (go_at_call 41; refine (code_ok c g o w1 (he1.cmpAt HC.out)).mono ?_; rintro e w2 ⟨rfl, rfl⟩))
    go_ret
    exact ⟨rfl, he1⟩
  · go_enter Tryz.func38, Tryz.ntmps38
    go_wp2_with (first
      | (go_at_call 40; refine (split2_ok g o cap hcap w).mono ?_; rintro e w1 ⟨rfl, he1⟩)
      | (go_at_call 41; refine (code_ok c g o w1 (he1.cmpAt HC.out)).mono ?_; rintro e w2 ⟨rfl, rfl⟩))
    go_ret
    exact ⟨rfl, he1⟩
theorem loopback4_ok (g o cap : Nat) (w : World) (h : w.cell? ⟨g, o, none⟩ = some (.int .u8 127)) : Calls Tryz.prog 42 #[.slice (some ⟨g, o, none⟩) 4 cap] w fun e w' => e = .returned (.bool true) ∧ w = w' := by
  go_enter Tryz.func42, Tryz.ntmps42
  go_wp2_with (go_at_call 27; refine (to4_four _ _ _).mono ?_; rintro e w' ⟨rfl, rfl⟩)
  go_ret
  exact ⟨rfl, rfl⟩
/-- 127.0.0.1, and a port of UDP -/
abbrev ca : Cmp := c4 127 0 0 1
abbrev cu : Cmp := ⟨pUDP, [4, 210]⟩

set_option maxRecDepth 100000 in
theorem isLoop2_ok (g o cap : Nat) (hcap : 2 ≤ cap) (w : World) (h : CmpAt w ca g o) : Calls Tryz.prog 21 #[.slice (some ⟨g, o, none⟩) 2 cap] w fun e w' => e = .returned (.bool true) ∧ Ext w w' := by
  have hnil := fun (w : World) (a : Option Addr) (n c : Nat) => Lib.run_eql_slice_nil (P := Tryz.prog) w 39 61 a n c 0 0 Tryz.underlying39
  have HC := Lib.hid h
  clear h
  go_enter Tryz.func21, Tryz.ntmps21
  go_wp2_with (first
    | (go_at_call 38; refine (zoneless_ok ca (by decide) g o 2 cap (.inr ⟨rfl, hcap⟩) w HC.out).mono ?_; rintro e w1 ⟨rfl, he1⟩)
    | (go_at_call 40; refine (split2_ok g o cap hcap w1).mono ?_; rintro e w2 ⟨rfl, he2⟩)
    | (go_at_call 41; refine (code_ok ca g o w2 ((he1.trans he2).cmpAt HC.out)).mono ?_; rintro e w3 ⟨rfl, rfl⟩)
    | (go_at_call 35; refine (rawValue_ok ca g o w2 ((he1.trans he2).cmpAt HC.out)).mono ?_; rintro e w4 ⟨g', cap', rfl, hg', hcap', hr4, he4⟩)
    | (go_at_call 42; refine (loopback4_ok g' 0 cap' w4 (hr4 0 _ rfl)).mono ?_; rintro e w5 ⟨rfl, rfl⟩))
  go_ret
  exact ⟨rfl, (he1.trans he2).trans he4⟩
set_option maxRecDepth 100000 in
theorem isLoop1_ok (g o cap : Nat) (w : World) (h : CmpAt w cu g o) : Calls Tryz.prog 21 #[.slice (some ⟨g, o, none⟩) 1 cap] w fun e w' => e = .returned (.bool false) ∧ Ext w w' := by
  have hnil := fun (w : World) (a : Option Addr) (n c : Nat) => Lib.run_eql_slice_nil (P := Tryz.prog) w 39 61 a n c 0 0 Tryz.underlying39
  have HC := Lib.hid h
  clear h
  go_enter Tryz.func21, Tryz.ntmps21
  go_wp2_with (first
    | (go_at_call 38; refine (zoneless_ok cu (by decide) g o 1 cap (.inl rfl) w HC.out).mono ?_; rintro e w1 ⟨rfl, he1⟩)
    | (go_at_call 40; refine (split1_ok _ cap w1).mono ?_; rintro e w2 ⟨rfl, he2⟩)
    | (go_at_call 41; refine (code_ok cu g o w2 ((he1.trans he2).cmpAt HC.out)).mono ?_; rintro e w3 ⟨rfl, rfl⟩))
  go_ret
  exact ⟨rfl, he1.trans he2⟩
end Go.Proofs.YtdlmmaolacjnaaaGreatDoor
