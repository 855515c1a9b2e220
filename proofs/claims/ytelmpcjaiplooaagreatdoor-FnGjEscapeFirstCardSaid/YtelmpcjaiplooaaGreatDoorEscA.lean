/- isSafePathKeyChar answers the plain test. -/
import Derived.Test.YtelmpcjaiplooaaGreatDoorProg
import Derived.WalkKit
import Derived.Outline
import Derived.Lib.Hide
import Derived.Deep.QuietTactic
import Derived.BigQuiet
import Derived.WalkLawsBesides
set_option linter.unusedSimpArgs false
set_option linter.unusedVariables false
namespace Go.Proofs.YtelmpcjaiplooaaGreatDoor
open Go.RowKit

/-- A byte that Escape leaves as it is. -/
def sfe (c : Nat) : Bool := (decide (97 ≤ c) && decide (c ≤ 122)) || (decide (65 ≤ c) && decide (c ≤ 90)) || (decide (48 ≤ c) && decide (c ≤ 57)) || decide (c ≤ 32) || decide (126 < c) || decide (c = 95) || decide (c = 45) || decide (c = 58)

theorem ret_bool {a b : Bool} (h : a = b) : Ending.returned (.bool a) = .returned (.bool b) := by rw [h]

theorem safe_yes (c : Nat) (w : World) (hc : c < 256) (h : sfe c = true) :
    Calls Tryz.prog 107 #[.int .u8 c] w fun e w' => e = .returned (.bool true) ∧ w = w' := by
  have H := Lib.hid h
  clear h
  go_enter Tryz.func107, Tryz.ntmps107
  go_wp2
  all_goals go_ret
  all_goals refine ⟨?_, rfl⟩
  all_goals have h := H.out
  all_goals clear H
  all_goals simp only [sfe, Bool.or_eq_true, Bool.or_eq_false_iff, Bool.and_eq_true, Bool.and_eq_false_iff, decide_eq_true_eq, decide_eq_false_iff_not] at h
  all_goals first | rfl | (exfalso; omega) | exact ret_bool (by (simp only [Bool.or_eq_true, decide_eq_true_eq, beq_iff_eq]); omega)
theorem safe_no (c : Nat) (w : World) (hc : c < 256) (h : sfe c = false) :
    Calls Tryz.prog 107 #[.int .u8 c] w fun e w' => e = .returned (.bool false) ∧ w = w' := by
  have H := Lib.hid h
  clear h
  go_enter Tryz.func107, Tryz.ntmps107
  go_wp2
  all_goals go_ret
  all_goals refine ⟨?_, rfl⟩
  all_goals have h := H.out
  all_goals clear H
  all_goals simp only [sfe, Bool.or_eq_true, Bool.or_eq_false_iff, Bool.and_eq_true, Bool.and_eq_false_iff, decide_eq_true_eq, decide_eq_false_iff_not] at h
  all_goals first | rfl | (exfalso; omega) | exact ret_bool (by (simp only [Bool.or_eq_false_iff, decide_eq_false_iff_not, beq_eq_false_iff_ne]); omega)
end Go.Proofs.YtelmpcjaiplooaaGreatDoor
