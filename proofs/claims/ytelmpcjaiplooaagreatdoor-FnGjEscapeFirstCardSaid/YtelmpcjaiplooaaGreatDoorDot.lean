/- isDotPiperChar: false ahead of a text that begins with none of '@', '[', '{'. -/
import Derived.Test.YtelmpcjaiplooaaGreatDoorEscB
set_option linter.unusedSimpArgs false
set_option linter.unusedVariables false
namespace Go.Proofs.YtelmpcjaiplooaaGreatDoor
open Go.RowKit Go.Proofs.YtelmpcjaiplooaaGreatDoorW.PrintWords

set_option maxHeartbeats 1000000 in
theorem dot_no (s : ByteArray) (w : World) (hs : s.size ≤ 140737488351232) (h0 : 0 < s.size) (h1 : by' s 0 ≠ 64) (h2 : by' s 0 ≠ 91) (h3 : by' s 0 ≠ 123) :
    Calls Tryz.prog 158 #[.string s] w fun e w' => e = .returned (.bool false) ∧ w = w' := by
  have hb := by_at s 0 h0
  have e1 : ((by' s 0 : Int) == 64) = false := by rw [beq_eq_false_iff_ne]; omega
  have e2 : ((by' s 0 : Int) == 91) = false := by rw [beq_eq_false_iff_ne]; omega
  have e3 : ((by' s 0 : Int) == 123) = false := by rw [beq_eq_false_iff_ne]; omega
  clear h1 h2 h3
  go_enter Tryz.func158, Tryz.ntmps158
  go_wp2
  go_ret
  exact ⟨rfl, rfl⟩
end Go.Proofs.YtelmpcjaiplooaaGreatDoor
