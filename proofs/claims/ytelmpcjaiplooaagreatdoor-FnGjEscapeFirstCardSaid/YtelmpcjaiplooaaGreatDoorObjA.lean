/- parseObjectPath of a component without a backslash: the component, and what stands behind it. -/
import Derived.Test.YtelmpcjaiplooaaGreatDoorDot
set_option linter.unusedSimpArgs false
set_option linter.unusedVariables false
namespace Go.Proofs.YtelmpcjaiplooaaGreatDoor
open Go.RowKit Go.Proofs.YtelmpcjaiplooaaGreatDoorW.PrintWords

/-- What parseObjectPath hands back. -/
def objPath (part path pipe : ByteArray) (piped wild more : Bool) : Value :=
  .agg #[.string part, .string path, .string pipe, .bool piped, .bool wild, .bool more]

/-- A byte of a component that stands for itself. -/
def Plain (c : Nat) : Prop := c ≠ 124 ∧ c ≠ 46 ∧ c ≠ 42 ∧ c ≠ 63 ∧ c ≠ 92

theorem plain_tests {c : Nat} (h : Plain c) : ((c : Int) == 124) = false ∧ ((c : Int) == 46) = false ∧ ((c : Int) == 42) = false ∧ ((c : Int) == 63) = false ∧ ((c : Int) == 92) = false := by
  obtain ⟨h1, h2, h3, h4, h5⟩ := h
  refine ⟨?_, ?_, ?_, ?_, ?_⟩ <;> rw [beq_eq_false_iff_ne] <;> omega

set_option maxRecDepth 100000 in
set_option maxHeartbeats 2000000 in
theorem objA_end (s : ByteArray) (w : World) (hs : s.size ≤ 140737488351232) (hall : ∀ i, i < s.size → Plain (by' s i)) :
    Calls Tryz.prog 108 #[.string s] w fun e w' => e = .returned (objPath s ⟨#[]⟩ ⟨#[]⟩ false false false) ∧ Below w.heap.size w w' := by
  have HA := Lib.hid hall
  clear hall
  go_enter Tryz.func108, Tryz.ntmps108
  go_wp2
  go_loop [3] (fun v => ∃ k : Nat, k ≤ s.size ∧ v = .int .i64 k) (fun v => s.size - (intOf v).toNat)
  case atStart => exact ⟨0, Nat.zero_le _, rfl⟩
  case round =>
    obtain ⟨k, hk, rfl⟩ := hrel
    by_cases hlt : k < s.size
    · obtain ⟨e1, e2, e3, e4, e5⟩ := plain_tests (HA.out k hlt)
      have hb := by_at s k hlt
      go_wp2
      go_round
      case rel => exact ⟨k + 1, by omega, by go_num⟩
      case measure => simp [intOf]; omega
    · go_wp2
      refine bodyPost_ret (v := objPath s ⟨#[]⟩ ⟨#[]⟩ false false false) (by simp [objPath, results, Tryz.results108, go_sem]) rfl ⟨rfl, ?_⟩
      exact (Below.refl _ _).alloc (Nat.le_refl _) _

/-- Behind the dot stands nothing, or nothing that begins a modifier or a list. -/
def Mild (s : ByteArray) (k : Nat) : Prop := k < s.size → by' s k ≠ 64 ∧ by' s k ≠ 91 ∧ by' s k ≠ 123

theorem by_extract (s : ByteArray) (k j : Nat) (h : k + j < s.size) : by' (s.extract k s.size) j = by' s (k + j) := by
  have h1 : j < (s.extract k s.size).size := by rw [ByteArray.size_extract]; omega
  have e1 := by_at (s.extract k s.size) j h1
  have e2 := by_at s (k + j) h
  rw [← e1, ← e2, ByteArray.getElem_extract]

set_option maxRecDepth 100000 in
set_option maxHeartbeats 2000000 in
theorem objA_dot (s : ByteArray) (w : World) (hs : s.size ≤ 140737488351232) (n : Nat) (hn : n < s.size) (hall : ∀ i, i < n → Plain (by' s i)) (hd : by' s n = 46) (hm : Mild s (n + 1)) :
    Calls Tryz.prog 108 #[.string s] w fun e w' => e = .returned (objPath (s.extract 0 n) (s.extract (n + 1) s.size) ⟨#[]⟩ false false true) ∧ Below w.heap.size w w' := by
  have HA := Lib.hid hall
  clear hall
  have HM := Lib.hid hm
  clear hm
  have HD := Lib.hid hd
  clear hd
  go_enter Tryz.func108, Tryz.ntmps108
  go_wp2
  go_loop [3] (fun v => ∃ k : Nat, k ≤ n ∧ v = .int .i64 k) (fun v => s.size - (intOf v).toNat)
  case atStart => exact ⟨0, Nat.zero_le _, rfl⟩
  case round =>
    obtain ⟨k, hk, rfl⟩ := hrel
    by_cases hlt : k < n
    · obtain ⟨e1, e2, e3, e4, e5⟩ := plain_tests (HA.out k hlt)
      have hlt2 : k < s.size := by omega
      have hb := by_at s k hlt2
      go_wp2
      go_round
      case rel => exact ⟨k + 1, by omega, by go_num⟩
      case measure => simp [intOf]; omega
    · obtain rfl : k = n := by omega
      have hb := by_at s k hn
      rw [HD.out] at hb
      by_cases hl : k + 1 < s.size
      · obtain ⟨m1, m2, m3⟩ := HM.out hl
        have HC := Lib.hid (fun W => dot_no (s.extract (k + 1) s.size) W (by rw [ByteArray.size_extract]; omega) (by rw [ByteArray.size_extract]; omega) (by rw [by_extract s (k + 1) 0 (by omega)]; exact m1) (by rw [by_extract s (k + 1) 0 (by omega)]; exact m2) (by rw [by_extract s (k + 1) 0 (by omega)]; exact m3))
        clear m1 m2 m3
        go_wp2_with (go_at_call 158; refine (HC.out _).mono ?_; rintro e w' ⟨rfl, rfl⟩)
        refine bodyPost_ret (v := objPath (s.extract 0 k) (s.extract (k + 1) s.size) ⟨#[]⟩ false false true) (by simp [objPath, results, Tryz.results108, go_sem]) rfl ⟨rfl, ?_⟩
        exact (Below.refl _ _).alloc (Nat.le_refl _) _
      · have hl2 : decide ((k : Int) < (s.size : Int) - 1) = false := by simp; omega
        go_wp2
        refine bodyPost_ret (v := objPath (s.extract 0 k) (s.extract (k + 1) s.size) ⟨#[]⟩ false false true) (by simp [objPath, results, Tryz.results108, go_sem]) rfl ⟨rfl, ?_⟩
        exact (Below.refl _ _).alloc (Nat.le_refl _) _

set_option maxRecDepth 100000 in
set_option maxHeartbeats 2000000 in
theorem objA_pipe (s : ByteArray) (w : World) (hs : s.size ≤ 140737488351232) (n : Nat) (hn : n < s.size) (hall : ∀ i, i < n → Plain (by' s i)) (hd : by' s n = 124) :
    Calls Tryz.prog 108 #[.string s] w fun e w' => e = .returned (objPath (s.extract 0 n) ⟨#[]⟩ (s.extract (n + 1) s.size) true false false) ∧ Below w.heap.size w w' := by
  have HA := Lib.hid hall
  clear hall
  have HD := Lib.hid hd
  clear hd
  go_enter Tryz.func108, Tryz.ntmps108
  go_wp2
  go_loop [3] (fun v => ∃ k : Nat, k ≤ n ∧ v = .int .i64 k) (fun v => s.size - (intOf v).toNat)
  case atStart => exact ⟨0, Nat.zero_le _, rfl⟩
  case round =>
    obtain ⟨k, hk, rfl⟩ := hrel
    by_cases hlt : k < n
    · obtain ⟨e1, e2, e3, e4, e5⟩ := plain_tests (HA.out k hlt)
      have hlt2 : k < s.size := by omega
      have hb := by_at s k hlt2
      go_wp2
      go_round
      case rel => exact ⟨k + 1, by omega, by go_num⟩
      case measure => simp [intOf]; omega
    · obtain rfl : k = n := by omega
      have hb := by_at s k hn
      rw [HD.out] at hb
      go_wp2
      refine bodyPost_ret (v := objPath (s.extract 0 k) ⟨#[]⟩ (s.extract (k + 1) s.size) true false false) (by simp [objPath, results, Tryz.results108, go_sem]) rfl ⟨rfl, ?_⟩
      exact (Below.refl _ _).alloc (Nat.le_refl _) _
end Go.Proofs.YtelmpcjaiplooaaGreatDoor
