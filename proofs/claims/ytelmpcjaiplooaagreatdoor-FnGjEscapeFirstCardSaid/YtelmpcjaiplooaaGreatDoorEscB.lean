/- Escape gives the key with a backslash ahead of each byte that is not safe. -/
import Derived.Test.YtelmpcjaiplooaaGreatDoorEscA
import Derived.Test.YtelmpcjaiplooaaGreatDoorBuf
import Derived.Deep.LoopGhost
set_option linter.unusedSimpArgs false
set_option linter.unusedVariables false
namespace Go.Proofs.YtelmpcjaiplooaaGreatDoor
open Go.RowKit Go.Proofs.YtelmpcjaiplooaaGreatDoorW.PrintWords

/-- The bytes that Escape makes. -/
def escI : List Int → List Int
  | [] => []
  | c :: l => if sfe c.toNat then c :: escI l else 92 :: c :: escI l
theorem escI_append (a b : List Int) : escI (a ++ b) = escI a ++ escI b := by
  induction a with
  | nil => rfl
  | cons c a ih => simp only [List.cons_append, escI]; split <;> simp [ih]
theorem escI_safe (l : List Int) (h : ∀ c ∈ l, sfe c.toNat = true) : escI l = l := by
  induction l with
  | nil => rfl
  | cons c a ih => simp only [escI]; rw [if_pos (h c (by simp)), ih (fun x hx => h x (by simp [hx]))]
theorem escI_length (l : List Int) : (escI l).length ≤ 2 * l.length := by
  induction l with
  | nil => simp [escI]
  | cons c a ih => simp only [escI]; split <;> simp <;> omega

/-- The byte at a place of a string. -/
def by' (s : ByteArray) (i : Nat) : Nat := (bt s i).toNat
theorem by_lt (s : ByteArray) (i : Nat) : by' s i < 256 := by
  have := bt_range s i
  unfold by'
  omega
theorem by_at (s : ByteArray) (i : Nat) (h : i < s.size) : s[i].toNat = by' s i := by
  have h' : ((i : Int)).toNat < s.size := by simpa using h
  have := bt_at s i h'
  unfold by'
  simp at this
  omega

set_option maxHeartbeats 1000000 in
theorem escape_plain (s : ByteArray) (w : World) (hs : s.size ≤ 8192) (hall : ∀ i, i < s.size → sfe (by' s i) = true) :
    Calls Tryz.prog 64 #[.string s] w fun e w' => e = .returned (.string s) ∧ w = w' := by
  have HA := Lib.hid hall
  clear hall
  go_enter Tryz.func64, Tryz.ntmps64
  go_wp2
  go_loop [3] (fun v => ∃ k : Nat, k ≤ s.size ∧ v = .int .i64 k) (fun v => s.size - (intOf v).toNat)
  case atStart => exact ⟨0, Nat.zero_le _, rfl⟩
  case round =>
    obtain ⟨k, hk, rfl⟩ := hrel
    by_cases hlt : k < s.size
    · have hsafe := HA.out k hlt
      have HS := Lib.hid hsafe
      clear hsafe
      have hb := by_at s k hlt
      go_wp2_with (go_at_call 107; refine (safe_yes _ _ (by_lt _ _) HS.out).mono ?_; rintro e w' ⟨rfl, rfl⟩)
      go_round
      case rel => exact ⟨k + 1, by omega, by go_num⟩
      case measure => simp [intOf]; omega
    · go_wp2
      go_ret
      exact ⟨rfl, rfl⟩

theorem take_step (s : ByteArray) (j : Nat) (h : j < s.size) : (bytesOf s).take (j + 1) = (bytesOf s).take j ++ [(by' s j : Int)] := by
  have hl : j < (bytesOf s).length := by rw [bytesOf_length]; exact h
  rw [List.take_succ_eq_append_getElem hl]
  congr 2
  have := rd_bytesOf s j
  unfold rd at this
  have hb := bt_range s j
  simp [List.getD_eq_getElem?_getD, List.getElem?_eq_getElem hl] at this
  unfold by'
  omega

set_option maxRecDepth 100000 in
set_option maxHeartbeats 2000000 in
theorem escape_some (s : ByteArray) (w : World) (hs : s.size ≤ 8192) (k0 : Nat) (hk0 : k0 < s.size) (hall : ∀ i, i < k0 → sfe (by' s i) = true) (hno : sfe (by' s k0) = false) :
    Calls Tryz.prog 64 #[.string s] w fun e w' => e = .returned (.string (strOfNums (escI (bytesOf s)))) ∧ Below w.heap.size w w' := by
  have hpre : escI ((bytesOf s).take k0) = (bytesOf s).take k0 := by
    refine escI_safe _ fun c hc => ?_
    obtain ⟨i, hi, rfl⟩ := List.getElem_of_mem hc
    have hik : i < k0 := by simp at hi; omega
    have := hall i hik
    have hr := rd_bytesOf s i
    unfold rd at hr
    have hl : i < (bytesOf s).length := by rw [bytesOf_length]; omega
    simp [List.getD_eq_getElem?_getD, List.getElem?_eq_getElem hl] at hr
    simp only [List.getElem_take, hr]
    exact this
  have HP := Lib.hid hpre
  clear hpre
  have HA := Lib.hid hall
  clear hall
  have HN := Lib.hid hno
  clear hno
  have hmk := print_make (P := Tryz.prog) 90 5 .u8 1 Tryz.underlying90 info5 (by decide) (s.size + 1) (by omega)
  rw [show ((s.size + 1 : Nat) : Int) = (s.size : Int) + 1 from by omega] at hmk
  go_enter Tryz.func64, Tryz.ntmps64
  go_wp2
  go_loop [3] (fun v => ∃ k : Nat, k ≤ k0 ∧ v = .int .i64 k) (fun v => s.size - (intOf v).toNat)
  case atStart => exact ⟨0, Nat.zero_le _, rfl⟩
  case round =>
    obtain ⟨k, hk, rfl⟩ := hrel
    by_cases hlt : k < k0
    · have hsafe := HA.out k hlt
      have HS := Lib.hid hsafe
      clear hsafe
      have hb := by_at s k (by omega)
      have hlt2 : k < s.size := by omega
      go_wp2_with (go_at_call 107; refine (safe_yes _ _ (by_lt _ _) HS.out).mono ?_; rintro e w' ⟨rfl, rfl⟩)
      go_round
      case rel => exact ⟨k + 1, by omega, by go_num⟩
      case measure => simp [intOf]; omega
    · obtain rfl : k = k0 := by omega
      clear HA hlt hk
      have hb := by_at s k hk0
      go_wp2_with (first | (go_at_call 107; refine (safe_no _ _ (by_lt _ _) HN.out).mono ?_; rintro e w' ⟨rfl, rfl⟩) | ((with_reducible refine gate_dst (N := 24) rfl ?_); refine wpList_copy_made (w0 := w) w.heap.size rfl _ _ 90 9 rfl Tryz.underlying90 info5 _ k (s.extract 0 k) (by simp; omega) (by omega) (by omega) rfl rfl (Below.refl _ _) (Nat.le_refl _) ?_; intro w1 HO1 HB1 hb1; rw [bytesOf_take] at HO1; have HO := Aside0.mk HO1; have HB := Aside0.mk HB1; have hbs := Aside0.mk hb1; clear HO1 HB1 hb1))
      clear hmk hb HN
      go_loopg [3, 4] (s.size - k) (fun gk v3 v4 wr => ∃ j : Nat, Aside0 (gk + j = s.size) ∧ v3 = .int .i64 j ∧ Aside0 (OwnB wr w.heap.size v4 (escI ((bytesOf s).take j))) ∧ Aside0 (Below w.heap.size w wr) ∧ Aside0 (w.heap.size ≤ wr.heap.size))
      case atStart => exact ⟨k, ⟨by omega⟩, rfl, ⟨by rw [HP.out, ← List.length_take_of_le (l := bytesOf s) (i := k) (by rw [bytesOf_length]; omega)] at *; exact HO.out⟩, HB, hbs⟩
      case round =>
        clear HO HB hbs HP
        obtain ⟨j, hj, rfl, HO, HB, hbs⟩ := hrel
        have hj' : j ≤ s.size := by have := hj.out; omega
        have HL : Aside0 ((escI ((bytesOf s).take j)).length ≤ 2 * s.size) := ⟨by have := escI_length ((bytesOf s).take j); have h2 := List.length_take_le j (bytesOf s); omega⟩
        by_cases hlt : j < s.size
        · have hb := by_at s j hlt
          have HT := Lib.hid (take_step s j hlt)
          cases hsf : sfe (by' s j) with
          | true =>
            have HS := Lib.hid hsf
            clear hsf
            go_wp2_with (first | (go_at_call 107; refine (safe_yes _ _ (by_lt _ _) HS.out).mono ?_; rintro e w' ⟨rfl, rfl⟩) | (at_builtin; refine OwnB.append (w0 := w) w.heap.size rfl _ _ 90 rfl Tryz.underlying90 info5 _ _ _ HO.out HB.out hbs.out (by (try simp only [List.length_append, List.length_singleton]); have := HL.out; omega) rfl rfl ?_; intro v1 w2 HO1 HB1 hb1; clear HO HB hbs; have HO := Aside0.mk HO1; have HB := Aside0.mk HB1; have hbs := Aside0.mk hb1; clear HO1 HB1 hb1))
            go_roundg (gk - 1)
            case measure => have := hj.out; omega
            case rel => exact ⟨j + 1, ⟨by have := hj.out; omega⟩, by go_num, ⟨by rw [HT.out, escI_append]; simp only [escI]; rw [if_pos (by simpa using HS.out)]; exact HO.out⟩, HB, hbs⟩
          | false =>
            have HS := Lib.hid hsf
            clear hsf
            go_wp2_with (first | (go_at_call 107; refine (safe_no _ _ (by_lt _ _) HS.out).mono ?_; rintro e w' ⟨rfl, rfl⟩) | (at_builtin; refine OwnB.append (w0 := w) w.heap.size rfl _ _ 90 rfl Tryz.underlying90 info5 _ _ _ HO.out HB.out hbs.out (by (try simp only [List.length_append, List.length_singleton]); have := HL.out; omega) rfl rfl ?_; intro v1 w2 HO1 HB1 hb1; clear HO HB hbs; have HO := Aside0.mk HO1; have HB := Aside0.mk HB1; have hbs := Aside0.mk hb1; clear HO1 HB1 hb1))
            go_roundg (gk - 1)
            case measure => have := hj.out; omega
            case rel => exact ⟨j + 1, ⟨by have := hj.out; omega⟩, by go_num, ⟨by rw [HT.out, escI_append]; simp only [escI]; rw [if_neg (by simpa using HS.out)]; simpa using HO.out⟩, HB, hbs⟩
        · obtain rfl : j = s.size := by omega
          rw [List.take_of_length_le (by rw [bytesOf_length]; exact Nat.le_refl _)] at HO
          have hcv2 := OwnB.string (P := Tryz.prog) (dst := 9) Tryz.underlying90 Tryz.underlying5 Tryz.underlying9 HO.out
          clear HL
          go_wp2
          go_ret
          exact ⟨rfl, HB.out⟩
end Go.Proofs.YtelmpcjaiplooaaGreatDoor
