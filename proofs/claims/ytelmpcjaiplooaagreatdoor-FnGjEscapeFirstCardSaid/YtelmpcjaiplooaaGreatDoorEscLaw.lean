/- The walk of the law FnGjEscapeFirst: it answers true. -/
import Derived.Test.YtelmpcjaiplooaaGreatDoorObj
set_option linter.unusedSimpArgs false
set_option linter.unusedVariables false
namespace Go.Proofs.YtelmpcjaiplooaaGreatDoor
open Go.RowKit Go.Proofs.YtelmpcjaiplooaaGreatDoorW.PrintWords

theorem esc_str (s : ByteArray) : bytesOf (strOfNums (escI (bytesOf s))) = escI (bytesOf s) := bytes_str _ (escI_range _ (bytes_range s))
theorem esc_size (s : ByteArray) : (strOfNums (escI (bytesOf s))).size ≤ 2 * s.size := by
  have h1 := bytesOf_length (strOfNums (escI (bytesOf s)))
  rw [esc_str] at h1
  have h2 := escI_length (bytesOf s)
  rw [bytesOf_length] at h2
  omega

theorem bytesOf_drop (p : ByteArray) (k : Nat) : bytesOf (p.extract k p.size) = (bytesOf p).drop k := by
  unfold bytesOf
  rw [ByteArray.data_extract, Array.toList_extract, List.extract, ← List.map_drop]
  congr 1
  rw [List.take_of_length_le]
  simp
theorem bytesOf_append (a b : ByteArray) : bytesOf (a ++ b) = bytesOf a ++ bytesOf b := by
  simp [bytesOf]

/-- The component by itself. -/
theorem one_calls (key : ByteArray) (hk : key.size ≤ 8192) (w : World) :
    Calls Tryz.prog 27 #[.string (strOfNums (escI (bytesOf key)))] w fun e w' => e = .returned (objTuple key ⟨#[]⟩ ⟨#[]⟩ false false false) ∧ Below w.heap.size w w' := by
  have hsz := esc_size key
  refine gjObject_of _ _ _ _ _ _ _ w fun w => ?_
  have h := obj_any (strOfNums (escI (bytesOf key))) w (by omega) (escItems (bytesOf key)) [] (by rw [esc_str, escItems_enc]; simp) (escItems_ok _) (.inl rfl)
  rw [escItems_key, str_bytes] at h
  simpa [tailRes] using h

/-- The component, a dot, another one. -/
theorem two_calls (key other : ByteArray) (hk : key.size ≤ 8192) (ho : other.size ≤ 8192) (h0 : 0 < other.size) (p : ByteArray) (hp : bytesOf p = escI (bytesOf key) ++ 46 :: escI (bytesOf other)) (w : World) :
    Calls Tryz.prog 27 #[.string p] w fun e w' => e = .returned (objTuple key (strOfNums (escI (bytesOf other))) ⟨#[]⟩ false false true) ∧ Below w.heap.size w w' := by
  have l1 := escI_length (bytesOf key)
  have l2 := escI_length (bytesOf other)
  rw [bytesOf_length] at l1 l2
  have hsz : p.size = (escI (bytesOf key)).length + 1 + (escI (bytesOf other)).length := by
    have := bytesOf_length p
    rw [hp] at this
    simp at this
    omega
  have hn : p.size - (46 :: escI (bytesOf other)).length = (escI (bytesOf key)).length := by simp; omega
  have hd := by_of hp
  have hx : p.extract ((escI (bytesOf key)).length + 1) p.size = strOfNums (escI (bytesOf other)) := by
    rw [← str_bytes (p.extract _ _)]
    congr 1
    rw [bytesOf_drop, hp, ← List.drop_drop]
    simp
  have hmild : Mild p ((escI (bytesOf key)).length + 1) := by
    intro hlt
    cases hl : bytesOf other with
    | nil =>
      have := bytesOf_length other
      rw [hl] at this
      simp at this
      omega
    | cons c l =>
      rw [hl] at hp
      simp only [escI] at hp
      split at hp
      · rename_i hs
        have := by_of (s := p) (pre := escI (bytesOf key) ++ [46]) (c := c) (post := escI l) (by rw [hp]; simp)
        rw [List.length_append, List.length_singleton] at this
        have hs' := hs
        simp only [sfe, Bool.or_eq_true, Bool.and_eq_true, decide_eq_true_eq] at hs'
        omega
      · have := by_of (s := p) (pre := escI (bytesOf key) ++ [46]) (c := 92) (post := c :: escI l) (by rw [hp]; simp)
        rw [List.length_append, List.length_singleton] at this
        omega
  refine gjObject_of _ _ _ _ _ _ _ w fun w => ?_
  have h := obj_any p w (by omega) (escItems (bytesOf key)) (46 :: escI (bytesOf other)) (by rw [hp, escItems_enc]) (escItems_ok _) (by rw [hn]; exact .inr (.inl ⟨hd.1, by have := hd.2; omega, hmild⟩))
  rw [escItems_key, str_bytes, hn] at h
  unfold tailRes at h
  rw [if_neg (by omega), if_pos (by have := hd.2; omega), hx] at h
  exact h

theorem size_pos {s : ByteArray} (h : s.toList.isEmpty = false) : 0 < s.size := by
  rw [ByteArray.toList_eq] at h
  have h1 := data_length s
  cases hl : s.data.toList with
  | nil => rw [hl] at h; exact absurd h (by decide)
  | cons a l => rw [hl] at h1; simp at h1; omega
theorem below_step {w w1 w2 : World} (h : Below w.heap.size w w1) (k : Below w1.heap.size w1 w2) : Below w.heap.size w w2 := below_then h h.size k

set_option maxRecDepth 100000 in
set_option maxHeartbeats 2000000 in
theorem law_big (key other : ByteArray) (w : World) (hk : key.size ≤ 140737488351232) (ho : other.size ≤ 140737488351232) (h : 2147483647 < key.size ∨ 2147483647 < other.size) :
    Calls Tryz.prog 5 #[.string key, .string other] w fun e w' => e = .returned (.bool true) ∧ w = w' := by
  rcases h with h | h
  · have h1 : decide (2147483647 < (key.size : Int)) = true := by simp; omega
    go_enter Tryz.func5, Tryz.ntmps5
    go_wp2
    go_ret
    exact ⟨rfl, rfl⟩
  · by_cases h0 : 2147483647 < key.size
    · have h1 : decide (2147483647 < (key.size : Int)) = true := by simp; omega
      go_enter Tryz.func5, Tryz.ntmps5
      go_wp2
      go_ret
      exact ⟨rfl, rfl⟩
    · have h1 : decide (2147483647 < (key.size : Int)) = false := by simp; omega
      have h2 : decide (2147483647 < (other.size : Int)) = true := by simp; omega
      go_enter Tryz.func5, Tryz.ntmps5
      go_wp2
      go_ret
      exact ⟨rfl, rfl⟩

set_option maxRecDepth 100000 in
set_option maxHeartbeats 2000000 in
theorem law_out (key other : ByteArray) (w : World) (hk : key.size ≤ 2147483647) (ho : other.size ≤ 2147483647) (h : key.toList.isEmpty = true ∨ key.toList.isEmpty = false ∧ other.toList.isEmpty = true ∨ key.toList.isEmpty = false ∧ other.toList.isEmpty = false ∧ 4096 < key.size + other.size) :
    Calls Tryz.prog 5 #[.string key, .string other] w fun e w' => e = .returned (.bool true) ∧ w = w' := by
  have h1 : decide (2147483647 < (key.size : Int)) = false := by simp; omega
  have h2 : decide (2147483647 < (other.size : Int)) = false := by simp; omega
  rcases h with h | ⟨h, h3⟩ | ⟨h, h3, h4⟩
  · go_enter Tryz.func5, Tryz.ntmps5
    go_wp2
    go_ret
    exact ⟨rfl, rfl⟩
  · go_enter Tryz.func5, Tryz.ntmps5
    go_wp2
    go_ret
    exact ⟨rfl, rfl⟩
  · have h5 : decide (4096 < (key.size : Int) + (other.size : Int)) = true := by simp; omega
    go_enter Tryz.func5, Tryz.ntmps5
    go_wp2
    go_ret
    exact ⟨rfl, rfl⟩

set_option maxRecDepth 100000 in
set_option maxHeartbeats 2000000 in
theorem law_in (key other : ByteArray) (w : World) (h : key.toList.isEmpty = false) (h3 : other.toList.isEmpty = false) (h4 : key.size + other.size ≤ 4096) :
    Calls Tryz.prog 5 #[.string key, .string other] w fun e w' => e = .returned (.bool true) ∧ Below w.heap.size w w' := by
  have h1 : decide (2147483647 < (key.size : Int)) = false := by simp; omega
  have h2 : decide (2147483647 < (other.size : Int)) = false := by simp; omega
  have h5 : decide (4096 < (key.size : Int) + (other.size : Int)) = false := by simp; omega
  have h0 := size_pos h3
  have hk : key.size ≤ 8192 := by omega
  have ho : other.size ≤ 8192 := by omega
  have z1 := esc_size key
  have z2 := esc_size other
  have hp : bytesOf (strOfNums (escI (bytesOf key)) ++ ⟨#[46]⟩ ++ strOfNums (escI (bytesOf other))) = escI (bytesOf key) ++ 46 :: escI (bytesOf other) := by
    rw [bytesOf_append, bytesOf_append, esc_str, esc_str]
    simp [bytesOf]
  have HP := Lib.hid hp
  clear hp
  have HB := Lib.hid (Below.refl w.heap.size w)
  go_enter Tryz.func5, Tryz.ntmps5
  go_wp2_with (first | (go_at_call 26; refine (gjEscape_any _ _ (by omega)).mono ?_; rintro e w1 ⟨rfl, hb1⟩; have HB0 := Lib.hid (below_step HB.out hb1); clear hb1 HB; have HB := HB0; clear HB0) | (go_at_call 27; (with_reducible refine (one_calls key hk _).mono ?_); rintro e w2 ⟨rfl, hb2⟩; have HB0 := Lib.hid (below_step HB.out hb2); clear hb2 HB; have HB := HB0; clear HB0; simp only [objTuple]) | (go_at_call 27; refine (two_calls key other hk ho h0 _ HP.out _).mono ?_; rintro e w3 ⟨rfl, hb3⟩; have HB0 := Lib.hid (below_step HB.out hb3); clear hb3 HB; have HB := HB0; clear HB0; simp only [objTuple]))
  go_ret
  exact ⟨rfl, HB.out⟩
/-- THE LAW: whatever the two strings. -/
theorem escapeFirst_calls (key other : ByteArray) (w : World) (hk : key.size ≤ 140737488351232) (ho : other.size ≤ 140737488351232) :
    Calls Tryz.prog 5 #[.string key, .string other] w fun e w' => e = .returned (.bool true) ∧ Below w.heap.size w w' := by
  have same : ∀ {w w' : World}, w = w' → Below w.heap.size w w' := fun h => h ▸ Below.refl _ _
  by_cases hbig : 2147483647 < key.size ∨ 2147483647 < other.size
  · exact (law_big key other w hk ho hbig).mono fun e w' ⟨h1, h2⟩ => ⟨h1, same h2⟩
  cases h1 : key.toList.isEmpty with
  | true => exact (law_out key other w (by omega) (by omega) (.inl h1)).mono fun e w' ⟨h1, h2⟩ => ⟨h1, same h2⟩
  | false =>
    cases h2 : other.toList.isEmpty with
    | true => exact (law_out key other w (by omega) (by omega) (.inr (.inl ⟨h1, h2⟩))).mono fun e w' ⟨h1, h2⟩ => ⟨h1, same h2⟩
    | false =>
      by_cases h4 : key.size + other.size ≤ 4096
      · exact law_in key other w h1 h2 h4
      · exact (law_out key other w (by omega) (by omega) (.inr (.inr ⟨h1, h2, by omega⟩))).mono fun e w' ⟨h1, h2⟩ => ⟨h1, same h2⟩
end Go.Proofs.YtelmpcjaiplooaaGreatDoor
