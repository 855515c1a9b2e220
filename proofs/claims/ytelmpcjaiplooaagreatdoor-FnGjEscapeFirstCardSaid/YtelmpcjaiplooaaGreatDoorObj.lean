/- parseObjectPath of a component, escaped or not, and what stands behind it; Escape; the doors. -/
import Derived.Test.YtelmpcjaiplooaaGreatDoorObjB
set_option linter.unusedSimpArgs false
set_option linter.unusedVariables false
namespace Go.Proofs.YtelmpcjaiplooaaGreatDoor
open Go.RowKit Go.Proofs.YtelmpcjaiplooaaGreatDoorW.PrintWords

theorem str_bytes (s : ByteArray) : strOfNums (bytesOf s) = s := by
  apply ByteArray.ext
  apply Array.ext'
  simp only [strOfNums, bytesOf, List.map_map]
  conv => rhs; rw [← List.map_id s.data.toList]
  refine List.map_congr_left fun b _ => ?_
  simp
theorem bytes_str (l : List Int) (h : ∀ c ∈ l, 0 ≤ c ∧ c < 256) : bytesOf (strOfNums l) = l := by
  simp only [strOfNums, bytesOf, List.map_map]
  conv => rhs; rw [← List.map_id l]
  refine List.map_congr_left fun c hc => ?_
  have := h c hc
  simp
  omega
theorem bytes_range (s : ByteArray) : ∀ c ∈ bytesOf s, 0 ≤ c ∧ c < 256 := by
  intro c hc
  simp only [bytesOf, List.mem_map] at hc
  obtain ⟨b, _, rfl⟩ := hc
  have := b.toNat_lt
  omega

theorem keyI_map_false (l : List (Bool × Int)) (h : ∀ p ∈ l, p.1 = false) : encI l = keyI l := by
  induction l with
  | nil => rfl
  | cons p l ih =>
    rw [encI_cons, ih (fun q hq => h q (by simp [hq]))]
    rw [h p (by simp)]
    simp [keyI]

theorem split_first (l : List (Bool × Int)) : (∀ p ∈ l, p.1 = false) ∨ ∃ a c b, l = a ++ (true, c) :: b ∧ ∀ p ∈ a, p.1 = false := by
  induction l with
  | nil => exact .inl (by simp)
  | cons p l ih =>
    obtain ⟨b, c⟩ := p
    cases b with
    | true => exact .inr ⟨[], c, l, rfl, by simp⟩
    | false =>
      rcases ih with h | ⟨a, c', b', rfl, h⟩
      · exact .inl (by simpa using h)
      · exact .inr ⟨(false, c) :: a, c', b', rfl, by simpa using h⟩

theorem obj_any (s : ByteArray) (w : World) (hs : s.size ≤ 140737488351232) (l : List (Bool × Int)) (T : List Int) (hbs : bytesOf s = encI l ++ T) (hok : OkI l) (hT : TailOk s (s.size - T.length)) :
    Calls Tryz.prog 108 #[.string s] w fun e w' => e = .returned (tailRes s (s.size - T.length) (strOfNums (keyI l))) ∧ Below w.heap.size w w' := by
  have hlen : s.size = (encI l).length + T.length := by
    have := bytesOf_length s
    rw [hbs] at this
    simpa using this.symm
  rcases split_first l with h | ⟨a, c, b, rfl, h⟩
  · have he := keyI_map_false l h
    have hn : s.size - T.length = (encI l).length := by omega
    have hall : ∀ i, i < (encI l).length → Plain (by' s i) := fun i hi => by
      have h1 := by_of (s := s) (pre := (encI l).take i) (c := (encI l)[i]) (post := (encI l).drop (i + 1) ++ T) (by
        have e : encI l = (encI l).take i ++ (encI l)[i] :: (encI l).drop (i + 1) := by rw [← List.drop_eq_getElem_cons hi, List.take_append_drop]
        rw [hbs]
        have e2 := congrArg (fun l => l ++ T) e
        simp only [List.append_assoc, List.cons_append] at e2
        exact e2)
      rw [List.length_take_of_le (by omega)] at h1
      have hi' : i < l.length := by have := keyI_length l; rw [he] at hi; omega
      have h2 : (encI l)[i] = l[i].2 := by simp only [he]; simp [keyI]
      have h3 := hok l[i] (by simp) (h l[i] (by simp))
      rw [← h2, ← h1.2] at h3
      simpa using h3
    have hx : s.extract 0 (encI l).length = strOfNums (keyI l) := by
      rw [← str_bytes (s.extract 0 (encI l).length), bytesOf_take, hbs, ← he]
      simp
    rw [hn] at hT ⊢
    unfold tailRes
    rcases hT with hT | ⟨h1, h2, h3⟩ | ⟨h1, h2⟩
    · rw [if_pos hT, ← hx, hT]
      have := objA_end s w hs (by rw [← hT]; exact hall)
      rwa [show s.extract 0 s.size = s from ByteArray.extract_zero_size]
    · rw [if_neg (by omega), if_pos h2, ← hx]
      exact objA_dot s w hs _ h1 hall h2 h3
    · rw [if_neg (by omega), if_neg (by omega), ← hx]
      exact objA_pipe s w hs _ h1 hall h2
  · have he := keyI_map_false a h
    have hk : keyI (a ++ (true, c) :: b) = keyI a ++ c :: keyI b := by simp [keyI]
    rw [hk]
    refine objB s w hs (keyI a) c b T (by rw [hbs, encI_append, encI_cons, he]; simp) (fun x hx => ?_) (fun p hp => hok p (by simp [hp])) hT
    simp only [keyI, List.mem_map] at hx
    obtain ⟨p, hp, rfl⟩ := hx
    exact hok p (by simp [hp]) (h p hp)

/-! ### Escape -/
def escItems (l : List Int) : List (Bool × Int) := l.map fun c => (!sfe c.toNat, c)
theorem escItems_enc (l : List Int) : encI (escItems l) = escI l := by
  induction l with
  | nil => rfl
  | cons c l ih =>
    show encI ((!sfe c.toNat, c) :: escItems l) = _
    rw [encI_cons, ih]
    cases h : sfe c.toNat <;> simp [escI, h]
theorem escItems_key (l : List Int) : keyI (escItems l) = l := by
  unfold keyI escItems
  rw [List.map_map]
  exact List.map_id l
theorem plain_of_safe {c : Nat} (h : sfe c = true) : Plain c := by
  simp only [sfe, Bool.or_eq_true, Bool.and_eq_true, decide_eq_true_eq] at h
  unfold Plain
  omega
theorem escItems_ok (l : List Int) : OkI (escItems l) := by
  intro p hp h
  simp only [escItems, List.mem_map] at hp
  obtain ⟨c, _, rfl⟩ := hp
  exact plain_of_safe (by simpa using h)
theorem escI_range (l : List Int) (h : ∀ c ∈ l, 0 ≤ c ∧ c < 256) : ∀ c ∈ escI l, 0 ≤ c ∧ c < 256 := by
  induction l with
  | nil => simp [escI]
  | cons a l ih =>
    have h1 := h a (by simp)
    have h2 := ih (fun c hc => h c (by simp [hc]))
    intro c hc
    simp only [escI] at hc
    split at hc
    · rcases List.mem_cons.1 hc with rfl | hc
      · exact h1
      · exact h2 c hc
    · rcases List.mem_cons.1 hc with rfl | hc
      · omega
      · rcases List.mem_cons.1 hc with rfl | hc
        · exact h1
        · exact h2 c hc

theorem escape_any (s : ByteArray) (w : World) (hs : s.size ≤ 8192) :
    Calls Tryz.prog 64 #[.string s] w fun e w' => e = .returned (.string (strOfNums (escI (bytesOf s)))) ∧ Below w.heap.size w w' := by
  by_cases h : ∀ i, i < s.size → sfe (by' s i) = true
  · refine (escape_plain s w hs h).mono fun e w' ⟨h1, h2⟩ => ⟨?_, h2 ▸ Below.refl _ _⟩
    rw [h1, escI_safe, str_bytes]
    intro c hc
    obtain ⟨i, hi, rfl⟩ := List.getElem_of_mem hc
    rw [bytesOf_length] at hi
    have := h i hi
    have hr := rd_bytesOf s i
    unfold rd at hr
    have hl : i < (bytesOf s).length := by rw [bytesOf_length]; omega
    simp [List.getD_eq_getElem?_getD, List.getElem?_eq_getElem hl] at hr
    rw [hr]
    exact this
  · have hex : ∃ k, k < s.size ∧ sfe (by' s k) = false ∧ ∀ i, i < k → sfe (by' s i) = true := by
      have : ∀ n, n ≤ s.size → (∀ i, i < n → sfe (by' s i) = true) ∨ ∃ k, k < n ∧ sfe (by' s k) = false ∧ ∀ i, i < k → sfe (by' s i) = true := by
        intro n
        induction n with
        | zero => exact fun _ => .inl (by simp)
        | succ n ih =>
          intro hn
          rcases ih (by omega) with h1 | ⟨k, h1, h2, h3⟩
          · cases hb : sfe (by' s n) with
            | true =>
              refine .inl fun i hi => ?_
              rcases Nat.lt_succ_iff_lt_or_eq.1 hi with h2 | rfl
              · exact h1 i h2
              · exact hb
            | false => exact .inr ⟨n, by omega, hb, h1⟩
          · exact .inr ⟨k, by omega, h2, h3⟩
      rcases this s.size (Nat.le_refl _) with h1 | ⟨k, h1, h2, h3⟩
      · exact absurd h1 h
      · exact ⟨k, h1, h2, h3⟩
    obtain ⟨k, h1, h2, h3⟩ := hex
    exact escape_some s w hs k h1 h3 h2

theorem gjEscape_any (s : ByteArray) (w : World) (hs : s.size ≤ 8192) :
    Calls Tryz.prog 26 #[.string s] w fun e w' => e = .returned (.string (strOfNums (escI (bytesOf s)))) ∧ Below w.heap.size w w' := by
  go_enter Tryz.func26, Tryz.ntmps26
  go_wp2_with (go_at_call 64; refine (escape_any _ _ hs).mono ?_; rintro e w' ⟨rfl, hb⟩)
  go_ret
  exact ⟨rfl, hb⟩

/-- What the doors of parseObjectPath hand back. -/
def objTuple (part path pipe : ByteArray) (piped wild more : Bool) : Value :=
  .tuple #[.string part, .string path, .string pipe, .bool piped, .bool wild, .bool more]

set_option maxRecDepth 100000 in
theorem door_of (s part path pipe : ByteArray) (piped wild more : Bool) (w : World)
    (h : ∀ w, Calls Tryz.prog 108 #[.string s] w fun e w' => e = .returned (objPath part path pipe piped wild more) ∧ Below w.heap.size w w') :
    Calls Tryz.prog 65 #[.string s] w fun e w' => e = .returned (objTuple part path pipe piped wild more) ∧ Below w.heap.size w w' := by
  have H := Lib.hid h
  clear h
  unfold objPath at H
  go_enter Tryz.func65, Tryz.ntmps65
  go_wp2_with (go_at_call 108; refine (H.out _).mono ?_; rintro e w1 ⟨rfl, hb⟩; have HB := Lib.hid hb; clear hb)
  go_quiet (fail)
  go_wp2
  refine bodyPost_ret (v := objTuple part path pipe piped wild more) (by simp [objTuple, results, Tryz.results65, go_sem]) rfl ⟨rfl, ?_⟩
  exact pw_below_drewN (HB.out.alloc HB.out.size _) _

theorem gjObject_of (s part path pipe : ByteArray) (piped wild more : Bool) (w : World)
    (h : ∀ w, Calls Tryz.prog 108 #[.string s] w fun e w' => e = .returned (objPath part path pipe piped wild more) ∧ Below w.heap.size w w') :
    Calls Tryz.prog 27 #[.string s] w fun e w' => e = .returned (objTuple part path pipe piped wild more) ∧ Below w.heap.size w w' := by
  have H := Lib.hid fun w => door_of s part path pipe piped wild more w h
  clear h
  unfold objTuple at H
  go_enter Tryz.func27, Tryz.ntmps27
  go_wp2_with (go_at_call 65; refine (H.out _).mono ?_; rintro e w1 ⟨rfl, hb⟩; have HB := Lib.hid hb; clear hb)
  refine bodyPost_ret (v := objTuple part path pipe piped wild more) (by simp [objTuple, results, Tryz.results27, go_sem]) rfl ⟨rfl, ?_⟩
  exact HB.out
end Go.Proofs.YtelmpcjaiplooaaGreatDoor
