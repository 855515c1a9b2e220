/- parseObjectPath of a component with a backslash: the component without the backslashes, and what stands behind it. -/
import Derived.Test.YtelmpcjaiplooaaGreatDoorObjA
set_option linter.unusedSimpArgs false
set_option linter.unusedVariables false
namespace Go.Proofs.YtelmpcjaiplooaaGreatDoor
open Go.RowKit Go.Proofs.YtelmpcjaiplooaaGreatDoorW.PrintWords

/-- A component as it is written: each byte as it stands, or behind a backslash. -/
def encI (l : List (Bool × Int)) : List Int := l.flatMap fun p => if p.1 then [92, p.2] else [p.2]
def keyI (l : List (Bool × Int)) : List Int := l.map (·.2)
def OkI (l : List (Bool × Int)) : Prop := ∀ p ∈ l, p.1 = false → Plain p.2.toNat

theorem encI_cons (p : Bool × Int) (l : List (Bool × Int)) : encI (p :: l) = (if p.1 then [92, p.2] else [p.2]) ++ encI l := by simp [encI]
theorem encI_append (a b : List (Bool × Int)) : encI (a ++ b) = encI a ++ encI b := by simp [encI]
theorem keyI_append (a b : List (Bool × Int)) : keyI (a ++ b) = keyI a ++ keyI b := by simp [keyI]
theorem keyI_length (a : List (Bool × Int)) : (keyI a).length = a.length := by simp [keyI]
theorem encI_ge (a : List (Bool × Int)) : a.length ≤ (encI a).length := by
  induction a with
  | nil => simp
  | cons p a ih => rw [encI_cons]; split <;> simp <;> omega

theorem by_of {s : ByteArray} {pre post : List Int} {c : Int} (h : bytesOf s = pre ++ c :: post) : pre.length < s.size ∧ (by' s pre.length : Int) = c := by
  have hl : (bytesOf s).length = s.size := bytesOf_length s
  rw [h] at hl
  simp at hl
  have h1 : pre.length < s.size := by omega
  refine ⟨h1, ?_⟩
  have hr := rd_bytesOf s pre.length
  unfold rd at hr
  rw [h] at hr
  simp at hr
  have := bt_range s pre.length
  unfold by'
  omega

/-- What comes behind a component that ends at n. -/
def tailRes (s : ByteArray) (n : Nat) (part : ByteArray) : Value :=
  if n = s.size then objPath part ⟨#[]⟩ ⟨#[]⟩ false false false
  else if by' s n = 46 then objPath part (s.extract (n + 1) s.size) ⟨#[]⟩ false false true
  else objPath part ⟨#[]⟩ (s.extract (n + 1) s.size) true false false
def TailOk (s : ByteArray) (n : Nat) : Prop := n = s.size ∨ (n < s.size ∧ by' s n = 46 ∧ Mild s (n + 1)) ∨ (n < s.size ∧ by' s n = 124)

/-- The result's place, new. -/
abbrev objObj : Obj := .cells #[.string ⟨#[]⟩, .string ⟨#[]⟩, .string ⟨#[]⟩, .bool false, .bool false, .bool false] 145 (0, 0)
theorem objCells {w wr : World} (h : Below (w.heap.size + 1) (w.alloc objObj) wr) :
    wr.cell? ⟨w.heap.size, 0, none⟩ = some (.string ⟨#[]⟩) ∧ wr.cell? ⟨w.heap.size, 1, none⟩ = some (.string ⟨#[]⟩) ∧ wr.cell? ⟨w.heap.size, 2, none⟩ = some (.string ⟨#[]⟩) ∧ wr.cell? ⟨w.heap.size, 3, none⟩ = some (.bool false) ∧ wr.cell? ⟨w.heap.size, 4, none⟩ = some (.bool false) ∧ wr.cell? ⟨w.heap.size, 5, none⟩ = some (.bool false) ∧ (∀ j, wr.frozen? ⟨w.heap.size, j, none⟩ = false) := by
  have hg : wr.heap[w.heap.size]? = some objObj := (h.block _ (by omega)).trans (heap_alloc_new w _)
  refine ⟨?_, ?_, ?_, ?_, ?_, ?_, fun j => ?_⟩ <;> simp [World.cell?, World.frozen?, hg]

theorem at_item {s : ByteArray} {P T : List Int} {suf : List (Bool × Int)} (hbs : bytesOf s = P ++ (encI suf ++ T)) (j : Nat) (hj : j < suf.length) :
    bytesOf s = (P ++ encI (suf.take j)) ++ ((if suf[j].1 then [92, suf[j].2] else [suf[j].2]) ++ (encI (suf.drop (j + 1)) ++ T)) := by
  have e : suf = suf.take j ++ suf[j] :: suf.drop (j + 1) := by rw [← List.drop_eq_getElem_cons hj, List.take_append_drop]
  have e2 : encI suf = encI (suf.take j) ++ ((if suf[j].1 then [92, suf[j].2] else [suf[j].2]) ++ encI (suf.drop (j + 1))) := by
    have e3 := congrArg encI e
    rw [encI_append, encI_cons] at e3
    exact e3
  rw [hbs, e2]
  simp only [List.append_assoc]
theorem encI_step {suf : List (Bool × Int)} (j : Nat) (hj : j < suf.length) : encI (suf.take (j + 1)) = encI (suf.take j) ++ (if suf[j].1 then [92, suf[j].2] else [suf[j].2]) := by
  rw [List.take_succ_eq_append_getElem hj, encI_append]
  congr 1
  simp [encI]
theorem keyI_step {suf : List (Bool × Int)} (j : Nat) (hj : j < suf.length) : keyI (suf.take (j + 1)) = keyI (suf.take j) ++ [suf[j].2] := by
  rw [List.take_succ_eq_append_getElem hj, keyI_append]
  rfl

set_option maxRecDepth 100000 in
set_option maxHeartbeats 4000000 in
theorem objB (s : ByteArray) (w : World) (hs : s.size ≤ 140737488351232) (pre : List Int) (c0 : Int) (suf : List (Bool × Int)) (T : List Int) (hbs : bytesOf s = pre ++ 92 :: c0 :: (encI suf ++ T))
    (hpre : ∀ c ∈ pre, Plain c.toNat) (hok : OkI suf) (hT : TailOk s (s.size - T.length)) :
    Calls Tryz.prog 108 #[.string s] w fun e w' => e = .returned (tailRes s (s.size - T.length) (strOfNums (pre ++ c0 :: keyI suf))) ∧ Below w.heap.size w w' := by
  have hlen : s.size = pre.length + 2 + (encI suf).length + T.length := by
    have := bytesOf_length s
    rw [hbs] at this
    simp at this
    omega
  have h92 := by_of hbs
  have hc0 := by_of (s := s) (pre := pre ++ [92]) (c := c0) (post := encI suf ++ T) (by rw [hbs]; simp)
  have hall : ∀ i, i < pre.length → Plain (by' s i) := fun i hi => by
    have e : pre = pre.take i ++ pre[i] :: pre.drop (i + 1) := by rw [← List.drop_eq_getElem_cons hi, List.take_append_drop]
    have h1 := by_of (s := s) (pre := pre.take i) (c := pre[i]) (post := pre.drop (i + 1) ++ 92 :: c0 :: (encI suf ++ T)) (by
      rw [hbs]
      have e2 := congrArg (fun l => l ++ 92 :: c0 :: (encI suf ++ T)) e
      simp only [List.append_assoc, List.cons_append] at e2
      exact e2)
    rw [List.length_take_of_le (by omega)] at h1
    have h2 := hpre pre[i] (by simp)
    rw [← h1.2] at h2
    simpa using h2
  have hn0 : pre.length < s.size := by omega
  have hext : bytesOf (s.extract 0 pre.length) = pre := by rw [bytesOf_take, hbs]; simp
  have H92 := Lib.hid h92
  have HC0 := Lib.hid hc0
  have HA := Lib.hid hall
  have HX := Lib.hid hext
  have HBS := Lib.hid hbs
  have HL := Lib.hid hlen
  have HT := Lib.hid hT
  clear h92 hc0 hall hext hbs hpre hlen hT
  generalize hn : pre.length = n0 at *
  have HN := Lib.hid hn
  clear hn
  go_enter Tryz.func108, Tryz.ntmps108
  go_wp2
  go_loop [3] (fun v => ∃ k : Nat, k ≤ n0 ∧ v = .int .i64 k) (fun v => s.size - (intOf v).toNat)
  case atStart => exact ⟨0, Nat.zero_le _, rfl⟩
  case round =>
    obtain ⟨k, hk, rfl⟩ := hrel
    by_cases hlt : k < n0
    · obtain ⟨e1, e2, e3, e4, e5⟩ := plain_tests (HA.out k hlt)
      have hlt2 : k < s.size := by omega
      have hb := by_at s k hlt2
      go_wp2
      go_round
      case rel => exact ⟨k + 1, by omega, by go_num⟩
      case measure => simp [intOf]; omega
    · obtain rfl : k = n0 := by omega
      clear HA hlt hk
      have hb := by_at s k hn0
      have h92' : by' s k = 92 := by have := H92.out.2; omega
      rw [h92'] at hb
      have hk1 : k + 1 < s.size := by have := HL.out; omega
      have hb1 := by_at s (k + 1) hk1
      clear h92'
      go_wp2_with (first | ((with_reducible refine gate_dst (N := 75) rfl ?_); refine wpList_conv_bytes (w0 := w.alloc objObj) (w.heap.size + 1) rfl _ 9 90 rfl Tryz.underlying9 Tryz.underlying90 Tryz.underlying5 (s.extract 0 k) (by rw [ByteArray.size_extract]; omega) (Below.refl _ _) (by simp) rfl ?_; intro v1 w1 HO1 HB1 hb1; rw [HX.out] at HO1; have HO := Aside0.mk HO1; have HB := Aside0.mk HB1; have hbs := Aside0.mk hb1; clear HO1 HB1 hb1) | (at_builtin; refine OwnB.append (w0 := w.alloc objObj) (w.heap.size + 1) rfl _ _ 90 rfl Tryz.underlying90 info5 _ _ _ HO.out HB.out hbs.out (by have := HL.out; have := HN.out; omega) rfl rfl ?_; intro v1 w2 HO1 HB1 hb1; clear HO HB hbs; have HO := Aside0.mk HO1; have HB := Aside0.mk HB1; have hbs := Aside0.mk hb1; clear HO1 HB1 hb1))
      have hc1 : (by' s (k + 1) : Int) = c0 := by have := HC0.out.2; rw [List.length_append, HN.out] at this; exact this
      have HC1 := Lib.hid hc1
      clear hc1 hb hb1 H92 HC0 HX
      go_loopg [3, 4] suf.length (fun gk v3 v4 wr => ∃ j p : Nat, Aside0 (gk + j = suf.length) ∧ Aside0 (p = k + 2 + (encI (suf.take j)).length) ∧ v3 = .int .i64 p ∧ Aside0 (OwnB wr (w.heap.size + 1) v4 (pre ++ c0 :: keyI (suf.take j))) ∧ Aside0 (Below (w.heap.size + 1) (w.alloc objObj) wr) ∧ Aside0 (w.heap.size + 1 ≤ wr.heap.size))
      case atStart => exact ⟨0, k + 2, ⟨by omega⟩, ⟨by simp [encI]⟩, by go_num, ⟨by rw [← HC1.out]; simpa [keyI] using HO.out⟩, HB, hbs⟩
      case round =>
        clear HO HB hbs HC1
        obtain ⟨j, p, hj, hp, rfl, HO, HB, hbs⟩ := hrel
        obtain ⟨q0, q1, q2, q3, q4, q5, q6⟩ := objCells HB.out
        have hlen2 : (encI (suf.take j)).length ≤ (encI suf).length := by
          conv => rhs; rw [← List.take_append_drop j suf, encI_append]
          simp
        have hkl : (keyI (suf.take j)).length ≤ (encI suf).length := by
          rw [keyI_length, List.length_take]
          have := encI_ge suf
          omega
        have hps : p ≤ s.size := by have := hp.out; have := HL.out; omega
        have HK : Aside0 ((pre ++ c0 :: keyI (suf.take j)).length + 1 ≤ 140737488355328) := ⟨by simp only [List.length_append, List.length_cons]; have := HN.out; have := HL.out; omega⟩
        by_cases hlt : j < suf.length
        · have hit := at_item (s := s) (P := pre ++ [92, c0]) (T := T) (suf := suf) (by rw [HBS.out]; simp) j hlt
          have hpl : ((pre ++ [92, c0]) ++ encI (suf.take j)).length = p := by have := hp.out; have := HN.out; simp; omega
          have HES := Lib.hid (encI_step (suf := suf) j hlt)
          have HKS := Lib.hid (keyI_step (suf := suf) j hlt)
          have hokj := hok suf[j] (by simp)
          cases hb : suf[j].1 with
          | true =>
            rw [hb] at hit
            simp only [if_true] at hit
            have f1 := by_of (s := s) (pre := (pre ++ [92, c0]) ++ encI (suf.take j)) (c := 92) (post := suf[j].2 :: (encI (suf.drop (j + 1)) ++ T)) (by rw [hit]; simp)
            have f2 := by_of (s := s) (pre := ((pre ++ [92, c0]) ++ encI (suf.take j)) ++ [92]) (c := suf[j].2) (post := (encI (suf.drop (j + 1)) ++ T)) (by rw [hit]; simp)
            rw [List.length_append, hpl] at f2
            rw [hpl] at f1
            obtain ⟨f1a, f1b⟩ := f1
            obtain ⟨f2a, f2b⟩ := f2
            have F2 := Lib.hid f2b
            have HBT := Lib.hid hb
            simp only [List.length_singleton] at f2a
            have g1 := by_at s p f1a
            have g2 := by_at s (p + 1) f2a
            have t1 : by' s p = 92 := by omega
            rw [t1] at g1
            clear f1b f2b t1 hb hokj hit hpl
            go_wp2_with (first | (at_builtin; refine OwnB.append (w0 := w.alloc objObj) (w.heap.size + 1) rfl _ _ 90 rfl Tryz.underlying90 info5 _ _ _ HO.out HB.out hbs.out (by have := HK.out; omega) rfl rfl ?_; intro v1 w2 HO1 HB1 hb1; clear HO HB hbs; have HO := Aside0.mk HO1; have HB := Aside0.mk HB1; have hbs := Aside0.mk hb1; clear HO1 HB1 hb1))
            go_roundg (gk - 1)
            case measure => have := hj.out; omega
            case rel => exact ⟨j + 1, p + 2, ⟨by have := hj.out; omega⟩, ⟨by rw [HES.out, HBT.out]; simp; have := hp.out; omega⟩, by go_num, ⟨by rw [HKS.out, ← F2.out]; simpa using HO.out⟩, HB, hbs⟩
          | false =>
            rw [hb] at hit
            simp only [Bool.false_eq_true, if_false] at hit
            have f1 := by_of (s := s) (pre := (pre ++ [92, c0]) ++ encI (suf.take j)) (c := suf[j].2) (post := (encI (suf.drop (j + 1)) ++ T)) (by rw [hit]; simp)
            rw [hpl] at f1
            obtain ⟨f1a, f1b⟩ := f1
            have F1 := Lib.hid f1b
            have HBT := Lib.hid hb
            obtain ⟨e1, e2, e3, e4, e5⟩ := plain_tests (show Plain (by' s p) by have := hokj hb; rw [← f1b] at this; simpa using this)
            have g1 := by_at s p f1a
            clear f1b hb hokj hit hpl
            go_wp2_with (first | (at_builtin; refine OwnB.append (w0 := w.alloc objObj) (w.heap.size + 1) rfl _ _ 90 rfl Tryz.underlying90 info5 _ _ _ HO.out HB.out hbs.out (by have := HK.out; omega) rfl rfl ?_; intro v1 w2 HO1 HB1 hb1; clear HO HB hbs; have HO := Aside0.mk HO1; have HB := Aside0.mk HB1; have hbs := Aside0.mk hb1; clear HO1 HB1 hb1))
            go_roundg (gk - 1)
            case measure => have := hj.out; omega
            case rel => exact ⟨j + 1, p + 1, ⟨by have := hj.out; omega⟩, ⟨by rw [HES.out, HBT.out]; simp; have := hp.out; omega⟩, by go_num, ⟨by rw [HKS.out, ← F1.out]; simpa using HO.out⟩, HB, hbs⟩
        · obtain rfl : j = suf.length := by have := hj.out; omega
          rw [List.take_length] at HO hp
          have hpn : p = s.size - T.length := by have := hp.out; have := HL.out; omega
          have HR : Aside0 (tailRes s (s.size - T.length) (strOfNums (pre ++ c0 :: keyI suf)) = tailRes s p (strOfNums (pre ++ c0 :: keyI suf))) := ⟨by rw [hpn]⟩
          have hT := HT.out
          rw [← hpn] at hT
          have hcv := OwnB.string (P := Tryz.prog) (dst := 9) Tryz.underlying90 Tryz.underlying5 Tryz.underlying9 HO.out
          clear HT hpn hj hp HBS hok hkl hlen2 HK
          have hbelow : Below w.heap.size w wr := ((Below.refl _ _).alloc (Nat.le_refl _) objObj).trans (HB.out.mono (by omega))
          have HBW := Aside0.mk hbelow
          clear hbelow HB
          rcases hT with hT | ⟨h1, h2, h3⟩ | ⟨h1, h2⟩
          · have HE : Aside0 (tailRes s p (strOfNums (pre ++ c0 :: keyI suf)) = objPath (strOfNums (pre ++ c0 :: keyI suf)) ⟨#[]⟩ ⟨#[]⟩ false false false) := ⟨by unfold tailRes; rw [if_pos hT]⟩
            have hnl : ¬ p < s.size := by omega
            clear hT
            go_wp2
            refine bodyPost_ret (v := objPath (strOfNums (pre ++ c0 :: keyI suf)) ⟨#[]⟩ ⟨#[]⟩ false false false) (by simp [objPath, results, Tryz.results108, go_sem, q0, q1, q2, q3, q4, q5]) rfl ⟨congrArg _ (HR.out.trans HE.out).symm, ?_⟩
            exact HBW.out.setCell (Nat.le_refl _) _
          · have HE : Aside0 (tailRes s p (strOfNums (pre ++ c0 :: keyI suf)) = objPath (strOfNums (pre ++ c0 :: keyI suf)) (s.extract (p + 1) s.size) ⟨#[]⟩ false false true) := ⟨by unfold tailRes; rw [if_neg (by omega), if_pos h2]⟩
            have hb := by_at s p h1
            rw [h2] at hb
            by_cases hl : p + 1 < s.size
            · obtain ⟨m1, m2, m3⟩ := h3 hl
              have HC := Lib.hid (fun W => dot_no (s.extract (p + 1) s.size) W (by rw [ByteArray.size_extract]; omega) (by rw [ByteArray.size_extract]; omega) (by rw [by_extract s (p + 1) 0 (by omega)]; exact m1) (by rw [by_extract s (p + 1) 0 (by omega)]; exact m2) (by rw [by_extract s (p + 1) 0 (by omega)]; exact m3))
              clear m1 m2 m3 h2 h3
              go_wp2_with (go_at_call 158; refine (HC.out _).mono ?_; rintro e w' ⟨rfl, rfl⟩)
              refine bodyPost_ret (v := objPath (strOfNums (pre ++ c0 :: keyI suf)) (s.extract (p + 1) s.size) ⟨#[]⟩ false false true) (by simp [objPath, results, Tryz.results108, go_sem, q0, q1, q2, q3, q4, q5]) rfl ⟨congrArg _ (HR.out.trans HE.out).symm, ?_⟩
              exact ((HBW.out.setCell (Nat.le_refl _) _).setCell (Nat.le_refl _) _).setCell (Nat.le_refl _) _
            · have hl2 : decide ((p : Int) < (s.size : Int) - 1) = false := by simp; omega
              clear h2 h3
              go_wp2
              refine bodyPost_ret (v := objPath (strOfNums (pre ++ c0 :: keyI suf)) (s.extract (p + 1) s.size) ⟨#[]⟩ false false true) (by simp [objPath, results, Tryz.results108, go_sem, q0, q1, q2, q3, q4, q5]) rfl ⟨congrArg _ (HR.out.trans HE.out).symm, ?_⟩
              exact ((HBW.out.setCell (Nat.le_refl _) _).setCell (Nat.le_refl _) _).setCell (Nat.le_refl _) _
          · have HE : Aside0 (tailRes s p (strOfNums (pre ++ c0 :: keyI suf)) = objPath (strOfNums (pre ++ c0 :: keyI suf)) ⟨#[]⟩ (s.extract (p + 1) s.size) true false false) := ⟨by unfold tailRes; rw [if_neg (by omega), if_neg (by omega)]⟩
            have hb := by_at s p h1
            rw [h2] at hb
            clear h2
            go_wp2
            refine bodyPost_ret (v := objPath (strOfNums (pre ++ c0 :: keyI suf)) ⟨#[]⟩ (s.extract (p + 1) s.size) true false false) (by simp [objPath, results, Tryz.results108, go_sem, q0, q1, q2, q3, q4, q5]) rfl ⟨congrArg _ (HR.out.trans HE.out).symm, ?_⟩
            exact ((HBW.out.setCell (Nat.le_refl _) _).setCell (Nat.le_refl _) _).setCell (Nat.le_refl _) _
end Go.Proofs.YtelmpcjaiplooaaGreatDoor
