/- THE TIED CARD OF FnGjEscapeFirst: for every two strings the law answers true (its row's conditions: the listed package variables read as the program's text lays them; strings of at most 2^47 - 4096 bytes). -/
import Derived.Test.YtelmpcjaiplooaaGreatDoorWit
import Derived.Test.YtelmpcjaiplooaaGreatDoorEscLaw
set_option linter.unusedSimpArgs false
set_option linter.unusedVariables false
namespace Go.Proofs.YtelmpcjaiplooaaGreatDoor
open Go.ChangeShapes Go.WideShapes Go.ChangeAt Go.RowKit
open Go.ChangeMaps (open_string shut_string)

set_option maxRecDepth 100000 in
theorem esc_lifted (os : Os) (started : os.Started) (H : Type) (enc : TypeId × Value → H) :
    ReturnsInHanded {} Tryz.checked os 5 .any (fun w args => (Rows.fnGjEscapeFirstSpec.pre enc Tryz.prog Tryz.f5 Rows.fnGjEscapeFirstRow.domain false w args ∧ laidMetH Tryz.prog lst w) ∧ sizedMet enc Tryz.prog Tryz.f5 (OpenSpec.ofChange Rows.fnGjEscapeFirstSpec) false w args)
      (Rows.fnGjEscapeFirstSpec.post enc Tryz.prog Tryz.f5 false true false false) := by
  refine returnsInHanded_of_change_and (C := Tryz.checked) (X := fun w _ => laidMetH Tryz.prog lst w) (fun _ _ _ hh h => h.of_heap hh) own started (by kernel_rfl) Tryz.func5
    (ChangeSpec.witness_shaped (enc := enc) (C := Tryz.checked) (os := os) (X := fun w _ => laidMetH Tryz.prog lst w) false (witW os) #[.string ⟨#[]⟩, .string ⟨#[]⟩] 8 (World.laidAll_os _ _ _)
      (wit_shaped os _) (by kernel_rfl) (by kernel_rfl) (by kernel_rfl) (wit_laid os _)) ?_
  intro W base args ds gs before hval0 hW hc hsz0 hL _
  have hsz : (DataW.weightsEach Tryz.prog (Tryz.f5.params.toList ++ Rows.fnGjEscapeFirstSpec.plain.varTypes Tryz.prog) (ds ++ gs)).all (· ≤ reachBytes) = true := hsz0
  have hval : ∀ (j : Nat) t v, Tryz.f5.params[j]? = some t → args[j]? = some v → Value.okWide Tryz.prog W .any base t v := hval0
  have hW' := hW
  obtain ⟨p, q, hA0, hV, rfl, _, _⟩ := hW
  have hA : DataW.TrodAll enc Tryz.prog W 0 (fun _ => true) true Tryz.f5.params.toList args.toList ds p := hA0
  rw [Tryz.params5] at hA hval hsz
  obtain ⟨v0, v1, d0, d1, p0, p1, rfl, rfl, rfl, h0, h1⟩ := trodAll_two hA
  obtain ⟨rfl, rfl⟩ := trodVars_none hV
  obtain ⟨s0, rfl, rfl, rfl, ws0⟩ := open_string Tryz.underlying9 (hval 0 9 v0 rfl rfl) h0
  obtain ⟨s1, rfl, rfl, rfl, ws1⟩ := open_string Tryz.underlying9 (hval 1 9 v1 rfl rfl) h1
  have hb : s0.size ≤ 140737488351232 ∧ s1.size ≤ 140737488351232 := by
    simp only [List.cons_append, List.nil_append, DataW.weightsEach, DataW.weights, List.all_cons, Bool.and_eq_true, decide_eq_true_eq, reach_eq, str_len] at hsz
    exact ⟨of_decide_eq_true hsz.1, of_decide_eq_true hsz.2.1⟩
  simp only [List.append_nil] at hW'
  refine (escapeFirst_calls s0 s1 W hb.1 hb.2).mono fun e W' ⟨he, hg⟩ => ?_
  subst he
  exact ⟨_, rfl, post_law (pa := []) (pv := []) hW' (fun _ _ _ => trodAll_mk1 (shut_bool Tryz.underlying4 _)) (fun sp _ => trodAll_mk2 (shut_string Tryz.underlying9 ws0) (shut_string Tryz.underlying9 ws1)) (fun _ _ => rfl) rfl hg⟩

theorem esc_said : Rows.FnGjEscapeFirstSaid :=
  OpenClaim.holds_of_wide 5 Tryz.f5 rfl rfl rfl rfl rfl rfl rfl ⟨rfl, rfl, rfl, rfl, rfl⟩ rfl rfl rfl rfl rfl (by kernel_rfl) Tryz.func5 (by kernel_rfl)
    (of_decide_eq_true (by kernel_rfl)) (by unfold Func.isWrapper; first | (rw [if_pos (by decide +kernel)]; kernel_rfl) | (rw [if_neg (by decide +kernel)]; exact ⟨rfl, rfl⟩))
    (fun os started H enc _ => esc_lifted os started H enc)

theorem escapeFirst_card : Rows.FnGjEscapeFirstCardSaid :=
  Claim7.holds_tied_plain_at .later [] _ _ _ _ esc_said (fun _ h => by cases h) (by kernel_rfl) (fun _ h => by cases h) fnGjEscapeFirst_row_tie rfl ⟨rfl, rfl⟩ (by kernel_rfl) rfl
    (fun f fn hf hfn => by
      obtain rfl : f = 5 := Option.some.inj ((show Tryz.prog.funcNamed "pub-tetrapla/laws.FnGjEscapeFirst" = some 5 by kernel_rfl).symm.trans hf) |>.symm
      obtain rfl : fn = Tryz.f5 := (Option.some.inj (Tryz.func5.symm.trans hfn)).symm
      refine ⟨by kernel_rfl, fun j t ht => ?_⟩
      rw [Tryz.params5] at ht
      have hm : t ∈ [9, 9] := by simpa using Array.mem_of_getElem? ht
      obtain rfl : t = 9 := by simpa using hm
      exact (show Tryz.prog.wantsStandIn 9 = false by kernel_rfl))
    (by kernel_rfl)
#print axioms escapeFirst_card
end Go.Proofs.YtelmpcjaiplooaaGreatDoor
