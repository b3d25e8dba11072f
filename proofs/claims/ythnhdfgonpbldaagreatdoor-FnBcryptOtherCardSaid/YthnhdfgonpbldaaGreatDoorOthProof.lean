/- The row FnBcryptOther, proved: the law's walk lifted to the row, and the card with my own tie. -/
import Derived.Test.YthnhdfgonpbldaaGreatDoorArgs
import Derived.Test.YthnhdfgonpbldaaGreatDoorOthLaw
import Derived.Test.YthnhdfgonpbldaaGreatDoorChecked
import Derived.ChangeSame
import Derived.ChangeVars
import Derived.JoinedOf
import Derived.RowKit
import Derived.LaidHandle
import Derived.Stop.Joined
import Derived.OpenShut
namespace Go.Proofs.YthnhdfgonpbldaaGreatDoor
open Go.RowKit Go.Great Go.ChangeShapes Go.WideShapes
theorem params4' : Tryz.f4.params = #[22, 22, 3, 38] := by kernel_rfl
set_option maxRecDepth 100000 in
theorem other_lifted (os : Os) (started : os.Started) (H : Type) (enc : TypeId × Value → H) :
    ReturnsInHanded {} Tryz.checked os 4 .any (fun w args => (Rows.fnBcryptOtherSpec.pre enc Tryz.prog Tryz.f4 [] false w args ∧ laidMetH Tryz.prog Rows.fnBcryptOtherRow.laid w) ∧ sizedMet enc Tryz.prog Tryz.f4 (OpenSpec.ofChange Rows.fnBcryptOtherSpec) false w args)
      (Rows.fnBcryptOtherSpec.post enc Tryz.prog Tryz.f4 false true false false) := by
  refine returnsInHanded_of_change_and (C := Tryz.checked) (X := fun w _ => laidMetH Tryz.prog Rows.fnBcryptOtherRow.laid w) (fun _ _ _ hh h => h.of_heap hh) own started (by kernel_rfl) Tryz.func4
    (ChangeSpec.witness_shaped (enc := enc) (C := Tryz.checked) (os := os) (X := fun w _ => laidMetH Tryz.prog Rows.fnBcryptOtherRow.laid w) false (laidW os) #[.slice none 0 0, .slice none 0 0, .int .i64 0, .agg #[.int .u8 0, .int .u8 0, .int .u8 0, .int .u8 0, .int .u8 0, .int .u8 0, .int .u8 0, .int .u8 0, .int .u8 0, .int .u8 0, .int .u8 0, .int .u8 0, .int .u8 0, .int .u8 0, .int .u8 0, .int .u8 0]] 8 (laidW_os _)
      (laidW_shaped _ _) (by as_aux_lemma => kernel_rfl) (by as_aux_lemma => kernel_rfl) (by as_aux_lemma => kernel_rfl)
      (laidW_met [12, 9, 5, 6, 7, 8, 10, 11, 4, 3, 2, 0, 1] (by as_aux_lemma => kernel_rfl) (by decide) (by as_aux_lemma => kernel_rfl) _ _)) ?_
  intro W base args ds gs before hval0 hW _ _ hL _
  have hval : ∀ (j : Nat) t v, Tryz.f4.params[j]? = some t → args[j]? = some v → Value.okWide Tryz.prog W .any base t v := hval0
  have hW' := hW
  obtain ⟨p, q, hA0, hV, rfl, hfz, hnd⟩ := hW
  have hA : DataW.TrodAll enc Tryz.prog W 0 (fun _ => true) true Tryz.f4.params.toList args.toList ds p := hA0
  rw [params4'] at hA hval
  obtain ⟨v0, v3, v1, v2, d0, d3, d1, d2, p0, p3, p1, p2, rfl, rfl, rfl, h0, h3, h1, h2⟩ := trodAll_four hA
  obtain ⟨rfl, rfl⟩ := trodVars_none hV
  simp only [List.append_nil] at hW'
  rw [List.append_assoc, List.append_assoc] at hW'
  have lt : ∀ x ∈ p0 ++ (p3 ++ (p1 ++ p2)), x.block < W.heap.size := fun x hx => hW'.lt x hx
  obtain ⟨a0, n0, c0, rfl⟩ := okWide_slice Tryz.underlying22 (hval 0 22 v0 rfl rfl)
  obtain ⟨a3, n3, c3, rfl⟩ := okWide_slice Tryz.underlying22 (hval 1 22 v3 rfl rfl)
  obtain ⟨k, rfl⟩ := okWide_int Tryz.underlying3 (hval 2 3 v1 rfl rfl)
  obtain ⟨xs, rfl, hxs⟩ := okWide38 (hval 3 38 v2 rfl rfl)
  obtain ⟨m, h7⟩ := data_of [12, 9, 5, 6, 7, 8, 10, 11, 4, 3, 2, 0, 1] (by as_aux_lemma => kernel_rfl) (by decide) (by as_aux_lemma => kernel_rfl) hL
  obtain ⟨s0, s1, dat⟩ := data_all m h7
  obtain ⟨pw, hpw, pass⟩ := pass_of h0
  obtain ⟨po, hpo, qass⟩ := pass_of h3
  obtain ⟨sl, hsl, hsb, hsx⟩ := salt_of hxs h2
  subst hpw
  subst hpo
  subst hsx
  refine (other_any tabT pw po a0 a3 c0 c3 k sl s0 s1 W hsl hsb dat pass qass).mono fun e W' ⟨he, hb⟩ => ?_
  subst he
  have r22 : Tryz.prog.readableRec 22 = true := by kernel_rfl
  have r3 : Tryz.prog.readableRec 3 = true := by kernel_rfl
  have r38 : Tryz.prog.readableRec 38 = true := by kernel_rfl
  have z22 : 22 < Tryz.prog.types.size := of_decide_eq_true (by kernel_rfl)
  have z3 : 3 < Tryz.prog.types.size := of_decide_eq_true (by kernel_rfl)
  have z38 : 38 < Tryz.prog.types.size := of_decide_eq_true (by kernel_rfl)
  exact ⟨_, rfl, _, _, _, [], p0 ++ (p3 ++ (p1 ++ p2)), [], hW', trodAll_mk1 (shut_bool Tryz.underlying4 true),
    trodAll_mk4 (Below.trod laidOut r22 z22 h0 hb fun x hx => lt x (List.mem_append_left _ hx)) (Below.trod laidOut r22 z22 h3 hb fun x hx => lt x (List.mem_append_right _ (List.mem_append_left _ hx)))
      (Below.trod laidOut r3 z3 h1 hb fun x hx => lt x (List.mem_append_right _ (List.mem_append_right _ (List.mem_append_left _ hx))))
      (Below.trod laidOut r38 z38 h2 hb fun x hx => lt x (List.mem_append_right _ (List.mem_append_right _ (List.mem_append_right _ hx)))), rfl, hb.frame _, fun h => by cases h⟩
theorem other_holds : Rows.FnBcryptOtherSaid :=
  OpenClaim.holds_of_wide 4 Tryz.f4 rfl rfl rfl rfl rfl rfl rfl ⟨rfl, rfl, rfl, rfl, rfl⟩ rfl rfl rfl rfl rfl (by kernel_rfl) Tryz.func4 (by kernel_rfl)
    (of_decide_eq_true (by kernel_rfl)) (by unfold Func.isWrapper; first | (rw [if_pos (by decide +kernel)]; kernel_rfl) | (rw [if_neg (by decide +kernel)]; exact ⟨rfl, rfl⟩))
    (fun os started H enc _ => other_lifted os started H enc)
theorem other_card : Rows.FnBcryptOtherCardSaid :=
  Claim7.holds_tied_plain_at .later [] [.data, .data, .data, .data, .data, .data, .sentinel, .sentinel, .sentinel, .sentinel, .data, .data, .data, .handle] true (true, "73b7133eb6d8d7ad557006580b115f19d52fd1509f78f946d701756d158b52d2") true
    other_holds (fun _ h => by cases h) (by kernel_rfl) (fun _ h => by cases h) fnBcryptOther_my_tie rfl ⟨rfl, rfl⟩ (by kernel_rfl) rfl
    (fun f fn hf hfn => by
      obtain rfl : f = 4 := Option.some.inj ((show Tryz.prog.funcNamed "pub-wardkeep/laws.FnBcryptOther" = some 4 by kernel_rfl).symm.trans hf) |>.symm
      obtain rfl : fn = Tryz.f4 := (Option.some.inj (Tryz.func4.symm.trans hfn)).symm
      exact ⟨by kernel_rfl, fun j t ht => by
        rw [params4'] at ht
        have hm : t ∈ [22, 22, 3, 38] := by simpa using Array.mem_of_getElem? ht
        have hall : ([22, 22, 3, 38].all fun u => !Tryz.prog.wantsStandIn u) = true := by kernel_rfl
        exact (show Tryz.prog.wantsStandIn t = false by simpa using List.all_eq_true.1 hall t hm)⟩)
    (by kernel_rfl)
#print axioms other_card
end Go.Proofs.YthnhdfgonpbldaaGreatDoor
