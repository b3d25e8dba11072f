/- The row FnBcryptRefuses, proved: the law's walk lifted to the row, and the card with my own tie. -/
import Derived.Test.YthnhdfgonpbldaaGreatDoorWit
import Derived.Test.YthnhdfgonpbldaaGreatDoorRefLaw
import Derived.Test.YthnhdfgonpbldaaGreatDoorChecked
import Derived.ChangeSame
import Derived.ChangeVars
import Derived.JoinedOf
import Derived.RowKit
import Derived.LaidHandle
import Derived.Stop.Joined
import Derived.OpenShut
namespace Go.Proofs.YthnhdfgonpbldaaGreatDoor
open Go.RowKit Go.Great Go.ChangeShapes Go.WideShapes
theorem params5' : Tryz.f5.params = #[22, 22] := by kernel_rfl
set_option maxRecDepth 100000 in
theorem refuses_lifted (os : Os) (started : os.Started) (H : Type) (enc : TypeId × Value → H) :
    ReturnsInHanded {} Tryz.checked os 5 .any (fun w args => (Rows.fnBcryptRefusesSpec.pre enc Tryz.prog Tryz.f5 [] false w args ∧ laidMetH Tryz.prog Rows.fnBcryptRefusesRow.laid w) ∧ sizedMet enc Tryz.prog Tryz.f5 (OpenSpec.ofChange Rows.fnBcryptRefusesSpec) false w args)
      (Rows.fnBcryptRefusesSpec.post enc Tryz.prog Tryz.f5 false true false false) := by
  refine returnsInHanded_of_change_and (C := Tryz.checked) (X := fun w _ => laidMetH Tryz.prog Rows.fnBcryptRefusesRow.laid w) (fun _ _ _ hh h => h.of_heap hh) own started (by kernel_rfl) Tryz.func5
    (ChangeSpec.witness_shaped (enc := enc) (C := Tryz.checked) (os := os) (X := fun w _ => laidMetH Tryz.prog Rows.fnBcryptRefusesRow.laid w) false (laidW os) #[.slice none 0 0, .slice none 0 0] 8 (laidW_os _)
      (laidW_shaped _ _) (by as_aux_lemma => kernel_rfl) (by as_aux_lemma => kernel_rfl) (by as_aux_lemma => kernel_rfl)
      (laidW_met [11, 4, 3, 2, 0, 1, 10, 12, 9, 5, 6, 7, 8] (by as_aux_lemma => kernel_rfl) (by decide) (by as_aux_lemma => kernel_rfl) _ _)) ?_
  intro W base args ds gs before hval0 hW _ _ hL _
  have hval : ∀ (j : Nat) t v, Tryz.f5.params[j]? = some t → args[j]? = some v → Value.okWide Tryz.prog W .any base t v := hval0
  have hW' := hW
  obtain ⟨p, q, hA0, hV, rfl, hfz, hnd⟩ := hW
  have hA : DataW.TrodAll enc Tryz.prog W 0 (fun _ => true) true Tryz.f5.params.toList args.toList ds p := hA0
  rw [params5'] at hA hval
  obtain ⟨v0, v1, d0, d1, p0, p1, rfl, rfl, rfl, h0, h1⟩ := trodAll_two hA
  obtain ⟨rfl, rfl⟩ := trodVars_none hV
  simp only [List.append_nil] at hW'
  have lt : ∀ x ∈ p0 ++ p1, x.block < W.heap.size := fun x hx => hW'.lt x hx
  obtain ⟨a0, n0, c0, rfl⟩ := okWide_slice Tryz.underlying22 (hval 0 22 v0 rfl rfl)
  obtain ⟨a1, n1, c1, rfl⟩ := okWide_slice Tryz.underlying22 (hval 1 22 v1 rfl rfl)
  obtain ⟨m, h7⟩ := data_of [11, 4, 3, 2, 0, 1, 10, 12, 9, 5, 6, 7, 8] (by as_aux_lemma => kernel_rfl) (by decide) (by as_aux_lemma => kernel_rfl) hL
  obtain ⟨s0, s1, s⟩ := sen_of m h7
  refine (refuses_any a0 n0 c0 a1 n1 c1 s0 s1 W s (bytes_of h0)).mono fun e W' ⟨he, hb⟩ => ?_
  subst he
  have hrec : Tryz.prog.readableRec 22 = true := by kernel_rfl
  have hsz : 22 < Tryz.prog.types.size := of_decide_eq_true (by kernel_rfl)
  exact ⟨_, rfl, _, _, _, [], p0 ++ p1, [], hW', trodAll_mk1 (shut_bool Tryz.underlying4 true),
    trodAll_mk2 (Below.trod laidOut hrec hsz h0 hb fun x hx => lt x (List.mem_append_left _ hx)) (Below.trod laidOut hrec hsz h1 hb fun x hx => lt x (List.mem_append_right _ hx)), rfl, hb.frame _, fun h => by cases h⟩
theorem refuses_holds : Rows.FnBcryptRefusesSaid :=
  OpenClaim.holds_of_wide 5 Tryz.f5 rfl rfl rfl rfl rfl rfl rfl ⟨rfl, rfl, rfl, rfl, rfl⟩ rfl rfl rfl rfl rfl (by kernel_rfl) Tryz.func5 (by kernel_rfl)
    (of_decide_eq_true (by kernel_rfl)) (by unfold Func.isWrapper; first | (rw [if_pos (by decide +kernel)]; kernel_rfl) | (rw [if_neg (by decide +kernel)]; exact ⟨rfl, rfl⟩))
    (fun os started H enc _ => refuses_lifted os started H enc)
theorem refuses_card : Rows.FnBcryptRefusesCardSaid :=
  Claim7.holds_tied_plain_at .later [] [.sentinel, .sentinel, .sentinel, .data, .data, .data, .sentinel, .handle, .data, .data, .data, .data, .data, .data] true (true, "73b7133eb6d8d7ad557006580b115f19d52fd1509f78f946d701756d158b52d2") true
    refuses_holds (fun _ h => by cases h) (by kernel_rfl) (fun _ h => by cases h) fnBcryptRefuses_my_tie rfl ⟨rfl, rfl⟩ (by kernel_rfl) rfl
    (fun f fn hf hfn => by
      obtain rfl : f = 5 := Option.some.inj ((show Tryz.prog.funcNamed "pub-wardkeep/laws.FnBcryptRefuses" = some 5 by kernel_rfl).symm.trans hf) |>.symm
      obtain rfl : fn = Tryz.f5 := (Option.some.inj (Tryz.func5.symm.trans hfn)).symm
      exact ⟨by kernel_rfl, fun j t ht => by
        rw [params5'] at ht
        have hm : t ∈ [22] := by simpa using Array.mem_of_getElem? ht
        have hall : ([22].all fun u => !Tryz.prog.wantsStandIn u) = true := by kernel_rfl
        exact (show Tryz.prog.wantsStandIn t = false by simpa using List.all_eq_true.1 hall t hm)⟩)
    (by kernel_rfl)
#print axioms refuses_card
end Go.Proofs.YthnhdfgonpbldaaGreatDoor
