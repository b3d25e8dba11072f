/- The row FnBcryptCompare, proved: the law's walk lifted to the row, and the card with my own tie. -/
import Derived.Test.YthnhdfgonpbldaaGreatDoorArgs
import Derived.Test.YthnhdfgonpbldaaGreatDoorComE
import Derived.Test.YthnhdfgonpbldaaGreatDoorChecked
import Derived.ChangeSame
import Derived.ChangeVars
import Derived.JoinedOf
import Derived.RowKit
import Derived.LaidHandle
import Derived.Stop.Joined
import Derived.OpenShut
namespace Go.Proofs.YthnhdfgonpbldaaGreatDoor
open Go.RowKit Go.Great Go.ChangeShapes Go.WideShapes
theorem params3' : Tryz.f3.params = #[22, 22] := by kernel_rfl
/-- A slice of bytes as a hash. -/
theorem hash_of {H : Type} {enc : TypeId × Value → H} {w : World} {a : Option Addr} {n c : Nat} {d : DataW H} {p : List MemPlace} (h : DataW.Trod enc Tryz.prog w 0 (fun _ => true) true 22 (.slice a n c) d p) : ∃ hl : List Nat, hl.length = n ∧ HashAt w a c hl := by
  obtain ⟨hl, e, q⟩ := pass_of h
  refine ⟨hl, e, fun h0 => ?_, fun i => getD_lt q.lt i, q.cap, q.cap2⟩
  obtain ⟨b, o, ha, _⟩ := bytes_of h (by omega)
  refine ⟨b, o, ha, fun i hi => ?_⟩
  have := q.at'.2 _ ha i hi
  rw [addr_add] at this
  exact this
set_option maxRecDepth 100000 in
theorem compare_lifted (os : Os) (started : os.Started) (H : Type) (enc : TypeId × Value → H) :
    ReturnsInHanded {} Tryz.checked os 3 .any (fun w args => (Rows.fnBcryptCompareSpec.pre enc Tryz.prog Tryz.f3 [] false w args ∧ laidMetH Tryz.prog Rows.fnBcryptCompareRow.laid w) ∧ sizedMet enc Tryz.prog Tryz.f3 (OpenSpec.ofChange Rows.fnBcryptCompareSpec) false w args)
      (Rows.fnBcryptCompareSpec.post enc Tryz.prog Tryz.f3 false true false false) := by
  refine returnsInHanded_of_change_and (C := Tryz.checked) (X := fun w _ => laidMetH Tryz.prog Rows.fnBcryptCompareRow.laid w) (fun _ _ _ hh h => h.of_heap hh) own started (by kernel_rfl) Tryz.func3
    (ChangeSpec.witness_shaped (enc := enc) (C := Tryz.checked) (os := os) (X := fun w _ => laidMetH Tryz.prog Rows.fnBcryptCompareRow.laid w) false (laidW os) #[.slice none 0 0, .slice none 0 0] 8 (laidW_os _)
      (laidW_shaped _ _) (by as_aux_lemma => kernel_rfl) (by as_aux_lemma => kernel_rfl) (by as_aux_lemma => kernel_rfl)
      (laidW_met [9, 5, 6, 7, 8, 10, 11, 4, 3, 2, 0, 1, 12] (by as_aux_lemma => kernel_rfl) (by decide) (by as_aux_lemma => kernel_rfl) _ _)) ?_
  intro W base args ds gs before hval0 hW _ _ hL _
  have hval : ∀ (j : Nat) t v, Tryz.f3.params[j]? = some t → args[j]? = some v → Value.okWide Tryz.prog W .any base t v := hval0
  have hW' := hW
  obtain ⟨p, q, hA0, hV, rfl, hfz, hnd⟩ := hW
  have hA : DataW.TrodAll enc Tryz.prog W 0 (fun _ => true) true Tryz.f3.params.toList args.toList ds p := hA0
  rw [params3'] at hA hval
  obtain ⟨v0, v1, d0, d1, p0, p1, rfl, rfl, rfl, h0, h1⟩ := trodAll_two hA
  obtain ⟨rfl, rfl⟩ := trodVars_none hV
  simp only [List.append_nil] at hW'
  have lt : ∀ x ∈ p0 ++ p1, x.block < W.heap.size := fun x hx => hW'.lt x hx
  obtain ⟨a0, n0, c0, rfl⟩ := okWide_slice Tryz.underlying22 (hval 0 22 v0 rfl rfl)
  obtain ⟨a1, n1, c1, rfl⟩ := okWide_slice Tryz.underlying22 (hval 1 22 v1 rfl rfl)
  obtain ⟨m, h7⟩ := data_of [9, 5, 6, 7, 8, 10, 11, 4, 3, 2, 0, 1, 12] (by as_aux_lemma => kernel_rfl) (by decide) (by as_aux_lemma => kernel_rfl) hL
  obtain ⟨s0, s1, dat⟩ := data_all m h7
  obtain ⟨hl, hash⟩ := hash_of h0
  obtain ⟨pw, hpw, pass⟩ := pass_of h1
  obtain ⟨hhl, hash⟩ := hash
  subst hhl
  subst hpw
  refine (compare_any tabT pw a1 c1 hl a0 c0 s0 s1 W dat pass hash).mono fun e W' ⟨he, hb⟩ => ?_
  subst he
  have hrec : Tryz.prog.readableRec 22 = true := by kernel_rfl
  have hsz : 22 < Tryz.prog.types.size := of_decide_eq_true (by kernel_rfl)
  exact ⟨_, rfl, _, _, _, [], p0 ++ p1, [], hW', trodAll_mk1 (shut_bool Tryz.underlying4 true),
    trodAll_mk2 (Below.trod laidOut hrec hsz h0 hb fun x hx => lt x (List.mem_append_left _ hx)) (Below.trod laidOut hrec hsz h1 hb fun x hx => lt x (List.mem_append_right _ hx)), rfl, hb.frame _, fun h => by cases h⟩
theorem compare_holds : Rows.FnBcryptCompareSaid :=
  OpenClaim.holds_of_wide 3 Tryz.f3 rfl rfl rfl rfl rfl rfl rfl ⟨rfl, rfl, rfl, rfl, rfl⟩ rfl rfl rfl rfl rfl (by kernel_rfl) Tryz.func3 (by kernel_rfl)
    (of_decide_eq_true (by kernel_rfl)) (by unfold Func.isWrapper; first | (rw [if_pos (by decide +kernel)]; kernel_rfl) | (rw [if_neg (by decide +kernel)]; exact ⟨rfl, rfl⟩))
    (fun os started H enc _ => compare_lifted os started H enc)
theorem compare_card : Rows.FnBcryptCompareCardSaid :=
  Claim7.holds_tied_plain_at .later [] [.data, .data, .data, .data, .data, .sentinel, .sentinel, .sentinel, .sentinel, .data, .data, .data, .data, .handle] true (true, "73b7133eb6d8d7ad557006580b115f19d52fd1509f78f946d701756d158b52d2") true
    compare_holds (fun _ h => by cases h) (by kernel_rfl) (fun _ h => by cases h) fnBcryptCompare_my_tie rfl ⟨rfl, rfl⟩ (by kernel_rfl) rfl
    (fun f fn hf hfn => by
      obtain rfl : f = 3 := Option.some.inj ((show Tryz.prog.funcNamed "pub-wardkeep/laws.FnBcryptCompare" = some 3 by kernel_rfl).symm.trans hf) |>.symm
      obtain rfl : fn = Tryz.f3 := (Option.some.inj (Tryz.func3.symm.trans hfn)).symm
      exact ⟨by kernel_rfl, fun j t ht => by
        rw [params3'] at ht
        have hm : t ∈ [22] := by simpa using Array.mem_of_getElem? ht
        have hall : ([22].all fun u => !Tryz.prog.wantsStandIn u) = true := by kernel_rfl
        exact (show Tryz.prog.wantsStandIn t = false by simpa using List.all_eq_true.1 hall t hm)⟩)
    (by kernel_rfl)
#print axioms compare_card
end Go.Proofs.YthnhdfgonpbldaaGreatDoor
