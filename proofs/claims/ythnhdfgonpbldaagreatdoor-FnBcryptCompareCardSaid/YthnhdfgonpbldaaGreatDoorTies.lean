/- The tie of each of the four rows to the program's own initialisers: by the walk of gosem.cut.vars, in the place of the given Tie text, whose run outgrows the memory lid. -/
import Derived.Test.YthnhdfgonpbldaaGreatDoorVars
import Derived.Test.YthnhdfgonpbldaaGreatDoorCards
import Derived.LaidByTextLater
import Derived.SevenTiedAt
namespace Go.Proofs.YthnhdfgonpbldaaGreatDoor
open Go Go.Great
def Great.nthD (i : Nat) : String × DataW Unit := Great.laidD.getD i ("", .nil)
theorem Great.laidD_is : Great.laidD = (List.range 13).map Great.nthD := by kernel_rfl
theorem Great.met_perm {l l' : List (String × DataW Unit)} (h : l.Perm l') {P : Program} {w : World} (m : laidMet P l w) : laidMet P l' w := by
  obtain ⟨ps, h1, h2, h3⟩ := m
  obtain ⟨ps', k1, k2⟩ := Lay.LaidVars_perm h h1
  exact ⟨ps', k1, k2.nodup_iff.1 h2, fun b off hp => h3 b off (k2.mem_iff.2 hp)⟩
theorem Great.met_order {l : List (String × DataW Unit)} {w : World} (o : List Nat) (h : l.filter (fun x => x.2.handleName?.isNone) = o.map Great.nthD) (ho : (List.range 13).Perm o)
    (hs : (l.filter fun x => x.2.handleName?.isSome) = [("errors.errorType", Rows.laid_errors_errorType)])
    (m : laidMet Tryz.prog Great.laidD w ∧ handleAtB Tryz.prog w ("errors.errorType", Rows.laid_errors_errorType) = true) : laidMetH Tryz.prog l w := by
  refine laidMetH_of_parts ?_ (by rw [hs]; simpa using m.2)
  rw [h]
  refine Great.met_perm (ho.map Great.nthD) ?_
  rw [← Great.laidD_is]
  exact m.1
theorem Great.vars_id : varsId Tryz.prog = 168 := by kernel_rfl
theorem Great.tie_of (l : List (String × DataW Unit)) (kinds : List LaidKind) (o : List Nat) (h : l.filter (fun x => x.2.handleName?.isNone) = o.map Great.nthD) (ho : (List.range 13).Perm o)
    (hs : (l.filter fun x => x.2.handleName?.isSome) = [("errors.errorType", Rows.laid_errors_errorType)])
    (hk : l.map (fun x => Tryz.prog.kindOfLater x.1) = kinds.map some) (hn : varsNamedLaterB Tryz.prog (varsId Tryz.prog) l = true) : Tryz.prog.laidByTextLater l kinds true :=
  Program.laidByTextLater_by_calls (by as_aux_lemma => kernel_rfl) (by as_aux_lemma => kernel_rfl) (by as_aux_lemma => kernel_rfl) hk (by as_aux_lemma => kernel_rfl) hn (by as_aux_lemma => kernel_rfl)
    fun os tape => by
      rw [Great.vars_id]
      refine (Great.vars_calls os tape).mono fun e w' hh => ⟨hh.1, ?_⟩
      have m := Great.met_order (w := w') o h ho hs hh.2
      exact laidMetH.of_heap (w := w') (w' := w'.memory) rfl m
theorem Great.noOwnUnsafe : Tryz.pinned.checked.prog.headLifts.contains "ownunsafe" = false := by kernel_rfl
theorem fnBcryptCompare_prog_tie : Tryz.prog.laidByTextLater Rows.fnBcryptCompareRow.laid [.data, .data, .data, .data, .data, .sentinel, .sentinel, .sentinel, .sentinel, .data, .data, .data, .data, .handle] true :=
  Great.tie_of _ _ [9, 5, 6, 7, 8, 10, 11, 4, 3, 2, 0, 1, 12] (by as_aux_lemma => kernel_rfl) (by decide) (by as_aux_lemma => kernel_rfl) (by as_aux_lemma => kernel_rfl) (by as_aux_lemma => kernel_rfl)
theorem fnBcryptCompare_my_tie : Rows.fnBcryptCompareRow.laidByTextAt .later Tryz.pinned [.data, .data, .data, .data, .data, .sentinel, .sentinel, .sentinel, .sentinel, .data, .data, .data, .data, .handle] true :=
  OpenClaim.laidByTextAt_later rfl rfl fnBcryptCompare_prog_tie Great.noOwnUnsafe
theorem fnBcryptOther_prog_tie : Tryz.prog.laidByTextLater Rows.fnBcryptOtherRow.laid [.data, .data, .data, .data, .data, .data, .sentinel, .sentinel, .sentinel, .sentinel, .data, .data, .data, .handle] true :=
  Great.tie_of _ _ [12, 9, 5, 6, 7, 8, 10, 11, 4, 3, 2, 0, 1] (by as_aux_lemma => kernel_rfl) (by decide) (by as_aux_lemma => kernel_rfl) (by as_aux_lemma => kernel_rfl) (by as_aux_lemma => kernel_rfl)
theorem fnBcryptOther_my_tie : Rows.fnBcryptOtherRow.laidByTextAt .later Tryz.pinned [.data, .data, .data, .data, .data, .data, .sentinel, .sentinel, .sentinel, .sentinel, .data, .data, .data, .handle] true :=
  OpenClaim.laidByTextAt_later rfl rfl fnBcryptOther_prog_tie Great.noOwnUnsafe
theorem fnBcryptRefuses_prog_tie : Tryz.prog.laidByTextLater Rows.fnBcryptRefusesRow.laid [.sentinel, .sentinel, .sentinel, .data, .data, .data, .sentinel, .handle, .data, .data, .data, .data, .data, .data] true :=
  Great.tie_of _ _ [11, 4, 3, 2, 0, 1, 10, 12, 9, 5, 6, 7, 8] (by as_aux_lemma => kernel_rfl) (by decide) (by as_aux_lemma => kernel_rfl) (by as_aux_lemma => kernel_rfl) (by as_aux_lemma => kernel_rfl)
theorem fnBcryptRefuses_my_tie : Rows.fnBcryptRefusesRow.laidByTextAt .later Tryz.pinned [.sentinel, .sentinel, .sentinel, .data, .data, .data, .sentinel, .handle, .data, .data, .data, .data, .data, .data] true :=
  OpenClaim.laidByTextAt_later rfl rfl fnBcryptRefuses_prog_tie Great.noOwnUnsafe
theorem fnBcryptMatches_prog_tie : Tryz.prog.laidByTextLater Rows.fnBcryptMatchesRow.laid [.data, .data, .data, .data, .data, .data, .sentinel, .sentinel, .sentinel, .data, .data, .data, .sentinel, .handle] true :=
  Great.tie_of _ _ [12, 9, 5, 6, 7, 8, 11, 4, 3, 2, 0, 1, 10] (by as_aux_lemma => kernel_rfl) (by decide) (by as_aux_lemma => kernel_rfl) (by as_aux_lemma => kernel_rfl) (by as_aux_lemma => kernel_rfl)
theorem fnBcryptMatches_my_tie : Rows.fnBcryptMatchesRow.laidByTextAt .later Tryz.pinned [.data, .data, .data, .data, .data, .data, .sentinel, .sentinel, .sentinel, .data, .data, .data, .sentinel, .handle] true :=
  OpenClaim.laidByTextAt_later rfl rfl fnBcryptMatches_prog_tie Great.noOwnUnsafe
#print axioms fnBcryptRefuses_my_tie
end Go.Proofs.YthnhdfgonpbldaaGreatDoor
