/- A world that meets the rows' conditions (the witness), and what the conditions give a walk: the two sentinels and the type's handle. -/
import Derived.Test.YthnhdfgonpbldaaGreatDoorTies
import Derived.Test.YthnhdfgonpbldaaGreatDoorKind
import Derived.LaidLaws
import Derived.LaidMore
import Derived.Lay
import Derived.Lib.LaidU8
import Derived.Stop.LaidErr
import Derived.Carry
namespace Go.Proofs.YthnhdfgonpbldaaGreatDoor
open Go.RowKit Go.Great Go.ChangeShapes
theorem own : ownKnob Tryz.prog.godebug = none := by kernel_rfl
theorem laidOut : laidOutB Tryz.prog = true := by kernel_rfl
theorem cells5' : Tryz.prog.cellsOf 5 = 1 := by kernel_rfl
theorem g0 : Tryz.prog.globalNamed "pub-wardkeep/pub/crypto/bcrypt.ErrMismatchedHashAndPassword" = some 0 := by kernel_rfl
theorem g1 : Tryz.prog.globalNamed "pub-wardkeep/pub/crypto/bcrypt.ErrHashTooShort" = some 1 := by kernel_rfl
theorem g7 : Tryz.prog.globalNamed "errors.errorType" = some 7 := by kernel_rfl
theorem gt0 : (Tryz.prog.globals[0]?).map (·.type) = some 54 := by kernel_rfl
theorem gt1 : (Tryz.prog.globals[1]?).map (·.type) = some 54 := by kernel_rfl
theorem rt : (Tryz.prog.cutTypes.find? (·.1 == "internal/reflectlite.rtype")).map (·.2) = some 111 := by kernel_rfl
theorem typesSize : ∃ n, Tryz.prog.types.size = n ∧ ((List.range n).filter fun t => Tryz.prog.rowNamed t [101, 114, 114, 111, 114]) = [54] ∧ ((List.range n).filter fun t => Tryz.prog.typeName? 3 t == some "*errors.errorString") = [180] := ⟨_, rfl, by kernel_rfl, by kernel_rfl⟩
theorem handle_cell {w : World} (h : handlesMet Tryz.prog [("errors.errorType", Rows.laid_errors_errorType)] w) : w.cell? ⟨7, 0, none⟩ = some (.iface 111 (.agg #[.pointer (some ⟨14, 54, none⟩)])) := by
  have h1 := h _ (List.mem_singleton.2 rfl)
  obtain ⟨name, u, ty, e1, e2, e3, e4, e5⟩ : ∃ name u ty, (Rows.laid_errors_errorType : DataW Unit).handleName? = some name ∧ (Tryz.prog.cutTypes.find? (·.1 == "internal/reflectlite.rtype")).map (·.2) = some u ∧ ty < Tryz.prog.types.size ∧ Tryz.prog.rowNamed ty name = true ∧
      w.var? Tryz.prog "errors.errorType" = some #[.iface u (.agg #[typeHandle Tryz.prog ty])] := h1
  have en : name = [101, 114, 114, 111, 114] := (Option.some.inj e1).symm
  subst en
  obtain rfl := Option.some.inj (rt.symm.trans e2)
  obtain ⟨n, hn, hrow, _⟩ := typesSize
  have hm : ty ∈ (List.range n).filter fun t => Tryz.prog.rowNamed t [101, 114, 114, 111, 114] := List.mem_filter.2 ⟨List.mem_range.2 (by rw [← hn]; exact e3), e4⟩
  rw [hrow] at hm
  obtain rfl := List.mem_singleton.1 hm
  have hh : typeHandle Tryz.prog 54 = .pointer (some ⟨14, 54, none⟩) := by kernel_rfl
  rw [hh] at e5
  simpa using World.var?_cell g7 e5 0
theorem parts_of {P : Program} {l : List (String × DataW Unit)} {w : World} {x : String × DataW Unit} (hs : (l.filter fun x => x.2.handleName?.isSome) = [x]) (h : laidMetH P l w) :
    laidMet P (l.filter fun x => x.2.handleName?.isNone) w ∧ handlesMet P [x] w := by
  unfold laidMetH at h
  rw [hs] at h
  exact h
theorem data_of {l : List (String × DataW Unit)} {w : World} (o : List Nat) (h : l.filter (fun x => x.2.handleName?.isNone) = o.map Great.nthD) (ho : (List.range 13).Perm o)
    (hs : (l.filter fun x => x.2.handleName?.isSome) = [("errors.errorType", Rows.laid_errors_errorType)]) (m : laidMetH Tryz.prog l w) :
    laidMet Tryz.prog Great.laidD w ∧ w.cell? ⟨7, 0, none⟩ = some (.iface 111 (.agg #[.pointer (some ⟨14, 54, none⟩)])) := by
  have p := parts_of hs m
  refine ⟨?_, handle_cell p.2⟩
  have q := p.1
  rw [h] at q
  rw [Great.laidD_is]
  exact Great.met_perm (ho.map Great.nthD).symm q
theorem star : "*" ++ "errors.errorString" = "*errors.errorString" := by decide
theorem row180 (u : TypeId) (h : Tryz.prog.typeName? 3 u = some "*errors.errorString") : u = 180 :=
  typeName_ptr_named (nm := "errors.errorString") (by rw [star]; kernel_rfl) (by kernel_rfl) (by decide) u (by rw [star]; exact h)
set_option maxRecDepth 100000 in
theorem sen_of {w : World} (m : laidMet Tryz.prog Great.laidD w) (h7 : w.cell? ⟨7, 0, none⟩ = some (.iface 111 (.agg #[.pointer (some ⟨14, 54, none⟩)]))) : ∃ a0 a1, Sen w a0 a1 := by
  have e : Great.laidD = (List.range 13).map Great.nthD := Great.laidD_is
  rw [e] at m
  have pm : (List.range 13).Perm [10, 11, 0, 1, 2, 3, 4, 5, 6, 7, 8, 9, 12] := by decide
  have m2 := Great.met_perm (pm.map Great.nthD) m
  obtain ⟨ps, ⟨x0, t0, cs0, f0, p0, q0, hg0, ht0, hv0, hd0, ⟨x1, t1, cs1, f1, p1, q1, hg1, ht1, hv1, hd1, hq1, e1⟩, e0⟩, hnd, hrows⟩ := m2
  obtain rfl := Option.some.inj (g0.symm.trans hg0)
  obtain rfl := Option.some.inj (g1.symm.trans hg1)
  obtain rfl := Option.some.inj (gt0.symm.trans ht0)
  obtain rfl := Option.some.inj (gt1.symm.trans ht1)
  subst e1
  subst e0
  obtain ⟨l0⟩ := cs0
  obtain ⟨l1⟩ := cs1
  have ok0 : ∀ u v, l0 = [.iface u v] → Value.okWide Tryz.prog w .any 0 u v := fun u v e => by
    subst e
    exact (hrows 0 0 (by simp [MemPlace.row])).2 u v (by simpa using World.var?_cell hg0 hv0 0)
  have ok1 : ∀ u v, l1 = [.iface u v] → Value.okWide Tryz.prog w .any 0 u v := fun u v e => by
    subst e
    exact (hrows 1 0 (by simp [MemPlace.row])).2 u v (by simpa using World.var?_cell hg1 hv1 0)
  obtain ⟨a0, s0, rfl, hc0, _, _, rfl⟩ := errorString_of_trod Tryz.underlying54 row180 Tryz.underlying180 Tryz.underlying182 rfl rfl (by kernel_rfl) (by kernel_rfl) (by kernel_rfl) hd0 ok0
  obtain ⟨a1, s1, rfl, hc1, _, _, rfl⟩ := errorString_of_trod Tryz.underlying54 row180 Tryz.underlying180 Tryz.underlying182 rfl rfl (by kernel_rfl) (by kernel_rfl) (by kernel_rfl) hd1 ok1
  obtain ⟨c0, t0, hb0⟩ := (hrows a0.block a0.off (by simp [MemPlace.row])).1
  obtain ⟨c1, t1, hb1⟩ := (hrows a1.block a1.off (by simp [MemPlace.row])).1
  refine ⟨a0, a1, ⟨by simpa using World.var?_cell g0 hv0 0, by simpa using World.var?_cell g1 hv1 0, h7, ?_, ⟨c0, t0, hb0⟩, ⟨c1, t1, hb1⟩⟩⟩
  rintro rfl
  simp [MemPlace.row] at hnd
/-- The witness: the handle set, the data laid. -/
noncomputable def base0 (os : Os) : World :=
  let w0 := World.holding Tryz.prog os ⟨#[], #[], []⟩
  { w0 with heap := w0.heap.modify 7 fun
      | .cells _ t frozen => .cells #[.iface 111 (.agg #[.pointer (some ⟨14, 54, none⟩)])] t frozen
      | o => o }
noncomputable def laidW (os : Os) : World := (base0 os).layVars Tryz.prog Great.laidD
theorem laidW_os (os : Os) : (laidW os).os = os := World.layVars_os _ _ _
theorem laidW_data (os : Os) (args : Array Value) : laidMet Tryz.prog Great.laidD ((laidW os).forCall (fun _ _ => 0) ⟨#[], args, []⟩).memory := by
  have e1 : (Great.laidD.filter fun x => (Great.laidD.map (·.1)).contains x.1) = Great.laidD := List.filter_eq_self.2 fun x hx => List.contains_iff_mem.2 (List.mem_map.2 ⟨x, hx, rfl⟩)
  have e2 : (Great.laidD.filter fun x => !(Great.laidD.map (·.1)).contains x.1) = [] := List.filter_eq_nil_iff.2 fun x hx => by rw [List.contains_iff_mem.2 (List.mem_map.2 ⟨x, hx, rfl⟩)]; simp
  have h : laidMet Tryz.prog Great.laidD (laidW os) := laidMet_layVars (w0 := base0 os) (Great.laidD.map (·.1)) [] (by rw [e1]; rfl) (by rw [e1]; as_aux_lemma => kernel_rfl) (by rw [e1]; as_aux_lemma => kernel_rfl) (by rw [e2]; exact LaidIn.none)
  exact h.of_heap (by simp [World.memory, World.forCall, Input.heap])
theorem laidW_handle (os : Os) (args : Array Value) : handleAtB Tryz.prog ((laidW os).forCall (fun _ _ => 0) ⟨#[], args, []⟩).memory ("errors.errorType", Rows.laid_errors_errorType) = true := by kernel_rfl
theorem laidW_met {l : List (String × DataW Unit)} (o : List Nat) (h : l.filter (fun x => x.2.handleName?.isNone) = o.map Great.nthD) (ho : (List.range 13).Perm o)
    (hs : (l.filter fun x => x.2.handleName?.isSome) = [("errors.errorType", Rows.laid_errors_errorType)]) (os : Os) (args : Array Value) :
    laidMetH Tryz.prog l ((laidW os).forCall (fun _ _ => 0) ⟨#[], args, []⟩).memory :=
  Great.met_order o h ho hs ⟨laidW_data os args, laidW_handle os args⟩
theorem laidW_shaped (os : Os) (args : Array Value) : ((laidW os).forCall (fun _ _ => 0) ⟨#[], args, []⟩).Shaped Tryz.prog := World.shaped_of_ZipB (by as_aux_lemma => kernel_rfl) (by as_aux_lemma => kernel_rfl)
/-- What a slice of bytes gives a walk. -/
theorem bytes_of {H : Type} {enc : TypeId × Value → H} {w : World} {a : Option Addr} {n c : Nat} {d : DataW H} {p : List MemPlace} (h : DataW.Trod enc Tryz.prog w 0 (fun _ => true) true 22 (.slice a n c) d p) :
    0 < n → ∃ b o, a = some ⟨b, o, none⟩ ∧ ∀ j, j < n → ∃ x : Nat, w.cell? ⟨b, o + j, none⟩ = some (.int .u8 (x : Int)) := by
  intro hn
  obtain ⟨fuel, h⟩ := h
  rcases open_ints Tryz.underlying22 Tryz.underlying5 cells5' h with ⟨e, _⟩ | ⟨a', len, cap, zs, e, _, hl, _, hz, _, hc, hw⟩
  · simp [Value.cells] at e
    omega
  · simp [Value.cells] at e
    obtain ⟨rfl, rfl, rfl⟩ := e
    simp only [if_true] at hz
    obtain ⟨b, o, s⟩ := a'
    have c0 := hc 0 (by omega)
    have hs : s = none := by simpa [Addr.add] using World.cell?_spot c0
    subst hs
    refine ⟨b, o, rfl, fun j hj => ?_⟩
    have cj := hc j (by omega)
    have hx : 0 ≤ zs.getD j 0 := by
      have hm : zs.getD j 0 ∈ zs := by
        rw [List.getD, List.getElem?_eq_getElem (by omega : j < zs.length)]
        exact List.getElem_mem _
      have := hw _ hm
      have h2 : (0 : Int) ≤ zs.getD j 0 ∧ zs.getD j 0 ≤ 255 := by
        generalize zs.getD j 0 = z at this
        simpa [Lit.wf, IntKind.min, IntKind.max, IntKind.signed, IntKind.bits] using this
      exact h2.1
    refine ⟨(zs.getD j 0).toNat, ?_⟩
    have ea : (⟨b, o, none⟩ : Addr).add j = ⟨b, o + j, none⟩ := by
      unfold Addr.add
      by_cases h0 : j = 0 <;> simp [h0]
    rw [← ea, cj, Int.toNat_of_nonneg hx]
end Go.Proofs.YthnhdfgonpbldaaGreatDoor
