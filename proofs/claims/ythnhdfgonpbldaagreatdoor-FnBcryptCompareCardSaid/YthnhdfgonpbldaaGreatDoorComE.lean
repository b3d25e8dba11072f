/- The tables that fish hands on, isCheap, and the statement FnBcryptCompare, walked. -/
import Derived.Test.YthnhdfgonpbldaaGreatDoorComA
import Derived.Laws.Tables
import Derived.Test.YthnhdfgonpbldaaGreatDoorRefuse
import Derived.Deep.RegionHeld
import Derived.Test.YthnhdfgonpbldaaGreatDoorBase
import Derived.Test.YthnhdfgonpbldaaGreatDoorComD
/- Arrays built of arrays: the tables as one value. -/
namespace Go.Proofs.YthnhdfgonpbldaaGreatDoor
open Go.RowKit Go.Lib
theorem fold_put : ∀ (l : List Value) (j off : Nat) (c : Array Value), (l.zipIdx j).foldl (fun cs p => cs.setIfInBounds (off + p.2) p.1) c = putAll c (off + j) l
  | [], _, _, _ => rfl
  | v :: r, j, off, c => by
    rw [List.zipIdx_cons, List.foldl_cons, fold_put r (j + 1) off, putAll, Nat.add_assoc]
theorem fill_one (place : Nat → Option (Nat × Nat)) (cells : Array Value) (i : Nat) (l : List Value) (rest : List (Nat × Value)) (off : Nat) (hp : place i = some (off, l.length)) (hs : off + l.length ≤ cells.size) :
    Instr.fill place cells ((i, .agg l.toArray) :: rest) = Instr.fill place (putAll cells off l) rest := by
  have e : (Value.agg l.toArray).cells = l.toArray := rfl
  unfold Instr.fill
  simp only [hp, e, List.size_toArray]
  rw [if_neg (by simp; omega)]
  have f : l.toArray.zipIdx.foldl (fun cs (x : Value × Nat) => cs.setIfInBounds (off + x.2) x.1) cells = putAll cells off l := by
    rw [← Array.foldl_toList, Array.toList_zipIdx]
    exact fold_put l 0 off cells
  rw [f]
  cases rest <;> rfl
/-- The cells below n are the table's. -/
def PreT (T : Nat → Nat) (base n : Nat) (c : Array Value) : Prop := ∀ j, j < n → c[j]? = some (.int .u32 (T (base + j) : Int))
theorem PreT.put {T : Nat → Nat} {base n m : Nat} {c : Array Value} (h : PreT T base n c) (hs : n + m ≤ c.size) : PreT T base (n + m) (putAll c n (tw T (base + n) m)) := fun j hj => by
  by_cases h1 : j < n
  · rw [putAll_out _ _ _ _ (Or.inl h1), h j h1]
  · have := putAll_in (tw T (base + n) m) c n (j - n) (by rw [tw_length]; exact hs) (by rw [tw_length]; omega)
    rw [show n + (j - n) = j by omega] at this
    rw [this, tw_at _ _ _ _ (by omega), show base + n + (j - n) = base + j by omega]
theorem PreT.whole {T : Nat → Nat} {base n : Nat} {c : Array Value} (h : PreT T base n c) (hs : c.size = n) : c = (tw T base n).toArray := by
  apply Array.ext_getElem?
  intro j
  by_cases hj : j < n
  · rw [h j hj, List.getElem?_toArray, tw_at _ _ _ _ hj]
  · rw [Array.getElem?_eq_none (by omega), Array.getElem?_eq_none (by simp [tw_length]; omega)]
theorem info_zero {t : TypeId} {n : Nat} (h : ((Tryz.prog.info? t).bind (·.zero)).map (·.cells.size) = some n) : ∃ i z, Tryz.prog.info? t = some i ∧ i.zero = some z ∧ z.cells.size = n := by
  cases hi : Tryz.prog.info? t with
  | none => simp [hi] at h
  | some i =>
    cases hz : i.zero with
    | none => simp [hi, hz] at h
    | some z => exact ⟨i, z, rfl, hz, by simpa [hi, hz] using h⟩
theorem info_size {t : TypeId} {n : Nat} (h : (Tryz.prog.info? t).map (·.size) = some n) : ∃ i, Tryz.prog.info? t = some i ∧ i.size = n := by
  cases hi : Tryz.prog.info? t with
  | none => simp [hi] at h
  | some i => exact ⟨i, rfl, by simpa [hi] using h⟩
set_option maxRecDepth 100000 in
/-- Four tables of 256. -/
theorem built32 (T : Nat → Nat) : Tryz.prog.built 32 [(0, .agg (tw T 18 256).toArray), (1, .agg (tw T 274 256).toArray), (2, .agg (tw T 530 256).toArray), (3, .agg (tw T 786 256).toArray)] = some (tw T 18 1024).toArray := by
  obtain ⟨i32, z, h1, h2, h3⟩ := info_zero (t := 32) (n := 1024) (by kernel_rfl)
  obtain ⟨i31, h4, h5⟩ := info_size (t := 31) (n := 256) (by kernel_rfl)
  have hu : Tryz.prog.underlying 32 = some (.array 4 31) := by kernel_rfl
  unfold Program.built
  rw [h1, hu]
  simp only [h2, h4, h5]
  have p0 : PreT T 18 0 z.cells := fun j hj => by omega
  have p1 := p0.put (m := 256) (by omega)
  have p2 := p1.put (m := 256) (by rw [putAll_size]; omega)
  have p3 := p2.put (m := 256) (by rw [putAll_size, putAll_size]; omega)
  have p4 := p3.put (m := 256) (by rw [putAll_size, putAll_size, putAll_size]; omega)
  rw [fill_one _ _ 0 _ _ 0 (by rw [tw_length]) (by rw [tw_length]; omega), fill_one _ _ 1 _ _ 256 (by rw [tw_length]) (by rw [tw_length, putAll_size]; omega), fill_one _ _ 2 _ _ 512 (by rw [tw_length]) (by rw [tw_length, putAll_size, putAll_size]; omega),
    fill_one _ _ 3 _ _ 768 (by rw [tw_length]) (by rw [tw_length, putAll_size, putAll_size, putAll_size]; omega)]
  have e := p4.whole (by rw [putAll_size, putAll_size, putAll_size, putAll_size]; exact h3)
  unfold Instr.fill
  exact congrArg some e
set_option maxRecDepth 100000 in
/-- The 18 words and the four tables. -/
theorem built34 (T : Nat → Nat) : Tryz.prog.built 34 [(0, .agg (tw T 0 18).toArray), (1, .agg (tw T 18 1024).toArray)] = some (fishA T) := by
  obtain ⟨i34, z, h1, h2, h3⟩ := info_zero (t := 34) (n := 1042) (by kernel_rfl)
  have hp : (match Tryz.prog.underlying 34 with | some (.struct fields) => fields.toList.mapM (fun f => (Tryz.prog.info? f.type).map fun i => (f.offset, i.size)) | _ => none) = some [(0, 18), (18, 1024)] := by kernel_rfl
  have hu := Tryz.underlying34
  rw [hu] at hp
  unfold Program.built
  rw [h1, hu]
  simp only [h2] at hp ⊢
  rw [hp]
  have p0 : PreT T 0 0 z.cells := fun j hj => by omega
  have p1 := p0.put (m := 18) (by omega)
  have p2 := p1.put (m := 1024) (by rw [putAll_size]; omega)
  simp only
  rw [fill_one _ _ 0 _ _ 0 (by rw [tw_length]; rfl) (by rw [tw_length]; omega), fill_one _ _ 1 _ _ 18 (by rw [tw_length]; rfl) (by rw [tw_length, putAll_size]; omega)]
  have e := p2.whole (by rw [putAll_size, putAll_size]; exact h3)
  unfold Instr.fill
  exact congrArg some e
end Go.Proofs.YthnhdfgonpbldaaGreatDoor
/- The tables as the law's fish hands them on: DoorTables, BlowfishTables, fish. -/
namespace Go.Proofs.YthnhdfgonpbldaaGreatDoor
open Go.RowKit Go.Lib
def TwoPost (T : Nat → Nat) (w : World) (e : Ending) (w' : World) : Prop := e = .returned (.tuple #[.agg (tw T 0 18).toArray, .agg (tw T 18 1024).toArray]) ∧ Below w.heap.size w w'
theorem step_true {c : Bool} {p q : Prop} (h : c = true) (hp : p) : if c = true then p else q := by
  rw [if_pos h]
  exact hp
theorem exec_load_lv {a : Act} {o : Oper} {w : World} (ty : TypeId) (x : Operand) (ho : o.op = .load ty x) (g : Nat) (hx : a.eval x = .pointer (some ⟨g, 0, none⟩)) (v : Value) (lv : (loadVar ty ⟨g, 0, none⟩).run Tryz.prog w = .ok v w) :
    (execOp a.eval o).run Tryz.prog w = .ok (.value v) w := by
  unfold execOp
  simp only [ho, hx, Instr.loadAt, Instr.sureAddr, Sem.run_bind, Sem.run_pure, Result.andThen_ok, lv]
theorem exec_build {a : Act} {o : Oper} {w : World} (t : TypeId) (parts : Array (Nat × Operand)) (ho : o.op = .build t parts) (vs : List (Nat × Value)) (hv : (parts.toList.map fun (i, x) => (i, a.eval x)) = vs) (cells : Array Value) (hb : Tryz.prog.built t vs = some cells) :
    (execOp a.eval o).run Tryz.prog w = .ok (.value (.agg cells)) w := by
  unfold execOp
  simp only [ho, Sem.run_bind, run_build w t (parts.map fun (i, x) => (i, a.eval x)) cells (by rw [Array.toList_map, hv]; exact hb), Result.andThen_ok, Sem.run_pure]
theorem results_cells2 {fn : Func} {p q : Tmp} {t1 t2 : TypeId} (h : fn.results = #[.cell p t1, .cell q t2]) (tmps : Array Value) (w : World) (g1 g2 : Nat) (v1 v2 : Value)
    (hp : tmps.getD p undef = .pointer (some ⟨g1, 0, none⟩)) (hq : tmps.getD q undef = .pointer (some ⟨g2, 0, none⟩)) (h1 : (loadVar t1 ⟨g1, 0, none⟩).run Tryz.prog w = .ok v1 w) (h2 : (loadVar t2 ⟨g2, 0, none⟩).run Tryz.prog w = .ok v2 w) :
    (results fn tmps).run Tryz.prog w = .ok (.tuple #[v1, v2]) w := by
  have hp' : tmps[p]?.getD undef = .pointer (some ⟨g1, 0, none⟩) := by simpa using hp
  have hq' : tmps[q]?.getD undef = .pointer (some ⟨g2, 0, none⟩) := by simpa using hq
  simp [results, h, hp', hq', asAddr, h1, h2]
theorem under32 : Tryz.prog.underlying 32 = some (.array 4 31) := by kernel_rfl
theorem Tabs.lv30 {w : World} {T : Nat → Nat} (h : Tabs w T) : (loadVar 30 ⟨2, 0, none⟩).run Tryz.prog w = .ok (.agg (tw T 0 18).toArray) w := by
  obtain ⟨cs, t, fr, h1, h2⟩ := h.p.load
  exact run_loadVar_part w 2 0 t 30 cs _ fr _ h1 h2 Tryz.underlying30 rfl (size30 T 0)
theorem TabAt.lv31 {w : World} {T : Nat → Nat} {g o : Nat} (h : TabAt w g T o 256) : (loadVar 31 ⟨g, 0, none⟩).run Tryz.prog w = .ok (.agg (tw T o 256).toArray) w := by
  obtain ⟨cs, t, fr, h1, h2⟩ := h.load
  exact run_loadVar_part w g 0 t 31 cs _ fr _ h1 h2 Tryz.underlying31 rfl (size31 T o)
set_option maxRecDepth 100000 in
set_option maxHeartbeats 1000000 in
theorem doorTables_any (T : Nat → Nat) (w : World) (h : Tabs w T) (h7 : 7 ≤ w.heap.size) : Calls Tryz.prog 30 #[] w (TwoPost T w) := by
  have e32 := built32 T
  have l0 : ∀ w', Tabs w' T → (loadVar 30 ⟨2, 0, none⟩).run Tryz.prog w' = .ok (.agg (tw T 0 18).toArray) w' := fun w' h => h.lv30
  have l1 : ∀ w', Tabs w' T → (loadVar 31 ⟨3, 0, none⟩).run Tryz.prog w' = .ok (.agg (tw T 18 256).toArray) w' := fun w' h => h.s0.lv31
  have l2 : ∀ w', Tabs w' T → (loadVar 31 ⟨4, 0, none⟩).run Tryz.prog w' = .ok (.agg (tw T 274 256).toArray) w' := fun w' h => h.s1.lv31
  have l3 : ∀ w', Tabs w' T → (loadVar 31 ⟨5, 0, none⟩).run Tryz.prog w' = .ok (.agg (tw T 530 256).toArray) w' := fun w' h => h.s2.lv31
  have l4 : ∀ w', Tabs w' T → (loadVar 31 ⟨6, 0, none⟩).run Tryz.prog w' = .ok (.agg (tw T 786 256).toArray) w' := fun w' h => h.s3.lv31
  have z0 : (tw T 0 18).toArray.size = 18 := by simp [tw_length]
  have z5 : (tw T 18 1024).toArray.size = 1024 := by simp [tw_length]
  have o0 : (tw T 0 18).toArray.all (·.oneCell') = true := by
    rw [Array.all_eq_true_iff_forall_mem]
    intro v hv
    exact tw_one T 0 18 v (by simpa using hv)
  have o5 : (tw T 18 1024).toArray.all (·.oneCell') = true := by
    rw [Array.all_eq_true_iff_forall_mem]
    intro v hv
    exact tw_one T 18 1024 v (by simpa using hv)
  unfold TwoPost
  obtain ⟨V0, hV0⟩ : ∃ V, V = (tw T 0 18).toArray := ⟨_, rfl⟩
  obtain ⟨V1, hV1⟩ : ∃ V, V = (tw T 18 256).toArray := ⟨_, rfl⟩
  obtain ⟨V2, hV2⟩ : ∃ V, V = (tw T 274 256).toArray := ⟨_, rfl⟩
  obtain ⟨V3, hV3⟩ : ∃ V, V = (tw T 530 256).toArray := ⟨_, rfl⟩
  obtain ⟨V4, hV4⟩ : ∃ V, V = (tw T 786 256).toArray := ⟨_, rfl⟩
  obtain ⟨V5, hV5⟩ : ∃ V, V = (tw T 18 1024).toArray := ⟨_, rfl⟩
  rw [← hV1, ← hV2, ← hV3, ← hV4, ← hV5] at e32
  rw [← hV0] at l0 z0 o0 ⊢
  rw [← hV1] at l1
  rw [← hV2] at l2
  rw [← hV3] at l3
  rw [← hV4] at l4
  rw [← hV5] at z5 o5 ⊢
  clear hV0 hV1 hV2 hV3 hV4 hV5
  have i0 : (Tryz.prog.info? 30).map (·.size) = some V0.size := by rw [z0]; kernel_rfl
  have i5 : (Tryz.prog.info? 32).map (·.size) = some V5.size := by rw [z5]; kernel_rfl
  have E32 := Lib.hid e32; clear e32
  have L0 := Lib.hid l0; clear l0
  have L1 := Lib.hid l1; clear l1
  have L2 := Lib.hid l2; clear l2
  have L3 := Lib.hid l3; clear l3
  have L4 := Lib.hid l4; clear l4
  have Z0 := Lib.hid z0; clear z0
  have Z5 := Lib.hid z5; clear z5
  have O0 := Lib.hid o0; clear o0
  have O5 := Lib.hid o5; clear o5
  have I0 := Lib.hid i0; clear i0
  have I5 := Lib.hid i5; clear i5
  have HT := Lib.hid h; clear h
  go_enter Tryz.func30, Tryz.ntmps30
  go_wp2_with fail
  obtain ⟨g, hg⟩ : ∃ g, g = w.heap.size := ⟨_, rfl⟩
  obtain ⟨W0, hW0⟩ : ∃ W0, W0 = (w.alloc (.cells #[.int .u32 0, .int .u32 0, .int .u32 0, .int .u32 0, .int .u32 0, .int .u32 0, .int .u32 0, .int .u32 0, .int .u32 0, .int .u32 0, .int .u32 0, .int .u32 0, .int .u32 0, .int .u32 0, .int .u32 0, .int .u32 0, .int .u32 0, .int .u32 0] 30)).alloc (.cells Tryz.zeroCells32 32) := ⟨_, rfl⟩
  rw [← hW0]
  simp only [← hg]
  have b0 : But (fun i => g ≤ i) w W0 := by rw [hW0]; exact ((But.refl _ w).alloc _).alloc _
  have r0 : W0.heap[g]? = some (.cells #[.int .u32 0, .int .u32 0, .int .u32 0, .int .u32 0, .int .u32 0, .int .u32 0, .int .u32 0, .int .u32 0, .int .u32 0, .int .u32 0, .int .u32 0, .int .u32 0, .int .u32 0, .int .u32 0, .int .u32 0, .int .u32 0, .int .u32 0, .int .u32 0] 30 (0, 0)) := by
    rw [hW0, heap_alloc_ne _ _ _ (by simp; omega), hg]
    exact heap_alloc_at w _
  have r1 : W0.heap[g + 1]? = some (.cells Tryz.zeroCells32 32 (0, 0)) := by
    rw [hW0, show g + 1 = (w.alloc (.cells #[.int .u32 0, .int .u32 0, .int .u32 0, .int .u32 0, .int .u32 0, .int .u32 0, .int .u32 0, .int .u32 0, .int .u32 0, .int .u32 0, .int .u32 0, .int .u32 0, .int .u32 0, .int .u32 0, .int .u32 0, .int .u32 0, .int .u32 0, .int .u32 0] 30)).heap.size by simp; omega]
    exact heap_alloc_at _ _
  clear hW0
  have g7 : 7 ≤ g := by omega
  have HG := Lib.hid hg; clear hg h7
  have B0 := Lib.hid b0; clear b0
  have R0 := Lib.hid r0; clear r0
  have R1 := Lib.hid r1; clear r1
  have S0 := Lib.hid (show Tabs W0.drew T from HT.out.but B0.out.drew (fun k hk h => by have h' : g ≤ k := h; omega))
  refine wp_region_held_drew (S := fun w' => Tabs w' T) (by kernel_rfl) S0.out (fun _ => ?_)
  refine wpAnyH_take (i := 0) (v := .agg V0) rfl (by kernel_rfl) (by kernel_rfl) (by kernel_rfl) (fun _ _ _ h => h) (Or.inl ⟨by rfl, fun w' hS => exec_load_lv 30 (.global 2) rfl 2 rfl _ (L0.out w' hS)⟩) S0.out ?_
  refine wpAnyH_take (i := 1) (v := .agg V1) rfl (by kernel_rfl) (by kernel_rfl) (by kernel_rfl) (fun _ _ _ h => h) (Or.inl ⟨by rfl, fun w' hS => exec_load_lv 31 (.global 3) rfl 3 rfl _ (L1.out w' hS)⟩) S0.out ?_
  refine wpAnyH_take (i := 2) (v := .agg V2) rfl (by kernel_rfl) (by kernel_rfl) (by kernel_rfl) (fun _ _ _ h => h) (Or.inl ⟨by rfl, fun w' hS => exec_load_lv 31 (.global 4) rfl 4 rfl _ (L2.out w' hS)⟩) S0.out ?_
  refine wpAnyH_take (i := 3) (v := .agg V3) rfl (by kernel_rfl) (by kernel_rfl) (by kernel_rfl) (fun _ _ _ h => h) (Or.inl ⟨by rfl, fun w' hS => exec_load_lv 31 (.global 5) rfl 5 rfl _ (L3.out w' hS)⟩) S0.out ?_
  refine wpAnyH_take (i := 4) (v := .agg V4) rfl (by kernel_rfl) (by kernel_rfl) (by kernel_rfl) (fun _ _ _ h => h) (Or.inl ⟨by rfl, fun w' hS => exec_load_lv 31 (.global 6) rfl 6 rfl _ (L4.out w' hS)⟩) S0.out ?_
  refine wpAnyH_take (i := 5) (v := .agg V5) rfl (by kernel_rfl) (by kernel_rfl) (by kernel_rfl) (fun _ _ _ h => h) (Or.inl ⟨by rfl, fun w' hS => exec_build 32 #[(0, .tmp 3), (1, .tmp 4), (2, .tmp 5), (3, .tmp 6)] rfl [(0, .agg V1), (1, .agg V2), (2, .agg V3), (3, .agg V4)] rfl _ E32.out⟩) S0.out ?_
  change wpAnyH _ _ _ _ _ _ _ { tmps := #[.pointer (some ⟨g, 0, none⟩), .pointer (some ⟨g + 1, 0, none⟩), .agg V0, .agg V1, .agg V2, .agg V3, .agg V4, .agg V5], defers := [] } _
  refine wpAnyH_ready (rs := [6]) (by kernel_rfl) (by simp) ?_
  refine AllReadyH.cons rfl (fun K hK => ?_) AllReadyH.nil
  refine step_true rfl ?_
  refine wp_store_row 30 (.tmp 0) (.tmp 2) rfl g V0 rfl rfl 30 _ (show W0.drew.heap[g]? = _ from R0.out) I0.out Z0.out.symm O0.out ?_
  obtain ⟨W1, hW1⟩ : ∃ W1, W1 = W0.drew.setRow g V0 := ⟨_, rfl⟩
  rw [← hW1]
  have b1 : But (fun i => g ≤ i) w W1 := by rw [hW1]; exact B0.out.drew.setRow (Nat.le_refl _) _
  have r0 : W1.heap[g]? = some (.cells V0 30 (0, 0)) := by rw [hW1]; exact setRow_heap W0.drew g _ _ _ _ R0.out
  have r1 : W1.heap[g + 1]? = some (.cells Tryz.zeroCells32 32 (0, 0)) := by rw [hW1, setRow_other _ _ _ _ (by omega)]; exact R1.out
  clear hW1
  have B1 := Lib.hid b1; clear b1
  have S1 := Lib.hid (show Tabs W1 T from HT.out.but B1.out (fun k hk h => by have h' : g ≤ k := h; omega))
  have R01 := Lib.hid r0; clear r0
  have R11 := Lib.hid r1; clear r1
  refine hK.out _ _ S1.out (fun _ => ?_)
  clear hK K
  refine wpAnyH_ready (rs := [7]) (by kernel_rfl) (by simp) ?_
  refine AllReadyH.cons rfl (fun K hK => ?_) AllReadyH.nil
  refine step_true rfl ?_
  refine wp_store_row 32 (.tmp 1) (.tmp 7) rfl (g + 1) V5 rfl rfl 32 _ R11.out I5.out (by rw [Z5.out]; kernel_rfl) O5.out ?_
  obtain ⟨W2, hW2⟩ : ∃ W2, W2 = W1.setRow (g + 1) V5 := ⟨_, rfl⟩
  rw [← hW2]
  have b2 : But (fun i => g ≤ i) w W2 := by rw [hW2]; exact B1.out.setRow (Nat.le_succ _) _
  have r0 : W2.heap[g]? = some (.cells V0 30 (0, 0)) := by rw [hW2, setRow_other _ _ _ _ (by omega)]; exact R01.out
  have r1 : W2.heap[g + 1]? = some (.cells V5 32 (0, 0)) := by rw [hW2]; exact setRow_heap W1 (g + 1) _ _ _ _ R11.out
  clear hW2
  have B2 := Lib.hid b2; clear b2
  have S2 := Lib.hid (show Tabs W2 T from HT.out.but B2.out (fun k hk h => by have h' : g ≤ k := h; omega))
  have R02 := Lib.hid r0; clear r0
  have R12 := Lib.hid r1; clear r1
  have BW := Lib.hid (B2.out.below (B := w.heap.size) (Nat.le_refl _) (fun k hk h => by have h' : g ≤ k := h; have := HG.out; omega))
  refine hK.out _ _ S2.out (fun _ => ?_)
  clear hK K
  refine wpAnyH_done (by kernel_rfl) ?_ _
  go_wp2_with fail
  refine bodyPost_ret (results_cells2 rfl _ _ g (g + 1) _ _ rfl rfl (run_loadVar_row W2 g 30 30 V0 (0, 0) _ R02.out Tryz.underlying30 rfl I0.out) (run_loadVar_row W2 (g + 1) 32 32 V5 (0, 0) _ R12.out under32 rfl I5.out)) rfl ?_
  exact ⟨rfl, BW.out⟩
end Go.Proofs.YthnhdfgonpbldaaGreatDoor
/- The tables as the law's fish hands them on: BlowfishTables, fish. -/
namespace Go.Proofs.YthnhdfgonpbldaaGreatDoor
open Go.RowKit Go.Lib
set_option maxRecDepth 100000 in
set_option maxHeartbeats 1000000 in
theorem blowTables_any (T : Nat → Nat) (w : World) (h : Tabs w T) (h7 : 7 ≤ w.heap.size) : Calls Tryz.prog 21 #[] w (TwoPost T w) := by
  have call := fun (W : World) (hT : Tabs W T) (hz : 7 ≤ W.heap.size) => doorTables_any T W hT hz
  unfold TwoPost at call ⊢
  have z0 : (tw T 0 18).toArray.size = 18 := by simp [tw_length]
  have z5 : (tw T 18 1024).toArray.size = 1024 := by simp [tw_length]
  have o0 : (tw T 0 18).toArray.all (·.oneCell') = true := by
    rw [Array.all_eq_true_iff_forall_mem]
    intro v hv
    exact tw_one T 0 18 v (by simpa using hv)
  have o5 : (tw T 18 1024).toArray.all (·.oneCell') = true := by
    rw [Array.all_eq_true_iff_forall_mem]
    intro v hv
    exact tw_one T 18 1024 v (by simpa using hv)
  obtain ⟨V0, hV0⟩ : ∃ V, V = (tw T 0 18).toArray := ⟨_, rfl⟩
  obtain ⟨V5, hV5⟩ : ∃ V, V = (tw T 18 1024).toArray := ⟨_, rfl⟩
  rw [← hV0] at z0 o0 call ⊢
  rw [← hV5] at z5 o5 call ⊢
  clear hV0 hV5
  have i0 : (Tryz.prog.info? 30).map (·.size) = some V0.size := by rw [z0]; kernel_rfl
  have i5 : (Tryz.prog.info? 32).map (·.size) = some V5.size := by rw [z5]; kernel_rfl
  have Call := Lib.hid call; clear call
  have Z0 := Lib.hid z0; clear z0
  have Z5 := Lib.hid z5; clear z5
  have O0 := Lib.hid o0; clear o0
  have O5 := Lib.hid o5; clear o5
  have I0 := Lib.hid i0; clear i0
  have I5 := Lib.hid i5; clear i5
  have HT := Lib.hid h; clear h
  go_enter Tryz.func21, Tryz.ntmps21
  go_wp2_with fail
  obtain ⟨g, hg⟩ : ∃ g, g = w.heap.size := ⟨_, rfl⟩
  obtain ⟨W0, hW0⟩ : ∃ W0, W0 = (w.alloc (.cells #[.int .u32 0, .int .u32 0, .int .u32 0, .int .u32 0, .int .u32 0, .int .u32 0, .int .u32 0, .int .u32 0, .int .u32 0, .int .u32 0, .int .u32 0, .int .u32 0, .int .u32 0, .int .u32 0, .int .u32 0, .int .u32 0, .int .u32 0, .int .u32 0] 30)).alloc (.cells Tryz.zeroCells32 32) := ⟨_, rfl⟩
  rw [← hW0]
  simp only [← hg]
  have b0 : But (fun i => g ≤ i) w W0 := by rw [hW0]; exact ((But.refl _ w).alloc _).alloc _
  have r0 : W0.heap[g]? = some (.cells #[.int .u32 0, .int .u32 0, .int .u32 0, .int .u32 0, .int .u32 0, .int .u32 0, .int .u32 0, .int .u32 0, .int .u32 0, .int .u32 0, .int .u32 0, .int .u32 0, .int .u32 0, .int .u32 0, .int .u32 0, .int .u32 0, .int .u32 0, .int .u32 0] 30 (0, 0)) := by
    rw [hW0, heap_alloc_ne _ _ _ (by simp; omega), hg]
    exact heap_alloc_at w _
  have r1 : W0.heap[g + 1]? = some (.cells Tryz.zeroCells32 32 (0, 0)) := by
    rw [hW0, show g + 1 = (w.alloc (.cells #[.int .u32 0, .int .u32 0, .int .u32 0, .int .u32 0, .int .u32 0, .int .u32 0, .int .u32 0, .int .u32 0, .int .u32 0, .int .u32 0, .int .u32 0, .int .u32 0, .int .u32 0, .int .u32 0, .int .u32 0, .int .u32 0, .int .u32 0, .int .u32 0] 30)).heap.size by simp; omega]
    exact heap_alloc_at _ _
  clear hW0
  have g7 : 7 ≤ g := by omega
  have HG := Lib.hid hg; clear hg h7
  have B0 := Lib.hid b0; clear b0
  have R0 := Lib.hid r0; clear r0
  have R1 := Lib.hid r1; clear r1
  have S0 := Lib.hid (show Tabs W0 T from HT.out.but B0.out (fun k hk h => by have h' : g ≤ k := h; omega))
  refine (Call.out W0 S0.out (by have := B0.out.size; have := HG.out; omega)).mono ?_
  rintro e w1 ⟨rfl, hb⟩
  have r0 : w1.heap[g]? = some (.cells #[.int .u32 0, .int .u32 0, .int .u32 0, .int .u32 0, .int .u32 0, .int .u32 0, .int .u32 0, .int .u32 0, .int .u32 0, .int .u32 0, .int .u32 0, .int .u32 0, .int .u32 0, .int .u32 0, .int .u32 0, .int .u32 0, .int .u32 0, .int .u32 0] 30 (0, 0)) := by rw [hb.block g (Array.getElem?_eq_some_iff.1 R0.out).1]; exact R0.out
  have r1 : w1.heap[g + 1]? = some (.cells Tryz.zeroCells32 32 (0, 0)) := by rw [hb.block (g + 1) (Array.getElem?_eq_some_iff.1 R1.out).1]; exact R1.out
  have B1 := Lib.hid (B0.out.then (But.of_below hb)); clear hb Call
  obtain ⟨w2, hw2⟩ : ∃ w2, w2 = w1.setRow g V0 := ⟨_, rfl⟩
  have r02 : w2.heap[g]? = some (.cells V0 30 (0, 0)) := by rw [hw2]; exact setRow_heap w1 g _ _ _ _ r0
  have r12 : w2.heap[g + 1]? = some (.cells Tryz.zeroCells32 32 (0, 0)) := by rw [hw2, setRow_other _ _ _ _ (by omega)]; exact r1
  obtain ⟨w3, hw3⟩ : ∃ w3, w3 = w2.setRow (g + 1) V5 := ⟨_, rfl⟩
  have r03 : w3.heap[g]? = some (.cells V0 30 (0, 0)) := by rw [hw3, setRow_other _ _ _ _ (by omega)]; exact r02
  have r13 : w3.heap[g + 1]? = some (.cells V5 32 (0, 0)) := by rw [hw3]; exact setRow_heap w2 (g + 1) _ _ _ _ r12
  have b3 : But (fun i => g ≤ i) w w3 := by rw [hw3, hw2]; exact (B1.out.setRow (Nat.le_refl _) _).setRow (Nat.le_succ _) _
  have R01 := Lib.hid r0; clear r0
  have R12 := Lib.hid r12; clear r12 r02 r1
  have R03 := Lib.hid r03; clear r03
  have R13 := Lib.hid r13; clear r13
  have HW2 := Lib.hid hw2; clear hw2
  have HW3 := Lib.hid hw3; clear hw3
  have BW := Lib.hid (b3.below (B := w.heap.size) (Nat.le_refl _) (fun k hk h => by have h' : g ≤ k := h; have := HG.out; omega)); clear b3
  have zz : Tryz.zeroCells32.size = V5.size := by rw [Z5.out]; kernel_rfl
  have ZZ := Lib.hid zz; clear zz
  go_wp2_with (first
    | (refine wpList_store_row rfl 30 (.tmp 0) (.tmp 3) rfl g V0 rfl rfl 30 _ R01.out I0.out Z0.out.symm O0.out ?_; rw [← HW2.out])
    | (refine wp_store_row 30 (.tmp 0) (.tmp 3) rfl g V0 rfl rfl 30 _ R01.out I0.out Z0.out.symm O0.out ?_; rw [← HW2.out])
    | (refine wpList_store_row rfl 32 (.tmp 1) (.tmp 4) rfl (g + 1) V5 rfl rfl 32 _ R12.out I5.out ZZ.out O5.out ?_; rw [← HW3.out])
    | (refine wp_store_row 32 (.tmp 1) (.tmp 4) rfl (g + 1) V5 rfl rfl 32 _ R12.out I5.out ZZ.out O5.out ?_; rw [← HW3.out]))
  refine bodyPost_ret (results_cells2 rfl _ _ g (g + 1) _ _ rfl rfl (run_loadVar_row w3 g 30 30 V0 (0, 0) _ R03.out Tryz.underlying30 rfl I0.out) (run_loadVar_row w3 (g + 1) 32 32 V5 (0, 0) _ R13.out under32 rfl I5.out)) rfl ?_
  exact ⟨rfl, BW.out⟩
theorem wpList_build_eq {ops : Array Oper} {rest : List Oper} {o : Oper} {a : Act} {w : World} {Q : Exit → Act → World → Prop} (hgd : o.guard = none) (t : TypeId) (parts : Array (Nat × Operand)) (ho : o.op = .build t parts)
    (vs : List (Nat × Value)) (hv : (parts.toList.map fun (i, x) => (i, a.eval x)) = vs) (cells : Array Value) (hb : Tryz.prog.built t vs = some cells) (h : wpList Tryz.prog ops Q rest (a.put o.dst (.agg cells)) w) : wpList Tryz.prog ops Q (o :: rest) a w := by
  refine wpList_plain hgd fun K hK => ?_
  have e := exec_build (w := w) t parts ho vs hv cells hb
  unfold Oper.wp
  simp only [e]
  exact hK _ _ h
def FishPost (T : Nat → Nat) (w : World) (e : Ending) (w' : World) : Prop := e = .returned (.agg (fishA T)) ∧ Below w.heap.size w w'
set_option maxRecDepth 100000 in
set_option maxHeartbeats 1000000 in
theorem fish_any (T : Nat → Nat) (w : World) (h : Tabs w T) (h7 : 7 ≤ w.heap.size) : Calls Tryz.prog 11 #[] w (FishPost T w) := by
  have call := fun (W : World) (hT : Tabs W T) (hz : 7 ≤ W.heap.size) => blowTables_any T W hT hz
  unfold TwoPost at call
  have z0 : (tw T 0 18).toArray.size = 18 := by simp [tw_length]
  have z5 : (tw T 18 1024).toArray.size = 1024 := by simp [tw_length]
  have o0 : (tw T 0 18).toArray.all (·.oneCell') = true := by
    rw [Array.all_eq_true_iff_forall_mem]
    intro v hv
    exact tw_one T 0 18 v (by simpa using hv)
  have o5 : (tw T 18 1024).toArray.all (·.oneCell') = true := by
    rw [Array.all_eq_true_iff_forall_mem]
    intro v hv
    exact tw_one T 18 1024 v (by simpa using hv)
  have e34 := built34 T
  have oF := fishA_one T
  have zF := fishA_size T
  unfold FishPost
  obtain ⟨V0, hV0⟩ : ∃ V, V = (tw T 0 18).toArray := ⟨_, rfl⟩
  obtain ⟨V5, hV5⟩ : ∃ V, V = (tw T 18 1024).toArray := ⟨_, rfl⟩
  obtain ⟨VF, hVF⟩ : ∃ V, V = fishA T := ⟨_, rfl⟩
  rw [← hV0] at z0 o0 call e34
  rw [← hV5] at z5 o5 call e34
  rw [← hVF] at e34 oF zF ⊢
  clear hV0 hV5 hVF
  have i0 : (Tryz.prog.info? 30).map (·.size) = some V0.size := by rw [z0]; kernel_rfl
  have i5 : (Tryz.prog.info? 32).map (·.size) = some V5.size := by rw [z5]; kernel_rfl
  have iF : (Tryz.prog.info? 34).map (·.size) = some VF.size := by rw [zF]; kernel_rfl
  have Call := Lib.hid call; clear call
  have Z0 := Lib.hid z0; clear z0
  have Z5 := Lib.hid z5; clear z5
  have ZF := Lib.hid zF; clear zF
  have O0 := Lib.hid o0; clear o0
  have O5 := Lib.hid o5; clear o5
  have OF := Lib.hid oF; clear oF
  have I0 := Lib.hid i0; clear i0
  have I5 := Lib.hid i5; clear i5
  have IF := Lib.hid iF; clear iF
  have E34 := Lib.hid e34; clear e34
  have HT := Lib.hid h; clear h
  go_enter Tryz.func11, Tryz.ntmps11
  go_wp2_with fail
  obtain ⟨f, hf⟩ : ∃ f, f = w.heap.size := ⟨_, rfl⟩
  obtain ⟨W0, hW0⟩ : ∃ W0, W0 = w.alloc (.cells Tryz.zeroCells34 34) := ⟨_, rfl⟩
  rw [← hW0]
  simp only [← hf]
  have b0 : But (fun i => f ≤ i) w W0 := by rw [hW0]; exact (But.refl _ w).alloc _
  have r0 : W0.heap[f]? = some (.cells Tryz.zeroCells34 34 (0, 0)) := by rw [hW0, hf]; exact heap_alloc_at w _
  clear hW0
  have f7 : 7 ≤ f := by omega
  have HF := Lib.hid hf; clear hf h7
  have B0 := Lib.hid b0; clear b0
  have R0 := Lib.hid r0; clear r0
  have S0 := Lib.hid (show Tabs W0 T from HT.out.but B0.out (fun k hk h => by have h' : f ≤ k := h; omega))
  refine (Call.out W0 S0.out (by have := B0.out.size; have := HF.out; omega)).mono ?_
  rintro e w1 ⟨rfl, hb⟩
  have r0 : w1.heap[f]? = some (.cells Tryz.zeroCells34 34 (0, 0)) := by rw [hb.block f (Array.getElem?_eq_some_iff.1 R0.out).1]; exact R0.out
  have zf : f < w1.heap.size := (Array.getElem?_eq_some_iff.1 r0).1
  have B1 := Lib.hid (B0.out.then (But.of_below hb)); clear hb Call
  obtain ⟨g, hg⟩ : ∃ g, g = w1.heap.size := ⟨_, rfl⟩
  obtain ⟨W1, hW1⟩ : ∃ W1, W1 = (w1.alloc (.cells #[.int .u32 0, .int .u32 0, .int .u32 0, .int .u32 0, .int .u32 0, .int .u32 0, .int .u32 0, .int .u32 0, .int .u32 0, .int .u32 0, .int .u32 0, .int .u32 0, .int .u32 0, .int .u32 0, .int .u32 0, .int .u32 0, .int .u32 0, .int .u32 0] 30)).alloc (.cells Tryz.zeroCells32 32) := ⟨_, rfl⟩
  have b1 : But (fun i => f ≤ i) w W1 := by rw [hW1]; exact (B1.out.alloc _).alloc _
  have q0 : W1.heap[f]? = some (.cells Tryz.zeroCells34 34 (0, 0)) := by
    rw [hW1, heap_alloc_ne _ _ _ (by simp; omega), heap_alloc_ne _ _ _ (by omega)]
    exact r0
  have q1 : W1.heap[g]? = some (.cells #[.int .u32 0, .int .u32 0, .int .u32 0, .int .u32 0, .int .u32 0, .int .u32 0, .int .u32 0, .int .u32 0, .int .u32 0, .int .u32 0, .int .u32 0, .int .u32 0, .int .u32 0, .int .u32 0, .int .u32 0, .int .u32 0, .int .u32 0, .int .u32 0] 30 (0, 0)) := by
    rw [hW1, heap_alloc_ne _ _ _ (by simp; omega), hg]
    exact heap_alloc_at w1 _
  have q2 : W1.heap[g + 1]? = some (.cells Tryz.zeroCells32 32 (0, 0)) := by
    rw [hW1, show g + 1 = (w1.alloc (.cells #[.int .u32 0, .int .u32 0, .int .u32 0, .int .u32 0, .int .u32 0, .int .u32 0, .int .u32 0, .int .u32 0, .int .u32 0, .int .u32 0, .int .u32 0, .int .u32 0, .int .u32 0, .int .u32 0, .int .u32 0, .int .u32 0, .int .u32 0, .int .u32 0] 30)).heap.size by simp; omega]
    exact heap_alloc_at _ _
  obtain ⟨w2, hw2⟩ : ∃ w2, w2 = W1.setRow g V0 := ⟨_, rfl⟩
  have p0 : w2.heap[f]? = some (.cells Tryz.zeroCells34 34 (0, 0)) := by rw [hw2, setRow_other _ _ _ _ (by omega)]; exact q0
  have p1 : w2.heap[g]? = some (.cells V0 30 (0, 0)) := by rw [hw2]; exact setRow_heap W1 g _ _ _ _ q1
  have p2 : w2.heap[g + 1]? = some (.cells Tryz.zeroCells32 32 (0, 0)) := by rw [hw2, setRow_other _ _ _ _ (by omega)]; exact q2
  obtain ⟨w3, hw3⟩ : ∃ w3, w3 = w2.setRow (g + 1) V5 := ⟨_, rfl⟩
  have s0 : w3.heap[f]? = some (.cells Tryz.zeroCells34 34 (0, 0)) := by rw [hw3, setRow_other _ _ _ _ (by omega)]; exact p0
  have s1 : w3.heap[g]? = some (.cells V0 30 (0, 0)) := by rw [hw3, setRow_other _ _ _ _ (by omega)]; exact p1
  have s2 : w3.heap[g + 1]? = some (.cells V5 32 (0, 0)) := by rw [hw3]; exact setRow_heap w2 (g + 1) _ _ _ _ p2
  obtain ⟨w4, hw4⟩ : ∃ w4, w4 = w3.setRow f VF := ⟨_, rfl⟩
  have u0 : w4.heap[f]? = some (.cells VF 34 (0, 0)) := by rw [hw4]; exact setRow_heap w3 f _ _ _ _ s0
  have b4 : But (fun i => f ≤ i) w w4 := by
    rw [hw4, hw3, hw2]
    exact ((b1.setRow (show f ≤ g by omega) _).setRow (show f ≤ g + 1 by omega) _).setRow (Nat.le_refl _) _
  have zz : Tryz.zeroCells32.size = V5.size := by rw [Z5.out]; kernel_rfl
  have zz2 : Tryz.zeroCells34.size = VF.size := by rw [ZF.out]; kernel_rfl
  clear r0 q0 p0 p1 q2 b1 zf B1
  have Q1 := Lib.hid q1; clear q1
  have P2 := Lib.hid p2; clear p2
  have S0' := Lib.hid s0; clear s0
  have S1 := Lib.hid s1; clear s1
  have S2 := Lib.hid s2; clear s2
  have U0 := Lib.hid u0; clear u0
  have HW1 := Lib.hid hW1; clear hW1
  have HW2 := Lib.hid hw2; clear hw2
  have HW3 := Lib.hid hw3; clear hw3
  have HW4 := Lib.hid hw4; clear hw4
  have ZZ := Lib.hid zz; clear zz
  have ZZ2 := Lib.hid zz2; clear zz2
  have HGG := Lib.hid hg; clear hg
  have BW := Lib.hid (b4.below (B := w.heap.size) (Nat.le_refl _) (fun k hk h => by have h' : f ≤ k := h; have := HF.out; omega)); clear b4
  go_wp2_with (first
    | (refine wpList_store_row rfl 30 (.tmp 1) (.tmp 5) rfl w1.heap.size V0 rfl rfl 30 #[.int .u32 0, .int .u32 0, .int .u32 0, .int .u32 0, .int .u32 0, .int .u32 0, .int .u32 0, .int .u32 0, .int .u32 0, .int .u32 0, .int .u32 0, .int .u32 0, .int .u32 0, .int .u32 0, .int .u32 0, .int .u32 0, .int .u32 0, .int .u32 0] (by rw [← HW1.out, ← HGG.out]; exact Q1.out) I0.out Z0.out.symm O0.out ?_; rw [← HW1.out, ← HGG.out, ← HW2.out])
    | (refine wpList_store_row rfl 32 (.tmp 2) (.tmp 6) rfl (g + 1) V5 rfl rfl 32 _ P2.out I5.out ZZ.out O5.out ?_; rw [← HW3.out])
    | (refine wp_store_row 32 (.tmp 2) (.tmp 6) rfl (g + 1) V5 rfl rfl 32 _ P2.out I5.out ZZ.out O5.out ?_; rw [← HW3.out])
    | (refine wpList_load_row rfl 30 (.tmp 1) rfl g rfl 30 V0 (0, 0) _ S1.out Tryz.underlying30 rfl I0.out ?_)
    | (refine wpList_load_row rfl 32 (.tmp 2) rfl (g + 1) rfl 32 V5 (0, 0) _ S2.out under32 rfl I5.out ?_)
    | (refine wpList_build_eq rfl 34 #[(0, .tmp 7), (1, .tmp 8)] rfl [(0, .agg V0), (1, .agg V5)] rfl _ E34.out ?_)
    | (refine wpList_store_row rfl 34 (.tmp 0) (.tmp 9) rfl f VF rfl rfl 34 _ S0'.out IF.out ZZ2.out OF.out ?_; rw [← HW4.out])
    | (refine wp_store_row 34 (.tmp 0) (.tmp 9) rfl f VF rfl rfl 34 _ S0'.out IF.out ZZ2.out OF.out ?_; rw [← HW4.out]))
  refine bodyPost_ret (results_cell_row rfl _ _ f 34 VF (0, 0) _ rfl U0.out Tryz.underlying34 rfl IF.out) rfl ?_
  exact ⟨rfl, BW.out⟩
end Go.Proofs.YthnhdfgonpbldaaGreatDoor
/- isCheap answers, and what its yes says of a hash of 60 bytes with a cost of two digits. -/
namespace Go.Proofs.YthnhdfgonpbldaaGreatDoor
open Go.RowKit Go.Lib
def CheapPost (n y0 y1 : Nat) (w : World) (e : Ending) (w' : World) : Prop :=
  ∃ r, e = .returned (.bool r) ∧ w' = w ∧ (n = 60 → r = true → 48 ≤ y0 → y0 ≤ 57 → 48 ≤ y1 → y1 ≤ 57 → y0 = 48 ∧ y1 ≤ 54)
theorem cheap_short (a : Option Addr) (n c y0 y1 : Nat) (w : World) (hn : n ≤ 4) : Calls Tryz.prog 7 #[.slice a n c] w (CheapPost n y0 y1 w) := by
  have t : decide ((4 : Int) < (n : Int)) = false := by simp; omega
  go_enter Tryz.func7, Tryz.ntmps7
  go_wp2_with fail
  go_loop [3] (fun i => i = .int .i64 3) (fun _ => 0)
  case atStart => rfl
  case round =>
    subst hrel
    go_wp2_with fail
    go_ret
    exact ⟨true, rfl, rfl, fun h => by omega⟩
set_option maxRecDepth 100000 in
set_option maxHeartbeats 2000000 in
theorem cheap_any (hl : List Nat) (b o n c : Nat) (w : World) (_hn : 4 < n) (hc : ∀ i, i < n → w.cell? ⟨b, o + i, none⟩ = some (.int .u8 ((hl.getD i 0 : Nat) : Int))) :
    Calls Tryz.prog 7 #[.slice (some ⟨b, o, none⟩) n c] w (CheapPost n (hl.getD 4 0) (hl.getD 5 0) w) := by
  have Hc := Lib.hid hc; clear hc
  go_enter Tryz.func7, Tryz.ntmps7
  go_wp2_with fail
  go_loop [3] (fun i => ∃ k : Nat, 3 ≤ k ∧ k ≤ 5 ∧ i = .int .i64 k ∧ (k = 5 → n = 60 → 48 ≤ hl.getD 4 0 → hl.getD 4 0 ≤ 57 → 48 ≤ hl.getD 5 0 → hl.getD 5 0 ≤ 57 → hl.getD 4 0 = 48 ∧ hl.getD 5 0 ≤ 54)) (fun i => 5 - (RowKit.intOf i).toNat)
  case atStart => exact ⟨3, by omega, by omega, rfl, fun h => by omega⟩
  case round =>
    obtain ⟨k, h3, h5, rfl, hinv⟩ := hrel
    have Inv := Lib.hid hinv; clear hinv
    by_cases hk : k ≤ 4
    · by_cases hkn : k + 1 < n
      · have c0 := Hc.out k (by omega)
        have c1 := Hc.out (k + 1) hkn
        have in0 : k < n := by omega
        obtain ⟨x, hx⟩ : ∃ x, x = hl.getD k 0 := ⟨_, rfl⟩
        obtain ⟨y, hy⟩ : ∃ y, y = hl.getD (k + 1) 0 := ⟨_, rfl⟩
        rw [← hx] at c0
        rw [← hy] at c1
        have Hx := Lib.hid hx; clear hx
        have Hy := Lib.hid hy; clear hy
        have d0 : decide ((k : Int) ≤ 4) = true := by simp; omega
        have d1 : decide ((k : Int) + 1 < (n : Int)) = true := by simp; omega
        have next : (¬ (x ≠ 48 ∨ 54 < y) ∨ ¬ (48 ≤ x ∧ x ≤ 57 ∧ 48 ≤ y ∧ y ≤ 57)) → ∃ k' : Nat, 3 ≤ k' ∧ k' ≤ 5 ∧ (Value.int .i64 ((k : Int) + 1)) = .int .i64 k' ∧ (k' = 5 → n = 60 → 48 ≤ hl.getD 4 0 → hl.getD 4 0 ≤ 57 → 48 ≤ hl.getD 5 0 → hl.getD 5 0 ≤ 57 → hl.getD 4 0 = 48 ∧ hl.getD 5 0 ≤ 54) := fun hn => by
          refine ⟨k + 1, by omega, by omega, by go_num, fun e => ?_⟩
          obtain rfl : k = 4 := by omega
          have e0 := Hx.out
          have e1 : y = hl.getD 5 0 := Hy.out
          rw [← e0, ← e1]
          intro _ a1 a2 a3 a4
          omega
        have Next := Lib.hid next; clear next
        clear Inv
        by_cases q : x = 48 ∧ y ≤ 54
        · obtain ⟨q1, q2⟩ := q
          have g1 : ((x : Int) != 48) = false := by subst q1; rfl
          have g2 : decide ((54 : Int) < (y : Int)) = false := by simp; omega
          have nx := Next.out (Or.inl (by omega))
          have Nx := Lib.hid nx; clear nx
          clear q1 q2 Next
          go_wp2_with fail
          go_round
          case rel => exact Nx.out
          case measure => simp [RowKit.intOf]; omega
        · have key : ((x : Int) != 48) = true ∨ ((x : Int) != 48) = false ∧ decide ((54 : Int) < (y : Int)) = true := by
            by_cases q1 : x = 48
            · exact Or.inr ⟨by subst q1; rfl, by simp; omega⟩
            · exact Or.inl (by simp; omega)
          by_cases a1 : 48 ≤ x
          · have f1 : decide ((48 : Int) ≤ (x : Int)) = true := by simp; omega
            by_cases a2 : x ≤ 57
            · have f2 : decide ((x : Int) ≤ 57) = true := by simp; omega
              by_cases a3 : 48 ≤ y
              · have f3 : decide ((48 : Int) ≤ (y : Int)) = true := by simp; omega
                by_cases a4 : y ≤ 57
                · have f4 : decide ((y : Int) ≤ 57) = true := by simp; omega
                  clear q a1 a2 a3 a4 Next
                  rcases key with g1 | ⟨g1, g2⟩
                  · go_wp2_with fail
                    go_ret
                    exact ⟨false, rfl, rfl, fun _ h => by cases h⟩
                  · go_wp2_with fail
                    go_ret
                    exact ⟨false, rfl, rfl, fun _ h => by cases h⟩
                · have f4 : decide ((y : Int) ≤ 57) = false := by simp; omega
                  have Nx := Lib.hid (Next.out (Or.inr (by omega)))
                  clear q Next
                  rcases key with g1 | ⟨g1, g2⟩
                  · go_wp2_with fail
                    go_round
                    case rel => exact Nx.out
                    case measure => simp [RowKit.intOf]; omega
                  · go_wp2_with fail
                    go_round
                    case rel => exact Nx.out
                    case measure => simp [RowKit.intOf]; omega
              · have f3 : decide ((48 : Int) ≤ (y : Int)) = false := by simp; omega
                have Nx := Lib.hid (Next.out (Or.inr (by omega)))
                clear q Next
                rcases key with g1 | ⟨g1, g2⟩
                · go_wp2_with fail
                  go_round
                  case rel => exact Nx.out
                  case measure => simp [RowKit.intOf]; omega
                · go_wp2_with fail
                  go_round
                  case rel => exact Nx.out
                  case measure => simp [RowKit.intOf]; omega
            · have f2 : decide ((x : Int) ≤ 57) = false := by simp; omega
              have Nx := Lib.hid (Next.out (Or.inr (by omega)))
              clear q Next
              rcases key with g1 | ⟨g1, g2⟩
              · go_wp2_with fail
                go_round
                case rel => exact Nx.out
                case measure => simp [RowKit.intOf]; omega
              · go_wp2_with fail
                go_round
                case rel => exact Nx.out
                case measure => simp [RowKit.intOf]; omega
          · have f1 : decide ((48 : Int) ≤ (x : Int)) = false := by simp; omega
            have Nx := Lib.hid (Next.out (Or.inr (by omega)))
            clear q Next
            rcases key with g1 | ⟨g1, g2⟩
            · go_wp2_with fail
              go_round
              case rel => exact Nx.out
              case measure => simp [RowKit.intOf]; omega
            · go_wp2_with fail
              go_round
              case rel => exact Nx.out
              case measure => simp [RowKit.intOf]; omega
      · have d0 : decide ((k : Int) ≤ 4) = true := by simp; omega
        have d1 : decide ((k : Int) + 1 < (n : Int)) = false := by simp; omega
        go_wp2_with fail
        go_ret
        exact ⟨true, rfl, rfl, fun h => by omega⟩
    · obtain rfl : k = 5 := by omega
      have iv := Inv.out rfl
      clear Inv
      have Iv := Lib.hid iv; clear iv
      go_wp2_with fail
      go_ret
      exact ⟨true, rfl, rfl, fun h60 _ => Iv.out h60⟩
end Go.Proofs.YthnhdfgonpbldaaGreatDoor
/- The statement FnBcryptCompare, walked: it answers true for every hash and password. -/
namespace Go.Proofs.YthnhdfgonpbldaaGreatDoor
open Go.RowKit Go.Lib
theorem com_size (a1 a2 : Option Addr) (n1 n2 c1 c2 : Nat) (w : World) (h : 2147483647 < n1 ∨ 2147483647 < n2) :
    Calls Tryz.prog 3 #[.slice a1 n1 c1, .slice a2 n2 c2] w (TrueBelow w) := by
  by_cases h1 : 2147483647 < n1
  · have t : decide ((2147483647 : Int) < (n1 : Int)) = true := by simp; omega
    go_enter Tryz.func3, Tryz.ntmps3
    go_wp2_with fail
    go_ret
    exact ⟨rfl, Below.refl _ _⟩
  · have t : decide ((2147483647 : Int) < (n1 : Int)) = false := by simp; omega
    have t2 : decide ((2147483647 : Int) < (n2 : Int)) = true := by simp; omega
    go_enter Tryz.func3, Tryz.ntmps3
    go_wp2_with fail
    go_ret
    exact ⟨rfl, Below.refl _ _⟩
theorem com_long (a1 a2 : Option Addr) (n1 n2 c1 c2 : Nat) (w : World) (h1 : n1 ≤ 2147483647) (h2 : n2 ≤ 2147483647) (h : 1024 < n1 ∨ 72 < n2) :
    Calls Tryz.prog 3 #[.slice a1 n1 c1, .slice a2 n2 c2] w (TrueBelow w) := by
  have t : decide ((2147483647 : Int) < (n1 : Int)) = false := by simp; omega
  have t2 : decide ((2147483647 : Int) < (n2 : Int)) = false := by simp; omega
  by_cases h3 : 1024 < n1
  · have t3 : decide ((1024 : Int) < (n1 : Int)) = true := by simp; omega
    go_enter Tryz.func3, Tryz.ntmps3
    go_wp2_with (go_at_call 8; refine (readLetters_any _).mono ?_; rintro e w' ⟨rfl, hb⟩)
    go_ret
    exact ⟨rfl, hb⟩
  · have t3 : decide ((1024 : Int) < (n1 : Int)) = false := by simp; omega
    have t4 : decide ((72 : Int) < (n2 : Int)) = true := by simp; omega
    go_enter Tryz.func3, Tryz.ntmps3
    go_wp2_with (go_at_call 8; refine (readLetters_any _).mono ?_; rintro e w' ⟨rfl, hb⟩)
    go_ret
    exact ⟨rfl, hb⟩
theorem cheap_hash (hl : List Nat) (a : Option Addr) (c : Nat) (w : World) (h : HashAt w a c hl) : Calls Tryz.prog 7 #[.slice a hl.length c] w (CheapPost hl.length (hl.getD 4 0) (hl.getD 5 0) w) := by
  by_cases h4 : hl.length ≤ 4
  · exact cheap_short a hl.length c _ _ w h4
  · obtain ⟨b, o, rfl, hcell⟩ := h.at' (by omega)
    exact cheap_any hl b o hl.length c w (by omega) hcell
set_option maxRecDepth 100000 in
set_option maxHeartbeats 2000000 in
theorem com_in (T : Nat → Nat) (pw : List Nat) (ka : Option Addr) (kc : Nat) (hl : List Nat) (a : Option Addr) (c : Nat) (a0 a1 : Addr) (w : World) (d : Data w T a0 a1) (p : Pass w ka kc pw) (hpl : pw.length ≤ 72) (h : HashAt w a c hl) (hn : hl.length ≤ 1024) :
    Calls Tryz.prog 3 #[.slice a hl.length c, .slice ka pw.length kc] w (TrueBelow w) := by
  have cheap := cheap_hash hl a c w h
  have cost := fun (W : World) (b : Below w.heap.size w W) => costS_any hl a hl.length c W h.cap h.lt (h.below b).at'
  have fish := fun (W : World) (b : Below w.heap.size w W) => fish_any T W (d.below b).t (by have := (d.below b).m.lt; omega)
  have cmp := fun (W : World) (b : Below w.heap.size w W) (ch : Cheap hl) => cmpS_any T pw ka kc hl a hl.length c W h.cap h.lt (h.below b).at' p.lt hpl (p.below b).at' d.t.lt (fun e f _ _ => (ch.told e f).2.2)
  have impl := fun (W : World) (b : Below w.heap.size w W) (ch : Cheap hl) (k : Int) (s : CmpSays T pw hl hl.length k) => impl_says T pw ka kc hl a c a0 a1 k W (d.below b) (p.below b) hpl (h.below b) ch s
  obtain ⟨n, hn'⟩ : ∃ n, n = hl.length := ⟨_, rfl⟩
  have chd : Cheap hl ↔ (n = 60 → 48 ≤ hl.getD 4 0 → hl.getD 4 0 ≤ 57 → 48 ≤ hl.getD 5 0 → hl.getD 5 0 ≤ 57 → hl.getD 4 0 = 48 ∧ hl.getD 5 0 ≤ 54) := by rw [hn']; rfl
  rw [← hn'] at cheap cost cmp impl hn ⊢
  obtain ⟨m, hm⟩ : ∃ m, m = pw.length := ⟨_, rfl⟩
  rw [← hm] at cmp impl hpl ⊢
  obtain ⟨A, hA⟩ : ∃ A, A = fishA T := ⟨_, rfl⟩
  unfold FishPost at fish
  rw [← hA] at fish cmp
  have Cheap' := Lib.hid cheap; clear cheap
  have Cost := Lib.hid cost; clear cost
  have Fish := Lib.hid fish; clear fish
  have Cmp := Lib.hid cmp; clear cmp
  have Impl := Lib.hid impl; clear impl
  have Chd := Lib.hid chd; clear chd
  clear hA hm hn' d p h
  have t : decide ((2147483647 : Int) < (n : Int)) = false := by simp; omega
  have t2 : decide ((2147483647 : Int) < (m : Int)) = false := by simp; omega
  have t3 : decide ((1024 : Int) < (n : Int)) = false := by simp; omega
  have t4 : decide ((72 : Int) < (m : Int)) = false := by simp; omega
  go_enter Tryz.func3, Tryz.ntmps3
  go_wp2_with fail
  refine Cheap'.out.mono ?_
  rintro e w1 ⟨r, rfl, hw1, hr⟩
  rw [hw1]
  clear hw1 Cheap'
  cases r with
  | false =>
    clear hr
    go_wp2_with (go_at_call 8; refine (readLetters_any _).mono ?_; rintro e w' ⟨rfl, hb⟩)
    go_ret
    exact ⟨rfl, hb⟩
  | true =>
    have ch := Chd.out.2 (fun e => hr e rfl)
    have Ch := Lib.hid ch; clear ch hr Chd
    go_wp2_with fail
    refine (Cost.out w (Below.refl _ _)).mono ?_
    rintro e w2 ⟨mm, kd, s, rfl, hw2, hs⟩
    rw [hw2]
    clear hw2 hs Cost
    cases s with
    | false =>
      go_wp2_with (go_at_call 8; refine (readLetters_any _).mono ?_; rintro e w' ⟨rfl, hb⟩)
      go_ret
      exact ⟨rfl, hb⟩
    | true =>
      by_cases h6 : 6 < mm
      · have t6 : decide (6 < mm) = true := by simpa using h6
        go_wp2_with (go_at_call 8; refine (readLetters_any _).mono ?_; rintro e w' ⟨rfl, hb⟩)
        go_ret
        exact ⟨rfl, hb⟩
      · have t6 : decide (6 < mm) = false := by simpa using h6
        go_wp2_with fail
        refine (Fish.out w (Below.refl _ _)).mono ?_
        rintro e w3 ⟨rfl, b3⟩
        have B3 := Lib.hid b3; clear b3 Fish
        go_wp2_with fail
        refine (Cmp.out w3 B3.out Ch.out).mono ?_
        rintro e w4 ⟨k, fine, rfl, b4, h4⟩
        have B4 := Lib.hid (Below.trans' B3.out b4); clear b4 Cmp
        cases fine with
        | false =>
          clear h4
          go_wp2_with fail
          refine (readLetters_any w4).mono ?_
          rintro e w5 ⟨rfl, b5⟩
          have B5 := Lib.hid (Below.trans' B4.out b5); clear b5
          go_wp2_with fail
          go_ret
          exact ⟨rfl, B5.out⟩
        | true =>
          have says := h4 rfl
          clear h4
          have Says := Lib.hid says; clear says
          go_wp2_with fail
          refine (Impl.out w4 B4.out Ch.out k Says.out).mono ?_
          rintro e w5 ⟨rfl, b5⟩
          have B5 := Lib.hid (Below.trans' B4.out b5); clear b5
          go_wp2_with fail
          refine (readLetters_any w5).mono ?_
          rintro e w6 ⟨rfl, b6⟩
          have B6 := Lib.hid (Below.trans' B5.out b6); clear b6
          go_wp2_with fail
          go_ret
          exact ⟨rfl, B6.out⟩
/-- All ways. -/
theorem compare_any (T : Nat → Nat) (pw : List Nat) (ka : Option Addr) (kc : Nat) (hl : List Nat) (a : Option Addr) (c : Nat) (a0 a1 : Addr) (w : World) (d : Data w T a0 a1) (p : Pass w ka kc pw) (h : HashAt w a c hl) :
    Calls Tryz.prog 3 #[.slice a hl.length c, .slice ka pw.length kc] w (TrueBelow w) := by
  by_cases h1 : 2147483647 < hl.length ∨ 2147483647 < pw.length
  · exact com_size a ka hl.length pw.length c kc w h1
  · by_cases h2 : 1024 < hl.length ∨ 72 < pw.length
    · exact com_long a ka hl.length pw.length c kc w (by omega) (by omega) h2
    · exact com_in T pw ka kc hl a c a0 a1 w d p (by omega) h (by omega)
end Go.Proofs.YthnhdfgonpbldaaGreatDoor
