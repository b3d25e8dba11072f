/- blowfish.initCipher: the five tables laid into a cipher's block. -/
import Derived.Test.YthnhdfgonpbldaaGreatDoorBase
import Derived.Laws.Tables
namespace Go.Proofs.YthnhdfgonpbldaaGreatDoor
open Go.RowKit Go.Lib
/-- Values laid into a row of cells from a place on. -/
def putAll (cur : Array Value) (k : Nat) : List Value → Array Value
  | [] => cur
  | v :: r => putAll (cur.setIfInBounds k v) (k + 1) r
theorem putAll_size : ∀ (vs : List Value) (cur : Array Value) (k : Nat), (putAll cur k vs).size = cur.size
  | [], _, _ => rfl
  | v :: r, cur, k => by rw [putAll, putAll_size r]; simp
theorem putAll_out : ∀ (vs : List Value) (cur : Array Value) (k j : Nat), (j < k ∨ k + vs.length ≤ j) → (putAll cur k vs)[j]? = cur[j]?
  | [], _, _, _, _ => rfl
  | v :: r, cur, k, j, h => by
    simp only [List.length_cons] at h
    rw [putAll, putAll_out r _ _ _ (by omega), Array.getElem?_setIfInBounds_ne (by omega)]
theorem putAll_in : ∀ (vs : List Value) (cur : Array Value) (k j : Nat), k + vs.length ≤ cur.size → j < vs.length → (putAll cur k vs)[k + j]? = vs[j]?
  | [], _, _, _, _, h => by simp at h
  | v :: r, cur, k, j, hs, h => by
    simp only [List.length_cons] at hs h
    cases j with
    | zero =>
      rw [putAll, putAll_out r _ _ _ (by omega)]
      simp [show k < cur.size by omega]
    | succ j =>
      rw [putAll, show k + (j + 1) = (k + 1) + j by omega, putAll_in r _ _ j (by simp; omega) (by omega)]
      simp
theorem setRow_same (w : World) (g : Nat) (cur : Array Value) (t : TypeId) (fr : Nat × Nat) (hg : w.heap[g]? = some (.cells cur t fr)) : w.setRow g cur = w := by
  have hlt : g < w.heap.size := (Array.getElem?_eq_some_iff.1 hg).1
  have hv : w.heap[g] = .cells cur t fr := (Array.getElem?_eq_some_iff.1 hg).2
  unfold World.setRow
  cases w with
  | mk heap tape drawn os output =>
    congr 1
    apply Array.ext
    · simp
    · intro k h1 h2
      simp only [Array.getElem_modify]
      split
      · rename_i hk
        subst hk
        simp at hv
        simp [hv]
      · rfl
theorem run_storeCells_part {P : Program} (g off : Nat) (t : TypeId) : ∀ (vs : List Value) (i : Nat) (cur : Array Value) (w : World), w.heap[g]? = some (.cells cur t (0, 0)) → off + i + vs.length ≤ cur.size → (∀ v ∈ vs, v.oneCell' = true) →
    (storeCells ⟨g, off, none⟩ vs i).run P w = .ok () (w.setRow g (putAll cur (off + i) vs))
  | [], i, cur, w, hg, _, _ => by
    rw [putAll, setRow_same w g cur t _ hg]
    rfl
  | v :: rest, i, cur, w, hg, hl, h1 => by
    simp only [List.length_cons] at hl
    have hi : off + i < cur.size := by omega
    have hcell : w.cell? ⟨g, off + i, none⟩ = some cur[off + i] := by simp [World.cell?, hg, hi]
    have hfro : w.frozen? ⟨g, off + i, none⟩ = false := by simp [World.frozen?, hg]
    have hst : (store ((⟨g, off, none⟩ : Addr).add i) v).run P w = .ok () (w.setRow g (cur.setIfInBounds (off + i) v)) := by
      rw [addr_add, run_store P w _ v _ (h1 v (by simp)), hcell]
      simp [hfro, setCell_eq_setRow w g (off + i) cur t (0, 0) v hg]
    have ih := run_storeCells_part (P := P) g off t rest (i + 1) (cur.setIfInBounds (off + i) v) (w.setRow g (cur.setIfInBounds (off + i) v)) (setRow_heap w g cur _ t _ hg) (by simp; omega) (fun x hx => h1 x (by simp [hx]))
    simp only [storeCells, Sem.run_bind, hst, Result.andThen_ok, ih, setRow_setRow]
    rw [putAll, Nat.add_assoc]
/-- A store of an array into a part of a block. -/
theorem wpList_store_part {P : Program} {ops : Array Oper} {rest : List Oper} {o : Oper} {a : Act} {w : World} {Q : Exit → Act → World → Prop} (hgd : o.guard = none) (ty : TypeId) (x y : Operand) (ho : o.op = .store ty x y)
    (hd : o.dst = none) (g off : Nat) (vs : List Value) (hx : a.eval x = .pointer (some ⟨g, off, none⟩)) (hy : a.eval y = .agg vs.toArray)
    (t : TypeId) (old : Array Value) (hg : w.heap[g]? = some (.cells old t (0, 0))) (hi : (P.info? ty).map (·.size) = some vs.length)
    (hold : off + vs.length ≤ old.size) (h1 : ∀ v ∈ vs, v.oneCell' = true)
    (h : wpList P ops Q rest a (w.setRow g (putAll old off vs))) : wpList P ops Q (o :: rest) a w := by
  refine wpList_plain hgd fun K hK => ?_
  have e : (storeVar ty ⟨g, off, none⟩ (.agg vs.toArray)).run P w = .ok () (w.setRow g (putAll old off vs)) := by
    have := run_storeCells_part (P := P) g off t vs 0 old w hg (by simpa using hold) h1
    rw [Nat.add_zero] at this
    cases hq : P.info? ty with
    | none => simp [hq] at hi
    | some i =>
      have hs : i.size = vs.length := by simpa [hq] using hi
      simp [storeVar, sizeOf, typeInfo, hq, Value.cells, hs, this]
  unfold Oper.wp execOp
  simp only [ho, hx, hy, Instr.storeAt, Instr.sureAddr, Sem.run_bind, Sem.run_pure, Result.andThen_ok, e]
  exact hK (a.put o.dst undef) (w.setRow g (putAll old off vs)) (by rw [hd]; exact h)
theorem wp_load_part {P : Program} {o : Oper} {a : Act} {w : World} {K : Act → World → Prop} {Q : Exit → Act → World → Prop} (ty : TypeId) (x : Operand) (ho : o.op = .load ty x)
    (g off : Nat) (hx : a.eval x = .pointer (some ⟨g, off, none⟩)) (t : TypeId) (cs : Array Value) (vs : List Value) (fr : Nat × Nat) (d : TypeDesc) (hg : w.heap[g]? = some (.cells cs t fr))
    (hvs : ∀ j v, vs[j]? = some v → cs[off + j]? = some v)
    (hu : P.underlying ty = some d) (hd : (match d with | .struct _ | .array _ _ => true | _ => false) = true) (hi : (P.info? ty).map (·.size) = some vs.length)
    (h : K (a.put o.dst (.agg vs.toArray)) w) : o.wp P a w K Q := by
  unfold Oper.wp execOp
  simp only [ho, hx, Instr.loadAt, Instr.sureAddr, Sem.run_bind, Sem.run_pure, Result.andThen_ok, run_loadVar_part w g off t ty cs vs fr d hg hvs hu hd hi]
  exact h
theorem wp_store_part {P : Program} {o : Oper} {a : Act} {w : World} {K : Act → World → Prop} {Q : Exit → Act → World → Prop} (ty : TypeId) (x y : Operand) (ho : o.op = .store ty x y)
    (hd : o.dst = none) (g off : Nat) (vs : List Value) (hx : a.eval x = .pointer (some ⟨g, off, none⟩)) (hy : a.eval y = .agg vs.toArray)
    (t : TypeId) (old : Array Value) (hg : w.heap[g]? = some (.cells old t (0, 0))) (hi : (P.info? ty).map (·.size) = some vs.length)
    (hold : off + vs.length ≤ old.size) (h1 : ∀ v ∈ vs, v.oneCell' = true)
    (h : K a (w.setRow g (putAll old off vs))) : o.wp P a w K Q := by
  have e : (storeVar ty ⟨g, off, none⟩ (.agg vs.toArray)).run P w = .ok () (w.setRow g (putAll old off vs)) := by
    have := run_storeCells_part (P := P) g off t vs 0 old w hg (by simpa using hold) h1
    rw [Nat.add_zero] at this
    cases hq : P.info? ty with
    | none => simp [hq] at hi
    | some i =>
      have hs : i.size = vs.length := by simpa [hq] using hi
      simp [storeVar, sizeOf, typeInfo, hq, Value.cells, hs, this]
  have h' : K (a.put o.dst undef) (w.setRow g (putAll old off vs)) := by rw [hd]; exact h
  unfold Oper.wp execOp
  simp only [ho, hx, hy, Instr.storeAt, Instr.sureAddr, Sem.run_bind, Sem.run_pure, Result.andThen_ok, e]
  exact h'
/-- The five tables, as 1042 words, in the package's variables. -/
def tw (T : Nat → Nat) (o n : Nat) : List Value := (List.range n).map fun j => .int .u32 (T (o + j) : Int)
theorem tw_length (T : Nat → Nat) (o n : Nat) : (tw T o n).length = n := by simp [tw]
theorem tw_get (T : Nat → Nat) (o n j : Nat) (v : Value) (h : (tw T o n)[j]? = some v) : j < n ∧ v = .int .u32 (T (o + j) : Int) := by
  have hj : j < n := by
    have := (List.getElem?_eq_some_iff.1 h).1
    simpa [tw] using this
  refine ⟨hj, ?_⟩
  simp [tw, hj] at h
  exact h.symm
theorem tw_one (T : Nat → Nat) (o n : Nat) : ∀ v ∈ tw T o n, v.oneCell' = true := by
  intro v hv
  obtain ⟨j, _, rfl⟩ := List.mem_map.1 hv
  rfl
def TabAt (w : World) (g : Nat) (T : Nat → Nat) (o n : Nat) : Prop := ∃ cs t fr, w.heap[g]? = some (.cells cs t fr) ∧ ∀ j, j < n → cs[j]? = some (.int .u32 (T (o + j) : Int))
structure Tabs (w : World) (T : Nat → Nat) : Prop where
  lt : ∀ j, T j < 4294967296
  p : TabAt w 2 T 0 18
  s0 : TabAt w 3 T 18 256
  s1 : TabAt w 4 T 274 256
  s2 : TabAt w 5 T 530 256
  s3 : TabAt w 6 T 786 256
theorem TabAt.but {w w' : World} {S : Nat → Prop} {g : Nat} {T : Nat → Nat} {o n : Nat} (h : TabAt w g T o n) (b : But S w w') (hs : ¬ S g) : TabAt w' g T o n := by
  obtain ⟨cs, t, fr, h1, h2⟩ := h
  exact ⟨cs, t, fr, b.row h1 hs, h2⟩
theorem Tabs.but {w w' : World} {S : Nat → Prop} {T : Nat → Nat} (h : Tabs w T) (b : But S w w') (hs : ∀ g, g < 7 → ¬ S g) : Tabs w' T :=
  ⟨h.lt, h.p.but b (hs _ (by omega)), h.s0.but b (hs _ (by omega)), h.s1.but b (hs _ (by omega)), h.s2.but b (hs _ (by omega)), h.s3.but b (hs _ (by omega))⟩
/-- The whole cipher's cells behind initCipher. -/
def laidT (T : Nat → Nat) (cur : Array Value) : Array Value := putAll (putAll (putAll (putAll (putAll cur 0 (tw T 0 18)) 18 (tw T 18 256)) 274 (tw T 274 256)) 530 (tw T 530 256)) 786 (tw T 786 256)
theorem tw_at (T : Nat → Nat) (o n j : Nat) (h : j < n) : (tw T o n)[j]? = some (.int .u32 (T (o + j) : Int)) := by simp [tw, h]
theorem laidT_get (T : Nat → Nat) (cur : Array Value) (hs : cur.size = 1042) (j : Nat) (hj : j < 1042) : (laidT T cur)[j]? = some (.int .u32 (T j : Int)) := by
  unfold laidT
  have l0 := tw_length T 0 18
  have l1 := tw_length T 18 256
  have l2 := tw_length T 274 256
  have l3 := tw_length T 530 256
  have l4 := tw_length T 786 256
  have key : ∀ (A : Array Value) (o n : Nat), A.size = 1042 → o + n ≤ 1042 → o ≤ j → j < o + n → (putAll A o (tw T o n))[j]? = some (.int .u32 (T j : Int)) := fun A o n hA hn h1 h2 => by
    have hl := tw_length T o n
    have := putAll_in (tw T o n) A o (j - o) (by omega) (by omega)
    rw [show o + (j - o) = j by omega] at this
    rw [this, tw_at T o n (j - o) (by omega), show o + (j - o) = j by omega]
  by_cases h4 : 786 ≤ j
  · exact key _ 786 256 (by simp [putAll_size, hs]) (by omega) h4 (by omega)
  rw [putAll_out _ _ _ _ (by omega)]
  by_cases h3 : 530 ≤ j
  · exact key _ 530 256 (by simp [putAll_size, hs]) (by omega) h3 (by omega)
  rw [putAll_out _ _ _ _ (by omega)]
  by_cases h2 : 274 ≤ j
  · exact key _ 274 256 (by simp [putAll_size, hs]) (by omega) h2 (by omega)
  rw [putAll_out _ _ _ _ (by omega)]
  by_cases h1 : 18 ≤ j
  · exact key _ 18 256 (by simp [putAll_size, hs]) (by omega) h1 (by omega)
  rw [putAll_out _ _ _ _ (by omega)]
  exact key _ 0 18 hs (by omega) (by omega) (by omega)
theorem But.setRow {S : Nat → Prop} {a w : World} (h : But S a w) {g : Nat} (hg : S g) (cs : Array Value) : But S a (w.setRow g cs) :=
  ⟨h.os, h.tape, h.output, by simpa using h.size, fun k hk hs => by
    rw [← h.block k hk hs]
    have hne : k ≠ g := fun e => hs (e ▸ hg)
    simp [World.setRow, Array.getElem?_modify, hne.symm]⟩
def InitPost (T : Nat → Nat) (B : Nat) (cur : Array Value) (w : World) (e : Ending) (w' : World) : Prop :=
  e = .returned (.tuple #[]) ∧ But (· = B) w w' ∧ w'.heap[B]? = some (.cells (laidT T cur) 143 (0, 0))
theorem TabAt.load {w : World} {g : Nat} {T : Nat → Nat} {o n : Nat} (h : TabAt w g T o n) : ∃ cs t fr, w.heap[g]? = some (.cells cs t fr) ∧ ∀ j v, (tw T o n)[j]? = some v → cs[0 + j]? = some v := by
  obtain ⟨cs, t, fr, h1, h2⟩ := h
  refine ⟨cs, t, fr, h1, fun j v hv => ?_⟩
  obtain ⟨a, rfl⟩ := tw_get T o n j v hv
  rw [Nat.zero_add]
  exact h2 j a
theorem size30 (T : Nat → Nat) (o : Nat) : (Tryz.prog.info? 30).map (·.size) = some (tw T o 18).length := by rw [tw_length]; kernel_rfl
theorem size31 (T : Nat → Nat) (o : Nat) : (Tryz.prog.info? 31).map (·.size) = some (tw T o 256).length := by rw [tw_length]; kernel_rfl
attribute [local irreducible] tw putAll
set_option maxHeartbeats 8000000 in
set_option maxRecDepth 100000 in
theorem initCipher_any (T : Nat → Nat) (B : Nat) (cur : Array Value) (w : World) (ht : Tabs w T) (hs : cur.size = 1042) (hB : 7 ≤ B) (hb : w.heap[B]? = some (.cells cur 143 (0, 0))) :
    Calls Tryz.prog 76 #[.pointer (some ⟨B, 0, none⟩)] w (InitPost T B cur w) := by
  have b0 : But (· = B) w w := But.refl _ _
  have Ht := Lib.hid ht; clear ht
  have Hb := Lib.hid b0; clear b0
  have R := Lib.hid hb; clear hb
  have S0 := Lib.hid hs; clear hs
  obtain ⟨A0, hA0⟩ : ∃ A, cur = A := ⟨_, rfl⟩
  rw [hA0] at R S0
  have E0 := Lib.hid hA0; clear hA0
  go_enter Tryz.func76, Tryz.ntmps76
  -- p
  obtain ⟨c0, t0, f0, m0, d0⟩ := Ht.out.p.load
  have z0 := size30 T 0
  have q0 := tw_one T 0 18
  have l0 := tw_length T 0 18
  obtain ⟨v0, hv0⟩ : ∃ v, tw T 0 18 = v := ⟨_, rfl⟩
  rw [hv0] at d0 z0 q0 l0
  obtain ⟨A1, hA1⟩ : ∃ A, putAll A0 0 v0 = A := ⟨_, rfl⟩
  have s0 : 0 + v0.length ≤ A0.size := by rw [l0, S0.out]; decide
  have S1 := Lib.hid (show A1.size = 1042 by rw [← hA1, putAll_size, S0.out])
  have SZ0 := Lib.hid s0; clear s0
  have M0 := Lib.hid m0; clear m0
  have D0 := Lib.hid d0; clear d0
  have Z0 := Lib.hid z0; clear z0
  have Q0 := Lib.hid q0; clear q0 l0
  have V0 := Lib.hid hv0; clear hv0
  have E1 := Lib.hid hA1; clear hA1
  go_wp2_with (first
    | refine wpList_load_part rfl 30 (.global 2) rfl 2 0 rfl t0 c0 v0 f0 _ M0.out D0.out Tryz.underlying30 rfl Z0.out ?_
    | refine wpList_store_part rfl 30 (.tmp 5) (.tmp 3) rfl rfl B 0 v0 rfl rfl 143 A0 R.out Z0.out SZ0.out Q0.out ?_)
  rw [E1.out]
  have B0 := Lib.hid (But.setRow Hb.out rfl A1)
  have R0 := Lib.hid (setRow_heap w B A0 A1 143 (0, 0) R.out)
  have T0 := Lib.hid (Ht.out.but (But.setRow (But.refl (· = B) w) rfl A1) (fun k hk => by show ¬ k = B; omega))
  clear M0 D0 SZ0 Z0 Q0 Ht R Hb
  obtain ⟨w0, hw0⟩ : ∃ x, w.setRow B A1 = x := ⟨_, rfl⟩
  rw [hw0] at B0 R0 T0
  rw [hw0]
  clear hw0
  have Ht := T0
  have Hb := B0
  have R := R0
  clear T0 B0 R0
  -- s0
  obtain ⟨c1, t1, f1, m1, d1⟩ := Ht.out.s0.load
  have z1 := size31 T 18
  have q1 := tw_one T 18 256
  have l1 := tw_length T 18 256
  obtain ⟨v1, hv1⟩ : ∃ v, tw T 18 256 = v := ⟨_, rfl⟩
  rw [hv1] at d1 z1 q1 l1
  obtain ⟨A2, hA2⟩ : ∃ A, putAll A1 18 v1 = A := ⟨_, rfl⟩
  have s1 : 18 + v1.length ≤ A1.size := by rw [l1, S1.out]; decide
  have S2 := Lib.hid (show A2.size = 1042 by rw [← hA2, putAll_size, S1.out])
  have SZ1 := Lib.hid s1; clear s1
  have M1 := Lib.hid m1; clear m1
  have D1 := Lib.hid d1; clear d1
  have Z1 := Lib.hid z1; clear z1
  have Q1 := Lib.hid q1; clear q1 l1
  have V1 := Lib.hid hv1; clear hv1
  have E2 := Lib.hid hA2; clear hA2
  go_wp2_with fail
  refine wp_load_part 31 (.global 3) rfl 3 0 rfl t1 c1 v1 f1 _ M1.out D1.out Tryz.underlying31 rfl Z1.out ?_
  go_wp2_with (first
    | refine wpList_store_part rfl 31 (.tmp 9) (.tmp 7) rfl rfl B 18 v1 rfl rfl 143 A1 R.out Z1.out SZ1.out Q1.out ?_
    | refine wp_store_part 31 (.tmp 9) (.tmp 7) rfl rfl B 18 v1 rfl rfl 143 A1 R.out Z1.out SZ1.out Q1.out ?_)
  rw [E2.out]
  have B1 := Lib.hid (But.setRow Hb.out rfl A2)
  have R1 := Lib.hid (setRow_heap w0 B A1 A2 143 (0, 0) R.out)
  have T1 := Lib.hid (Ht.out.but (But.setRow (But.refl (· = B) w0) rfl A2) (fun k hk => by show ¬ k = B; omega))
  clear M1 D1 SZ1 Z1 Q1 Ht R Hb
  obtain ⟨w1, hw1⟩ : ∃ x, w0.setRow B A2 = x := ⟨_, rfl⟩
  rw [hw1] at B1 R1 T1
  rw [hw1]
  clear hw1
  have Ht := T1
  have Hb := B1
  have R := R1
  clear T1 B1 R1
  -- s1
  obtain ⟨c2, t2, f2, m2, d2⟩ := Ht.out.s1.load
  have z2 := size31 T 274
  have q2 := tw_one T 274 256
  have l2 := tw_length T 274 256
  obtain ⟨v2, hv2⟩ : ∃ v, tw T 274 256 = v := ⟨_, rfl⟩
  rw [hv2] at d2 z2 q2 l2
  obtain ⟨A3, hA3⟩ : ∃ A, putAll A2 274 v2 = A := ⟨_, rfl⟩
  have s2 : 274 + v2.length ≤ A2.size := by rw [l2, S2.out]; decide
  have S3 := Lib.hid (show A3.size = 1042 by rw [← hA3, putAll_size, S2.out])
  have SZ2 := Lib.hid s2; clear s2
  have M2 := Lib.hid m2; clear m2
  have D2 := Lib.hid d2; clear d2
  have Z2 := Lib.hid z2; clear z2
  have Q2 := Lib.hid q2; clear q2 l2
  have V2 := Lib.hid hv2; clear hv2
  have E3 := Lib.hid hA3; clear hA3
  go_wp2_with fail
  refine wp_load_part 31 (.global 4) rfl 4 0 rfl t2 c2 v2 f2 _ M2.out D2.out Tryz.underlying31 rfl Z2.out ?_
  go_wp2_with (first
    | refine wpList_store_part rfl 31 (.tmp 13) (.tmp 11) rfl rfl B 274 v2 rfl rfl 143 A2 R.out Z2.out SZ2.out Q2.out ?_
    | refine wp_store_part 31 (.tmp 13) (.tmp 11) rfl rfl B 274 v2 rfl rfl 143 A2 R.out Z2.out SZ2.out Q2.out ?_)
  rw [E3.out]
  have B2 := Lib.hid (But.setRow Hb.out rfl A3)
  have R2 := Lib.hid (setRow_heap w1 B A2 A3 143 (0, 0) R.out)
  have T2 := Lib.hid (Ht.out.but (But.setRow (But.refl (· = B) w1) rfl A3) (fun k hk => by show ¬ k = B; omega))
  clear M2 D2 SZ2 Z2 Q2 Ht R Hb
  obtain ⟨w2, hw2⟩ : ∃ x, w1.setRow B A3 = x := ⟨_, rfl⟩
  rw [hw2] at B2 R2 T2
  rw [hw2]
  clear hw2
  have Ht := T2
  have Hb := B2
  have R := R2
  clear T2 B2 R2
  -- s2
  obtain ⟨c3, t3, f3, m3, d3⟩ := Ht.out.s2.load
  have z3 := size31 T 530
  have q3 := tw_one T 530 256
  have l3 := tw_length T 530 256
  obtain ⟨v3, hv3⟩ : ∃ v, tw T 530 256 = v := ⟨_, rfl⟩
  rw [hv3] at d3 z3 q3 l3
  obtain ⟨A4, hA4⟩ : ∃ A, putAll A3 530 v3 = A := ⟨_, rfl⟩
  have s3 : 530 + v3.length ≤ A3.size := by rw [l3, S3.out]; decide
  have S4 := Lib.hid (show A4.size = 1042 by rw [← hA4, putAll_size, S3.out])
  have SZ3 := Lib.hid s3; clear s3
  have M3 := Lib.hid m3; clear m3
  have D3 := Lib.hid d3; clear d3
  have Z3 := Lib.hid z3; clear z3
  have Q3 := Lib.hid q3; clear q3 l3
  have V3 := Lib.hid hv3; clear hv3
  have E4 := Lib.hid hA4; clear hA4
  go_wp2_with fail
  refine wp_load_part 31 (.global 5) rfl 5 0 rfl t3 c3 v3 f3 _ M3.out D3.out Tryz.underlying31 rfl Z3.out ?_
  go_wp2_with (first
    | refine wpList_store_part rfl 31 (.tmp 17) (.tmp 15) rfl rfl B 530 v3 rfl rfl 143 A3 R.out Z3.out SZ3.out Q3.out ?_
    | refine wp_store_part 31 (.tmp 17) (.tmp 15) rfl rfl B 530 v3 rfl rfl 143 A3 R.out Z3.out SZ3.out Q3.out ?_)
  rw [E4.out]
  have B3 := Lib.hid (But.setRow Hb.out rfl A4)
  have R3 := Lib.hid (setRow_heap w2 B A3 A4 143 (0, 0) R.out)
  have T3 := Lib.hid (Ht.out.but (But.setRow (But.refl (· = B) w2) rfl A4) (fun k hk => by show ¬ k = B; omega))
  clear M3 D3 SZ3 Z3 Q3 Ht R Hb
  obtain ⟨w3, hw3⟩ : ∃ x, w2.setRow B A4 = x := ⟨_, rfl⟩
  rw [hw3] at B3 R3 T3
  rw [hw3]
  clear hw3
  have Ht := T3
  have Hb := B3
  have R := R3
  clear T3 B3 R3
  -- s3
  obtain ⟨c4, t4, f4, m4, d4⟩ := Ht.out.s3.load
  have z4 := size31 T 786
  have q4 := tw_one T 786 256
  have l4 := tw_length T 786 256
  obtain ⟨v4, hv4⟩ : ∃ v, tw T 786 256 = v := ⟨_, rfl⟩
  rw [hv4] at d4 z4 q4 l4
  obtain ⟨A5, hA5⟩ : ∃ A, putAll A4 786 v4 = A := ⟨_, rfl⟩
  have s4 : 786 + v4.length ≤ A4.size := by rw [l4, S4.out]; decide
  have S5 := Lib.hid (show A5.size = 1042 by rw [← hA5, putAll_size, S4.out])
  have SZ4 := Lib.hid s4; clear s4
  have M4 := Lib.hid m4; clear m4
  have D4 := Lib.hid d4; clear d4
  have Z4 := Lib.hid z4; clear z4
  have Q4 := Lib.hid q4; clear q4 l4
  have V4 := Lib.hid hv4; clear hv4
  have E5 := Lib.hid hA5; clear hA5
  go_wp2_with fail
  refine wp_load_part 31 (.global 6) rfl 6 0 rfl t4 c4 v4 f4 _ M4.out D4.out Tryz.underlying31 rfl Z4.out ?_
  go_wp2_with (first
    | refine wpList_store_part rfl 31 (.tmp 21) (.tmp 19) rfl rfl B 786 v4 rfl rfl 143 A4 R.out Z4.out SZ4.out Q4.out ?_
    | refine wp_store_part 31 (.tmp 21) (.tmp 19) rfl rfl B 786 v4 rfl rfl 143 A4 R.out Z4.out SZ4.out Q4.out ?_)
  rw [E5.out]
  have B4 := Lib.hid (But.setRow Hb.out rfl A5)
  have R4 := Lib.hid (setRow_heap w3 B A4 A5 143 (0, 0) R.out)
  have T4 := Lib.hid (Ht.out.but (But.setRow (But.refl (· = B) w3) rfl A5) (fun k hk => by show ¬ k = B; omega))
  clear M4 D4 SZ4 Z4 Q4 Ht R Hb
  obtain ⟨w4, hw4⟩ : ∃ x, w3.setRow B A5 = x := ⟨_, rfl⟩
  rw [hw4] at B4 R4 T4
  rw [hw4]
  clear hw4
  have Ht := T4
  have Hb := B4
  have R := R4
  clear T4 B4 R4
  go_end0
  have e : A5 = laidT T cur := by
    unfold laidT
    rw [V0.out, V1.out, V2.out, V3.out, V4.out, E0.out, E1.out, E2.out, E3.out, E4.out, E5.out]
  unfold InitPost
  rw [← e]
  exact ⟨rfl, Hb.out, R.out⟩
end Go.Proofs.YthnhdfgonpbldaaGreatDoor
