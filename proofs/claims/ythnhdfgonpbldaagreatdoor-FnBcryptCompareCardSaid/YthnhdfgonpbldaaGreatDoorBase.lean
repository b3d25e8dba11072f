/- Small laws on worlds and rows of cells, used by all walks of this seat; no statement of the program. -/
import Derived.Test.YthnhdfgonpbldaaGreatDoorProg
import Derived.WalkKit
import Derived.Lib.Hide
import Derived.Handy
import Derived.Outline
import Derived.WalkLawsBesides
import Derived.WalkSpells
import Derived.Deep.QuietTactic
import Derived.BigQuiet
import Derived.Lib.BufferWrite
namespace Go.Proofs.YthnhdfgonpbldaaGreatDoor
open Go.RowKit Go.Lib
theorem ret_bool {a b : Bool} (h : a = b) : Ending.returned (.bool a) = .returned (.bool b) := by rw [h]
theorem ret_int {k : IntKind} {a b : Int} (h : a = b) : Ending.returned (.int k a) = .returned (.int k b) := by rw [h]
theorem heap_alloc_at (w : World) (o : Obj) : (w.alloc o).heap[w.heap.size]? = some o := by
  show (w.heap.push o)[w.heap.size]? = some o
  rw [Array.getElem?_push, if_pos rfl]
theorem heap_alloc_ne (w : World) (o : Obj) (k : Nat) (h : k ≠ w.heap.size) : (w.alloc o).heap[k]? = w.heap[k]? := by
  show (w.heap.push o)[k]? = _
  rw [Array.getElem?_push, if_neg h]
theorem world_ext {w w' : World} (h1 : w.heap = w'.heap) (h2 : w.tape = w'.tape) (h3 : w.drawn = w'.drawn) (h4 : w.os = w'.os) (h5 : w.output = w'.output) : w = w' := by
  cases w; cases w'; simp only at *; subst h1 h2 h3 h4 h5; rfl
theorem setRow_alloc_at (w : World) (cur cells : Array Value) (t : TypeId) : (w.alloc (.cells cur t)).setRow w.heap.size cells = w.alloc (.cells cells t) := by
  refine world_ext ?_ rfl rfl rfl rfl
  apply Array.ext_getElem?
  intro i
  by_cases h : i = w.heap.size
  · subst h
    rw [setRow_heap _ _ cur cells t (0, 0) (heap_alloc_at w _), heap_alloc_at]
  · rw [setRow_other _ _ _ _ h, heap_alloc_ne _ _ _ h, heap_alloc_ne _ _ _ h]
/-- All blocks but those in S are as they were; the streams too; no block has gone. -/
structure But (S : Nat → Prop) (w w' : World) : Prop where
  os : w'.os = w.os
  tape : w'.tape = w.tape
  output : w'.output = w.output
  size : w.heap.size ≤ w'.heap.size
  block : ∀ k, k < w.heap.size → ¬ S k → w'.heap[k]? = w.heap[k]?
theorem But.refl (S : Nat → Prop) (w : World) : But S w w := ⟨rfl, rfl, rfl, Nat.le_refl _, fun _ _ _ => rfl⟩
theorem But.trans {S S' S'' : Nat → Prop} {a b c : World} (h : But S a b) (k : But S' b c) (h1 : ∀ i, i < a.heap.size → S i → S'' i) (h2 : ∀ i, i < a.heap.size → S' i → S'' i) : But S'' a c :=
  ⟨k.os.trans h.os, k.tape.trans h.tape, k.output.trans h.output, Nat.le_trans h.size k.size, fun i hi hs =>
    (k.block i (Nat.lt_of_lt_of_le hi h.size) (fun e => hs (h2 i hi e))).trans (h.block i hi (fun e => hs (h1 i hi e)))⟩
theorem But.then {S : Nat → Prop} {a b c : World} (h : But S a b) (k : But S b c) : But S a c := h.trans k (fun _ _ x => x) (fun _ _ x => x)
theorem But.drewN {S : Nat → Prop} {a w : World} (h : But S a w) (n : Nat) : But S a (w.drewN n) := ⟨h.os, h.tape, h.output, h.size, h.block⟩
theorem But.drew {S : Nat → Prop} {a w : World} (h : But S a w) : But S a w.drew := ⟨h.os, h.tape, h.output, h.size, h.block⟩
theorem But.alloc {S : Nat → Prop} {a w : World} (h : But S a w) (o : Obj) : But S a (w.alloc o) :=
  h.then ⟨rfl, rfl, rfl, by simp, fun k hk _ => Below.heap_alloc _ _ _ hk⟩
theorem But.setCell {S : Nat → Prop} {a w : World} (h : But S a w) {p : Addr} (hp : p.block < a.heap.size → S p.block) (u : Value) : But S a (w.setCell p u) :=
  h.trans (S' := fun k => k = p.block) ⟨rfl, rfl, rfl, by simp, fun k _ hs => Below.heap_setCell _ _ _ _ hs⟩ (fun _ _ x => x) (fun i hi e => by subst e; exact hp hi)
theorem But.below {S : Nat → Prop} {B : Nat} {w w' : World} (h : But S w w') (hB : B ≤ w.heap.size) (hS : ∀ k, k < B → ¬ S k) : Below B w w' :=
  ⟨h.os, h.tape, h.output, h.size, fun k hk => h.block k (by omega) (hS k hk)⟩
theorem But.of_below {S : Nat → Prop} {w w' : World} (h : Below w.heap.size w w') : But S w w' := ⟨h.os, h.tape, h.output, h.size, fun k hk _ => h.block k hk⟩
theorem But.cell {S : Nat → Prop} {w w' : World} (h : But S w w') {p : Addr} {v : Value} (hv : w.cell? p = some v) (hs : ¬ S p.block) : w'.cell? p = some v := by
  rw [World.cell?_of_block (w := w) (h.block p.block (World.block_lt_of_cell? _ _ hv) hs), hv]
theorem But.row {S : Nat → Prop} {w w' : World} (h : But S w w') {k : Nat} {o : Obj} (hv : w.heap[k]? = some o) (hs : ¬ S k) : w'.heap[k]? = some o := by
  rw [h.block k (Array.getElem?_eq_some_iff.1 hv).1 hs, hv]
theorem setCell_row (w : World) (g i : Nat) (c : Array Value) (t : TypeId) (fr : Nat × Nat) (v : Value) (h : w.heap[g]? = some (.cells c t fr)) : (w.setCell ⟨g, i, none⟩ v).heap[g]? = some (.cells (c.setIfInBounds i v) t fr) := by
  simp [World.setCell, Array.getElem?_modify, h]
theorem cell_row {w : World} {g i : Nat} {c : Array Value} {t : TypeId} {fr : Nat × Nat} {v : Value} (h : w.heap[g]? = some (.cells c t fr)) (hv : c[i]? = some v) : w.cell? ⟨g, i, none⟩ = some v := by
  simp [World.cell?, h, hv]
theorem cell_row_ex {w : World} {g i : Nat} {c : Array Value} {t : TypeId} {fr : Nat × Nat} (h : w.heap[g]? = some (.cells c t fr)) (hi : i < c.size) : ∃ v, w.cell? ⟨g, i, none⟩ = some v :=
  ⟨c[i], by simp [World.cell?, h, hi]⟩
theorem frozen_row {w : World} {g : Nat} {c : Array Value} {t : TypeId} (h : w.heap[g]? = some (.cells c t (0, 0))) (i : Nat) : w.frozen? ⟨g, i, none⟩ = false := by
  simp [World.frozen?, h]
theorem addr_add (b o j : Nat) : (⟨b, o, none⟩ : Addr).add j = ⟨b, o + j, none⟩ := by unfold Addr.add; split <;> simp_all
theorem run_loadVar_part {P : Program} (w : World) (g off : Nat) (t ty : TypeId) (cs : Array Value) (vs : List Value) (fr : Nat × Nat) (d : TypeDesc) (hg : w.heap[g]? = some (.cells cs t fr))
    (hvs : ∀ j v, vs[j]? = some v → cs[off + j]? = some v)
    (hu : P.underlying ty = some d) (hd : (match d with | .struct _ | .array _ _ => true | _ => false) = true) (hi : (P.info? ty).map (·.size) = some vs.length) :
    (loadVar ty ⟨g, off, none⟩).run P w = .ok (.agg vs.toArray) w := by
  have hl : (loadCells ⟨g, off, none⟩ vs.length).run P w = .ok vs.toArray w :=
    run_loadCells_list (P := P) w ⟨g, off, none⟩ vs (fun j v hv => by
      rw [addr_add, cell_of_row w g (off + j) cs t fr hg]
      exact hvs j v hv)
  cases hq : P.info? ty with
  | none => simp [hq] at hi
  | some i =>
    have hsz : i.size = vs.length := by simpa [hq] using hi
    cases d <;> simp at hd <;> simp [loadVar, isAgg, run_underlying hu, sizeOf, typeInfo, hq, hsz, hl, Result.andThen]
/-- A load of an array (or a struct) that lies inside a block, whose value nobody looks at. -/
theorem wpList_load_part {P : Program} {ops : Array Oper} {rest : List Oper} {o : Oper} {a : Act} {w : World} {Q : Exit → Act → World → Prop} (hgd : o.guard = none) (ty : TypeId) (x : Operand) (ho : o.op = .load ty x)
    (g off : Nat) (hx : a.eval x = .pointer (some ⟨g, off, none⟩)) (t : TypeId) (cs : Array Value) (vs : List Value) (fr : Nat × Nat) (d : TypeDesc) (hg : w.heap[g]? = some (.cells cs t fr))
    (hvs : ∀ j v, vs[j]? = some v → cs[off + j]? = some v)
    (hu : P.underlying ty = some d) (hd : (match d with | .struct _ | .array _ _ => true | _ => false) = true) (hi : (P.info? ty).map (·.size) = some vs.length)
    (h : wpList P ops Q rest (a.put o.dst (.agg vs.toArray)) w) : wpList P ops Q (o :: rest) a w := by
  refine wpList_plain hgd fun K hK => ?_
  unfold Oper.wp execOp
  simp only [ho, hx, Instr.loadAt, Instr.sureAddr, Sem.run_bind, Sem.run_pure, Result.andThen_ok, run_loadVar_part w g off t ty cs vs fr d hg hvs hu hd hi]
  exact hK _ _ h
theorem or_join64 (i : Nat) (x y : Nat) (hx : x % 2 ^ i = 0) (hy : y < 2 ^ i) (h1 : x < 18446744073709551616) (h2 : y < 18446744073709551616) : bits .or .u64 (x : Int) (y : Int) = ((x + y : Nat) : Int) := by
  rw [u64_or_nat x y h1 h2, nat_join i x y hx hy]
theorem or_join32 (i : Nat) (x y : Nat) (hx : x % 2 ^ i = 0) (hy : y < 2 ^ i) (h1 : x < 4294967296) (h2 : y < 4294967296) : bits .or .u32 (x : Int) (y : Int) = ((x + y : Nat) : Int) := by
  rw [u32_or_nat x y h1 h2, nat_join i x y hx hy]
theorem and63 (x : Nat) (h : x < 18446744073709551616) : bits .and .u64 (x : Int) 63 = ((x % 64 : Nat) : Int) := by
  have := u64_and_nat x 63 h (by omega)
  rw [nat_mask6] at this
  exact this
end Go.Proofs.YthnhdfgonpbldaaGreatDoor
