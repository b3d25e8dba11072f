/- copy between slices of bytes, and make at a length and a capacity, as equations for a walk. -/
import Derived.Test.YthnhdfgonpbldaaGreatDoorInit
import Derived.Test.YthnhdfgonpbldaaGreatDoorBenc
import Derived.Laws.IdiomCopy
namespace Go.Proofs.YthnhdfgonpbldaaGreatDoor
open Go.RowKit Go.Lib
theorem setCells_but (g : Nat) : ∀ (vs : List Value) (o : Nat) (w : World), But (· = g) w (w.setCells g o vs)
  | [], _, w => But.refl _ w
  | v :: r, o, w => (But.setCell (S := (· = g)) (p := ⟨g, o, none⟩) (But.refl _ w) (fun _ => rfl) v).then (setCells_but g r (o + 1) _)
theorem setCells_row (g : Nat) (t : TypeId) (fr : Nat × Nat) : ∀ (vs : List Value) (o : Nat) (w : World) (cur : Array Value), w.heap[g]? = some (.cells cur t fr) → (w.setCells g o vs).heap[g]? = some (.cells (putAll cur o vs) t fr)
  | [], _, _, _, h => h
  | v :: r, o, w, cur, h => setCells_row g t fr r (o + 1) _ _ (setCell_row w g o cur t fr v h)
theorem copy_bytes (w : World) (g o dLen dCap b so sLen sCap n : Nat) (cs : List Value) (cur : Array Value) (hl : cs.length = n) (hn : n = Nat.min sLen dLen) (hg : w.heap[g]? = some (.cells cur 5 (0, 0))) (ho : o + n ≤ cur.size)
    (hsrc : ∀ j v, cs[j]? = some v → w.cell? ⟨b, so + j, none⟩ = some v) (h1 : ∀ v ∈ cs, v.oneCell' = true) :
    ∃ w', (Builtin.copy_ #[22, 22] 3 #[.slice (some ⟨g, o, none⟩) dLen dCap, .slice (some ⟨b, so, none⟩) sLen sCap]).run Tryz.prog w = .ok (goInt n) w' ∧ But (· = g) w w' ∧ w'.heap[g]? = some (.cells (putAll cur o cs) 5 (0, 0)) := by
  refine ⟨w.setCells g o cs, ?_, setCells_but g cs o w, setCells_row g 5 (0, 0) cs o w cur hg⟩
  rw [← hl]
  exact run_copy_cells w 22 22 3 5 g o dLen dCap ⟨b, so, none⟩ sLen sCap cs Tryz.underlying22 (by kernel_rfl) (by rw [hl, hn]) (fun j v hv => by rw [addr_add]; exact hsrc j v hv)
    (fun j hj => by obtain ⟨v, hv⟩ := cell_row_ex hg (show o + j < cur.size by omega); rw [hv]; rfl) (fun j _ => frozen_row hg (o + j)) h1
theorem make_cap (n c : Nat) (hn : n ≤ c) (hc : c ≤ 1000000) (w : World) : (Instr.makeSlice 22 (.int .i64 (n : Int)) (.int .i64 (c : Int))).run Tryz.prog w = .ok (.slice (some ⟨w.heap.size, 0, none⟩) n c) (w.alloc (.cells (made5 c) 5)) := by
  obtain ⟨i0, hi, hz0, hz1, hz2⟩ := info_parts info5
  have := run_make w 22 5 i0 (.int .u8 0) Tryz.underlying22 hi hz0 .i64 .i64 n c (by omega) (by omega) (by rw [hz2]; omega) (by omega)
  rw [hz1] at this
  have e : (madeCells (Value.int IntKind.u8 0).cells c) = made5 c := rfl
  simpa [e] using this
/-- Bytes as cells. -/
def bcells (l : List Nat) : List Value := l.map fun (x : Nat) => Value.int .u8 (x : Int)
theorem bcells_length (l : List Nat) : (bcells l).length = l.length := by simp [bcells]
theorem bcells_one (l : List Nat) : ∀ v ∈ bcells l, v.oneCell' = true := by
  intro v hv
  obtain ⟨x, _, rfl⟩ := List.mem_map.1 hv
  rfl
theorem bcells_get (l : List Nat) (i : Nat) (h : i < l.length) : (bcells l)[i]? = some (.int .u8 ((l.getD i 0 : Nat) : Int)) := by simp [bcells, List.getD, h]
theorem bcells_some {l : List Nat} {j : Nat} {v : Value} (h : (bcells l)[j]? = some v) : j < l.length ∧ v = .int .u8 ((l.getD j 0 : Nat) : Int) := by
  have hj : j < l.length := by
    have := (List.getElem?_eq_some_iff.1 h).1
    rw [bcells_length] at this
    exact this
  refine ⟨hj, ?_⟩
  rw [bcells_get l j hj] at h
  exact (Option.some.inj h).symm
end Go.Proofs.YthnhdfgonpbldaaGreatDoor
