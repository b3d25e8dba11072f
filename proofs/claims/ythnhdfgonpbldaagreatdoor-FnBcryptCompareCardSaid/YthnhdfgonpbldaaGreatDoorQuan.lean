/- encoding/base64's decodeQuantum at the end of bcrypt's salt: two letters and two signs that fill it up. -/
import Derived.Test.YthnhdfgonpbldaaGreatDoorAsm
import Derived.Outline
import Derived.Deep.Cut
namespace Go.Proofs.YthnhdfgonpbldaaGreatDoor
open Go.RowKit Go.Lib
/-- What a letter reads as. -/
theorem encA_val (v : Nat) (h : v < 64) : ∀ k, v < k → k ≤ 64 → (encA k)[64 + alN v]? = some (.int .u8 (v : Int))
  | 0, h1, _ => by omega
  | k + 1, h1, h2 => by
    rcases Nat.lt_or_ge v k with hv | hv
    · have hne : alN v ≠ alN k := (alN_facts k (by omega)).2.2.2 v hv
      rw [encA, Array.getElem?_setIfInBounds_ne (by omega)]
      exact encA_val v h k hv (by omega)
    · obtain rfl : v = k := by omega
      have hs := encA_size v
      have hl := (alN_facts v h).1
      rw [encA, Array.getElem?_setIfInBounds_self_of_lt (by omega)]
theorem encA_none (x : Nat) (hx : x < 256) (hn : ∀ i, i < 64 → alN i ≠ x) : ∀ k, k ≤ 64 → (encA k)[64 + x]? = some (.int .u8 255)
  | 0, _ => enc2_mid x hx
  | k + 1, h => by
    rw [encA, Array.getElem?_setIfInBounds_ne (by have := hn k (by omega); omega)]
    exact encA_none x hx hn k (by omega)
theorem encA_eq61 : (encA 64)[64 + 61]? = some (.int .u8 255) := encA_none 61 (by decide) (fun i h => alN_ne61 i h) 64 (Nat.le_refl _)
theorem encA_strict : ∀ k, k ≤ 64 → (encA k)[321]? = some (.bool false)
  | 0, _ => by
    show enc2[321]? = _
    have : enc2.toList[321]? = some (Value.bool false) := by
      unfold enc2
      have e : (byteCells alphaS.data.toList ++ byteCells inv256.data.toList).length = 320 := by kernel_rfl
      rw [List.getElem?_append_right (by omega), e]
      rfl
    simpa using this
  | k + 1, h => by rw [encA, Array.getElem?_setIfInBounds_ne (by have := (alN_facts k (by omega)).1; omega)]; exact encA_strict k (by omega)
noncomputable def decCells : List Value := ((encA 64).toList.drop 64).take 256
theorem decCells_length : decCells.length = 256 := by
  have := encA_size 64
  simp [decCells]
  omega
theorem dec_part (j : Nat) (v : Value) (h : decCells[j]? = some v) : (encA 64)[64 + j]? = some v := by
  have hj : j < 256 := by
    have := (List.getElem?_eq_some_iff.1 h).1
    rw [decCells_length] at this
    exact this
  unfold decCells at h
  rw [List.getElem?_take_of_lt hj, List.getElem?_drop] at h
  simpa using h
theorem size136 : (Tryz.prog.info? 136).map (·.size) = some decCells.length := by rw [decCells_length]; kernel_rfl
attribute [local irreducible] decCells
def QuanPost (g o v : Nat) (cur : Array Value) (w : World) (e : Ending) (w' : World) : Prop :=
  e = .returned (.tuple #[.int .i64 24, .int .i64 1, .nilIface]) ∧ But (· = g) w w' ∧ w'.heap[g]? = some (.cells (cur.setIfInBounds o (.int .u8 (v : Int))) 5 (0, 0))
set_option maxRecDepth 100000 in
set_option maxHeartbeats 2000000 in
theorem quantum (B g o n dc b c x y : Nat) (cur : Array Value) (w : World) (hx : x < 64) (hy : y < 64) (hn : 0 < n) (hn2 : n ≤ 1000000) (hc : o + n ≤ cur.size) (n4 : B ≠ g)
    (hB : w.heap[B]? = some (.cells (encA 64) 138 (0, 0))) (hg : w.heap[g]? = some (.cells cur 5 (0, 0)))
    (c0 : w.cell? ⟨b, 20, none⟩ = some (.int .u8 (alN x : Int))) (c1 : w.cell? ⟨b, 21, none⟩ = some (.int .u8 (alN y : Int))) (c2 : w.cell? ⟨b, 22, none⟩ = some (.int .u8 61)) (c3 : w.cell? ⟨b, 23, none⟩ = some (.int .u8 61)) :
    Calls Tryz.prog 88 #[.pointer (some ⟨B, 0, none⟩), .slice (some ⟨g, o, none⟩) n dc, .slice (some ⟨b, 0, none⟩) 24 c, .int .i64 20] w (QuanPost g o (q4 x y 0 0 / 65536 % 256) cur w) := by
  obtain ⟨v, hv⟩ : ∃ v, v = x * 262144 + y * 4096 := ⟨_, rfl⟩
  have e1 : bits .or .u64 ((x : Int) * 262144) ((y : Int) * 4096) = (v : Int) := by
    have := or_join64 18 (x * 262144) (y * 4096) (by omega) (by omega) (by omega) (by omega)
    rw [← hv] at this
    simpa using this
  have e2 : bits .or .u64 (v : Int) 0 = (v : Int) := by
    have := u64_or_nat v 0 (by omega) (by omega)
    simpa using this
  have lv : v < 16777216 := by omega
  have Hv := Lib.hid hv; clear hv
  obtain ⟨o0, ho0⟩ : ∃ o0, o0 = Obj.cells #[Value.int IntKind.u8 0, Value.int IntKind.u8 0, Value.int IntKind.u8 0, Value.int IntKind.u8 0] 172 := ⟨_, rfl⟩
  obtain ⟨W, hW⟩ : ∃ W, W = w.alloc o0 := ⟨_, rfl⟩
  obtain ⟨D, hD⟩ : ∃ D, D = w.heap.size := ⟨_, rfl⟩
  have bW : But (fun _ => False) w W := by rw [hW]; exact (But.refl _ w).alloc _
  have rD : W.heap[D]? = some (.cells #[Value.int IntKind.u8 0, Value.int IntKind.u8 0, Value.int IntKind.u8 0, Value.int IntKind.u8 0] 172 (0, 0)) := by rw [hW, hD, heap_alloc_at, ho0]
  have rB := bW.row hB (fun h => h)
  have rg := bW.row hg (fun h => h)
  have n1 : B ≠ D := by have := (Array.getElem?_eq_some_iff.1 hB).1; omega
  have n2 : g ≠ D := by have := (Array.getElem?_eq_some_iff.1 hg).1; omega
  have n3 : b ≠ D := by have := World.block_lt_of_cell? _ _ c0; simp only at this; omega
  have c0 := bW.cell c0 (fun h => h)
  have c1 := bW.cell c1 (fun h => h)
  have c2 := bW.cell c2 (fun h => h)
  have c3 := bW.cell c3 (fun h => h)
  obtain ⟨x', hx'⟩ : ∃ x', x' = alN x := ⟨_, rfl⟩
  obtain ⟨y', hy'⟩ : ∃ y', y' = alN y := ⟨_, rfl⟩
  have l1 : x' < 256 := by rw [hx']; exact (alN_facts x hx).1
  have l2 : y' < 256 := by rw [hy']; exact (alN_facts y hy).1
  have k0 : W.cell? ⟨B, 64 + x', none⟩ = some (.int .u8 (x : Int)) := by rw [hx']; exact cell_row rB (encA_val x hx 64 hx (Nat.le_refl _))
  have k1 : W.cell? ⟨B, 64 + y', none⟩ = some (.int .u8 (y : Int)) := by rw [hy']; exact cell_row rB (encA_val y hy 64 hy (Nat.le_refl _))
  have k2 : W.cell? ⟨B, 125, none⟩ = some (.int .u8 255) := cell_row rB encA_eq61
  have k3 : W.cell? ⟨B, 320, none⟩ = some (.int .i32 61) := cell_row rB (encA_pad 64 (Nat.le_refl _))
  have k4 : W.cell? ⟨B, 321, none⟩ = some (.bool false) := cell_row rB (encA_strict 64 (Nat.le_refl _))
  have d0 : W.cell? ⟨D, 0, none⟩ = some (.int .u8 0) := cell_row rD rfl
  have d1 : W.cell? ⟨D, 1, none⟩ = some (.int .u8 0) := cell_row rD rfl
  have d2 : W.cell? ⟨D, 2, none⟩ = some (.int .u8 0) := cell_row rD rfl
  have d3 : W.cell? ⟨D, 3, none⟩ = some (.int .u8 0) := cell_row rD rfl
  have g0 := frozen_row rD 0
  have g1 := frozen_row rD 1
  have g2 := frozen_row rD 2
  rw [← hx'] at c0
  rw [← hy'] at c1
  clear hx' hy'
  obtain ⟨z, hz⟩ := cell_row_ex rg (show o < cur.size by omega)
  have f0 := frozen_row rg o
  have t1 : ((x : Int) != 255) = true := by simp; omega
  have t2 : ((y : Int) != 255) = true := by simp; omega
  have HB := Lib.hid rB; clear rB hB
  have Hg := Lib.hid rg; clear rg hg
  have HD := Lib.hid rD; clear rD
  have HbW := Lib.hid bW; clear bW
  have HWW := Lib.hid hW; clear hW
  have HDD := Lib.hid hD; clear hD
  have Ho0 := Lib.hid ho0; clear ho0
  go_enter Tryz.func88, Tryz.ntmps88
  go_wp2_with fail
  rw [← Ho0.out]
  simp only [← HWW.out, ← HDD.out]
  refine wp_load_part 136 (.tmp 19) rfl B 64 rfl 138 (encA 64) decCells (0, 0) _ HB.out dec_part Tryz.underlying136 rfl size136 ?_
  go_wp2_with fail
  refine wp_loop_rounds 4 ?_
  rw [rounds_succ]
  go_wp2_with fail
  rw [rounds_succ]
  go_wp2_with fail
  rw [rounds_succ]
  go_wp2_with fail
  refine wp_loop_rounds 1 ?_
  rw [rounds_succ]
  go_wp2_with fail
  obtain ⟨W2, hW2⟩ : ∃ W2, W2 = (W.setCell ⟨D, 0, none⟩ (.int .u8 (x : Int))).setCell ⟨D, 1, none⟩ (.int .u8 (y : Int)) := ⟨_, rfl⟩
  have bW2 : But (· = D) W W2 := by rw [hW2]; exact But.setCell (But.setCell (But.refl (· = D) W) (fun _ => rfl) _) (fun _ => rfl) _
  have rD2 : W2.heap[D]? = some (.cells #[Value.int IntKind.u8 (x : Int), Value.int IntKind.u8 (y : Int), Value.int IntKind.u8 0, Value.int IntKind.u8 0] 172 (0, 0)) := by
    rw [hW2]
    exact setCell_row _ D 1 _ 172 (0, 0) _ (setCell_row W D 0 _ 172 (0, 0) _ HD.out)
  simp only [← hW2]
  clear hW2 c0 c1 c2 k0 k1 k2 d0 d1 d2 d3 g0 g1 g2 l1 l2 t1 t2
  have c3 := bW2.cell c3 n3
  have k3 := bW2.cell k3 n1
  have k4 := bW2.cell k4 n1
  have d0 : W2.cell? ⟨D, 0, none⟩ = some (.int .u8 (x : Int)) := cell_row rD2 rfl
  have d1 : W2.cell? ⟨D, 1, none⟩ = some (.int .u8 (y : Int)) := cell_row rD2 rfl
  have d2 : W2.cell? ⟨D, 2, none⟩ = some (.int .u8 0) := cell_row rD2 rfl
  have d3 : W2.cell? ⟨D, 3, none⟩ = some (.int .u8 0) := cell_row rD2 rfl
  have g0 := frozen_row rD2 0
  have g1 := frozen_row rD2 1
  have g2 := frozen_row rD2 2
  have hz := bW2.cell hz n2
  have f0 := frozen_row (bW2.row Hg.out n2) o
  have HD2 := Lib.hid rD2; clear rD2
  have HbW2 := Lib.hid bW2; clear bW2
  go_quiet (fail)
  go_wp2_with fail
  refine wp_loop_rounds 1 ?_
  rw [rounds_succ]
  go_upto_region 42 with fail
  obtain ⟨y0, hy0⟩ : ∃ y : Nat, y = v / 65536 := ⟨_, rfl⟩
  have ey0 : (v : Int) / 65536 = (y0 : Int) := by omega
  obtain ⟨W3, hW3⟩ : ∃ W3, W3 = (((W2.drewN nq).setCell ⟨D, 2, none⟩ (.int .u8 ((v : Int) % 256))).setCell ⟨D, 1, none⟩ (.int .u8 ((v : Int) / 256 % 256))).setCell ⟨D, 0, none⟩ (.int .u8 ((v : Int) / 65536)) := ⟨_, rfl⟩
  have bW3 : But (· = D) W2 W3 := by rw [hW3]; exact But.setCell (But.setCell (But.setCell ((But.refl (· = D) W2).drewN nq) (fun _ => rfl) _) (fun _ => rfl) _) (fun _ => rfl) _
  have rD3 : W3.heap[D]? = some (.cells #[Value.int IntKind.u8 ((v : Int) / 65536), Value.int IntKind.u8 ((v : Int) / 256 % 256), Value.int IntKind.u8 ((v : Int) % 256), Value.int IntKind.u8 0] 172 (0, 0)) := by
    rw [hW3]
    exact setCell_row _ D 0 _ 172 (0, 0) _ (setCell_row _ D 1 _ 172 (0, 0) _ (setCell_row W2 D 2 _ 172 (0, 0) _ HD2.out))
  simp only [← hW3]
  rw [ey0] at rD3
  simp only [ey0]
  clear hW3 c3 k3 d0 d1 d2 d3 g0 g1 g2 e1 e2 ey0
  have k4 := bW3.cell k4 n1
  have d0 : W3.cell? ⟨D, 0, none⟩ = some (.int .u8 (y0 : Int)) := cell_row rD3 rfl
  have hz := bW3.cell hz n2
  have f0 := frozen_row (bW3.row (HbW2.out.row Hg.out n2) n2) o
  have HD3 := Lib.hid rD3; clear rD3
  have HbW3 := Lib.hid bW3; clear bW3
  have Hy0 := Lib.hid hy0; clear hy0
  go_upto_region 52 with fail
  go_wp2_with fail
  go_ret3
  have ev : q4 x y 0 0 = v := by rw [Hv.out]; unfold q4; omega
  refine ⟨by rfl, ?_, ?_⟩
  · refine But.setCell (S := (· = g)) (p := ⟨g, o, none⟩) ?_ (fun _ => rfl) _
    have a1 : But (· = g) w W := HbW.out.trans (But.refl (fun _ => False) W) (fun _ _ h => h.elim) (fun _ _ h => h.elim)
    refine a1.trans (HbW2.out.then HbW3.out) (fun _ _ h => h) (fun i hi h => ?_)
    have := HDD.out
    omega
  · have := setCell_row W3 g o cur 5 (0, 0) (.int .u8 (y0 : Int)) (HbW3.out.row (HbW2.out.row Hg.out n2) n2)
    rw [this, ev, show v / 65536 % 256 = y0 by have := Hy0.out; omega]
end Go.Proofs.YthnhdfgonpbldaaGreatDoor
