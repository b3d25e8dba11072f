/- encoding/base64.NewEncoding at bcrypt's alphabet: what block it leaves. -/
import Derived.Test.YthnhdfgonpbldaaGreatDoorBase
namespace Go.Proofs.YthnhdfgonpbldaaGreatDoor
open Go.RowKit Go.Lib
def alphaL : List Int := [46, 47, 65, 66, 67, 68, 69, 70, 71, 72, 73, 74, 75, 76, 77, 78, 79, 80, 81, 82, 83, 84, 85, 86, 87, 88, 89, 90, 97, 98, 99, 100, 101, 102, 103, 104, 105, 106, 107, 108, 109, 110, 111, 112, 113, 114, 115, 116, 117, 118, 119, 120, 121, 122, 48, 49, 50, 51, 52, 53, 54, 55, 56, 57]
noncomputable def alphaS : ByteArray := ⟨#[46, 47, 65, 66, 67, 68, 69, 70, 71, 72, 73, 74, 75, 76, 77, 78, 79, 80, 81, 82, 83, 84, 85, 86, 87, 88, 89, 90, 97, 98, 99, 100, 101, 102, 103, 104, 105, 106, 107, 108, 109, 110, 111, 112, 113, 114, 115, 116, 117, 118, 119, 120, 121, 122, 48, 49, 50, 51, 52, 53, 54, 55, 56, 57]⟩
noncomputable def enc1 : Array Value := ((byteCells alphaS.data.toList) ++ (Tryz.zeroCells138.setIfInBounds 320 (Value.int .i32 61)).toList.drop 64).toArray
noncomputable def inv256 : ByteArray := ⟨#[255, 255, 255, 255, 255, 255, 255, 255, 255, 255, 255, 255, 255, 255, 255, 255, 255, 255, 255, 255, 255, 255, 255, 255, 255, 255, 255, 255, 255, 255, 255, 255, 255, 255, 255, 255, 255, 255, 255, 255, 255, 255, 255, 255, 255, 255, 255, 255, 255, 255, 255, 255, 255, 255, 255, 255, 255, 255, 255, 255, 255, 255, 255, 255, 255, 255, 255, 255, 255, 255, 255, 255, 255, 255, 255, 255, 255, 255, 255, 255, 255, 255, 255, 255, 255, 255, 255, 255, 255, 255, 255, 255, 255, 255, 255, 255, 255, 255, 255, 255, 255, 255, 255, 255, 255, 255, 255, 255, 255, 255, 255, 255, 255, 255, 255, 255, 255, 255, 255, 255, 255, 255, 255, 255, 255, 255, 255, 255, 255, 255, 255, 255, 255, 255, 255, 255, 255, 255, 255, 255, 255, 255, 255, 255, 255, 255, 255, 255, 255, 255, 255, 255, 255, 255, 255, 255, 255, 255, 255, 255, 255, 255, 255, 255, 255, 255, 255, 255, 255, 255, 255, 255, 255, 255, 255, 255, 255, 255, 255, 255, 255, 255, 255, 255, 255, 255, 255, 255, 255, 255, 255, 255, 255, 255, 255, 255, 255, 255, 255, 255, 255, 255, 255, 255, 255, 255, 255, 255, 255, 255, 255, 255, 255, 255, 255, 255, 255, 255, 255, 255, 255, 255, 255, 255, 255, 255, 255, 255, 255, 255, 255, 255, 255, 255, 255, 255, 255, 255, 255, 255, 255, 255, 255, 255, 255, 255, 255, 255, 255, 255, 255, 255, 255, 255, 255, 255]⟩
noncomputable def enc2 : Array Value := (byteCells alphaS.data.toList ++ byteCells inv256.data.toList ++ [Value.int .i32 61, Value.bool false]).toArray
theorem setCell_own (w : World) (c : Array Value) (t : TypeId) (n i : Nat) (v : Value) : ((w.alloc (.cells c t)).drewN n).setCell ⟨w.heap.size, i, none⟩ v = (w.alloc (.cells (c.setIfInBounds i v) t)).drewN n := by
  rw [← World.setCell_alloc_at (w := w) c t w.heap.size i v rfl]
  rfl
theorem alpha_size : alphaS.size = 64 := by kernel_rfl
theorem inv_size : inv256.size = 256 := by kernel_rfl
theorem enc1_size : enc1.size = 322 := by kernel_rfl
theorem z138_size : (Tryz.zeroCells138.setIfInBounds 320 (Value.int .i32 61)).size = 322 := by kernel_rfl
theorem copy1 (w : World) : (Builtin.copy_ #[22, 9] 3 #[.slice (some ⟨w.heap.size, 0, none⟩) 64 64, .string alphaS]).run Tryz.prog (w.alloc (.cells (Tryz.zeroCells138.setIfInBounds 320 (Value.int .i32 61)) 138)) = .ok (goInt 64) (w.alloc (.cells enc1 138)) := by
  rw [run_copy_row_string _ 22 9 3 5 w.heap.size 0 64 64 alphaS (Tryz.zeroCells138.setIfInBounds 320 (Value.int .i32 61)) 138 Tryz.underlying22 (by kernel_rfl) (heap_alloc_at w _) (by rw [alpha_size]; omega) (by rw [alpha_size, z138_size]; omega), setRow_alloc_at]
  kernel_rfl
theorem copy2 (w : World) : (Builtin.copy_ #[22, 9] 3 #[.slice (some ⟨w.heap.size, 64, none⟩) 256 256, .string ⟨#[255, 255, 255, 255, 255, 255, 255, 255, 255, 255, 255, 255, 255, 255, 255, 255, 255, 255, 255, 255, 255, 255, 255, 255, 255, 255, 255, 255, 255, 255, 255, 255, 255, 255, 255, 255, 255, 255, 255, 255, 255, 255, 255, 255, 255, 255, 255, 255, 255, 255, 255, 255, 255, 255, 255, 255, 255, 255, 255, 255, 255, 255, 255, 255, 255, 255, 255, 255, 255, 255, 255, 255, 255, 255, 255, 255, 255, 255, 255, 255, 255, 255, 255, 255, 255, 255, 255, 255, 255, 255, 255, 255, 255, 255, 255, 255, 255, 255, 255, 255, 255, 255, 255, 255, 255, 255, 255, 255, 255, 255, 255, 255, 255, 255, 255, 255, 255, 255, 255, 255, 255, 255, 255, 255, 255, 255, 255, 255, 255, 255, 255, 255, 255, 255, 255, 255, 255, 255, 255, 255, 255, 255, 255, 255, 255, 255, 255, 255, 255, 255, 255, 255, 255, 255, 255, 255, 255, 255, 255, 255, 255, 255, 255, 255, 255, 255, 255, 255, 255, 255, 255, 255, 255, 255, 255, 255, 255, 255, 255, 255, 255, 255, 255, 255, 255, 255, 255, 255, 255, 255, 255, 255, 255, 255, 255, 255, 255, 255, 255, 255, 255, 255, 255, 255, 255, 255, 255, 255, 255, 255, 255, 255, 255, 255, 255, 255, 255, 255, 255, 255, 255, 255, 255, 255, 255, 255, 255, 255, 255, 255, 255, 255, 255, 255, 255, 255, 255, 255, 255, 255, 255, 255, 255, 255, 255, 255, 255, 255, 255, 255, 255, 255, 255, 255, 255, 255]⟩]).run Tryz.prog (w.alloc (.cells enc1 138)) = .ok (goInt 256) (w.alloc (.cells enc2 138)) := by
  show (Builtin.copy_ #[22, 9] 3 #[.slice (some ⟨w.heap.size, 64, none⟩) 256 256, .string inv256]).run Tryz.prog (w.alloc (.cells enc1 138)) = _
  rw [run_copy_row_string _ 22 9 3 5 w.heap.size 64 256 256 inv256 enc1 138 Tryz.underlying22 (by kernel_rfl) (heap_alloc_at w _) (by rw [inv_size]; omega) (by rw [inv_size, enc1_size]; omega), setRow_alloc_at]
  kernel_rfl
def alN (k : Nat) : Nat := (alphaL.getD k 0).toNat
noncomputable def encA : Nat → Array Value
  | 0 => enc2
  | k + 1 => (encA k).setIfInBounds (64 + alN k) (.int .u8 k)
theorem alpha_at (k : Nat) (h : k < alphaS.size) : alphaS[k].toNat = alN k := by
  have h' : k < 64 := by rw [alpha_size] at h; exact h
  have := (by decide +kernel : ∀ i : Fin 64, ∃ h : i.1 < alphaS.size, (alphaS[i.1]'h).toNat = alN i.1) ⟨k, h'⟩
  exact this.2
theorem alN_facts (k : Nat) (h : k < 64) : alN k < 256 ∧ alN k ≠ 10 ∧ alN k ≠ 13 ∧ ∀ j, j < k → alN j ≠ alN k := by
  have := (by decide +kernel : ∀ i : Fin 64, alN i.1 < 256 ∧ alN i.1 ≠ 10 ∧ alN i.1 ≠ 13 ∧ ∀ j : Fin 64, j.1 < i.1 → alN j.1 ≠ alN i.1) ⟨k, h⟩
  exact ⟨this.1, this.2.1, this.2.2.1, fun j hj => this.2.2.2 ⟨j, by omega⟩ hj⟩
theorem encA_size (k : Nat) : (encA k).size = 322 := by
  induction k with
  | zero => kernel_rfl
  | succ k ih => simp [encA, ih]
theorem enc2_mid (i : Nat) (h : i < 256) : enc2[64 + i]? = some (.int .u8 255) := by
  have : enc2.toList[64 + i]? = some (Value.int .u8 255) := by
    unfold enc2
    have e : (byteCells alphaS.data.toList).length = 64 := by kernel_rfl
    rw [List.append_assoc, List.getElem?_append_right (by omega), e, Nat.add_sub_cancel_left, List.getElem?_append_left (by rw [show (byteCells inv256.data.toList).length = 256 by kernel_rfl]; exact h)]
    have e2 : byteCells inv256.data.toList = List.replicate 256 (Value.int .u8 255) := by kernel_rfl
    rw [e2, List.getElem?_replicate, if_pos h]
  simpa using this
theorem encA_free (n : Nat) : ∀ k, k ≤ n → n < 64 → (encA k)[64 + alN n]? = some (.int .u8 255)
  | 0, _, h => enc2_mid _ (alN_facts n h).1
  | k + 1, hk, h => by
    rw [encA, Array.getElem?_setIfInBounds_ne (by have := (alN_facts n h).2.2.2 k (by omega); omega)]
    exact encA_free n k (by omega) h
set_option maxRecDepth 100000 in
set_option maxHeartbeats 400000 in
theorem newEnc (w : World) : Calls Tryz.prog 70 #[.string alphaS] w fun e w' => e = .returned (.pointer (some ⟨w.heap.size, 0, none⟩)) ∧ ∃ m, w' = (w.alloc (.cells (encA 64) 138)).drewN m := by
  have hsz : alphaS.size = 64 := alpha_size
  have h1 := copy1 w
  have h2 := copy2 w
  go_enter Tryz.func70, Tryz.ntmps70
  go_wp2_with fail
  go_loopw [4] (fun i wr => ∃ k : Nat, k ≤ 64 ∧ i = .int .i64 k ∧ ∃ m, wr = (w.alloc (.cells (encA k) 138)).drewN m) (fun i _ => 64 - (intOf i).toNat)
  case atStart => exact ⟨0, by omega, rfl, 0, rfl⟩
  case round =>
    obtain ⟨k, hk, rfl, m, rfl⟩ := hrel
    clear h1 h2
    by_cases hlt : k < 64
    · have hk' : k < alphaS.size := by rw [hsz]; exact hlt
      have f := alN_facts k hlt
      have ea := alpha_at k hk'
      have b1 : (((alphaS[k]'hk').toNat : Int) == 10) = false := by rw [ea]; simp; omega
      have b2 : (((alphaS[k]'hk').toNat : Int) == 13) = false := by rw [ea]; simp; omega
      have b3 : (alphaS[k]'hk').toNat < 256 := by rw [ea]; exact f.1
      have b4 : (w.alloc (.cells (encA k) 138)).cell? ⟨w.heap.size, 64 + (alphaS[k]'hk').toNat, none⟩ = some (.int .u8 255) := by
        rw [ea]; simp only [World.cell?, heap_alloc_at]; simpa using encA_free k k (Nat.le_refl k) hlt
      have Hea := Lib.hid ea; clear ea f
      go_wp2_with fail
      go_quiet (fail)
      go_wp2_with fail
      go_region
      go_wp2_with fail
      go_roundw
      case rel =>
        refine ⟨k + 1, by omega, by go_num, m + nq + 1, ?_⟩
        rw [setCell_own, Hea.out]
        rfl
      case measure => simp [intOf]; omega
    · obtain rfl : k = 64 := by omega
      go_wp2_with fail
      go_ret
      exact ⟨rfl, m, rfl⟩
end Go.Proofs.YthnhdfgonpbldaaGreatDoor
