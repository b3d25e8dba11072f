/- What the stores of Decode leave in the 18 bytes: the 16 bytes that the letters read as; no walk. -/
import Derived.Test.YthnhdfgonpbldaaGreatDoorAsm
namespace Go.Proofs.YthnhdfgonpbldaaGreatDoor
open Go.RowKit Go.Lib
def b6 (p q j : Nat) : Nat := if j < 3 then p / 256 ^ (2 - j) % 256 else q / 256 ^ (5 - j) % 256
theorem cast_byte (x d : Nat) : ((x / d % 256 : Nat) : Int) = (x : Int) / (d : Int) % 256 := by simp
theorem put64_get (p q j : Nat) (hp : p < 16777216) (hq : q < 16777216) (hj : j < 6) : (put64B (v64 p q))[j]? = some (.int .u8 ((b6 p q j : Nat) : Int)) := by
  obtain ⟨h0, h1, h2, h3, h4, h5, h6, h7, h8⟩ := v64_bytes p q hp hq
  obtain ⟨x, hx⟩ : ∃ x, x = v64 p q := ⟨_, rfl⟩
  rw [← hx] at h0 h1 h2 h3 h4 h5 h6 h7 h8 ⊢
  clear hx
  have key : ∀ (a : Int) (b : Nat), a = (b : Int) → some (Value.int .u8 a) = some (.int .u8 (b : Int)) := fun a b e => by rw [e]
  have e0 : b6 p q 0 = p / 65536 % 256 := rfl
  have e1 : b6 p q 1 = p / 256 % 256 := rfl
  have e2 : b6 p q 2 = p % 256 := by unfold b6; simp
  have e3 : b6 p q 3 = q / 65536 % 256 := rfl
  have e4 : b6 p q 4 = q / 256 % 256 := rfl
  have e5 : b6 p q 5 = q % 256 := by unfold b6; simp
  rcases (show j = 0 ∨ j = 1 ∨ j = 2 ∨ j = 3 ∨ j = 4 ∨ j = 5 by omega) with rfl | rfl | rfl | rfl | rfl | rfl
  · refine key _ _ ?_
    rw [e0, ← h0, Nat.mod_eq_of_lt (by clear h0 h1 h2 h3 h4 h5 h6 h7; omega)]
    simp
  · refine key _ _ ?_
    rw [e1, ← h1, cast_byte]
    rfl
  · refine key _ _ ?_
    rw [e2, ← h2, cast_byte]
    rfl
  · refine key _ _ ?_
    rw [e3, ← h3, cast_byte]
    rfl
  · refine key _ _ ?_
    rw [e4, ← h4, cast_byte]
    rfl
  · refine key _ _ ?_
    rw [e5, ← h5, cast_byte]
    rfl
theorem put32_get (p j : Nat) (hp : p < 16777216) (hj : j < 3) : (put32B (w32 p))[j]? = some (.int .u8 ((p / 256 ^ (2 - j) % 256 : Nat) : Int)) := by
  obtain ⟨x, hx⟩ : ∃ x, x = w32 p := ⟨_, rfl⟩
  rw [← hx]
  unfold w32 at hx
  unfold put32B
  rcases (show j = 0 ∨ j = 1 ∨ j = 2 by omega) with rfl | rfl | rfl
  · show some (Value.int .u8 ((x : Int) / 16777216)) = some (.int .u8 ((p / 65536 % 256 : Nat) : Int))
    rw [show (x : Int) / 16777216 = ((p / 65536 % 256 : Nat) : Int) by omega]
  · show some (Value.int .u8 ((x : Int) / 65536 % 256)) = some (.int .u8 ((p / 256 % 256 : Nat) : Int))
    rw [show (x : Int) / 65536 % 256 = ((p / 256 % 256 : Nat) : Int) by omega]
  · show some (Value.int .u8 ((x : Int) / 256 % 256)) = some (.int .u8 ((p / 1 % 256 : Nat) : Int))
    rw [show (x : Int) / 256 % 256 = ((p / 1 % 256 : Nat) : Int) by omega]
theorem put64B_length (x : Nat) : (put64B x).length = 8 := rfl
theorem put32B_length (x : Nat) : (put32B x).length = 4 := rfl
def qv (vs : List Nat) (k : Nat) : Nat := q4 (vs.getD (4 * k) 0) (vs.getD (4 * k + 1) 0) (vs.getD (4 * k + 2) 0) (vs.getD (4 * k + 3) 0)
theorem qv_lt {vs : List Nat} (h : ∀ i, vs.getD i 0 < 64) (k : Nat) : qv vs k < 16777216 := q4_lt (h _) (h _) (h _) (h _)
theorem decB_b6 (vs : List Nat) (k j : Nat) (hj : j < 6) : decB vs (3 * k + j) = b6 (qv vs k) (qv vs (k + 1)) j := by
  obtain ⟨a0, a1, a2⟩ := decB_at vs k (qv vs k) rfl
  obtain ⟨c0, c1, c2⟩ := decB_at vs (k + 1) (qv vs (k + 1)) rfl
  unfold b6
  rcases (show j = 0 ∨ j = 1 ∨ j = 2 ∨ j = 3 ∨ j = 4 ∨ j = 5 by omega) with rfl | rfl | rfl | rfl | rfl | rfl
  · simpa using a0
  · simpa using a1
  · simpa using a2
  · rw [show 3 * k + 3 = 3 * (k + 1) by omega]; simpa using c0
  · rw [show 3 * k + 4 = 3 * (k + 1) + 1 by omega]; simpa using c1
  · rw [show 3 * k + 5 = 3 * (k + 1) + 2 by omega]; simpa using c2
def decCur (vs : List Nat) (cur : Array Value) : Array Value :=
  (putAll (putAll (putAll cur 0 (put64B (v64 (qv vs 0) (qv vs 1)))) 6 (put64B (v64 (qv vs 2) (qv vs 3)))) 12 (put32B (w32 (qv vs 4)))).setIfInBounds 15 (.int .u8 ((qv vs 5 / 65536 % 256 : Nat) : Int))
theorem decCur_size (vs : List Nat) (cur : Array Value) : (decCur vs cur).size = cur.size := by simp [decCur, putAll_size]
theorem decCur_get (vs : List Nat) (h : ∀ i, vs.getD i 0 < 64) (cur : Array Value) (hs : cur.size = 18) (i : Nat) (hi : i < 16) : (decCur vs cur)[i]? = some (.int .u8 ((decB vs i : Nat) : Int)) := by
  unfold decCur
  have z1 := putAll_size (put64B (v64 (qv vs 0) (qv vs 1))) cur 0
  have z2 := putAll_size (put64B (v64 (qv vs 2) (qv vs 3))) (putAll cur 0 (put64B (v64 (qv vs 0) (qv vs 1)))) 6
  have z3 := putAll_size (put32B (w32 (qv vs 4))) (putAll (putAll cur 0 (put64B (v64 (qv vs 0) (qv vs 1)))) 6 (put64B (v64 (qv vs 2) (qv vs 3)))) 12
  have l1 := put64B_length (v64 (qv vs 0) (qv vs 1))
  have l2 := put64B_length (v64 (qv vs 2) (qv vs 3))
  have l3 := put32B_length (w32 (qv vs 4))
  by_cases h15 : i = 15
  · subst h15
    rw [Array.getElem?_setIfInBounds_self_of_lt (by omega)]
    have := (decB_at vs 5 (qv vs 5) rfl).1
    rw [show (15 : Nat) = 3 * 5 by omega, this]
  rw [Array.getElem?_setIfInBounds_ne (by omega)]
  by_cases h12 : 12 ≤ i
  · have := putAll_in (put32B (w32 (qv vs 4))) (putAll (putAll cur 0 (put64B (v64 (qv vs 0) (qv vs 1)))) 6 (put64B (v64 (qv vs 2) (qv vs 3)))) 12 (i - 12) (by omega) (by omega)
    rw [show 12 + (i - 12) = i by omega] at this
    rw [this, put32_get _ _ (qv_lt h 4) (by omega)]
    have hb := decB_b6 vs 4 (i - 12) (by omega)
    rw [show 3 * 4 + (i - 12) = i by omega] at hb
    rw [hb, b6, if_pos (by omega)]
  rw [putAll_out _ _ _ _ (by omega)]
  by_cases h6 : 6 ≤ i
  · have := putAll_in (put64B (v64 (qv vs 2) (qv vs 3))) (putAll cur 0 (put64B (v64 (qv vs 0) (qv vs 1)))) 6 (i - 6) (by omega) (by omega)
    rw [show 6 + (i - 6) = i by omega] at this
    rw [this, put64_get _ _ _ (qv_lt h 2) (qv_lt h 3) (by omega)]
    have hb := decB_b6 vs 2 (i - 6) (by omega)
    rw [show 3 * 2 + (i - 6) = i by omega] at hb
    rw [hb]
  rw [putAll_out _ _ _ _ (by omega)]
  have := putAll_in (put64B (v64 (qv vs 0) (qv vs 1))) cur 0 i (by omega) (by omega)
  rw [Nat.zero_add] at this
  rw [this, put64_get _ _ _ (qv_lt h 0) (qv_lt h 1) (by omega)]
  have hb := decB_b6 vs 0 i (by omega)
  rw [Nat.mul_zero, Nat.zero_add] at hb
  rw [hb]
end Go.Proofs.YthnhdfgonpbldaaGreatDoor
