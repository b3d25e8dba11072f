/- A cipher's block in memory: 1042 words; what a store of one word, or of two, makes of it. -/
import Derived.Test.YthnhdfgonpbldaaGreatDoorModel
namespace Go.Proofs.YthnhdfgonpbldaaGreatDoor
open Go.RowKit Go.Lib
def Ciph (w : World) (B : Nat) (S : Nat → Nat) : Prop :=
  ∃ cs : Array Value, w.heap[B]? = some (.cells cs 143 (0, 0)) ∧ cs.size = 1042 ∧ ∀ j, j < 1042 → cs[j]? = some (.int .u32 (S j : Int))
theorem Ciph.cell {w : World} {B : Nat} {S : Nat → Nat} (h : Ciph w B S) (j : Nat) (hj : j < 1042) : w.cell? ⟨B, j, none⟩ = some (.int .u32 (S j : Int)) := by
  obtain ⟨cs, h1, _, h3⟩ := h
  exact cell_row h1 (h3 j hj)
theorem Ciph.free {w : World} {B : Nat} {S : Nat → Nat} (h : Ciph w B S) (j : Nat) : w.frozen? ⟨B, j, none⟩ = false := by
  obtain ⟨cs, h1, _, _⟩ := h
  exact frozen_row h1 j
theorem Ciph.words {w : World} {B : Nat} {S : Nat → Nat} (h : Ciph w B S) (hS : W32 S) : Words S B w := ⟨hS, h.cell⟩
theorem Ciph.set {w : World} {B : Nat} {S : Nat → Nat} (h : Ciph w B S) (i : Nat) (hi : i < 1042) (n : Nat) : Ciph (w.setCell ⟨B, i, none⟩ (.int .u32 (n : Int))) B (fun j => if j = i then n else S j) := by
  obtain ⟨cs, h1, h2, h3⟩ := h
  refine ⟨cs.setIfInBounds i (.int .u32 (n : Int)), setCell_row w B i cs 143 (0, 0) _ h1, by simpa using h2, fun j hj => ?_⟩
  by_cases e : j = i
  · subst e
    simp [h2, hj]
  · rw [Array.getElem?_setIfInBounds_ne (Ne.symm e), h3 j hj]
    simp [e]
theorem Ciph.congr {w : World} {B : Nat} {S T : Nat → Nat} (h : Ciph w B S) (e : ∀ j, j < 1042 → S j = T j) : Ciph w B T := by
  obtain ⟨cs, h1, h2, h3⟩ := h
  exact ⟨cs, h1, h2, fun j hj => by rw [h3 j hj, e j hj]⟩
theorem Ciph.set2 {w : World} {B : Nat} {S : Nat → Nat} (h : Ciph w B S) (i : Nat) (hi : i + 1 < 1042) (p : Nat × Nat) :
    Ciph ((w.setCell ⟨B, i, none⟩ (.int .u32 (p.1 : Int))).setCell ⟨B, i + 1, none⟩ (.int .u32 (p.2 : Int))) B (up2 S i p) := by
  refine ((h.set i (by omega) p.1).set (i + 1) hi p.2).congr fun j _ => ?_
  unfold up2
  by_cases e : j = i
  · simp [e]
  · by_cases e1 : j = i + 1
    · simp [e1]
    · simp [e, e1]
theorem Ciph.drewN {w : World} {B : Nat} {S : Nat → Nat} (h : Ciph w B S) (n : Nat) : Ciph (w.drewN n) B S := h
theorem Ciph.but {w w' : World} {B : Nat} {S : Nat → Nat} {K : Nat → Prop} (h : Ciph w B S) (b : But K w w') (hk : ¬ K B) : Ciph w' B S := by
  obtain ⟨cs, h1, h2, h3⟩ := h
  exact ⟨cs, b.row h1 hk, h2, h3⟩
end Go.Proofs.YthnhdfgonpbldaaGreatDoor
