/- blowfish's Encrypt: eight bytes read as two words, encrypted, and laid as bytes again. -/
import Derived.Test.YthnhdfgonpbldaaGreatDoorCrypt
import Derived.Test.YthnhdfgonpbldaaGreatDoorAsm
import Derived.Test.YthnhdfgonpbldaaGreatDoorCiph
import Derived.Outline
namespace Go.Proofs.YthnhdfgonpbldaaGreatDoor
open Go.RowKit Go.Lib
theorem putIn8 (cur : Array Value) (o : Nat) (v0 v1 v2 v3 v4 v5 v6 v7 : Value) : putAll cur o [v0, v1, v2, v3, v4, v5, v6, v7] = ((((((((cur).setIfInBounds (o) v0).setIfInBounds (o + 1) v1).setIfInBounds (o + 2) v2).setIfInBounds (o + 3) v3).setIfInBounds (o + 4) v4).setIfInBounds (o + 5) v5).setIfInBounds (o + 6) v6).setIfInBounds (o + 7) v7 := rfl
def word8 (p : Nat × Nat) : List Value := (List.range 8).map fun i => .int .u8 ((by8 p i : Nat) : Int)
theorem word8_is {u v : Nat} (hu : u < 4294967296) (hv : v < 4294967296) : word8 (u, v) =
    [.int .u8 ((u : Int) / 16777216), .int .u8 ((u : Int) / 65536 % 256), .int .u8 ((u : Int) / 256 % 256), .int .u8 ((u : Int) % 256), .int .u8 ((v : Int) / 16777216), .int .u8 ((v : Int) / 65536 % 256), .int .u8 ((v : Int) / 256 % 256), .int .u8 ((v : Int) % 256)] := by
  have e1 : (u : Int) / 16777216 = ((by8 (u, v) 0 : Nat) : Int) := by show _ = ((u / 16777216 % 256 : Nat) : Int); omega
  have e2 : (v : Int) / 16777216 = ((by8 (u, v) 4 : Nat) : Int) := by show _ = ((v / 16777216 % 256 : Nat) : Int); omega
  have e3 : (u : Int) / 65536 % 256 = ((by8 (u, v) 1 : Nat) : Int) := by show _ = ((u / 65536 % 256 : Nat) : Int); omega
  have e4 : (u : Int) / 256 % 256 = ((by8 (u, v) 2 : Nat) : Int) := by show _ = ((u / 256 % 256 : Nat) : Int); omega
  have e5 : (u : Int) % 256 = ((by8 (u, v) 3 : Nat) : Int) := by show _ = ((u / 1 % 256 : Nat) : Int); omega
  have e6 : (v : Int) / 65536 % 256 = ((by8 (u, v) 5 : Nat) : Int) := by show _ = ((v / 65536 % 256 : Nat) : Int); omega
  have e7 : (v : Int) / 256 % 256 = ((by8 (u, v) 6 : Nat) : Int) := by show _ = ((v / 256 % 256 : Nat) : Int); omega
  have e8 : (v : Int) % 256 = ((by8 (u, v) 7 : Nat) : Int) := by show _ = ((v / 1 % 256 : Nat) : Int); omega
  rw [e1, e2, e3, e4, e5, e6, e7, e8]
  rfl
def EncrPost (g o : Nat) (p : Nat × Nat) (cur : Array Value) (w : World) (e : Ending) (w' : World) : Prop :=
  e = .returned (.tuple #[]) ∧ But (· = g) w w' ∧ w'.heap[g]? = some (.cells (putAll cur o (word8 p)) 5 (0, 0))
set_option maxRecDepth 100000 in
set_option maxHeartbeats 4000000 in
theorem encrypt_any (S : Nat → Nat) (B g o n c l r : Nat) (cur : Array Value) (w : World) (hS : W32 S) (hl : l < 4294967296) (hr : r < 4294967296) (hn : 8 ≤ n) (hn2 : n ≤ 1000000) (_hsz : o + n ≤ cur.size)
    (_hne : g ≠ B) (hC : Ciph w B S) (hg : w.heap[g]? = some (.cells cur 5 (0, 0))) (hb : ∀ i, i < 8 → cur[o + i]? = some (.int .u8 ((by8 (l, r) i : Nat) : Int))) :
    Calls Tryz.prog 51 #[.pointer (some ⟨B, 0, none⟩), .slice (some ⟨g, o, none⟩) n c, .slice (some ⟨g, o, none⟩) n c] w (EncrPost g o (blk S l r) cur w) := by
  have jl := by4_join hl
  have jr := by4_join hr
  obtain ⟨a0, ha0⟩ : ∃ a, a = by4 l 0 := ⟨_, rfl⟩
  obtain ⟨a1, ha1⟩ : ∃ a, a = by4 l 1 := ⟨_, rfl⟩
  obtain ⟨a2, ha2⟩ : ∃ a, a = by4 l 2 := ⟨_, rfl⟩
  obtain ⟨a3, ha3⟩ : ∃ a, a = by4 l 3 := ⟨_, rfl⟩
  obtain ⟨a4, ha4⟩ : ∃ a, a = by4 r 0 := ⟨_, rfl⟩
  obtain ⟨a5, ha5⟩ : ∃ a, a = by4 r 1 := ⟨_, rfl⟩
  obtain ⟨a6, ha6⟩ : ∃ a, a = by4 r 2 := ⟨_, rfl⟩
  obtain ⟨a7, ha7⟩ : ∃ a, a = by4 r 3 := ⟨_, rfl⟩
  have m0 : a0 < 256 := by rw [ha0]; exact Nat.mod_lt _ (by decide)
  have m1 : a1 < 256 := by rw [ha1]; exact Nat.mod_lt _ (by decide)
  have m2 : a2 < 256 := by rw [ha2]; exact Nat.mod_lt _ (by decide)
  have m3 : a3 < 256 := by rw [ha3]; exact Nat.mod_lt _ (by decide)
  have m4 : a4 < 256 := by rw [ha4]; exact Nat.mod_lt _ (by decide)
  have m5 : a5 < 256 := by rw [ha5]; exact Nat.mod_lt _ (by decide)
  have m6 : a6 < 256 := by rw [ha6]; exact Nat.mod_lt _ (by decide)
  have m7 : a7 < 256 := by rw [ha7]; exact Nat.mod_lt _ (by decide)
  have q0 : w.cell? ⟨g, o, none⟩ = some (.int .u8 (a0 : Int)) := by rw [ha0]; exact cell_row hg (hb 0 (by omega))
  have q1 : w.cell? ⟨g, o + 1, none⟩ = some (.int .u8 (a1 : Int)) := by rw [ha1]; exact cell_row hg (hb 1 (by omega))
  have q2 : w.cell? ⟨g, o + 2, none⟩ = some (.int .u8 (a2 : Int)) := by rw [ha2]; exact cell_row hg (hb 2 (by omega))
  have q3 : w.cell? ⟨g, o + 3, none⟩ = some (.int .u8 (a3 : Int)) := by rw [ha3]; exact cell_row hg (hb 3 (by omega))
  have q4 : w.cell? ⟨g, o + 4, none⟩ = some (.int .u8 (a4 : Int)) := by rw [ha4]; exact cell_row hg (hb 4 (by omega))
  have q5 : w.cell? ⟨g, o + 5, none⟩ = some (.int .u8 (a5 : Int)) := by rw [ha5]; exact cell_row hg (hb 5 (by omega))
  have q6 : w.cell? ⟨g, o + 6, none⟩ = some (.int .u8 (a6 : Int)) := by rw [ha6]; exact cell_row hg (hb 6 (by omega))
  have q7 : w.cell? ⟨g, o + 7, none⟩ = some (.int .u8 (a7 : Int)) := by rw [ha7]; exact cell_row hg (hb 7 (by omega))
  rw [← ha0, ← ha1, ← ha2, ← ha3] at jl
  rw [← ha4, ← ha5, ← ha6, ← ha7] at jr
  clear ha0 ha1 ha2 ha3 ha4 ha5 ha6 ha7
  obtain ⟨s1, hs1⟩ : ∃ s, s = a0 * 16777216 + a1 * 65536 := ⟨_, rfl⟩
  obtain ⟨s2, hs2⟩ : ∃ s, s = s1 + a2 * 256 := ⟨_, rfl⟩
  obtain ⟨s4, hs4⟩ : ∃ s, s = a4 * 16777216 + a5 * 65536 := ⟨_, rfl⟩
  obtain ⟨s5, hs5⟩ : ∃ s, s = s4 + a6 * 256 := ⟨_, rfl⟩
  have e1 : bits .or .u32 ((a0 : Int) * 16777216) ((a1 : Int) * 65536) = (s1 : Int) := by
    have := or_join32 24 (a0 * 16777216) (a1 * 65536) (by omega) (by omega) (by omega) (by omega)
    rw [← hs1] at this
    simpa using this
  have e2 : bits .or .u32 (s1 : Int) ((a2 : Int) * 256) = (s2 : Int) := by
    have := or_join32 16 s1 (a2 * 256) (by omega) (by omega) (by omega) (by omega)
    rw [← hs2] at this
    simpa using this
  have e3 : bits .or .u32 (s2 : Int) (a3 : Int) = (l : Int) := by
    have := or_join32 8 s2 a3 (by omega) (by omega) (by omega) (by omega)
    rw [show s2 + a3 = l by omega] at this
    simpa using this
  have e4 : bits .or .u32 ((a4 : Int) * 16777216) ((a5 : Int) * 65536) = (s4 : Int) := by
    have := or_join32 24 (a4 * 16777216) (a5 * 65536) (by omega) (by omega) (by omega) (by omega)
    rw [← hs4] at this
    simpa using this
  have e5 : bits .or .u32 (s4 : Int) ((a6 : Int) * 256) = (s5 : Int) := by
    have := or_join32 16 s4 (a6 * 256) (by omega) (by omega) (by omega) (by omega)
    rw [← hs5] at this
    simpa using this
  have e6 : bits .or .u32 (s5 : Int) (a7 : Int) = (r : Int) := by
    have := or_join32 8 s5 a7 (by omega) (by omega) (by omega) (by omega)
    rw [show s5 + a7 = r by omega] at this
    simpa using this
  clear hs1 hs2 hs4 hs5 jl jr
  have f0 := frozen_row hg (o)
  have f1 := frozen_row hg (o + 1)
  have f2 := frozen_row hg (o + 2)
  have f3 := frozen_row hg (o + 3)
  have f4 := frozen_row hg (o + 4)
  have f5 := frozen_row hg (o + 5)
  have f6 := frozen_row hg (o + 6)
  have f7 := frozen_row hg (o + 7)
  have HS := Lib.hid hS; clear hS
  have HC := Lib.hid hC; clear hC
  have Hg := Lib.hid hg; clear hg
  clear hb
  have i0 : 0 < n := by omega
  have i1 : 1 < n := by omega
  have i2 : 2 < n := by omega
  have i3 : 3 < n := by omega
  have i4 : 4 < n := by omega
  have i5 : 5 < n := by omega
  have i6 : 6 < n := by omega
  have i7 : 7 < n := by omega
  go_enter Tryz.func51, Tryz.ntmps51
  go_wp2_with fail
  go_quiet (fail)
  go_wp2_with fail
  go_quiet (fail)
  go_wp2_with fail
  refine (encBlock S B _ l r hl hr ((HC.out.drewN _).words HS.out)).mono ?_
  rintro e w1 ⟨rfl, m, rfl⟩
  clear e1 e2 e3 e4 e5 e6
  have bl := blk_lt HS.out hl hr
  obtain ⟨u, hu⟩ : ∃ u, u = (blk S l r).1 := ⟨_, rfl⟩
  obtain ⟨v, hv⟩ : ∃ v, v = (blk S l r).2 := ⟨_, rfl⟩
  rw [← hu, ← hv] at bl
  simp only [← hu, ← hv]
  obtain ⟨b1, b2⟩ := bl
  have Hu := Lib.hid hu; clear hu
  have Hv := Lib.hid hv; clear hv
  go_wp2_with fail
  go_end0
  refine ⟨rfl, ?_, ?_⟩
  · exact But.setCell (But.setCell (But.setCell (But.setCell (But.setCell (But.setCell (But.setCell (But.setCell ((But.refl (· = g) w).drewN _) (fun _ => rfl) _) (fun _ => rfl) _) (fun _ => rfl) _) (fun _ => rfl) _) (fun _ => rfl) _) (fun _ => rfl) _) (fun _ => rfl) _) (fun _ => rfl) _
  · have e8 : word8 (blk S l r) = [.int .u8 ((u : Int) / 16777216), .int .u8 ((u : Int) / 65536 % 256), .int .u8 ((u : Int) / 256 % 256), .int .u8 ((u : Int) % 256), .int .u8 ((v : Int) / 16777216), .int .u8 ((v : Int) / 65536 % 256), .int .u8 ((v : Int) / 256 % 256), .int .u8 ((v : Int) % 256)] := by
      have ep : blk S l r = (u, v) := by rw [Hu.out, Hv.out]
      rw [ep]
      exact word8_is b1 b2
    rw [e8, putIn8]
    exact setCell_row _ g _ _ 5 (0, 0) _ (setCell_row _ g _ _ 5 (0, 0) _ (setCell_row _ g _ _ 5 (0, 0) _ (setCell_row _ g _ _ 5 (0, 0) _ (setCell_row _ g _ _ 5 (0, 0) _ (setCell_row _ g _ _ 5 (0, 0) _ (setCell_row _ g _ _ 5 (0, 0) _ (setCell_row _ g _ _ 5 (0, 0) _ (Hg.out))))))))
end Go.Proofs.YthnhdfgonpbldaaGreatDoor
