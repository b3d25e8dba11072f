/- bcrypt's newFromHash at a hash of 60 bytes that is whole: the struct with the salt's letters and the hash's. -/
import Derived.Test.YthnhdfgonpbldaaGreatDoorPars
import Derived.Test.YthnhdfgonpbldaaGreatDoorCopy
import Derived.Outline
import Derived.Deep.Cut
import Derived.Deep.RegionWith
namespace Go.Proofs.YthnhdfgonpbldaaGreatDoor
open Go.RowKit Go.Lib
/-- Bytes of a list in a block, from its head on. -/
def LRow (w : World) (g size : Nat) (l : List Nat) : Prop := ∃ cur, w.heap[g]? = some (.cells cur 5 (0, 0)) ∧ cur.size = size ∧ ∀ i, i < l.length → cur[i]? = some (.int .u8 ((l.getD i 0 : Nat) : Int))
theorem LRow.but {w w' : World} {S : Nat → Prop} {g size : Nat} {l : List Nat} (h : LRow w g size l) (b : But S w w') (hs : ¬ S g) : LRow w' g size l := by
  obtain ⟨cur, h1, h2, h3⟩ := h
  exact ⟨cur, b.row h1 hs, h2, h3⟩
theorem LRow.lt {w : World} {g size : Nat} {l : List Nat} (h : LRow w g size l) : g < w.heap.size := by
  obtain ⟨cur, h1, _⟩ := h
  exact (Array.getElem?_eq_some_iff.1 h1).1
theorem LRow.cell {w : World} {g size : Nat} {l : List Nat} (h : LRow w g size l) (i : Nat) (hi : i < l.length) : w.cell? ⟨g, i, none⟩ = some (.int .u8 ((l.getD i 0 : Nat) : Int)) := by
  obtain ⟨cur, h1, _, h3⟩ := h
  exact cell_row h1 (h3 i hi)
theorem LRow.put {w : World} {g size : Nat} {cur : Array Value} {l : List Nat} (h : w.heap[g]? = some (.cells (putAll cur 0 (bcells l)) 5 (0, 0))) (hs : cur.size = size) (hl : l.length ≤ size) : LRow w g size l := by
  refine ⟨_, h, by rw [putAll_size, hs], fun i hi => ?_⟩
  have := putAll_in (bcells l) cur 0 i (by rw [bcells_length]; omega) (by rw [bcells_length]; exact hi)
  rw [Nat.zero_add] at this
  rw [this, bcells_get l i hi]
def NfhPost (k : Nat) (ls lh : List Nat) (w : World) (e : Ending) (w' : World) : Prop :=
  ∃ PB SB HB, e = .returned (.tuple #[.pointer (some ⟨PB, 0, none⟩), .nilIface]) ∧ w.heap.size ≤ PB ∧ w.heap.size ≤ SB ∧ w.heap.size ≤ HB ∧ PB ≠ SB ∧ PB ≠ HB ∧ SB ≠ HB ∧ Below w.heap.size w w' ∧
    HRow w' PB (.slice (some ⟨HB, 0, none⟩) 31 31) (.slice (some ⟨SB, 0, none⟩) 22 24) k 50 97 ∧ LRow w' SB 24 ls ∧ LRow w' HB 31 lh
set_option maxRecDepth 100000 in
set_option maxHeartbeats 1000000 in
theorem nfh_fine (b o c k : Nat) (hl ls lh : List Nat) (w : World) (hc : 60 ≤ c) (hc2 : c ≤ 9223372036854775807) (h4 : 4 ≤ k) (h6 : k ≤ 6) (_hlen : hl.length = 60)
    (h : ∀ i, i < 60 → w.cell? ⟨b, o + i, none⟩ = some (.int .u8 ((hl.getD i 0 : Nat) : Int))) (e0 : hl.getD 0 0 = 36) (e1 : hl.getD 1 0 = 50) (e2 : hl.getD 2 0 = 97) (e4 : hl.getD 4 0 = 48) (e5 : hl.getD 5 0 = 48 + k)
    (hs : ls.length = 22) (hs2 : ∀ i, i < 22 → ls.getD i 0 = hl.getD (7 + i) 0) (hh : lh.length = 31) (hh2 : ∀ i, i < 31 → lh.getD i 0 = hl.getD (29 + i) 0) :
    Calls Tryz.prog 33 #[.slice (some ⟨b, o, none⟩) 60 c] w (NfhPost k ls lh w) := by
  have q0 := h 0 (by omega)
  have q1 := h 1 (by omega)
  have q2 := h 2 (by omega)
  have q4 := h 4 (by omega)
  have q5 := h 5 (by omega)
  rw [e0] at q0
  rw [e1] at q1
  rw [e2] at q2
  rw [e4] at q4
  rw [e5] at q5
  clear e0 e1 e2 e4 e5
  have blt : b < w.heap.size := World.block_lt_of_cell? _ _ q0
  have Q0 := Lib.hid q0; clear q0
  have Q1 := Lib.hid q1; clear q1
  have Q2 := Lib.hid q2; clear q2
  have Q4 := Lib.hid q4; clear q4
  have Q5 := Lib.hid q5; clear q5
  have H := Lib.hid h; clear h
  have Hs := Lib.hid hs; clear hs
  have Hs2 := Lib.hid hs2; clear hs2
  have Hh := Lib.hid hh; clear hh
  have Hh2 := Lib.hid hh2; clear hh2

  go_enter Tryz.func33, Tryz.ntmps33
  go_wp2_with fail
  obtain ⟨PB, hPB⟩ : ∃ PB, w.heap.size = PB := ⟨_, rfl⟩
  have b0 : But (fun _ => False) w (w.alloc (.cells #[.slice none 0 0, .slice none 0 0, .int .i64 0, .int .u8 0, .int .u8 0] 74)) := (But.refl _ w).alloc _
  have r0 : HRow (w.alloc (.cells #[.slice none 0 0, .slice none 0 0, .int .i64 0, .int .u8 0, .int .u8 0] 74)) PB (.slice none 0 0) (.slice none 0 0) 0 0 0 := by rw [← hPB]; exact heap_alloc_at w _
  simp only [hPB]
  obtain ⟨W0, hW0⟩ : ∃ W0, w.alloc (.cells #[.slice none 0 0, .slice none 0 0, .int .i64 0, .int .u8 0, .int .u8 0] 74) = W0 := ⟨_, rfl⟩
  have z0 : PB < W0.heap.size := by rw [← hW0]; simp; omega
  rw [hW0] at b0 r0 ⊢
  clear hW0
  have ne1 : b ≠ PB := by omega
  have HPB := Lib.hid hPB; clear hPB
  have B0 := Lib.hid b0; clear b0
  have R0 := Lib.hid r0; clear r0
  refine (ver_fine PB b o 60 c _ _ W0 (by omega) (by omega) R0.out ne1 (B0.out.cell Q0.out (fun h => h)) (B0.out.cell Q1.out (fun h => h)) (B0.out.cell Q2.out (fun h => h))).mono ?_
  rintro e w1 ⟨rfl, hb1, r1⟩
  have B1 := Lib.hid ((B0.out.trans hb1 (fun _ _ h => h.elim) (fun _ _ h => h)) : But (· = PB) w w1)
  have R1 := Lib.hid r1; clear r1
  have z1 : PB < w1.heap.size := by have := hb1.size; omega
  clear hb1
  go_wp2_with fail
  refine (cost_fine PB b (o + 4) 56 (c - 4) k _ _ w1 (by omega) (by omega) (by omega) h4 h6 R1.out ne1 (B1.out.cell Q4.out ne1) (B1.out.cell Q5.out ne1)).mono ?_
  rintro e w2 ⟨rfl, hb2, r2⟩
  have B2 := Lib.hid (B1.out.then hb2)
  have R2 := Lib.hid r2; clear r2
  have z2 : PB < w2.heap.size := by have := hb2.size; omega
  clear hb2
  have mk1 : (Instr.makeSlice 22 (.int .i64 22) (.int .i64 24)).run Tryz.prog w2 = .ok (.slice (some ⟨w2.heap.size, 0, none⟩) 22 24) (w2.alloc (.cells (made5 24) 5)) := make_cap 22 24 (by omega) (by omega) w2
  have s2 : w2.cell? ⟨PB, 1, none⟩ = some (.slice none 0 0) := cell_row R2.out rfl
  have f2 := frozen_row R2.out 1
  go_upto_region 13 with fail
  clear mk1 s2 f2
  obtain ⟨SB, hSB⟩ : ∃ SB, w2.heap.size = SB := ⟨_, rfl⟩
  obtain ⟨W3, hW3⟩ : ∃ W3, W3 = (w2.setCell ⟨PB, 1, none⟩ (.slice (some ⟨SB, 0, none⟩) 22 24)).alloc (.cells (made5 24) 5) := ⟨_, rfl⟩
  have b3 : But (· = PB) w2 W3 := by rw [hW3]; exact (But.setCell (S := (· = PB)) (p := ⟨PB, 1, none⟩) (But.refl _ w2) (fun _ => rfl) _).alloc _
  have r3 : HRow W3 PB (.slice none 0 0) (.slice (some ⟨SB, 0, none⟩) 22 24) k 50 97 := by
    unfold HRow
    rw [hW3, heap_alloc_ne _ _ _ (by simp; omega)]
    exact setCell_row w2 PB 1 _ 74 (0, 0) _ R2.out
  have s3 : W3.heap[SB]? = some (.cells (made5 24) 5 (0, 0)) := by
    have := heap_alloc_at (w2.setCell ⟨PB, 1, none⟩ (.slice (some ⟨SB, 0, none⟩) 22 24)) (.cells (made5 24) 5)
    rw [hW3]
    simpa [hSB] using this
  simp only [hSB]
  simp only [← hW3]
  clear hW3
  have ne2 : PB ≠ SB := by omega
  have ne3 : b ≠ SB := by have := B2.out.size; omega
  have B3 := Lib.hid (B2.out.then b3); clear b3
  have HSB := Lib.hid hSB; clear hSB
  have S3 := Lib.hid s3; clear s3
  have R3 := Lib.hid r3; clear r3
  have k1 : W3.cell? ⟨PB, 1, none⟩ = some (.slice (some ⟨SB, 0, none⟩) 22 24) := cell_row R3.out rfl
  obtain ⟨W4, hcp, hb4, hr4⟩ := copy_bytes W3.drew SB 0 22 24 b (o + 4 + 3) 22 (c - 4 - 3) 22 (bcells ls) (made5 24) (by rw [bcells_length, Hs.out]) rfl S3.out (by rw [made5_size]; omega) (fun j v hv => by
    obtain ⟨hj, rfl⟩ := bcells_some hv
    rw [Hs.out] at hj
    have := (B3.out.drewN 1).cell (H.out (7 + j) (by omega)) ne1
    rw [Hs2.out j hj, show o + 4 + 3 + j = o + (7 + j) by omega]
    exact this) (bcells_one ls)
  have B4 := Lib.hid hb4; clear hb4
  have R4 := Lib.hid hr4; clear hr4
  have l22 : 22 ≤ c - 4 - 3 := by omega
  go_region
  clear hcp k1
  have y4 : SB < W4.heap.size := (Array.getElem?_eq_some_iff.1 R4.out).1
  have z4 : PB < W4.heap.size := by have := HSB.out; omega
  have P4 : HRow W4 PB (.slice none 0 0) (.slice (some ⟨SB, 0, none⟩) 22 24) k 50 97 := B4.out.row (show W3.drew.heap[PB]? = _ from R3.out) ne2
  have mk2 : (Instr.makeSlice 22 (.int .i64 31) (.int .i64 31)).run Tryz.prog W4 = .ok (.slice (some ⟨W4.heap.size, 0, none⟩) 31 31) (W4.alloc (.cells (made5 31) 5)) := make_cap 31 31 (by omega) (by omega) W4
  have s4 : W4.cell? ⟨PB, 0, none⟩ = some (.slice none 0 0) := cell_row P4 rfl
  have f4 := frozen_row P4 0
  have HP4 := Lib.hid P4; clear P4
  go_upto_region 16 with fail
  clear mk2 s4 f4
  obtain ⟨HB, hHB⟩ : ∃ HB, W4.heap.size = HB := ⟨_, rfl⟩
  simp only [hHB]
  obtain ⟨W5, hW5⟩ : ∃ W5, W5 = (W4.setCell ⟨PB, 0, none⟩ (.slice (some ⟨HB, 0, none⟩) 31 31)).alloc (.cells (made5 31) 5) := ⟨_, rfl⟩
  have b5 : But (· = PB) W4 W5 := by rw [hW5]; exact (But.setCell (S := (· = PB)) (p := ⟨PB, 0, none⟩) (But.refl _ W4) (fun _ => rfl) _).alloc _
  have B45 := Lib.hid b5
  have r5 : HRow W5 PB (.slice (some ⟨HB, 0, none⟩) 31 31) (.slice (some ⟨SB, 0, none⟩) 22 24) k 50 97 := by
    unfold HRow
    rw [hW5, heap_alloc_ne _ _ _ (by simp; omega)]
    exact setCell_row W4 PB 0 _ 74 (0, 0) _ HP4.out
  have s5 : W5.heap[HB]? = some (.cells (made5 31) 5 (0, 0)) := by
    have := heap_alloc_at (W4.setCell ⟨PB, 0, none⟩ (.slice (some ⟨HB, 0, none⟩) 31 31)) (.cells (made5 31) 5)
    rw [hW5]
    simpa [hHB] using this
  simp only [← hW5]
  clear hW5
  have ne4 : PB ≠ HB := by omega
  have ne5 : SB ≠ HB := by omega
  have B34 : But (fun i => i = PB ∨ i = SB) w W4 := (B3.out.drewN 1).trans B4.out (fun _ _ h => Or.inl h) (fun _ _ h => Or.inr h)
  have B5 := Lib.hid (B34.trans b5 (fun _ _ h => h) (fun _ _ h => Or.inl h) : But (fun i => i = PB ∨ i = SB) w W5); clear b5
  have ne6 : b ≠ HB := by have := B34.size; omega
  clear B34
  have HHB := Lib.hid hHB; clear hHB
  have S5 := Lib.hid s5; clear s5
  have R5 := Lib.hid r5; clear r5
  have k1 : W5.cell? ⟨PB, 0, none⟩ = some (.slice (some ⟨HB, 0, none⟩) 31 31) := cell_row R5.out rfl
  obtain ⟨W6, hcp, hb6, hr6⟩ := copy_bytes W5 HB 0 31 31 b (o + 4 + 3 + 22) 31 (c - 4 - 3 - 22) 31 (bcells lh) (made5 31) (by rw [bcells_length, Hh.out]) rfl S5.out (by rw [made5_size]; omega) (fun j v hv => by
    obtain ⟨hj, rfl⟩ := bcells_some hv
    rw [Hh.out] at hj
    have := B5.out.cell (H.out (29 + j) (by omega)) (fun h => h.elim ne1 ne3)
    rw [Hh2.out j hj, show o + 4 + 3 + 22 + j = o + (29 + j) by omega]
    exact this) (bcells_one lh)
  have B6 := Lib.hid hb6; clear hb6
  have R6 := Lib.hid hr6; clear hr6
  go_wp2_with fail
  go_ret2
  have zw := HPB.out
  have g2 := B2.out.size
  have g4 : w.heap.size ≤ W4.heap.size := Nat.le_trans B3.out.size (by have := B4.out.size; simpa using this)
  have g5 := B5.out.size
  refine ⟨PB, SB, HB, rfl, by omega, by have := HSB.out; omega, by have := HHB.out; omega, ne2, ne4, ne5, ?_, B6.out.row R5.out ne4, ?_, LRow.put R6.out (made5_size 31) (by rw [Hh.out]; exact Nat.le_refl _)⟩
  · exact (B5.out.trans B6.out (S'' := fun i => i = PB ∨ i = SB ∨ i = HB) (fun _ _ h => h.elim Or.inl (fun h => Or.inr (Or.inl h))) (fun _ _ h => Or.inr (Or.inr h))).below (Nat.le_refl _) (fun i hi h => by have := HSB.out; have := HHB.out; omega)
  · have L4 : LRow W4 SB 24 ls := LRow.put R4.out (made5_size 24) (by rw [Hs.out]; omega)
    exact (L4.but B45.out (fun h => ne2 h.symm)).but B6.out ne5
end Go.Proofs.YthnhdfgonpbldaaGreatDoor
