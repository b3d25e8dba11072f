/- (*bcrypt.hashed).Hash: the 60 bytes of a hash, out of the struct. -/
import Derived.Test.YthnhdfgonpbldaaGreatDoorNfh
namespace Go.Proofs.YthnhdfgonpbldaaGreatDoor
open Go.RowKit Go.Lib
/-- The text of a hash. -/
def hashL (k : Nat) (ls lh : List Nat) : List Nat := [36, 50, 97, 36, 48, 48 + k, 36] ++ (ls ++ lh)
theorem hashL_length {k : Nat} {ls lh : List Nat} (hs : ls.length = 22) (hh : lh.length = 31) : (hashL k ls lh).length = 60 := by simp [hashL, hs, hh]
theorem hashL_salt {k : Nat} {ls lh : List Nat} (hs : ls.length = 22) (i : Nat) (h : i < 22) : (hashL k ls lh).getD (7 + i) 0 = ls.getD i 0 := by
  unfold hashL
  rw [List.getD, List.getElem?_append_right (by simp), show 7 + i - [36, 50, 97, 36, 48, 48 + k, 36].length = i by simp, List.getElem?_append_left (by omega)]
  rfl
theorem hashL_hash {k : Nat} {ls lh : List Nat} (hs : ls.length = 22) (i : Nat) : (hashL k ls lh).getD (29 + i) 0 = lh.getD i 0 := by
  unfold hashL
  rw [List.getD, List.getElem?_append_right (by simp; omega), List.getElem?_append_right (by simp; omega)]
  simp only [List.length_cons, List.length_nil, hs]
  rw [show 29 + i - (0 + 1 + 1 + 1 + 1 + 1 + 1 + 1) - 22 = i by omega]
  rfl
/-- The first n bytes are laid. -/
def APre (F : Nat → Nat) (w : World) (g n : Nat) : Prop := ∃ cur, w.heap[g]? = some (.cells cur 5 (0, 0)) ∧ cur.size = 60 ∧ ∀ i, i < n → cur[i]? = some (.int .u8 ((F i : Nat) : Int))
theorem APre.set {F : Nat → Nat} {w : World} {g n : Nat} (h : APre F w g n) (hn : n < 60) {v : Value} (hv : v = .int .u8 ((F n : Nat) : Int)) : APre F (w.setCell ⟨g, n, none⟩ v) g (n + 1) := by
  obtain ⟨cur, h1, h2, h3⟩ := h
  refine ⟨_, setCell_row w g n cur 5 (0, 0) v h1, by simpa using h2, fun i hi => ?_⟩
  by_cases e : i = n
  · subst e
    rw [Array.getElem?_setIfInBounds_self_of_lt (by omega), hv]
  · rw [Array.getElem?_setIfInBounds_ne (Ne.symm e)]
    exact h3 i (by omega)
theorem APre.copy {F : Nat → Nat} {w : World} {g n : Nat} {cur : Array Value} {l : List Nat} (h1 : w.heap[g]? = some (.cells (putAll cur n (bcells l)) 5 (0, 0))) (h2 : cur.size = 60) (h3 : ∀ i, i < n → cur[i]? = some (.int .u8 ((F i : Nat) : Int)))
    (hl : n + l.length ≤ 60) (he : ∀ j, j < l.length → l.getD j 0 = F (n + j)) : APre F w g (n + l.length) := by
  refine ⟨_, h1, by rw [putAll_size, h2], fun i hi => ?_⟩
  by_cases e : i < n
  · rw [putAll_out _ _ _ _ (Or.inl e)]
    exact h3 i e
  · have := putAll_in (bcells l) cur n (i - n) (by rw [bcells_length]; omega) (by rw [bcells_length]; omega)
    rw [show n + (i - n) = i by omega] at this
    rw [this, bcells_get l (i - n) (by omega), he (i - n) (by omega), show n + (i - n) = i by omega]
theorem APre.but {F : Nat → Nat} {w w' : World} {S : Nat → Prop} {g n : Nat} (h : APre F w g n) (b : But S w w') (hs : ¬ S g) : APre F w' g n := by
  obtain ⟨cur, h1, h2, h3⟩ := h
  exact ⟨cur, b.row h1 hs, h2, h3⟩
theorem APre.free {F : Nat → Nat} {w : World} {g n : Nat} (h : APre F w g n) (i : Nat) : w.frozen? ⟨g, i, none⟩ = false := by
  obtain ⟨cur, h1, _, _⟩ := h
  exact frozen_row h1 i
theorem APre.some {F : Nat → Nat} {w : World} {g n : Nat} (h : APre F w g n) (i : Nat) (hi : i < 60) : ∃ v, w.cell? ⟨g, i, none⟩ = some v := by
  obtain ⟨cur, h1, h2, _⟩ := h
  exact cell_row_ex h1 (by omega)
def HashPost (k : Nat) (ls lh : List Nat) (w : World) (e : Ending) (w' : World) : Prop :=
  ∃ g, e = .returned (.slice (some ⟨g, 0, none⟩) 60 60) ∧ w.heap.size ≤ g ∧ Below w.heap.size w w' ∧ LRow w' g 60 (hashL k ls lh)
set_option maxRecDepth 100000 in
set_option maxHeartbeats 1000000 in
theorem hash_any (PB SB HB k sc hc ss hs0 : Nat) (ls lh : List Nat) (w : World) (h4 : 4 ≤ k) (h6 : k ≤ 6) (hs : ls.length = 22) (hh : lh.length = 31) (_hsc : 22 ≤ sc) (_hsc2 : sc ≤ 1000000) (_hhc : 31 ≤ hc) (_hhc2 : hc ≤ 1000000)
    (hp : HRow w PB (.slice (some ⟨HB, 0, none⟩) 31 hc) (.slice (some ⟨SB, 0, none⟩) 22 sc) k 50 97) (hS : LRow w SB ss ls) (hH : LRow w HB hs0 lh) :
    Calls Tryz.prog 36 #[.pointer (some ⟨PB, 0, none⟩)] w (HashPost k ls lh w) := by
  have plt : PB < w.heap.size := (Array.getElem?_eq_some_iff.1 hp).1
  have slt := hS.lt
  have hlt := hH.lt
  obtain ⟨F, hF⟩ : ∃ F : Nat → Nat, F = fun i => (hashL k ls lh).getD i 0 := ⟨_, rfl⟩
  have HF := Lib.hid hF; clear hF
  have Hp := Lib.hid hp; clear hp
  have HS := Lib.hid hS; clear hS
  have HH := Lib.hid hH; clear hH
  have Hs := Lib.hid hs; clear hs
  have Hh := Lib.hid hh; clear hh
  have mk1 : (Instr.makeSlice 22 (.int .i64 60) (.int .i64 60)).run Tryz.prog w = .ok (.slice (some ⟨w.heap.size, 0, none⟩) 60 60) (w.alloc (.cells (made5 60) 5)) := make_cap 60 60 (by omega) (by omega) w
  go_enter Tryz.func36, Tryz.ntmps36
  go_upto_region 2 with fail
  clear mk1
  obtain ⟨AB, hAB⟩ : ∃ AB, w.heap.size = AB := ⟨_, rfl⟩
  simp only [hAB]
  obtain ⟨W0, hW0⟩ : ∃ W0, W0 = w.alloc (.cells (made5 60) 5) := ⟨_, rfl⟩
  have b0 : But (fun _ => False) w W0 := by rw [hW0]; exact (But.refl _ w).alloc _
  have a0 : APre F W0 AB 0 := ⟨_, by rw [hW0, ← hAB]; exact heap_alloc_at w _, made5_size 60, fun i hi => by omega⟩
  simp only [← hW0]
  clear hW0
  have r0 : HRow W0 PB (.slice (some ⟨HB, 0, none⟩) 31 hc) (.slice (some ⟨SB, 0, none⟩) 22 sc) k 50 97 := b0.row Hp.out (fun h => h)
  have n1 : PB ≠ AB := by omega
  have n2 : SB ≠ AB := by omega
  have n3 : HB ≠ AB := by omega
  obtain ⟨y0, hy0⟩ := a0.some 0 (by omega)
  obtain ⟨y1, hy1⟩ := a0.some 1 (by omega)
  obtain ⟨y2, hy2⟩ := a0.some 2 (by omega)
  obtain ⟨y3, hy3⟩ := a0.some 3 (by omega)
  have f0 := a0.free 0
  have f1 := a0.free 1
  have f2 := a0.free 2
  have f3 := a0.free 3
  have k3 : W0.cell? ⟨PB, 3, none⟩ = some (.int .u8 50) := cell_row r0 rfl
  have k4 : W0.cell? ⟨PB, 4, none⟩ = some (.int .u8 97) := cell_row r0 rfl
  have B0 := Lib.hid b0; clear b0
  have A0 := Lib.hid a0; clear a0
  have HAB := Lib.hid hAB; clear hAB
  have R0 := Lib.hid r0; clear r0
  go_upto_region 10 with fail
  clear hy0 hy1 hy2 hy3 f0 f1 f2 f3 k3 k4
  obtain ⟨W1, hW1⟩ : ∃ W1, W1 = (((W0.setCell ⟨AB, 0, none⟩ (.int .u8 36)).setCell ⟨AB, 1, none⟩ (.int .u8 50)).setCell ⟨AB, 2, none⟩ (.int .u8 97)).setCell ⟨AB, 3, none⟩ (.int .u8 36) := ⟨_, rfl⟩
  have b1 : But (· = AB) W0 W1 := by
    rw [hW1]
    exact But.setCell (S := (· = AB)) (p := ⟨AB, 3, none⟩) (But.setCell (S := (· = AB)) (p := ⟨AB, 2, none⟩) (But.setCell (S := (· = AB)) (p := ⟨AB, 1, none⟩) (But.setCell (S := (· = AB)) (p := ⟨AB, 0, none⟩) (But.refl _ W0) (fun _ => rfl) _) (fun _ => rfl) _) (fun _ => rfl) _) (fun _ => rfl) _
  have a1 : APre F W1 AB 4 := by
    rw [hW1]
    have e0 : F 0 = 36 := by rw [HF.out]; rfl
    have e1 : F 1 = 50 := by rw [HF.out]; rfl
    have e2 : F 2 = 97 := by rw [HF.out]; rfl
    have e3 : F 3 = 36 := by rw [HF.out]; rfl
    exact (((A0.out.set (by omega) (by rw [e0]; rfl)).set (by omega) (by rw [e1]; rfl)).set (by omega) (by rw [e2]; rfl)).set (by omega) (by rw [e3]; rfl)
  simp only [← hW1]
  clear hW1
  have r1 : HRow W1 PB (.slice (some ⟨HB, 0, none⟩) 31 hc) (.slice (some ⟨SB, 0, none⟩) 22 sc) k 50 97 := b1.row R0.out n1
  have B1 := Lib.hid (B0.out.trans b1 (fun _ _ h => h.elim) (fun _ _ h => h) : But (· = AB) w W1); clear b1
  have zAB : AB < W1.heap.size := by obtain ⟨cur, h1, _⟩ := a1; exact (Array.getElem?_eq_some_iff.1 h1).1
  have R1 := Lib.hid r1; clear r1
  have k2 : W1.cell? ⟨PB, 2, none⟩ = some (.int .i64 (k : Int)) := cell_row R1.out rfl
  obtain ⟨cap2, W2, kc, hb2, c0, c1⟩ := bytes_two 48 (UInt8.ofNat (48 + k)) W1.drew
  have td := twoDigits_any k h4 h6 W1.drew
  obtain ⟨str, hstr⟩ : ∃ str, str = (⟨#[48, UInt8.ofNat (48 + k)]⟩ : ByteArray) := ⟨_, rfl⟩
  rw [← hstr] at kc td
  clear hstr
  have bW2 : But (· = AB) w W2 := (B1.out.drewN 1).then (But.of_below hb2)
  have aW2 : APre F W2 AB 4 := APre.but (S := fun _ => False) (w := W1.drew) a1 (But.of_below hb2) (fun h => h)
  obtain ⟨cur2, g1, g2, g3⟩ := aW2
  obtain ⟨W3, hcp, hb3, hr3⟩ := copy_bytes W2 AB 4 56 56 W1.heap.size 0 2 cap2 2 (bcells [48, 48 + k]) cur2 rfl rfl g1 (by omega) (fun j v hv => by
    obtain ⟨hj, rfl⟩ := bcells_some hv
    rcases (show j = 0 ∨ j = 1 by simp at hj; omega) with rfl | rfl
    · exact c0
    · have e : (UInt8.ofNat (48 + k)).toNat = 48 + k := by
        have := (by decide : ∀ k : Fin 7, (UInt8.ofNat (48 + k.1)).toNat = 48 + k.1) ⟨k, by omega⟩
        exact this
      rw [e] at c1
      exact c1) (bcells_one _)
  have a3 : APre F W3 AB 6 := APre.copy hr3 g2 g3 (by simp) (fun j hj => by
    rcases (show j = 0 ∨ j = 1 by simp at hj; omega) with rfl | rfl <;> (rw [HF.out]; rfl))
  clear c0 c1 hb2 g1 g2 g3 hr3
  have B3 := Lib.hid (bW2.then hb3); clear bW2 hb3
  have A3 := Lib.hid a3; clear a3
  have A1 := Lib.hid a1; clear a1
  have TD := Lib.hid td; clear td
  have e1 : W1.drew.heap.size = W1.heap.size := rfl
  rw [e1] at kc
  clear e1
  go_cut [] from 30 (fun wx => wx = W3)
  case first =>
    go_region_with (refine TD.out.mono ?_; rintro e w' ⟨rfl, rfl⟩)
    all_goals (go_wp2_with fail; go_meet; exact rfl)
  case rest =>
    rw [hcut]
    clear hcut kc hcp k2
    obtain ⟨y6, hy6⟩ := A3.out.some 6 (by omega)
    have f6 := A3.out.free 6
    go_upto_region 14 with fail
    clear hy6 f6
    obtain ⟨W4, hW4⟩ : ∃ W4, W4 = W3.setCell ⟨AB, 6, none⟩ (.int .u8 36) := ⟨_, rfl⟩
    have a4 : APre F W4 AB 7 := by
      rw [hW4]
      exact A3.out.set (by omega) (by rw [HF.out]; rfl)
    have b4 : But (· = AB) w W4 := by rw [hW4]; exact But.setCell (S := (· = AB)) (p := ⟨AB, 6, none⟩) B3.out (fun _ => rfl) _
    simp only [← hW4]
    clear hW4
    have r4 : HRow W4 PB (.slice (some ⟨HB, 0, none⟩) 31 hc) (.slice (some ⟨SB, 0, none⟩) 22 sc) k 50 97 := b4.row Hp.out n1
    have k1 : W4.cell? ⟨PB, 1, none⟩ = some (.slice (some ⟨SB, 0, none⟩) 22 sc) := cell_row r4 rfl
    obtain ⟨cur4, g1, g2, g3⟩ := a4
    obtain ⟨W5, hcp, hb5, hr5⟩ := copy_bytes W4.drew AB 7 53 53 SB 0 22 sc 22 (bcells ls) cur4 (by rw [bcells_length, Hs.out]) rfl g1 (by omega) (fun j v hv => by
      obtain ⟨hj, rfl⟩ := bcells_some hv
      rw [Nat.zero_add]
      exact (b4.drewN 1).cell (HS.out.cell j hj) n2) (bcells_one _)
    have a5 : APre F W5 AB 29 := by
      have := APre.copy (F := F) hr5 g2 g3 (by rw [Hs.out]; omega) (fun j hj => by
        rw [HF.out]
        exact (hashL_salt Hs.out j (by rw [Hs.out] at hj; exact hj)).symm)
      rw [Hs.out] at this
      exact this
    have B5 := Lib.hid ((b4.drewN 1).then hb5 : But (· = AB) w W5)
    clear g1 g2 g3 hr5 hb5
    have A5 := Lib.hid a5; clear a5
    have B4 := Lib.hid b4; clear b4
    have R4 := Lib.hid r4; clear r4
    go_cut [] from 47 (fun wx => wx = W5)
    case first =>
      go_region
      all_goals (go_wp2_with fail; go_meet; exact rfl)
    case rest =>
      rw [hcut]
      clear hcut hcp k1
      have r5 : HRow W5 PB (.slice (some ⟨HB, 0, none⟩) 31 hc) (.slice (some ⟨SB, 0, none⟩) 22 sc) k 50 97 := B5.out.row Hp.out n1
      have k0 : W5.cell? ⟨PB, 0, none⟩ = some (.slice (some ⟨HB, 0, none⟩) 31 hc) := cell_row r5 rfl
      obtain ⟨cur5, g1, g2, g3⟩ := A5.out
      obtain ⟨W6, hcp, hb6, hr6⟩ := copy_bytes W5.drew AB 29 31 31 HB 0 31 hc 31 (bcells lh) cur5 (by rw [bcells_length, Hh.out]) rfl g1 (by omega) (fun j v hv => by
        obtain ⟨hj, rfl⟩ := bcells_some hv
        rw [Nat.zero_add]
        exact (B5.out.drewN 1).cell (HH.out.cell j hj) n3) (bcells_one _)
      have a6 : APre F W6 AB 60 := by
        have := APre.copy (F := F) hr6 g2 g3 (by rw [Hh.out]; omega) (fun j hj => by
          rw [HF.out]
          exact (hashL_hash Hs.out j).symm)
        rw [Hh.out] at this
        exact this
      have B6 := Lib.hid ((B5.out.drewN 1).then hb6 : But (· = AB) w W6)
      clear g1 g2 g3 hr6 hb6
      have A6 := Lib.hid a6; clear a6
      have R5 := Lib.hid r5; clear r5
      go_upto_region 16 with fail
      go_cut [] from 57 (fun wx => wx = W6)
      case first =>
        go_region
        all_goals (go_wp2_with fail; go_meet; exact rfl)
      case rest =>
        rw [hcut]
        clear hcut hcp k0
        go_wp2_with fail
        go_ret
        refine ⟨AB, rfl, by have := HAB.out; omega, B6.out.below (Nat.le_refl _) (fun i hi h => by have := HAB.out; omega), ?_⟩
        obtain ⟨cur, h1, h2, h3⟩ := A6.out
        refine ⟨cur, h1, h2, fun i hi => ?_⟩
        rw [hashL_length Hs.out Hh.out] at hi
        rw [h3 i hi, HF.out]
end Go.Proofs.YthnhdfgonpbldaaGreatDoor
