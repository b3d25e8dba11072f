/- bcrypt's base64Decode at 22 letters: 16 bytes. -/
import Derived.Test.YthnhdfgonpbldaaGreatDoorDeco24
import Derived.Test.YthnhdfgonpbldaaGreatDoorCopy
import Derived.Outline
namespace Go.Proofs.YthnhdfgonpbldaaGreatDoor
open Go.RowKit Go.Lib
theorem But.of_grown {w w' : World} {g : Nat} (h : w.grownBy w' (some g)) : But (· = g) w w' := ⟨h.os, h.tape, h.output, h.size, fun k hk hs => h.block k hk (fun e => hs (Option.some.inj e))⟩
theorem But.of_grown0 {w w' : World} (h : w.grownBy w' none) : But (fun _ => False) w w' := ⟨h.os, h.tape, h.output, h.size, fun k hk _ => h.block k hk (by simp)⟩
def letterCells (vs : List Nat) : List Value := (List.range 22).map fun i => .int .u8 ((alN (vs.getD i 0) : Nat) : Int)
theorem letterCells_length (vs : List Nat) : (letterCells vs).length = 22 := by simp [letterCells]
theorem letterCells_get (vs : List Nat) (i : Nat) (h : i < 22) : (letterCells vs)[i]? = some (.int .u8 ((alN (vs.getD i 0) : Nat) : Int)) := by simp [letterCells, h]
/-- A salt's letters in a block of 24 cells. -/
def SaltRow (w : World) (sb : Nat) (vs : List Nat) : Prop := ∃ cur, w.heap[sb]? = some (.cells cur 5 (0, 0)) ∧ cur.size = 24 ∧ ∀ i, i < 22 → cur[i]? = some (.int .u8 ((alN (vs.getD i 0) : Nat) : Int))
def B64Post (vs : List Nat) (sb : Nat) (w : World) (e : Ending) (w' : World) : Prop :=
  ∃ D, e = .returned (.tuple #[.slice (some ⟨D, 0, none⟩) 16 18, .nilIface]) ∧ w.heap.size ≤ D ∧ But (· = sb) w w' ∧ SaltRow w' sb vs ∧
    ∀ i, i < 16 → w'.cell? ⟨D, i, none⟩ = some (.int .u8 ((decB vs i : Nat) : Int))
theorem SaltRow.owns {w : World} {sb : Nat} {vs : List Nat} (h : SaltRow w sb vs) : w.ownsRow 0 5 1 (.slice (some ⟨sb, 0, none⟩) 22 24) 22 (letterCells vs) := by
  obtain ⟨cur, h1, h2, h3⟩ := h
  refine ⟨by simp [letterCells_length], .inr ⟨sb, 24, cur, rfl, Nat.zero_le _, h1, by omega, by unfold maxLen; omega, by omega, ?_⟩⟩
  apply List.ext_getElem?
  intro i
  by_cases hi : i < 22
  · rw [letterCells_get vs i hi, List.getElem?_take_of_lt (by omega)]
    simpa using h3 i hi
  · rw [List.getElem?_eq_none (by simp; omega), List.getElem?_eq_none (by rw [letterCells_length]; omega)]
theorem row_of_owns {w : World} {sb n c : Nat} {xs : List Value} (h : w.ownsRow 0 5 1 (.slice (some ⟨sb, 0, none⟩) n c) n xs) :
    ∃ cur, w.heap[sb]? = some (.cells cur 5 (0, 0)) ∧ cur.size = c ∧ xs.length = n ∧ ∀ i, i < n → cur[i]? = xs[i]? := by
  obtain ⟨hl, h | ⟨g, cap, cur, e, _, h1, h2, _, h3, h4⟩⟩ := h
  · cases h.1
  · cases e
    refine ⟨cur, h1, by omega, by omega, fun i hi => ?_⟩
    rw [← h4, List.getElem?_take_of_lt (by omega)]
    simp
theorem one61 : ∀ u ∈ [Value.int .u8 61], u.oneCell' = true := by
  intro u hu
  rw [List.mem_singleton.1 hu]
  rfl
set_option maxRecDepth 100000 in
set_option maxHeartbeats 2000000 in
theorem base64Decode_any (vs : List Nat) (sb : Nat) (w : World) (hv : ∀ i, vs.getD i 0 < 64) (h6 : vs.getD 22 0 = 0) (h7 : vs.getD 23 0 = 0) (hs : SaltRow w sb vs) :
    Calls Tryz.prog 64 #[.slice (some ⟨sb, 0, none⟩) 22 24] w (B64Post vs sb w) := by
  obtain ⟨i0, hi, hz0, hz1, hz2⟩ := info_parts info5
  have hlt : sb < w.heap.size := by obtain ⟨cur, h, _⟩ := hs; exact (Array.getElem?_eq_some_iff.1 h).1
  have O := hs.owns
  have HO := Lib.hid O; clear O
  have HS := Lib.hid hs; clear hs
  have Hv := Lib.hid hv; clear hv
  have Hi := Lib.hid hi; clear hi
  have Hz1 := Lib.hid hz1; clear hz0 hz1 hz2
  have H6 := Lib.hid h6; clear h6
  have H7 := Lib.hid h7; clear h7
  go_enter Tryz.func64, Tryz.ntmps64
  go_wp2_with fail
  refine wp_loop_rounds 3 ?_
  rw [rounds_succ]
  have new1 : ∀ (W : World) (o : Obj) (j : Nat) (u : Value), o = .cells #[.int .u8 61] 5 → [Value.int .u8 61][j]? = some u → (W.alloc o).cell? ((⟨W.heap.size, 0, none⟩ : Addr).add j) = some u := fun W o j u ho hu => by
    rcases (show j = 0 by have := (List.getElem?_eq_some_iff.1 hu).1; simp at this; omega) with rfl
    subst ho
    rw [addr_add]
    exact cell_row (heap_alloc_at W _) (by simpa using hu)
  have New1 := Lib.hid new1; clear new1
  go_wp2_with (at_builtin; refine wpList_append_fits _ rfl _ _ 22 rfl 0 5 i0 1 Tryz.underlying22 Hi.out Hz1.out sb 22 24 (letterCells vs) rfl (HO.out.alloc _) ⟨w.heap.size, 0, none⟩ 1 1 [.int .u8 61] rfl rfl (fun j u hu => New1.out w _ j u rfl hu) one61 (by decide) ?_; intro w1 O1 G1)
  have bw1 : But (· = sb) w w1 := (But.alloc (But.refl (· = sb) w) (.cells #[.int .u8 61] 5)).then (But.of_grown G1)
  have o1 : w1.ownsRow 0 5 1 (.slice (some ⟨sb, 0, none⟩) 23 24) 23 (letterCells vs ++ [.int .u8 61]) := O1
  clear O1 G1
  have BW1 := Lib.hid bw1; clear bw1
  have HO1 := Lib.hid o1; clear o1
  rw [rounds_succ]
  go_wp2_with (at_builtin; refine wpList_append_fits _ rfl _ _ 22 rfl 0 5 i0 1 Tryz.underlying22 Hi.out Hz1.out sb 23 24 (letterCells vs ++ [.int .u8 61]) rfl (HO1.out.alloc _) ⟨w1.heap.size, 0, none⟩ 1 1 [.int .u8 61] rfl rfl (fun j u hu => New1.out w1 _ j u rfl hu) one61 (by decide) ?_; intro w2 O2 G2)
  have bw2 : But (· = sb) w w2 := BW1.out.then ((But.alloc (But.refl (· = sb) w1) (.cells #[.int .u8 61] 5)).then (But.of_grown G2))
  have o2 : w2.ownsRow 0 5 1 (.slice (some ⟨sb, 0, none⟩) 24 24) 24 (letterCells vs ++ [.int .u8 61] ++ [.int .u8 61]) := O2
  clear O2 G2 BW1 HO1 New1
  obtain ⟨cur2, r2, z2, _, g2⟩ := row_of_owns o2
  clear o2
  have l22 := letterCells_length vs
  have c22 : cur2[22]? = some (.int .u8 61) := by
    rw [g2 22 (by omega), List.append_assoc, List.getElem?_append_right (by omega), l22]
    rfl
  have c23 : cur2[23]? = some (.int .u8 61) := by
    rw [g2 23 (by omega), List.append_assoc, List.getElem?_append_right (by omega), l22]
    rfl
  have cL : ∀ i, i < 22 → cur2[i]? = some (.int .u8 ((alN (vs.getD i 0) : Nat) : Int)) := fun i hi => by
    rw [g2 i (by omega), List.append_assoc, List.getElem?_append_left (by omega)]
    exact letterCells_get vs i hi
  clear g2 l22
  have BW2 := Lib.hid bw2; clear bw2
  have R2 := Lib.hid r2; clear r2
  have C22 := Lib.hid c22; clear c22
  have C23 := Lib.hid c23; clear c23
  have CL := Lib.hid cL; clear cL
  have Z2 := Lib.hid z2; clear z2
  rw [rounds_succ]
  go_wp2_with fail
  refine (bcEncoding_any w2).mono ?_
  rintro e w3 ⟨B, rfl, h1, h2, h3⟩
  have kp : w3.cell? ⟨B, 320, none⟩ = some (.int .i32 61) := cell_row h2 (encA_pad 64 (Nat.le_refl _))
  have H1 := Lib.hid h1; clear h1
  have H3 := Lib.hid h3; clear h3 h2
  go_wp2_with fail
  refine (decodedLen_nat B 24 18 w3 (by decide) (by omega) kp).mono ?_
  rintro e w3' ⟨rfl, rfl⟩
  clear kp
  have mk1 : (Instr.makeSlice 22 (.int .i64 18) (.int .i64 18)).run Tryz.prog w3 = .ok (.slice (some ⟨w3.heap.size, 0, none⟩) 18 18) (w3.alloc (.cells (made5 18) 5)) := make_cap 18 18 (by omega) (by omega) w3
  go_wp2_with fail
  clear mk1
  obtain ⟨D, hD⟩ : ∃ D, w3.heap.size = D := ⟨_, rfl⟩
  obtain ⟨w4, hw4⟩ : ∃ w4, w4 = w3.alloc (.cells (made5 18) 5) := ⟨_, rfl⟩
  have b4 : But (fun _ => False) w3 w4 := by rw [hw4]; exact (But.refl _ w3).alloc _
  have r4 : w4.heap[D]? = some (.cells (made5 18) 5 (0, 0)) := by rw [hw4, ← hD]; exact heap_alloc_at w3 _
  have s4 : D < w4.heap.size := (Array.getElem?_eq_some_iff.1 r4).1
  have zw : w.heap.size ≤ w2.heap.size := BW2.out.size
  have z3 : w2.heap.size ≤ D := by rw [← hD]; exact H3.out.size
  simp only [hD]
  simp only [← hw4]
  clear hw4
  have HD := Lib.hid hD; clear hD
  refine (bcEncoding_any w4).mono ?_
  rintro e w5 ⟨B2, rfl, h4, h5, h6⟩
  have b25 : But (fun _ => False) w2 w5 := ((But.of_below (S := fun _ => False) H3.out).then b4).then (But.of_below h6)
  have r5 : w5.heap[D]? = some (.cells (made5 18) 5 (0, 0)) := (But.of_below (S := fun _ => False) h6).row r4 (fun h => h)
  have z5 : D < w5.heap.size := (Array.getElem?_eq_some_iff.1 r5).1
  have rs5 := b25.row R2.out (fun h => h)
  have dec := decode24 B2 D sb vs (made5 18) w5 Hv.out H6.out H7.out (made5_size 18) (by omega) (by omega) h5 r5 (fun i hi => cell_row rs5 (CL.out i hi)) (cell_row rs5 C22.out) (cell_row rs5 C23.out)
  have Dec := Lib.hid dec; clear dec
  have B25 := Lib.hid b25; clear b25 b4
  have RS5 := Lib.hid rs5; clear rs5 r5 r4 h5 h6
  go_wp2_with fail
  refine Dec.out.mono ?_
  rintro e w6 ⟨rfl, hb6, hr6⟩
  clear Dec
  have B6 := Lib.hid hb6; clear hb6
  have R6 := Lib.hid hr6; clear hr6
  go_wp2_with fail
  go_ret2
  refine ⟨D, rfl, by omega, ?_, ?_, ?_⟩
  · have b := (B25.out.trans B6.out (S'' := fun i => i = D) (fun _ _ h => h.elim) (fun _ _ h => h))
    exact BW2.out.trans b (fun _ _ h => h) (fun i hi h => by omega)
  · exact ⟨cur2, B6.out.row RS5.out (by omega), Z2.out, CL.out⟩
  · exact fun i hi => cell_row R6.out (decCur_get vs Hv.out _ (made5_size 18) i hi)
end Go.Proofs.YthnhdfgonpbldaaGreatDoor
