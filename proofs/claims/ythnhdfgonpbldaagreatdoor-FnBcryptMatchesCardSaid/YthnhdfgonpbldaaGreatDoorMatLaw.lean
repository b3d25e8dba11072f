/- The statement FnBcryptMatches, walked: it answers true for every password, cost and salt. -/
import Derived.Test.YthnhdfgonpbldaaGreatDoorMid
namespace Go.Proofs.YthnhdfgonpbldaaGreatDoor
open Go.RowKit Go.Lib
theorem mat_size (a : Option Addr) (n c : Nat) (k : Int) (A : Array Value) (w : World) (h : 2147483647 < n) : Calls Tryz.prog 6 #[.slice a n c, .int .i64 k, .agg A] w (TrueBelow w) := by
  have t : (2147483647 : Int) < (n : Int) := by omega
  go_enter Tryz.func6, Tryz.ntmps6
  go_wp2_with fail
  go_ret
  exact ⟨rfl, below_alloc w _⟩
theorem mat_out (a : Option Addr) (n c : Nat) (k : Int) (A : Array Value) (w : World) (hn : n ≤ 2147483647) (h : 72 < n ∨ k < 4 ∨ 6 < k) : Calls Tryz.prog 6 #[.slice a n c, .int .i64 k, .agg A] w (TrueBelow w) := by
  have t : decide ((2147483647 : Int) < (n : Int)) = false := by simp; omega
  have no := fun w1 : World => isBcrypt_no a n c k w1 h
  have No := Lib.hid no; clear no h
  go_enter Tryz.func6, Tryz.ntmps6
  go_wp2_with fail
  refine (No.out _).mono ?_
  rintro e w1 ⟨rfl, rfl⟩
  go_wp2_with fail
  refine (readLetters_any _).mono ?_
  rintro e w2 ⟨rfl, hb⟩
  have Hb := Lib.hid hb; clear hb
  go_wp2_with fail
  go_ret
  exact ⟨rfl, Below.trans' (below_alloc w _) Hb.out⟩
set_option maxRecDepth 100000 in
set_option maxHeartbeats 2000000 in
theorem mat_in (T : Nat → Nat) (pw : List Nat) (ka : Option Addr) (kc k : Nat) (sl : List Nat) (a0 a1 : Addr) (w : World) (h4 : 4 ≤ k) (h6 : k ≤ 6) (hl : sl.length = 16) (hb : ∀ x ∈ sl, x < 256) (hpl : pw.length ≤ 72) (d : Data w T a0 a1) (p : Pass w ka kc pw) :
    Calls Tryz.prog 6 #[.slice ka pw.length kc, .int .i64 (k : Int), .agg (bcells sl).toArray] w (TrueBelow w) := by
  have t : decide ((2147483647 : Int) < (pw.length : Int)) = false := by simp; omega
  have imp := fun (g1 : Nat) (w0 w1 : World) (d0 : Data w0 T a0 a1) (p0 : Pass w0 ka kc pw) => impl_bcrypt T pw ka kc k g1 sl a0 a1 w0 w1 h4 h6 hl hpl d0 p0
  have cmp := fun (g cap : Nat) (w1 : World) (d1 : Data w1 T a0 a1) (p1 : Pass w1 ka kc pw) hc hc2 h => compare_hashed T pw ka kc k g cap sl (hashN T pw k (valsOf sl)) a0 a1 w1 h4 h6 hl hpl d1 p1 (hashN_length T pw k (valsOf sl)) (encL_lt _) hc hc2 h 0 ⟨fun _ => rfl, fun h => absurd rfl h⟩
  have cst := fun (g cap : Nat) (w1 : World) hc hc2 h => cost_hashed k g cap sl (hashN T pw k (valsOf sl)) w1 h4 h6 hl (hashN_length T pw k (valsOf sl)) hc hc2 h
  have yes := fun w1 : World => isBcrypt_yes ka pw.length kc k w1 hpl h4 h6
  have sal := fun w1 : World => salted_any sl w1 hl hb
  have has := fun (lg : Nat) (w1 : World) L => hashed_any k lg 32 sl (hashN T pw k (valsOf sl)) w1 h4 h6 hl hb (hashN_length T pw k (valsOf sl)) L
  obtain ⟨n, hn⟩ : ∃ n, n = pw.length := ⟨_, rfl⟩
  rw [← hn] at t imp cmp yes hpl ⊢
  obtain ⟨H, hH⟩ : ∃ H, H = hashN T pw k (valsOf sl) := ⟨_, rfl⟩
  rw [← hH] at cmp cst has
  have hH31 : H.length = 31 := by rw [hH]; exact hashN_length T pw k (valsOf sl)
  have HH := Lib.hid hH; clear hH
  have HH31 := Lib.hid hH31; clear hH31
  have Imp := Lib.hid imp; clear imp
  have Cmp := Lib.hid cmp; clear cmp
  have Cst := Lib.hid cst; clear cst
  have Yes := Lib.hid yes; clear yes
  have Sal := Lib.hid sal; clear sal
  have Has := Lib.hid has; clear has
  have Hn := Lib.hid hn; clear hn
  have Hl := Lib.hid hl; clear hl
  have D := Lib.hid d; clear d
  have PP := Lib.hid p; clear p
  clear hb
  go_enter Tryz.func6, Tryz.ntmps6
  go_upto_region 1 with fail
  obtain ⟨X, hX⟩ : ∃ X, w.heap.size = X := ⟨_, rfl⟩
  simp only [hX]
  obtain ⟨W0, hW0⟩ : ∃ W0, W0 = w.alloc (.cells (bcells sl).toArray 38) := ⟨_, rfl⟩
  have b0 : Below w.heap.size w W0 := by rw [hW0]; exact below_alloc w _
  have r0 : W0.heap[X]? = some (.cells (bcells sl).toArray 38 (0, 0)) := by rw [hW0, ← hX]; exact heap_alloc_at w _
  simp only [← hW0]
  clear hW0
  have B0 := Lib.hid b0; clear b0
  have R0 := Lib.hid r0; clear r0
  have HX := Lib.hid hX; clear hX
  go_wp2_with fail
  refine (Yes.out _).mono ?_
  rintro e w1 ⟨rfl, hw1⟩
  rw [hw1]
  clear hw1 Yes
  go_wp2_with (refine wpList_load_part rfl 38 (.tmp 5) rfl X 0 rfl 38 (bcells sl).toArray (bcells sl) (0, 0) _ R0.out (part38 sl) Tryz.underlying38 rfl (size38 Hl.out) ?_)
  refine (Sal.out _).mono ?_
  rintro e w2 ⟨v2, rfl, ⟨g1, cu1, x1, x2, x3, x4, x5, x6, x7⟩, b2⟩
  have e22 := encL16 Hl.out
  rw [e22] at x1
  rw [x1]
  have l2 : LRow w2 g1 24 (encL sl) := ⟨cu1, x3, x5.symm, x7⟩
  have L2 := Lib.hid l2; clear l2
  have B2 := Lib.hid b2; clear b2
  have zg : W0.heap.size ≤ g1 := x2
  clear x1 x2 x3 x4 x5 x6 x7 e22
  have D0 := Lib.hid (D.out.below B0.out)
  have P0 := Lib.hid (PP.out.below B0.out)
  go_wp2_with fail
  refine (Imp.out g1 W0 w2 D0.out P0.out B2.out zg L2.out).mono ?_
  rintro e w3 ⟨v3, rfl, ⟨g2, cu2, x1, x2, x3, x4, x5, x6, x7⟩, b3⟩
  clear Imp
  rw [← HH.out, HH31.out] at x1
  rw [← HH.out] at x7
  rw [x1]
  have l3 : LRow w3 g2 32 H := ⟨cu2, x3, x5.symm, x7⟩
  have L3 := Lib.hid l3; clear l3
  have b03 : Below W0.heap.size W0 w3 := ((But.of_below (S := (· = g1)) B2.out).then b3).below (Nat.le_refl _) (fun i hi h => by omega)
  have B3 := Lib.hid b03; clear b03 b3
  have bX := (But.of_below (S := fun _ => False) B3.out)
  have R3 := Lib.hid (bX.row R0.out (fun h => h)); clear bX
  clear x1 x2 x3 x4 x5 x6 x7
  go_wp2_with (refine wpList_load_part rfl 38 (.tmp 5) rfl X 0 rfl 38 (bcells sl).toArray (bcells sl) (0, 0) _ R3.out (part38 sl) Tryz.underlying38 rfl (size38 Hl.out) ?_)
  refine (Has.out g2 w3 L3.out).mono ?_
  rintro e w4 ⟨g3, cap, rfl, y1, y2, y3, y4, y5⟩
  clear Has
  have B4 := Lib.hid (Below.trans' B3.out y2)
  have Y5 := Lib.hid y5; clear y5 y2
  go_wp2_with fail
  refine (Cst.out g3 cap w4 y3 y4 Y5.out).mono ?_
  rintro e w5 ⟨rfl, b5⟩
  clear Cst
  have B5 := Lib.hid b5
  have B05 := Lib.hid (Below.trans' B4.out b5); clear b5
  have D5 := Lib.hid (D0.out.below B05.out)
  have P5 := Lib.hid (P0.out.below B05.out)
  have Y55 := Lib.hid (fun i (hi : i < 60) => (But.of_below (S := fun _ => False) B5.out).cell (Y5.out i hi) (fun h => h))
  go_wp2_with fail
  refine (Cmp.out g3 cap w5 D5.out P5.out y3 y4 Y55.out).mono ?_
  rintro e w6 ⟨rfl, b6⟩
  clear Cmp
  have B6 := Lib.hid (Below.trans' B05.out b6); clear b6
  go_wp2_with fail
  refine (readLetters_any w6).mono ?_
  rintro e w7 ⟨rfl, b7⟩
  have B7 := Lib.hid (Below.trans' B6.out b7); clear b7
  go_wp2_with fail
  go_ret
  exact ⟨rfl, Below.trans' B0.out B7.out⟩
/-- All ways. -/
theorem matches_any (T : Nat → Nat) (pw : List Nat) (ka : Option Addr) (kc : Nat) (k : Int) (sl : List Nat) (a0 a1 : Addr) (w : World) (hl : sl.length = 16) (hb : ∀ x ∈ sl, x < 256) (d : Data w T a0 a1) (p : Pass w ka kc pw) :
    Calls Tryz.prog 6 #[.slice ka pw.length kc, .int .i64 k, .agg (bcells sl).toArray] w (TrueBelow w) := by
  by_cases h : 2147483647 < pw.length
  · exact mat_size ka pw.length kc k _ w h
  · by_cases h' : 72 < pw.length ∨ k < 4 ∨ 6 < k
    · exact mat_out ka pw.length kc k _ w (by omega) h'
    · have e : ((k.toNat : Nat) : Int) = k := by omega
      rw [← e]
      exact mat_in T pw ka kc k.toNat sl a0 a1 w (by omega) (by omega) hl hb (by omega) d p
end Go.Proofs.YthnhdfgonpbldaaGreatDoor
