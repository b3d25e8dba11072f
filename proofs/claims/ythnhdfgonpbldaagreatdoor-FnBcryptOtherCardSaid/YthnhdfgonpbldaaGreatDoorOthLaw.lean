/- The statement FnBcryptOther, walked: it answers true for every two passwords, cost and salt. -/
import Derived.Test.YthnhdfgonpbldaaGreatDoorMid
namespace Go.Proofs.YthnhdfgonpbldaaGreatDoor
open Go.RowKit Go.Lib
theorem oth_size (a1 a2 : Option Addr) (n1 n2 c1 c2 : Nat) (k : Int) (A : Array Value) (w : World) (h : 2147483647 < n1 ∨ 2147483647 < n2) : Calls Tryz.prog 4 #[.slice a1 n1 c1, .slice a2 n2 c2, .int .i64 k, .agg A] w (TrueBelow w) := by
  by_cases h1 : 2147483647 < n1
  · have t : decide ((2147483647 : Int) < (n1 : Int)) = true := by simp; omega
    go_enter Tryz.func4, Tryz.ntmps4
    go_wp2_with fail
    go_ret
    exact ⟨rfl, below_alloc w _⟩
  · have t : decide ((2147483647 : Int) < (n1 : Int)) = false := by simp; omega
    have t2 : decide ((2147483647 : Int) < (n2 : Int)) = true := by simp; omega
    go_enter Tryz.func4, Tryz.ntmps4
    go_wp2_with fail
    go_ret
    exact ⟨rfl, below_alloc w _⟩
theorem oth_out (a1 a2 : Option Addr) (n1 n2 c1 c2 : Nat) (k : Int) (A : Array Value) (w : World) (h1 : n1 ≤ 2147483647) (h2 : n2 ≤ 2147483647) (h : 72 < n1 ∨ 72 < n2 ∨ k < 4 ∨ 6 < k) :
    Calls Tryz.prog 4 #[.slice a1 n1 c1, .slice a2 n2 c2, .int .i64 k, .agg A] w (TrueBelow w) := by
  have t : decide ((2147483647 : Int) < (n1 : Int)) = false := by simp; omega
  have t2 : decide ((2147483647 : Int) < (n2 : Int)) = false := by simp; omega
  by_cases hn : 72 < n1 ∨ k < 4 ∨ 6 < k
  · have No := Lib.hid (fun w1 : World => isBcrypt_no a1 n1 c1 k w1 hn)
    clear hn h
    go_enter Tryz.func4, Tryz.ntmps4
    go_wp2_with fail
    refine (No.out _).mono ?_
    rintro e w1 ⟨rfl, rfl⟩
    go_wp2_with fail
    refine (readLetters_any _).mono ?_
    rintro e w2 ⟨rfl, hb⟩
    have Hb := Lib.hid hb; clear hb
    go_wp2_with fail
    go_ret
    exact ⟨rfl, Below.trans' (below_alloc w _) Hb.out⟩
  · have hk : ((k.toNat : Nat) : Int) = k := by omega
    have Yes := Lib.hid (fun w1 : World => isBcrypt_yes a1 n1 c1 k.toNat w1 (by omega) (by omega) (by omega))
    have No := Lib.hid (fun w1 : World => isBcrypt_no a2 n2 c2 k w1 (by omega))
    rw [hk] at Yes
    clear hn h hk
    go_enter Tryz.func4, Tryz.ntmps4
    go_wp2_with fail
    refine (Yes.out _).mono ?_
    rintro e w1 ⟨rfl, rfl⟩
    go_wp2_with fail
    refine (No.out _).mono ?_
    rintro e w1 ⟨rfl, rfl⟩
    go_wp2_with fail
    refine (readLetters_any _).mono ?_
    rintro e w2 ⟨rfl, hb⟩
    have Hb := Lib.hid hb; clear hb
    go_wp2_with fail
    go_ret
    exact ⟨rfl, Below.trans' (below_alloc w _) Hb.out⟩
theorem salt16 (sl : List Nat) (h : sl.length = 16) : ∃ s0 s1 s2 s3 s4 s5 s6 s7 s8 s9 s10 s11 s12 s13 s14 s15 : Nat, (bcells sl).toArray = #[Value.int .u8 (s0 : Int), Value.int .u8 (s1 : Int), Value.int .u8 (s2 : Int), Value.int .u8 (s3 : Int), Value.int .u8 (s4 : Int), Value.int .u8 (s5 : Int), Value.int .u8 (s6 : Int), Value.int .u8 (s7 : Int), Value.int .u8 (s8 : Int), Value.int .u8 (s9 : Int), Value.int .u8 (s10 : Int), Value.int .u8 (s11 : Int), Value.int .u8 (s12 : Int), Value.int .u8 (s13 : Int), Value.int .u8 (s14 : Int), Value.int .u8 (s15 : Int)] := by
  match sl, h with
  | [a0, a1, a2, a3, a4, a5, a6, a7, a8, a9, a10, a11, a12, a13, a14, a15], _ => exact ⟨a0, a1, a2, a3, a4, a5, a6, a7, a8, a9, a10, a11, a12, a13, a14, a15, rfl⟩
set_option maxRecDepth 100000 in
set_option maxHeartbeats 2000000 in
theorem oth_in (T : Nat → Nat) (pw po : List Nat) (ka kb : Option Addr) (kc kd k : Nat) (sl : List Nat) (a0 a1 : Addr) (w : World) (h4 : 4 ≤ k) (h6 : k ≤ 6) (hl : sl.length = 16) (hb : ∀ x ∈ sl, x < 256) (hpl : pw.length ≤ 72) (hpo : po.length ≤ 72)
    (d : Data w T a0 a1) (p : Pass w ka kc pw) (q : Pass w kb kd po) :
    Calls Tryz.prog 4 #[.slice ka pw.length kc, .slice kb po.length kd, .int .i64 (k : Int), .agg (bcells sl).toArray] w (TrueBelow w) := by
  have t : decide ((2147483647 : Int) < (pw.length : Int)) = false := by simp; omega
  have t2 : decide ((2147483647 : Int) < (po.length : Int)) = false := by simp; omega
  have imp := fun (g1 : Nat) (w0 w1 : World) (d0 : Data w0 T a0 a1) (p0 : Pass w0 ka kc pw) => impl_bcrypt T pw ka kc k g1 sl a0 a1 w0 w1 h4 h6 hl hpl d0 p0
  have imq := fun (g1 : Nat) (w0 w1 : World) (d0 : Data w0 T a0 a1) (p0 : Pass w0 kb kd po) => impl_bcrypt T po kb kd k g1 sl a0 a1 w0 w1 h4 h6 hl hpo d0 p0
  have cmp := fun (g cap : Nat) (w1 : World) (r : Int) (d1 : Data w1 T a0 a1) (p1 : Pass w1 kb kd po) hc hc2 h hr => compare_hashed T po kb kd k g cap sl (hashN T pw k (valsOf sl)) a0 a1 w1 h4 h6 hl hpo d1 p1 (hashN_length T pw k (valsOf sl)) (encL_lt _) hc hc2 h r hr
  have yes := fun w1 : World => isBcrypt_yes ka pw.length kc k w1 hpl h4 h6
  have yeq := fun w1 : World => isBcrypt_yes kb po.length kd k w1 hpo h4 h6
  have sal := fun w1 : World => salted_any sl w1 hl hb
  have has := fun (lg : Nat) (w1 : World) L => hashed_any k lg 32 sl (hashN T pw k (valsOf sl)) w1 h4 h6 hl hb (hashN_length T pw k (valsOf sl)) L
  obtain ⟨n, hn⟩ : ∃ n, n = pw.length := ⟨_, rfl⟩
  obtain ⟨n', hn'⟩ : ∃ n, n = po.length := ⟨_, rfl⟩
  rw [← hn] at t imp yes hpl ⊢
  rw [← hn'] at t2 imq cmp yeq hpo ⊢
  obtain ⟨H, hH⟩ : ∃ H, H = hashN T pw k (valsOf sl) := ⟨_, rfl⟩
  obtain ⟨G, hG⟩ : ∃ G, G = hashN T po k (valsOf sl) := ⟨_, rfl⟩
  rw [← hH] at cmp has
  rw [← hG] at cmp
  have hH31 : H.length = 31 := by rw [hH]; exact hashN_length T pw k (valsOf sl)
  have hG31 : G.length = 31 := by rw [hG]; exact hashN_length T po k (valsOf sl)
  have HH := Lib.hid hH; clear hH
  have HG := Lib.hid hG; clear hG
  have HH31 := Lib.hid hH31; clear hH31
  have HG31 := Lib.hid hG31; clear hG31
  have Imp := Lib.hid imp; clear imp
  have Imq := Lib.hid imq; clear imq
  have Cmp := Lib.hid cmp; clear cmp
  have Yes := Lib.hid yes; clear yes
  have Yeq := Lib.hid yeq; clear yeq
  have Sal := Lib.hid sal; clear sal
  have Has := Lib.hid has; clear has
  have Hn := Lib.hid hn; clear hn
  have Hn' := Lib.hid hn'; clear hn'
  have Hl := Lib.hid hl; clear hl
  have D := Lib.hid d; clear d
  have PP := Lib.hid p; clear p
  have QQ := Lib.hid q; clear q
  clear hb
  go_enter Tryz.func4, Tryz.ntmps4
  go_upto_region 1 with fail
  obtain ⟨X, hX⟩ : ∃ X, w.heap.size = X := ⟨_, rfl⟩
  simp only [hX]
  obtain ⟨W0, hW0⟩ : ∃ W0, W0 = w.alloc (.cells (bcells sl).toArray 38) := ⟨_, rfl⟩
  have b0 : Below w.heap.size w W0 := by rw [hW0]; exact below_alloc w _
  have r0 : W0.heap[X]? = some (.cells (bcells sl).toArray 38 (0, 0)) := by rw [hW0, ← hX]; exact heap_alloc_at w _
  simp only [← hW0]
  clear hW0
  have B0 := Lib.hid b0; clear b0
  have R0 := Lib.hid r0; clear r0
  have HX := Lib.hid hX; clear hX
  go_wp2_with fail
  refine (Yes.out _).mono ?_
  rintro e w1 ⟨rfl, hw1⟩
  rw [hw1]
  clear hw1 Yes
  go_wp2_with fail
  refine (Yeq.out _).mono ?_
  rintro e w1 ⟨rfl, hw1⟩
  rw [hw1]
  clear hw1 Yeq
  have D0 := Lib.hid (D.out.below B0.out)
  have P0 := Lib.hid (PP.out.below B0.out)
  have Q0 := Lib.hid (QQ.out.below B0.out)
  -- the first hash
  go_wp2_with (refine wpList_load_part rfl 38 (.tmp 7) rfl X 0 rfl 38 (bcells sl).toArray (bcells sl) (0, 0) _ R0.out (part38 sl) Tryz.underlying38 rfl (size38 Hl.out) ?_)
  refine (Sal.out _).mono ?_
  rintro e w2 ⟨v2, rfl, ⟨g1, cu1, x1, x2, x3, x4, x5, x6, x7⟩, b2⟩
  have e22 := encL16 Hl.out
  rw [e22] at x1
  rw [x1]
  have L2 := Lib.hid (show LRow w2 g1 24 (encL sl) from ⟨cu1, x3, x5.symm, x7⟩)
  have B2 := Lib.hid b2; clear b2
  have zg : W0.heap.size ≤ g1 := x2
  clear x1 x2 x3 x4 x5 x6 x7
  go_wp2_with fail
  refine (Imp.out g1 W0 w2 D0.out P0.out B2.out zg L2.out).mono ?_
  rintro e w3 ⟨v3, rfl, ⟨g2, cu2, x1, x2, x3, x4, x5, x6, x7⟩, b3⟩
  clear Imp
  rw [← HH.out, HH31.out] at x1
  rw [← HH.out] at x7
  rw [x1]
  have L3 := Lib.hid (show LRow w3 g2 32 H from ⟨cu2, x3, x5.symm, x7⟩)
  have B3 := Lib.hid (((But.of_below (S := (· = g1)) B2.out).then b3).below (Nat.le_refl W0.heap.size) (fun i hi h => by omega))
  have zg2 : W0.heap.size ≤ g2 := Nat.le_trans B2.out.size x2
  clear x1 x2 x3 x4 x5 x6 x7 b3 zg
  have R3 := Lib.hid ((But.of_below (S := fun _ => False) B3.out).row R0.out (fun h => h))
  have D3 := Lib.hid (D0.out.below B3.out)
  have Q3 := Lib.hid (Q0.out.below B3.out)
  -- the second
  go_wp2_with (refine wpList_load_part rfl 38 (.tmp 7) rfl X 0 rfl 38 (bcells sl).toArray (bcells sl) (0, 0) _ R3.out (part38 sl) Tryz.underlying38 rfl (size38 Hl.out) ?_)
  refine (Sal.out _).mono ?_
  rintro e w4 ⟨v4, rfl, ⟨g3, cu3, x1, x2, x3, x4, x5, x6, x7⟩, b4⟩
  rw [e22] at x1
  rw [x1]
  have L4 := Lib.hid (show LRow w4 g3 24 (encL sl) from ⟨cu3, x3, x5.symm, x7⟩)
  have B4 := Lib.hid b4; clear b4
  have zg3 : w3.heap.size ≤ g3 := x2
  clear x1 x2 x3 x4 x5 x6 x7 e22
  go_wp2_with fail
  refine (Imq.out g3 w3 w4 D3.out Q3.out B4.out zg3 L4.out).mono ?_
  rintro e w5 ⟨v5, rfl, ⟨g4, cu4, x1, x2, x3, x4, x5, x6, x7⟩, b5⟩
  clear Imq
  rw [← HG.out, HG31.out] at x1
  rw [← HG.out] at x7
  rw [x1]
  have L5 := Lib.hid (show LRow w5 g4 32 G from ⟨cu4, x3, x5.symm, x7⟩)
  have B5 := Lib.hid (((But.of_below (S := (· = g3)) B4.out).then b5).below (Nat.le_refl w3.heap.size) (fun i hi h => by omega))
  clear x1 x2 x3 x4 x5 x6 x7 b5 zg3
  have L35 := Lib.hid (L3.out.but (But.of_below (S := fun _ => False) B5.out) (fun h => h))
  have rd : ∀ {g : Nat} {l : List Nat}, l.length = 31 → LRow w5 g 32 l → Rd w5 (.slice (some ⟨g, 0, none⟩) 31 32) l := fun {g l} hl h => by
    refine ⟨some ⟨g, 0, none⟩, 32, by rw [hl], by omega, by omega, fun i hi => ⟨g, 0, rfl, by rw [Nat.zero_add]; exact h.cell i hi⟩⟩
  have Eq := Lib.hid (equal_any (rd HH31.out L35.out) (rd HG31.out L5.out))
  clear rd
  have B05 := Lib.hid (Below.trans' B3.out B5.out)
  go_wp2_with fail
  refine Eq.out.mono ?_
  rintro e w6 ⟨rfl, m, hw6⟩
  clear Eq
  have b56 : Below w5.heap.size w5 w6 := by rw [hw6]; exact below_drewN w5 m
  clear hw6
  have B06 := Lib.hid (Below.trans' B05.out b56)
  have L6 := Lib.hid (L35.out.but (But.of_below (S := fun _ => False) b56) (fun h => h))
  clear b56
  have R6 := Lib.hid ((But.of_below (S := fun _ => False) B06.out).row R0.out (fun h => h))
  by_cases he : H = G
  · have hd : decide (H = G) = true := decide_eq_true he
    rw [hd]
    clear hd
    have HE := Lib.hid he; clear he
    obtain ⟨s0, s1, s2, s3, s4, s5, s6, s7, s8, s9, s10, s11, s12, s13, s14, s15, hA⟩ := salt16 sl Hl.out
    have r6 := R6.out
    rw [hA] at r6
    have has2 := Has.out g2 w6 L6.out
    rw [hA] at has2
    have q0 : w6.cell? ⟨X, 0, none⟩ = some (.int .u8 (s0 : Int)) := cell_row r6 rfl
    have q1 : w6.cell? ⟨X, 1, none⟩ = some (.int .u8 (s1 : Int)) := cell_row r6 rfl
    have q2 : w6.cell? ⟨X, 2, none⟩ = some (.int .u8 (s2 : Int)) := cell_row r6 rfl
    have q3 : w6.cell? ⟨X, 3, none⟩ = some (.int .u8 (s3 : Int)) := cell_row r6 rfl
    have q4 : w6.cell? ⟨X, 4, none⟩ = some (.int .u8 (s4 : Int)) := cell_row r6 rfl
    have q5 : w6.cell? ⟨X, 5, none⟩ = some (.int .u8 (s5 : Int)) := cell_row r6 rfl
    have q6 : w6.cell? ⟨X, 6, none⟩ = some (.int .u8 (s6 : Int)) := cell_row r6 rfl
    have q7 : w6.cell? ⟨X, 7, none⟩ = some (.int .u8 (s7 : Int)) := cell_row r6 rfl
    have q8 : w6.cell? ⟨X, 8, none⟩ = some (.int .u8 (s8 : Int)) := cell_row r6 rfl
    have q9 : w6.cell? ⟨X, 9, none⟩ = some (.int .u8 (s9 : Int)) := cell_row r6 rfl
    have q10 : w6.cell? ⟨X, 10, none⟩ = some (.int .u8 (s10 : Int)) := cell_row r6 rfl
    have q11 : w6.cell? ⟨X, 11, none⟩ = some (.int .u8 (s11 : Int)) := cell_row r6 rfl
    have q12 : w6.cell? ⟨X, 12, none⟩ = some (.int .u8 (s12 : Int)) := cell_row r6 rfl
    have q13 : w6.cell? ⟨X, 13, none⟩ = some (.int .u8 (s13 : Int)) := cell_row r6 rfl
    have q14 : w6.cell? ⟨X, 14, none⟩ = some (.int .u8 (s14 : Int)) := cell_row r6 rfl
    have q15 : w6.cell? ⟨X, 15, none⟩ = some (.int .u8 (s15 : Int)) := cell_row r6 rfl
    have Has2 := Lib.hid has2; clear has2 r6
    have HA := Lib.hid hA; clear hA
    go_wp2_with fail
    clear q0 q1 q2 q3 q4 q5 q6 q7 q8 q9 q10 q11 q12 q13 q14 q15
    refine Has2.out.mono ?_
    rintro e w7 ⟨g5, cap, rfl, y1, y2, y3, y4, y5⟩
    clear Has Has2
    have B07 := Lib.hid (Below.trans' B06.out y2)
    have Y5 := Lib.hid y5; clear y5 y2
    have D7 := Lib.hid (D0.out.below B07.out)
    have Q7 := Lib.hid (Q0.out.below B07.out)
    go_wp2_with fail
    refine (Cmp.out g5 cap w7 0 D7.out Q7.out y3 y4 Y5.out ⟨fun _ => rfl, fun h => absurd HE.out h⟩).mono ?_
    rintro e w8 ⟨rfl, b8⟩
    have B08 := Lib.hid (Below.trans' B07.out b8); clear b8 Cmp
    go_wp2_with fail
    refine (readLetters_any w8).mono ?_
    rintro e w9 ⟨rfl, b9⟩
    have B09 := Lib.hid (Below.trans' B08.out b9); clear b9
    go_wp2_with fail
    go_ret
    exact ⟨rfl, Below.trans' B0.out B09.out⟩
  · have hd : decide (H = G) = false := decide_eq_false he
    rw [hd]
    clear hd
    have HE := Lib.hid he; clear he
    obtain ⟨s0, s1, s2, s3, s4, s5, s6, s7, s8, s9, s10, s11, s12, s13, s14, s15, hA⟩ := salt16 sl Hl.out
    have r6 := R6.out
    rw [hA] at r6
    have has2 := Has.out g2 w6 L6.out
    rw [hA] at has2
    have q0 : w6.cell? ⟨X, 0, none⟩ = some (.int .u8 (s0 : Int)) := cell_row r6 rfl
    have q1 : w6.cell? ⟨X, 1, none⟩ = some (.int .u8 (s1 : Int)) := cell_row r6 rfl
    have q2 : w6.cell? ⟨X, 2, none⟩ = some (.int .u8 (s2 : Int)) := cell_row r6 rfl
    have q3 : w6.cell? ⟨X, 3, none⟩ = some (.int .u8 (s3 : Int)) := cell_row r6 rfl
    have q4 : w6.cell? ⟨X, 4, none⟩ = some (.int .u8 (s4 : Int)) := cell_row r6 rfl
    have q5 : w6.cell? ⟨X, 5, none⟩ = some (.int .u8 (s5 : Int)) := cell_row r6 rfl
    have q6 : w6.cell? ⟨X, 6, none⟩ = some (.int .u8 (s6 : Int)) := cell_row r6 rfl
    have q7 : w6.cell? ⟨X, 7, none⟩ = some (.int .u8 (s7 : Int)) := cell_row r6 rfl
    have q8 : w6.cell? ⟨X, 8, none⟩ = some (.int .u8 (s8 : Int)) := cell_row r6 rfl
    have q9 : w6.cell? ⟨X, 9, none⟩ = some (.int .u8 (s9 : Int)) := cell_row r6 rfl
    have q10 : w6.cell? ⟨X, 10, none⟩ = some (.int .u8 (s10 : Int)) := cell_row r6 rfl
    have q11 : w6.cell? ⟨X, 11, none⟩ = some (.int .u8 (s11 : Int)) := cell_row r6 rfl
    have q12 : w6.cell? ⟨X, 12, none⟩ = some (.int .u8 (s12 : Int)) := cell_row r6 rfl
    have q13 : w6.cell? ⟨X, 13, none⟩ = some (.int .u8 (s13 : Int)) := cell_row r6 rfl
    have q14 : w6.cell? ⟨X, 14, none⟩ = some (.int .u8 (s14 : Int)) := cell_row r6 rfl
    have q15 : w6.cell? ⟨X, 15, none⟩ = some (.int .u8 (s15 : Int)) := cell_row r6 rfl
    have Has2 := Lib.hid has2; clear has2 r6
    have HA := Lib.hid hA; clear hA
    go_wp2_with fail
    clear q0 q1 q2 q3 q4 q5 q6 q7 q8 q9 q10 q11 q12 q13 q14 q15
    refine Has2.out.mono ?_
    rintro e w7 ⟨g5, cap, rfl, y1, y2, y3, y4, y5⟩
    clear Has Has2
    have B07 := Lib.hid (Below.trans' B06.out y2)
    have Y5 := Lib.hid y5; clear y5 y2
    have D7 := Lib.hid (D0.out.below B07.out)
    have Q7 := Lib.hid (Q0.out.below B07.out)
    go_wp2_with fail
    refine (Cmp.out g5 cap w7 1 D7.out Q7.out y3 y4 Y5.out ⟨fun h => absurd h HE.out, fun _ => rfl⟩).mono ?_
    rintro e w8 ⟨rfl, b8⟩
    have B08 := Lib.hid (Below.trans' B07.out b8); clear b8 Cmp
    go_wp2_with fail
    refine (readLetters_any w8).mono ?_
    rintro e w9 ⟨rfl, b9⟩
    have B09 := Lib.hid (Below.trans' B08.out b9); clear b9
    go_wp2_with fail
    go_ret
    exact ⟨rfl, Below.trans' B0.out B09.out⟩
/-- All ways. -/
theorem other_any (T : Nat → Nat) (pw po : List Nat) (ka kb : Option Addr) (kc kd : Nat) (k : Int) (sl : List Nat) (a0 a1 : Addr) (w : World) (hl : sl.length = 16) (hb : ∀ x ∈ sl, x < 256) (d : Data w T a0 a1) (p : Pass w ka kc pw) (q : Pass w kb kd po) :
    Calls Tryz.prog 4 #[.slice ka pw.length kc, .slice kb po.length kd, .int .i64 k, .agg (bcells sl).toArray] w (TrueBelow w) := by
  by_cases h : 2147483647 < pw.length ∨ 2147483647 < po.length
  · exact oth_size ka kb pw.length po.length kc kd k _ w h
  · by_cases h' : 72 < pw.length ∨ 72 < po.length ∨ k < 4 ∨ 6 < k
    · exact oth_out ka kb pw.length po.length kc kd k _ w (by omega) (by omega) h'
    · have e : ((k.toNat : Nat) : Int) = k := by omega
      rw [← e]
      exact oth_in T pw po ka kb kc kd k.toNat sl a0 a1 w (by omega) (by omega) hl hb (by omega) (by omega) d p q
end Go.Proofs.YthnhdfgonpbldaaGreatDoor
