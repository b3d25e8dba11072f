/- The specification's BcryptEncode, BcryptDecode and Bcrypt. -/
import Derived.Test.YthnhdfgonpbldaaGreatDoorEnc
import Derived.Test.YthnhdfgonpbldaaGreatDoorDeco
import Derived.Test.YthnhdfgonpbldaaGreatDoorBenc
import Derived.Test.YthnhdfgonpbldaaGreatDoorComB
import Derived.ArgAppend
import Derived.Laws.RangeAny
/- The letters' bits one by one, and the bytes that letters give, letter by letter: plain laws, no program in sight. -/
namespace Go.Proofs.YthnhdfgonpbldaaGreatDoor
def bitA (l : List Nat) (at' : Nat) : Nat := l.getD (at' / 8) 0 / 2 ^ (7 - at' % 8) % 2
def bitsV (l : List Nat) (i : Nat) : Nat → Nat
  | 0 => 0
  | k + 1 => bitsV l i k * 2 + bitA l (6 * i + k)
theorem bitA_lt (l : List Nat) (j : Nat) : bitA l j < 2 := Nat.mod_lt _ (by decide)
theorem bitA_past (l : List Nat) (j : Nat) (h : 8 * l.length ≤ j) : bitA l j = 0 := by
  unfold bitA
  rw [getD_past (by omega)]
  simp
theorem bitsV_lt (l : List Nat) (i : Nat) : ∀ k, bitsV l i k < 2 ^ k
  | 0 => by show (0 : Nat) < 2 ^ 0; decide
  | k + 1 => by
    have h := bitsV_lt l i k
    have b := bitA_lt l (6 * i + k)
    show bitsV l i k * 2 + bitA l (6 * i + k) < 2 ^ (k + 1)
    rw [Nat.pow_succ]
    omega
theorem six_low (b : Nat) : ((b / 8 % 2 * 2 + b / 4 % 2) * 2 + b / 2 % 2) * 2 + b % 2 = b % 16 := by omega
theorem six_top (b : Nat) (h : b < 256) : ((b / 128 % 2 * 2 + b / 64 % 2) * 2 + b / 32 % 2) * 2 + b / 16 % 2 = b / 16 := by omega
theorem sext_0 (a b c : Nat) (ha : a < 256) (hb : b < 256) (hc : c < 256) : (((((0 * 2 + a / 128 % 2) * 2 + a / 64 % 2) * 2 + a / 32 % 2) * 2 + a / 16 % 2) * 2 + a / 8 % 2) * 2 + a / 4 % 2 = (a * 65536 + b * 256 + c) / 262144 % 64 := by
  have e : (a * 65536 + b * 256 + c) / 262144 % 64 = a / 4 := by omega
  have e2 := six_top a ha
  have e3 : a / 8 % 2 * 2 + a / 4 % 2 = a / 4 % 4 := by omega
  rw [e]
  omega
theorem sext_1 (a b c : Nat) (_ha : a < 256) (hb : b < 256) (hc : c < 256) : (((((0 * 2 + a / 2 % 2) * 2 + a % 2) * 2 + b / 128 % 2) * 2 + b / 64 % 2) * 2 + b / 32 % 2) * 2 + b / 16 % 2 = (a * 65536 + b * 256 + c) / 4096 % 64 := by
  have e : (a * 65536 + b * 256 + c) / 4096 % 64 = a % 4 * 16 + b / 16 := by omega
  have e2 := six_top b hb
  have e3 : a / 2 % 2 * 2 + a % 2 = a % 4 := by omega
  rw [e]
  omega
theorem sext_2 (a b c : Nat) (_ha : a < 256) (_hb : b < 256) (hc : c < 256) : (((((0 * 2 + b / 8 % 2) * 2 + b / 4 % 2) * 2 + b / 2 % 2) * 2 + b % 2) * 2 + c / 128 % 2) * 2 + c / 64 % 2 = (a * 65536 + b * 256 + c) / 64 % 64 := by
  have e : (a * 65536 + b * 256 + c) / 64 % 64 = b % 16 * 4 + c / 64 := by omega
  have e2 := six_low b
  have e3 : c / 128 % 2 * 2 + c / 64 % 2 = c / 64 := by omega
  rw [e]
  omega
theorem sext_3 (a b c : Nat) (_ha : a < 256) (_hb : b < 256) (_hc : c < 256) : (((((0 * 2 + c / 32 % 2) * 2 + c / 16 % 2) * 2 + c / 8 % 2) * 2 + c / 4 % 2) * 2 + c / 2 % 2) * 2 + c % 2 = (a * 65536 + b * 256 + c) % 64 := by
  have e : (a * 65536 + b * 256 + c) % 64 = c % 64 := by omega
  have e2 := six_low c
  have e3 : c / 32 % 2 * 2 + c / 16 % 2 = c / 16 % 4 := by omega
  rw [e]
  omega
theorem bitsV_sext (l : List Nat) (h : ∀ j, l.getD j 0 < 256) (i : Nat) : bitsV l i 6 = sext l i := by
  obtain ⟨q, r, rfl, hr⟩ : ∃ q r, i = 4 * q + r ∧ r < 4 := ⟨i / 4, i % 4, by omega, Nat.mod_lt _ (by decide)⟩
  have ha := h (3 * q)
  have hb := h (3 * q + 1)
  have hc := h (3 * q + 2)
  unfold sext
  rw [show (4 * q + r) / 4 * 3 = 3 * q by omega, show (4 * q + r) % 4 = r by omega]
  show ((((((0 * 2 + bitA l (6 * (4 * q + r) + 0)) * 2 + bitA l (6 * (4 * q + r) + 1)) * 2 + bitA l (6 * (4 * q + r) + 2)) * 2 + bitA l (6 * (4 * q + r) + 3)) * 2 + bitA l (6 * (4 * q + r) + 4)) * 2 + bitA l (6 * (4 * q + r) + 5)) = _
  unfold bitA
  rcases (show r = 0 ∨ r = 1 ∨ r = 2 ∨ r = 3 by omega) with rfl | rfl | rfl | rfl
  · rw [show (6 * (4 * q + 0) + 0) / 8 = 3 * q by omega, show (6 * (4 * q + 0) + 1) / 8 = 3 * q by omega, show (6 * (4 * q + 0) + 2) / 8 = 3 * q by omega, show (6 * (4 * q + 0) + 3) / 8 = 3 * q by omega, show (6 * (4 * q + 0) + 4) / 8 = 3 * q by omega, show (6 * (4 * q + 0) + 5) / 8 = 3 * q by omega, show (6 * (4 * q + 0) + 0) % 8 = 0 by omega, show (6 * (4 * q + 0) + 1) % 8 = 1 by omega, show (6 * (4 * q + 0) + 2) % 8 = 2 by omega, show (6 * (4 * q + 0) + 3) % 8 = 3 by omega, show (6 * (4 * q + 0) + 4) % 8 = 4 by omega, show (6 * (4 * q + 0) + 5) % 8 = 5 by omega]
    simp only [Nat.reducePow, Nat.reduceSub]
    exact sext_0 _ _ _ ha hb hc
  · rw [show (6 * (4 * q + 1) + 0) / 8 = 3 * q by omega, show (6 * (4 * q + 1) + 1) / 8 = 3 * q by omega, show (6 * (4 * q + 1) + 2) / 8 = 3 * q + 1 by omega, show (6 * (4 * q + 1) + 3) / 8 = 3 * q + 1 by omega, show (6 * (4 * q + 1) + 4) / 8 = 3 * q + 1 by omega, show (6 * (4 * q + 1) + 5) / 8 = 3 * q + 1 by omega, show (6 * (4 * q + 1) + 0) % 8 = 6 by omega, show (6 * (4 * q + 1) + 1) % 8 = 7 by omega, show (6 * (4 * q + 1) + 2) % 8 = 0 by omega, show (6 * (4 * q + 1) + 3) % 8 = 1 by omega, show (6 * (4 * q + 1) + 4) % 8 = 2 by omega, show (6 * (4 * q + 1) + 5) % 8 = 3 by omega]
    simp only [Nat.reducePow, Nat.reduceSub, Nat.div_one]
    exact sext_1 _ _ _ ha hb hc
  · rw [show (6 * (4 * q + 2) + 0) / 8 = 3 * q + 1 by omega, show (6 * (4 * q + 2) + 1) / 8 = 3 * q + 1 by omega, show (6 * (4 * q + 2) + 2) / 8 = 3 * q + 1 by omega, show (6 * (4 * q + 2) + 3) / 8 = 3 * q + 1 by omega, show (6 * (4 * q + 2) + 4) / 8 = 3 * q + 2 by omega, show (6 * (4 * q + 2) + 5) / 8 = 3 * q + 2 by omega, show (6 * (4 * q + 2) + 0) % 8 = 4 by omega, show (6 * (4 * q + 2) + 1) % 8 = 5 by omega, show (6 * (4 * q + 2) + 2) % 8 = 6 by omega, show (6 * (4 * q + 2) + 3) % 8 = 7 by omega, show (6 * (4 * q + 2) + 4) % 8 = 0 by omega, show (6 * (4 * q + 2) + 5) % 8 = 1 by omega]
    simp only [Nat.reducePow, Nat.reduceSub, Nat.div_one]
    exact sext_2 _ _ _ ha hb hc
  · rw [show (6 * (4 * q + 3) + 0) / 8 = 3 * q + 2 by omega, show (6 * (4 * q + 3) + 1) / 8 = 3 * q + 2 by omega, show (6 * (4 * q + 3) + 2) / 8 = 3 * q + 2 by omega, show (6 * (4 * q + 3) + 3) / 8 = 3 * q + 2 by omega, show (6 * (4 * q + 3) + 4) / 8 = 3 * q + 2 by omega, show (6 * (4 * q + 3) + 5) / 8 = 3 * q + 2 by omega, show (6 * (4 * q + 3) + 0) % 8 = 2 by omega, show (6 * (4 * q + 3) + 1) % 8 = 3 by omega, show (6 * (4 * q + 3) + 2) % 8 = 4 by omega, show (6 * (4 * q + 3) + 3) % 8 = 5 by omega, show (6 * (4 * q + 3) + 4) % 8 = 6 by omega, show (6 * (4 * q + 3) + 5) % 8 = 7 by omega]
    simp only [Nat.reducePow, Nat.reduceSub, Nat.div_one]
    exact sext_3 _ _ _ ha hb hc
def vr (vs : List Nat) (k : Nat) : Nat := if k % 4 = 0 then 0 else if k % 4 = 1 then vs.getD (k - 1) 0 else if k % 4 = 2 then vs.getD (k - 1) 0 % 16 else vs.getD (k - 1) 0 % 4
theorem vr0 (vs : List Nat) (q : Nat) : vr vs (4 * q) = 0 := by unfold vr; rw [if_pos (by omega)]
theorem vr1 (vs : List Nat) (q : Nat) : vr vs (4 * q + 1) = vs.getD (4 * q) 0 := by unfold vr; rw [if_neg (by omega), if_pos (by omega)]; rfl
theorem vr2 (vs : List Nat) (q : Nat) : vr vs (4 * q + 2) = vs.getD (4 * q + 1) 0 % 16 := by unfold vr; rw [if_neg (by omega), if_neg (by omega), if_pos (by omega)]; rfl
theorem vr3 (vs : List Nat) (q : Nat) : vr vs (4 * q + 3) = vs.getD (4 * q + 2) 0 % 4 := by unfold vr; rw [if_neg (by omega), if_neg (by omega), if_neg (by omega)]; rfl
theorem decB_0 (vs : List Nat) (hv : ∀ j, vs.getD j 0 < 64) (q : Nat) : decB vs (3 * q) = (vr vs (4 * q + 1) * 64 + vs.getD (4 * q + 1) 0) / 16 % 256 := by
  rw [vr1]
  have h0 := hv (4 * q)
  have h1 := hv (4 * q + 1)
  have h2 := hv (4 * q + 2)
  have h3 := hv (4 * q + 3)
  unfold decB
  rw [show 3 * q / 3 * 4 = 4 * q by omega, show 3 * q % 3 = 0 by omega]
  simp only [Nat.reducePow, Nat.reduceSub]
  omega
theorem decB_1 (vs : List Nat) (hv : ∀ j, vs.getD j 0 < 64) (q : Nat) : decB vs (3 * q + 1) = (vr vs (4 * q + 2) * 64 + vs.getD (4 * q + 2) 0) / 4 % 256 := by
  rw [vr2]
  have h0 := hv (4 * q)
  have h1 := hv (4 * q + 1)
  have h2 := hv (4 * q + 2)
  have h3 := hv (4 * q + 3)
  unfold decB
  rw [show (3 * q + 1) / 3 * 4 = 4 * q by omega, show (3 * q + 1) % 3 = 1 by omega]
  simp only [Nat.reducePow, Nat.reduceSub]
  omega
theorem decB_2 (vs : List Nat) (hv : ∀ j, vs.getD j 0 < 64) (q : Nat) : decB vs (3 * q + 2) = vr vs (4 * q + 3) * 64 + vs.getD (4 * q + 3) 0 := by
  rw [vr3]
  have h0 := hv (4 * q)
  have h1 := hv (4 * q + 1)
  have h2 := hv (4 * q + 2)
  have h3 := hv (4 * q + 3)
  unfold decB
  rw [show (3 * q + 2) / 3 * 4 = 4 * q by omega, show (3 * q + 2) % 3 = 2 by omega]
  simp only [Nat.reducePow, Nat.reduceSub]
  omega
theorem vr_lt (vs : List Nat) (hv : ∀ j, vs.getD j 0 < 64) (k : Nat) : vr vs k < 64 := by
  have := hv (k - 1)
  unfold vr
  split
  · decide
  · split
    · exact this
    · split <;> omega
/-- Where a letter stands among the first j of an alphabet; -1 if it is none. -/
def idx (al : Nat → Nat) (c : Nat) : Nat → Int
  | 0 => -1
  | j + 1 => if al j = c then (j : Int) else idx al c j
theorem idx_lt (al : Nat → Nat) (c : Nat) : ∀ j, -1 ≤ idx al c j ∧ idx al c j < j
  | 0 => ⟨Int.le_refl _, by show (-1 : Int) < 0; decide⟩
  | j + 1 => by
    have := idx_lt al c j
    show -1 ≤ (if al j = c then (j : Int) else idx al c j) ∧ (if al j = c then (j : Int) else idx al c j) < ((j + 1 : Nat) : Int)
    split <;> omega
theorem idx_at (al : Nat → Nat) (c : Nat) : ∀ j, 0 ≤ idx al c j → al (idx al c j).toNat = c
  | 0, h => by exact absurd h (by show ¬ (0 : Int) ≤ -1; decide)
  | j + 1, h => by
    have e : idx al c (j + 1) = if al j = c then (j : Int) else idx al c j := rfl
    rw [e] at h ⊢
    by_cases he : al j = c
    · rw [if_pos he]; simpa using he
    · rw [if_neg he] at h ⊢; exact idx_at al c j h
end Go.Proofs.YthnhdfgonpbldaaGreatDoor
/- The specification's BcryptEncode at 23 bytes. -/
namespace Go.Proofs.YthnhdfgonpbldaaGreatDoor
open Go.RowKit Go.Lib
def lets (l : List Nat) (k : Nat) : List Nat := (List.range k).map fun i => alN (sext l i)
theorem lets_next (l : List Nat) (k : Nat) : lets l (k + 1) = lets l k ++ [alN (sext l k)] := by
  unfold lets
  rw [List.range_succ]
  simp
theorem index_alpha (k : Nat) (hk : k < 64) (w : World) : (Instr.index 9 (.string alphaS) (.int .i64 (k : Int))).run Tryz.prog w = .ok (.int .u8 (alN k : Int)) w := by
  have hs : k < alphaS.size := by rw [alpha_size]; exact hk
  have e := alpha_at k hs
  have e2 : alphaS[k]? = some alphaS[k] := getElem?_pos alphaS k hs
  have hu : Tryz.prog.underlying 9 = some .string := by kernel_rfl
  have h0 : (0 : Int) ≤ (k : Int) := by omega
  simp only [Instr.index, asIntOf, Sem.run_bind, Sem.run_pure, Result.andThen_ok, run_underlying hu, if_pos h0, Int.toNat_natCast, e2, e]
theorem wpList_index_alpha {ops : Array Oper} {rest : List Oper} {o : Oper} {a : Act} {w : World} {Q : Exit → Act → World → Prop} (hgd : o.guard = none) (x i : Operand) (ho : o.op = .index 9 x i) (hx : a.eval x = .string alphaS)
    (k : Nat) (hk : k < 64) (hi : a.eval i = .int .i64 (k : Int)) (h : wpList Tryz.prog ops Q rest (a.put o.dst (.int .u8 (alN k : Int))) w) : wpList Tryz.prog ops Q (o :: rest) a w := by
  refine wpList_plain hgd fun K hK => ?_
  unfold Oper.wp execOp
  simp only [ho, hx, hi, Sem.run_bind, Sem.run_pure, Result.andThen_ok, index_alpha k hk w]
  exact hK _ _ h
def EncSPost (l : List Nat) (w : World) (e : Ending) (w' : World) : Prop := ∃ v, e = .returned v ∧ w'.ownsRow w.heap.size 5 1 v 31 (bcells (lets l 31)) ∧ Below w.heap.size w w'
set_option maxRecDepth 100000 in
set_option maxHeartbeats 2000000 in
theorem encS_any (l : List Nat) (b o c : Nat) (w : World) (hl : l.length = 23) (h256 : ∀ i, l.getD i 0 < 256) (hc : ∀ i, i < 23 → w.cell? ⟨b, o + i, none⟩ = some (.int .u8 ((l.getD i 0 : Nat) : Int))) :
    Calls Tryz.prog 28 #[.slice (some ⟨b, o, none⟩) 23 c] w (EncSPost l w) := by
  obtain ⟨i0, hi, hz0, hz1, hz2⟩ := info_parts info5
  have Hi := Lib.hid hi; clear hi
  have Hz := Lib.hid (And.intro hz0 (And.intro hz1 hz2)); clear hz0 hz1 hz2
  have Hl := Lib.hid hl; clear hl
  have Hb := Lib.hid h256; clear h256
  have hbl : b < w.heap.size := World.block_lt_of_cell? _ _ (hc 0 (by omega))
  have Hc := Lib.hid hc; clear hc
  go_enter Tryz.func28, Tryz.ntmps28
  go_wp2_with fail
  go_loopw [3, 4] (fun v i wr => ∃ k : Nat, k ≤ 31 ∧ i = .int .i64 k ∧ wr.ownsRow w.heap.size 5 1 v k (bcells (lets l k)) ∧ But (fun i => w.heap.size ≤ i) w wr) (fun _ i _ => 31 - (intOf i).toNat)
  case atStart => exact ⟨0, by omega, rfl, World.ownsRow_nil _ _ _ _, But.refl _ _⟩
  case round =>
    obtain ⟨k, hk, rfl, hown, hbut⟩ := hrel
    have Own := Lib.hid hown; clear hown
    have HBut := Lib.hid hbut; clear hbut
    by_cases hlt : k < 31
    · have t0 : decide (6 * (k : Int) < 184) = true := by simp; omega
      go_wp2_with fail
      go_loop [5, 6] (fun v i => ∃ j : Nat, j ≤ 6 ∧ i = .int .i64 j ∧ v = .int .i64 ((bitsV l k j : Nat) : Int)) (fun _ i => 6 - (intOf i).toNat)
      case atStart => exact ⟨0, by omega, rfl, rfl⟩
      case round =>
        obtain ⟨j, hj, rfl, rfl⟩ := hrel
        have bl := bitsV_lt l k j
        obtain ⟨v, hv⟩ : ∃ v, v = bitsV l k j := ⟨_, rfl⟩
        have v64 : v < 64 := by
          rw [hv]
          exact Nat.lt_of_lt_of_le bl (Nat.pow_le_pow_right (by decide) hj)
        rw [← hv]
        clear bl
        have Hv := Lib.hid hv; clear hv
        by_cases hj6 : j < 6
        · have d1 : decide ((j : Int) < 6) = true := by simp; omega
          by_cases hat : 6 * k + j < 184
          · have d2 : decide (6 * (k : Int) + (j : Int) < 184) = true := by simp; omega
            obtain ⟨q, hq⟩ : ∃ q, q = (6 * k + j) / 8 := ⟨_, rfl⟩
            have q23 : q < 23 := by omega
            have cq := HBut.out.cell (Hc.out q q23) (by show ¬ _ ≤ b; omega)
            obtain ⟨x, hx⟩ : ∃ x, x = l.getD q 0 := ⟨_, rfl⟩
            rw [← hx] at cq
            have hq' : (6 * (k : Int) + (j : Int)) / 8 = (q : Int) := by omega
            obtain ⟨r, hr⟩ : ∃ r, r = (6 * k + j) % 8 := ⟨_, rfl⟩
            have hr' : (6 * (k : Int) + (j : Int)) % 8 = (r : Int) := by omega
            have r8 : r < 8 := by omega
            obtain ⟨t, ht⟩ : ∃ t, t = x / 2 ^ (7 - r) % 2 := ⟨_, rfl⟩
            have x8 : x < 256 := by rw [hx]; exact Hb.out _
            have et : bits .and .u8 ((x : Int) / 2 ^ (7 - r)) 1 = (t : Int) := by
              have := u8_and_nat (x / 2 ^ (7 - r)) 1 (Nat.lt_of_le_of_lt (Nat.div_le_self _ _) x8) (by omega)
              rw [Nat.and_one_is_mod, ← ht] at this
              simpa using this
            have t2 : t < 2 := by rw [ht]; exact Nat.mod_lt _ (by decide)
            have en : bitsV l k (j + 1) = v * 2 + t := by
              show bitsV l k j * 2 + bitA l (6 * k + j) = _
              unfold bitA
              rw [← Hv.out, ← hq, ← hr, ← hx, ← ht]
            have Ht := Lib.hid ht; clear ht
            have En := Lib.hid en; clear en
            have Hq := Lib.hid hq; clear hq
            have Hr := Lib.hid hr; clear hr
            have Hx := Lib.hid hx; clear hx
            clear x8
            go_wp2_with fail
            go_round
            case rel => exact ⟨j + 1, by omega, by go_num, by rw [En.out]; go_num⟩
            case measure => simp [intOf]; omega
          · have d2 : decide (6 * (k : Int) + (j : Int) < 184) = false := by simp; omega
            have en : bitsV l k (j + 1) = v * 2 := by
              show bitsV l k j * 2 + bitA l (6 * k + j) = _
              rw [bitA_past l _ (by rw [Hl.out]; omega), ← Hv.out]
              rfl
            have En := Lib.hid en; clear en
            go_wp2_with fail
            go_round
            case rel => exact ⟨j + 1, by omega, by go_num, by rw [En.out]; go_num⟩
            case measure => simp [intOf]; omega
        · obtain rfl : j = 6 := by omega
          have ev : v = sext l k := by rw [Hv.out]; exact bitsV_sext l Hb.out k
          have ex : lets l (k + 1) = lets l k ++ [alN v] := by rw [lets_next, ev]
          have Ex := Lib.hid ex; clear ex ev
          have nw := news_new wr [.int .u8 (alN v : Int)] 5
          have n1 : ∀ u ∈ [Value.int .u8 (alN v : Int)], u.oneCell' = true := bcells_one [alN v]
          have NW := Lib.hid nw; clear nw
          have N1 := Lib.hid n1; clear n1
          obtain ⟨y, hy⟩ : ∃ y, y = alN v := ⟨_, rfl⟩
          rw [← hy] at Ex NW N1
          have Hy := Lib.hid hy; clear hy
          have zb := Lib.hid (Nat.le_trans HBut.out.size (show wr.heap.size ≤ (wr.alloc (.cells #[.int .u8 (y : Int)] 5)).heap.size by simp))
          go_wp2_with (first
            | (refine wpList_index_alpha rfl _ (.tmp 45) rfl rfl v v64 rfl ?_; rw [← Hy.out])
            | (at_builtin; refine wpList_append_own _ rfl (.tmp 44) (.tmp 47) 22 rfl w.heap.size 5 i0 (.int .u8 0) 1 1 Tryz.underlying22 Hi.out Hz.out.1 Hz.out.2.1 Hz.out.2.2 rfl (by decide) _ k _ rfl (Own.out.alloc _) ⟨wr.heap.size, 0, none⟩ 1 1 [.int .u8 (y : Int)] rfl rfl NW.out N1.out (by unfold maxLen; omega) (by omega) zb.out ?_; intro v4 w4 O4 G4 _))
          go_roundw
          case rel =>
            refine ⟨k + 1, by omega, by go_num, ?_, ?_⟩
            · rw [Ex.out]
              have : bcells (lets l k ++ [y]) = bcells (lets l k) ++ [.int .u8 (y : Int)] := by simp [bcells]
              rw [this]
              exact O4
            · exact (HBut.out.alloc _).then (But.trans (But.of_owned (Own.out.alloc _) G4) (But.refl (fun i => w.heap.size ≤ i) w4) (fun _ _ h => h) (fun _ _ h => h))
          case measure => simp [intOf]; omega
    · obtain rfl : k = 31 := by omega
      go_wp2_with fail
      go_ret
      exact ⟨_, rfl, Own.out, HBut.out.below (Nat.le_refl _) (fun k hk h => absurd hk (Nat.not_lt.2 h))⟩
end Go.Proofs.YthnhdfgonpbldaaGreatDoor
/- The specification's BcryptDecode at 22 letters. -/
namespace Go.Proofs.YthnhdfgonpbldaaGreatDoor
open Go.RowKit Go.Lib
theorem i64_and_nat (a b : Nat) (ha : a < 4096) (hb : b < 4096) : bits .and .i64 (a : Int) (b : Int) = ((a &&& b : Nat) : Int) := by
  have hx : a &&& b < 2 ^ 12 := Nat.and_lt_two_pow _ (by omega)
  show IntKind.i64.wrap ((BitVec.ofInt 64 (a : Int) &&& BitVec.ofInt 64 (b : Int)).toNat : Int) = _
  rw [BitVec.toNat_and, ofInt_u64 a (by omega), ofInt_u64 b (by omega), IntKind.wrap_i64]
  omega
theorem or6 (v x : Nat) (hv : v < 64) (hx : x < 64) : bits .or .i64 ((v : Int) * 64) (x : Int) = ((v * 64 + x : Nat) : Int) := by
  have h := nat_join 6 (v * 64) x (by omega) (by omega)
  have e : ((v : Int) * 64) = ((v * 64 : Nat) : Int) := by omega
  rw [e]
  show IntKind.i64.wrap ((BitVec.ofInt 64 ((v * 64 : Nat) : Int) ||| BitVec.ofInt 64 (x : Int)).toNat : Int) = _
  rw [BitVec.toNat_or, ofInt_u64 _ (by omega), ofInt_u64 x (by omega), h, IntKind.wrap_i64]
  omega
theorem and15 (u : Nat) (h : u < 4096) : bits .and .i64 (u : Int) 15 = ((u % 16 : Nat) : Int) := by
  have e := i64_and_nat u 15 h (by omega)
  rw [show u &&& 15 = u % 16 from Nat.and_two_pow_sub_one_eq_mod u 4] at e
  exact e
theorem and3 (u : Nat) (h : u < 4096) : bits .and .i64 (u : Int) 3 = ((u % 4 : Nat) : Int) := by
  have e := i64_and_nat u 3 h (by omega)
  rw [show u &&& 3 = u % 4 from Nat.and_two_pow_sub_one_eq_mod u 2] at e
  exact e
theorem and0 (u : Nat) (h : u < 4096) : bits .and .i64 (u : Int) 0 = 0 := by
  have e := i64_and_nat u 0 h (by omega)
  rw [Nat.and_zero] at e
  exact e
/-- The letters' values. -/
def vals (sl : List Nat) : List Nat := sl.map fun c => (idx alN c 64).toNat
theorem vals_get (sl : List Nat) (i : Nat) (h : i < sl.length) : (vals sl).getD i 0 = (idx alN (sl.getD i 0) 64).toNat := by simp [vals, List.getD, h]
theorem vals_past (sl : List Nat) (i : Nat) (h : sl.length ≤ i) : (vals sl).getD i 0 = 0 := getD_past (by simpa [vals] using h)
theorem vals_lt (sl : List Nat) (i : Nat) : (vals sl).getD i 0 < 64 := by
  by_cases h : i < sl.length
  · rw [vals_get sl i h]
    have := idx_lt alN (sl.getD i 0) 64
    omega
  · rw [vals_past sl i (by omega)]; decide
theorem vals_back (sl : List Nat) (i : Nat) (h : i < sl.length) (h0 : 0 ≤ idx alN (sl.getD i 0) 64) : sl.getD i 0 = alN ((vals sl).getD i 0) := by
  rw [vals_get sl i h]
  exact (idx_at alN _ 64 h0).symm
def outB (vs : List Nat) (m : Nat) : List Nat := (List.range m).map (decB vs)
theorem outB_next (vs : List Nat) (m : Nat) : outB vs (m + 1) = outB vs m ++ [decB vs m] := by
  unfold outB
  rw [List.range_succ]
  simp
def DecSPost (sl : List Nat) (w : World) (e : Ending) (w' : World) : Prop :=
  ∃ v ok, e = .returned (.tuple #[v, .bool ok]) ∧ Below w.heap.size w w' ∧ (ok = true → (∀ i, i < 22 → 0 ≤ idx alN (sl.getD i 0) 64) ∧ w'.ownsRow w.heap.size 5 1 v 16 (bcells (decL (vals sl))))
structure DRel (sl : List Nat) (w : World) (k : Nat) (out v n : Value) (wr : World) : Prop where
  own : wr.ownsRow w.heap.size 5 1 out (6 * k / 8) (bcells (outB (vals sl) (6 * k / 8)))
  v : v = .int .i64 ((vr (vals sl) k : Nat) : Int)
  n : n = .int .i64 ((6 * k % 8 : Nat) : Int)
  but : But (fun i => w.heap.size ≤ i) w wr
  ok : ∀ i, i < k → 0 ≤ idx alN (sl.getD i 0) 64
theorem alpha_lit : (⟨#[46, 47, 65, 66, 67, 68, 69, 70, 71, 72, 73, 74, 75, 76, 77, 78, 79, 80, 81, 82, 83, 84, 85, 86, 87, 88, 89, 90, 97, 98, 99, 100, 101, 102, 103, 104, 105, 106, 107, 108, 109, 110, 111, 112, 113, 114, 115, 116, 117, 118, 119, 120, 121, 122, 48, 49, 50, 51, 52, 53, 54, 55, 56, 57]⟩ : ByteArray) = alphaS := rfl
set_option maxRecDepth 100000 in
set_option maxHeartbeats 2000000 in
theorem decS_any (sl : List Nat) (b o c : Nat) (w : World) (hl : sl.length = 22) (h256 : ∀ i, sl.getD i 0 < 256) (hc : ∀ i, i < 22 → w.cell? ⟨b, o + i, none⟩ = some (.int .u8 ((sl.getD i 0 : Nat) : Int))) :
    Calls Tryz.prog 27 #[.slice (some ⟨b, o, none⟩) 22 c] w (DecSPost sl w) := by
  obtain ⟨i0, hi, hz0, hz1, hz2⟩ := info_parts info5
  have Hi := Lib.hid hi; clear hi
  have Hz := Lib.hid (And.intro hz0 (And.intro hz1 hz2)); clear hz0 hz1 hz2
  have Hl := Lib.hid hl; clear hl
  have Hb := Lib.hid h256; clear h256
  have hbl : b < w.heap.size := World.block_lt_of_cell? _ _ (hc 0 (by omega))
  have Hc := Lib.hid hc; clear hc
  go_enter Tryz.func27, Tryz.ntmps27
  simp only [alpha_lit]
  go_wp2_with fail
  go_loopw [4, 5, 6, 13] (fun out v n i wr => ∃ k : Nat, k ≤ 22 ∧ i = .int .i64 k ∧ DRel sl w k out v n wr) (fun _ _ _ i _ => 22 - (intOf i).toNat)
  case atStart => exact ⟨0, by omega, rfl, World.ownsRow_nil _ _ _ _, rfl, rfl, But.refl _ _, fun i h => by omega⟩
  case round =>
    obtain ⟨k, hk, rfl, hown, rfl, rfl, hbut, hok⟩ := hrel
    obtain ⟨v, hv⟩ : ∃ v, v = vr (vals sl) k := ⟨_, rfl⟩
    obtain ⟨n, hn⟩ : ∃ n, n = 6 * k % 8 := ⟨_, rfl⟩
    rw [← hv, ← hn]
    have Hv := Lib.hid hv; clear hv
    have Hn := Lib.hid hn; clear hn
    have Own := Lib.hid hown; clear hown
    have HBut := Lib.hid hbut; clear hbut
    have Ok := Lib.hid hok; clear hok
    by_cases hlt : k < 22
    · have cy := HBut.out.cell (Hc.out k hlt) (by show ¬ _ ≤ b; omega)
      obtain ⟨y, hy⟩ : ∃ y, y = sl.getD k 0 := ⟨_, rfl⟩
      rw [← hy] at cy
      have Hy := Lib.hid hy; clear hy
      have d1 : decide ((k : Int) < 22) = true := by simp; omega
      go_wp2_with fail
      go_loopw [9] (fun at' wx => ∃ j : Nat, j ≤ 64 ∧ at' = .int .i64 (idx alN y j) ∧ wx = wr.iter alphaS j) (fun _ wx => 64 - wx.iterPos wr.heap.size)
      case atStart => exact ⟨0, by omega, rfl, rfl⟩
      case round =>
        obtain ⟨j, hj, rfl, rfl⟩ := hrel
        by_cases hj6 : j < 64
        · have js : j < alphaS.size := by rw [alpha_size]; exact hj6
          have al := alpha_at j js
          have an := (alN_facts j hj6).1
          have asc : (alphaS[j]'js).toNat < 128 := by
            rw [al]
            exact (by decide +kernel : ∀ i : Fin 64, alN i.1 < 128) ⟨j, hj6⟩
          have nx : ∀ ty, (Instr.next (.pointer (some ⟨wr.heap.size, 0, none⟩)) true ty).run Tryz.prog (wr.iter alphaS j) = .ok (.tuple #[.bool true, .int .i64 j, .int .i32 (alphaS[j]'js).toNat]) (wr.iter alphaS (j + 1)) := fun ty => run_next_ascii wr alphaS j ty js asc
          rw [al] at nx
          clear al asc
          have ie : idx alN y (j + 1) = if alN j = y then (j : Int) else idx alN y j := rfl
          have Ie := Lib.hid ie; clear ie
          obtain ⟨u, hu⟩ : ∃ u, u = alN j := ⟨_, rfl⟩
          rw [← hu] at nx an Ie
          have Hu := Lib.hid hu; clear hu
          obtain ⟨z, hz⟩ : ∃ z, z = idx alN y j := ⟨_, rfl⟩
          rw [← hz] at Ie ⊢
          have Hz' := Lib.hid hz; clear hz
          by_cases he : u = y
          · have e1 : ((u : Int) == (y : Int)) = true := by simp; omega
            have i1 := Ie.out
            rw [if_pos he] at i1
            have I1 := Lib.hid i1; clear i1 Ie he
            go_wp2_with (refine wpList_index_alpha rfl _ (.tmp 21) rfl rfl j hj6 rfl ?_; rw [← Hu.out])
            go_roundw
            case rel => exact ⟨j + 1, by omega, by rw [I1.out], rfl⟩
            case measure => simp; omega
          · have e1 : ((u : Int) == (y : Int)) = false := by simp; omega
            have i1 := Ie.out
            rw [if_neg he] at i1
            have I1 := Lib.hid i1; clear i1 Ie he
            go_wp2_with (refine wpList_index_alpha rfl _ (.tmp 21) rfl rfl j hj6 rfl ?_; rw [← Hu.out])
            go_roundw
            case rel => exact ⟨j + 1, by omega, by rw [I1.out], rfl⟩
            case measure => simp; omega
        · obtain rfl : j = 64 := by omega
          have js : ¬ 64 < alphaS.size := by rw [alpha_size]; decide
          have nx : ∀ ty, (Instr.next (.pointer (some ⟨wr.heap.size, 0, none⟩)) true ty).run Tryz.prog (wr.iter alphaS 64) = _ := fun ty => run_next_end wr alphaS 64 ty js
          obtain ⟨z, hz⟩ : ∃ z, z = idx alN y 64 := ⟨_, rfl⟩
          rw [← hz]
          have zl : z < 64 := by rw [hz]; exact (idx_lt alN y 64).2
          by_cases h0 : 0 ≤ z
          · obtain ⟨x, hx⟩ : ∃ x, x = (vals sl).getD k 0 := ⟨_, rfl⟩
            have ex : x = z.toNat := by rw [hx, vals_get sl k (by rw [Hl.out]; exact hlt), hz, Hy.out]
            have x6 : x < 64 := by rw [hx]; exact vals_lt sl k
            have ok' : ∀ i, i < k + 1 → 0 ≤ idx alN (sl.getD i 0) 64 := fun i hi => by
              by_cases e : i = k
              · subst e
                rw [← Hy.out, ← hz]
                exact h0
              · exact Ok.out i (by omega)
            have Ok' := Lib.hid ok'; clear ok' Ok
            obtain rfl : z = (x : Int) := by omega
            clear h0 ex zl
            have Hz' := Lib.hid hz; clear hz
            have Hx := Lib.hid hx; clear hx
            have v6 : v < 64 := by rw [Hv.out]; exact vr_lt _ (vals_lt sl) k
            have d2 : decide ((x : Int) < 0) = false := by simp
            have eo := or6 v x v6 x6
            obtain ⟨u, hu⟩ : ∃ u, u = v * 64 + x := ⟨_, rfl⟩
            rw [← hu] at eo
            have u12 : u < 4096 := by omega
            have Hu := Lib.hid hu; clear hu
            have own0 := (Own.out.alloc (.stringIter alphaS 64))
            have but0 := HBut.out.alloc (.stringIter alphaS 64)
            obtain ⟨wi, hwi⟩ : ∃ wi, wi = wr.iter alphaS 64 := ⟨_, rfl⟩
            have ewi : wr.alloc (.stringIter alphaS 64) = wi := hwi.symm
            rw [ewi] at own0 but0
            rw [← hwi] at nx ⊢
            clear ewi hwi Own HBut
            have Own := Lib.hid own0; clear own0
            have HBut := Lib.hid but0; clear but0
            obtain ⟨q, r, hqr, hr⟩ : ∃ q r, k = 4 * q + r ∧ r < 4 := ⟨k / 4, k % 4, by omega, Nat.mod_lt _ (by decide)⟩
            subst hqr
            rcases (show r = 0 ∨ r = 1 ∨ r = 2 ∨ r = 3 by omega) with rfl | rfl | rfl | rfl
            · have n0 : n = 0 := by rw [Hn.out]; omega
              have v0 : v = 0 := by rw [Hv.out]; exact vr0 _ q
              subst n0
              have e1 : 6 * (4 * q + 0) / 8 = 3 * q := by omega
              have e2 : 6 * (4 * q + 0 + 1) / 8 = 3 * q := by omega
              have ev : vr (vals sl) (4 * q + 0 + 1) = u := by
                rw [Nat.add_zero, vr1, Hu.out, v0, Hx.out, Nat.add_zero]
                omega
              have own1 := Own.out
              rw [e1] at own1
              have Own1 := Lib.hid own1; clear own1 Own e1
              have Ev := Lib.hid ev; clear ev
              have E2 := Lib.hid e2; clear e2 v0
              go_wp2_with fail
              go_roundw
              case rel =>
                refine ⟨4 * q + 0 + 1, by omega, by go_num, ?_, by rw [Ev.out], ?_, HBut.out, Ok'.out⟩
                · rw [E2.out]; exact Own1.out
                · rw [show 6 * (4 * q + 0 + 1) % 8 = 6 by omega]; rfl
              case measure => simp [intOf]; omega
            · have n0 : n = 6 := by rw [Hn.out]; omega
              subst n0
              have e1 : 6 * (4 * q + 1) / 8 = 3 * q := by omega
              have e2 : 6 * (4 * q + 1 + 1) / 8 = 3 * q + 1 := by omega
              have uu : u < 4096 := by
                have := Hv.out
                have hu := Hu.out
                rw [show 4 * q + 1 = 4 * q + 1 from rfl, vr1] at this
                omega
              obtain ⟨y8, hy8⟩ : ∃ y8, y8 = u / 16 := ⟨_, rfl⟩
              have y256 : y8 < 256 := by omega
              have eb : decB (vals sl) (3 * q) = y8 := by rw [decB_0 (vals sl) (vals_lt sl) q, ← Hv.out, ← Hx.out, ← Hu.out, hy8]; omega
              have ei : (u : Int) / 16 = (y8 : Int) := by omega
              have ea := and15 u u12
              obtain ⟨v', hv'⟩ : ∃ v', v' = u % 16 := ⟨_, rfl⟩
              rw [← hv'] at ea
              have ev : vr (vals sl) (4 * q + 1 + 1) = v' := by
                rw [show 4 * q + 1 + 1 = 4 * q + 2 from rfl, vr2, hv', Hu.out, Hx.out]
                omega
              have ex : outB (vals sl) (3 * q + 1) = outB (vals sl) (3 * q) ++ [y8] := by rw [outB_next, eb]
              have own1 := Own.out
              rw [e1] at own1
              have Own1 := Lib.hid own1; clear own1 Own e1
              have Ev := Lib.hid ev; clear ev
              have Ex := Lib.hid ex; clear ex
              have E2 := Lib.hid e2; clear e2
              have Hv' := Lib.hid hv'; clear hv'
              have Hy8 := Lib.hid hy8; clear hy8 eb
              have nw := news_new wi [.int .u8 (y8 : Int)] 5
              have n1 : ∀ u ∈ [Value.int .u8 (y8 : Int)], u.oneCell' = true := bcells_one [y8]
              have NW := Lib.hid nw; clear nw
              have N1 := Lib.hid n1; clear n1
              have zb := Lib.hid (Nat.le_trans HBut.out.size (show wi.heap.size ≤ (wi.alloc (.cells #[.int .u8 (y8 : Int)] 5)).heap.size by simp))
              go_wp2_with (at_builtin; refine wpList_append_own _ rfl (.tmp 38) (.tmp 43) 22 rfl w.heap.size 5 i0 (.int .u8 0) 1 1 Tryz.underlying22 Hi.out Hz.out.1 Hz.out.2.1 Hz.out.2.2 rfl (by decide) _ (3 * q) _ rfl (Own1.out.alloc _) ⟨wi.heap.size, 0, none⟩ 1 1 [.int .u8 (y8 : Int)] rfl rfl NW.out N1.out (by unfold maxLen; omega) (by omega) zb.out ?_; intro v4 w4 O4 G4 _)
              go_roundw
              case rel =>
                refine ⟨4 * q + 1 + 1, by omega, by go_num, ?_, by rw [Ev.out], ?_, ?_, Ok'.out⟩
                · rw [E2.out, Ex.out]
                  have : bcells (outB (vals sl) (3 * q) ++ [y8]) = bcells (outB (vals sl) (3 * q)) ++ [.int .u8 (y8 : Int)] := by simp [bcells]
                  rw [this]
                  exact O4
                · rw [show 6 * (4 * q + 1 + 1) % 8 = 4 by omega]; rfl
                · exact (HBut.out.alloc _).then (But.trans (But.of_owned (Own1.out.alloc _) G4) (But.refl (fun i => w.heap.size ≤ i) w4) (fun _ _ h => h) (fun _ _ h => h))
              case measure => simp [intOf]; omega
            · have n0 : n = 4 := by rw [Hn.out]; omega
              subst n0
              have e1 : 6 * (4 * q + 2) / 8 = 3 * q + 1 := by omega
              have e2 : 6 * (4 * q + 2 + 1) / 8 = 3 * q + 1 + 1 := by omega
              have uu : u < 1024 := by
                have := Hv.out
                have hu := Hu.out
                rw [show 4 * q + 2 = 4 * q + 2 from rfl, vr2] at this
                omega
              obtain ⟨y8, hy8⟩ : ∃ y8, y8 = u / 4 := ⟨_, rfl⟩
              have y256 : y8 < 256 := by omega
              have eb : decB (vals sl) (3 * q + 1) = y8 := by rw [decB_1 (vals sl) (vals_lt sl) q, ← Hv.out, ← Hx.out, ← Hu.out, hy8]; omega
              have ei : (u : Int) / 4 = (y8 : Int) := by omega
              have ea := and3 u u12
              obtain ⟨v', hv'⟩ : ∃ v', v' = u % 4 := ⟨_, rfl⟩
              rw [← hv'] at ea
              have ev : vr (vals sl) (4 * q + 2 + 1) = v' := by
                rw [show 4 * q + 2 + 1 = 4 * q + 3 from rfl, vr3, hv', Hu.out, Hx.out]
                omega
              have ex : outB (vals sl) (3 * q + 1 + 1) = outB (vals sl) (3 * q + 1) ++ [y8] := by rw [outB_next, eb]
              have own1 := Own.out
              rw [e1] at own1
              have Own1 := Lib.hid own1; clear own1 Own e1
              have Ev := Lib.hid ev; clear ev
              have Ex := Lib.hid ex; clear ex
              have E2 := Lib.hid e2; clear e2
              have Hv' := Lib.hid hv'; clear hv'
              have Hy8 := Lib.hid hy8; clear hy8 eb
              have nw := news_new wi [.int .u8 (y8 : Int)] 5
              have n1 : ∀ u ∈ [Value.int .u8 (y8 : Int)], u.oneCell' = true := bcells_one [y8]
              have NW := Lib.hid nw; clear nw
              have N1 := Lib.hid n1; clear n1
              have zb := Lib.hid (Nat.le_trans HBut.out.size (show wi.heap.size ≤ (wi.alloc (.cells #[.int .u8 (y8 : Int)] 5)).heap.size by simp))
              go_wp2_with (at_builtin; refine wpList_append_own _ rfl (.tmp 38) (.tmp 43) 22 rfl w.heap.size 5 i0 (.int .u8 0) 1 1 Tryz.underlying22 Hi.out Hz.out.1 Hz.out.2.1 Hz.out.2.2 rfl (by decide) _ (3 * q + 1) _ rfl (Own1.out.alloc _) ⟨wi.heap.size, 0, none⟩ 1 1 [.int .u8 (y8 : Int)] rfl rfl NW.out N1.out (by unfold maxLen; omega) (by omega) zb.out ?_; intro v4 w4 O4 G4 _)
              go_roundw
              case rel =>
                refine ⟨4 * q + 2 + 1, by omega, by go_num, ?_, by rw [Ev.out], ?_, ?_, Ok'.out⟩
                · rw [E2.out, Ex.out]
                  have : bcells (outB (vals sl) (3 * q + 1) ++ [y8]) = bcells (outB (vals sl) (3 * q + 1)) ++ [.int .u8 (y8 : Int)] := by simp [bcells]
                  rw [this]
                  exact O4
                · rw [show 6 * (4 * q + 2 + 1) % 8 = 2 by omega]; rfl
                · exact (HBut.out.alloc _).then (But.trans (But.of_owned (Own1.out.alloc _) G4) (But.refl (fun i => w.heap.size ≤ i) w4) (fun _ _ h => h) (fun _ _ h => h))
              case measure => simp [intOf]; omega
            · have n0 : n = 2 := by rw [Hn.out]; omega
              subst n0
              have e1 : 6 * (4 * q + 3) / 8 = 3 * q + 2 := by omega
              have e2 : 6 * (4 * q + 3 + 1) / 8 = 3 * q + 2 + 1 := by omega
              obtain ⟨y8, hy8⟩ : ∃ y8, y8 = u := ⟨_, rfl⟩
              have eb : decB (vals sl) (3 * q + 2) = y8 := by rw [decB_2 (vals sl) (vals_lt sl) q, hy8, Hu.out, Hv.out, Hx.out]
              have y256 : y8 < 256 := by rw [← eb]; exact decB_lt _ _
              subst hy8
              have hy8 : y8 = y8 := rfl
              have ea := and0 y8 u12
              obtain ⟨v', hv'⟩ : ∃ v', v' = 0 := ⟨_, rfl⟩
              have ev : vr (vals sl) (4 * q + 3 + 1) = v' := by
                rw [show 4 * q + 3 + 1 = 4 * (q + 1) by omega, vr0, hv']
              have ex : outB (vals sl) (3 * q + 2 + 1) = outB (vals sl) (3 * q + 2) ++ [y8] := by rw [outB_next, eb]
              have own1 := Own.out
              rw [e1] at own1
              have Own1 := Lib.hid own1; clear own1 Own e1
              have Ev := Lib.hid ev; clear ev
              have Ex := Lib.hid ex; clear ex
              have E2 := Lib.hid e2; clear e2
              have Hv' := Lib.hid hv'; clear hv'
              have Hy8 := Lib.hid hy8; clear hy8 eb
              have nw := news_new wi [.int .u8 (y8 : Int)] 5
              have n1 : ∀ u ∈ [Value.int .u8 (y8 : Int)], u.oneCell' = true := bcells_one [y8]
              have NW := Lib.hid nw; clear nw
              have N1 := Lib.hid n1; clear n1
              have zb := Lib.hid (Nat.le_trans HBut.out.size (show wi.heap.size ≤ (wi.alloc (.cells #[.int .u8 (y8 : Int)] 5)).heap.size by simp))
              go_wp2_with (at_builtin; refine wpList_append_own _ rfl (.tmp 38) (.tmp 43) 22 rfl w.heap.size 5 i0 (.int .u8 0) 1 1 Tryz.underlying22 Hi.out Hz.out.1 Hz.out.2.1 Hz.out.2.2 rfl (by decide) _ (3 * q + 2) _ rfl (Own1.out.alloc _) ⟨wi.heap.size, 0, none⟩ 1 1 [.int .u8 (y8 : Int)] rfl rfl NW.out N1.out (by unfold maxLen; omega) (by omega) zb.out ?_; intro v4 w4 O4 G4 _)
              go_roundw
              case rel =>
                refine ⟨4 * q + 3 + 1, by omega, by go_num, ?_, by rw [Ev.out, Hv'.out]; rfl, ?_, ?_, Ok'.out⟩
                · rw [E2.out, Ex.out]
                  have : bcells (outB (vals sl) (3 * q + 2) ++ [y8]) = bcells (outB (vals sl) (3 * q + 2)) ++ [.int .u8 (y8 : Int)] := by simp [bcells]
                  rw [this]
                  exact O4
                · rw [show 6 * (4 * q + 3 + 1) % 8 = 0 by omega]; rfl
                · exact (HBut.out.alloc _).then (But.trans (But.of_owned (Own1.out.alloc _) G4) (But.refl (fun i => w.heap.size ≤ i) w4) (fun _ _ h => h) (fun _ _ h => h))
              case measure => simp [intOf]; omega
          · have d2 : decide (z < 0) = true := by simp; omega
            have bw : Below w.heap.size w (wr.iter alphaS 64) := (HBut.out.alloc _).below (Nat.le_refl _) (fun k hk h => absurd hk (Nat.not_lt.2 h))
            have Bw := Lib.hid bw; clear bw
            have Hz' := Lib.hid hz; clear hz
            go_wp2_with fail
            go_ret2
            exact ⟨_, false, rfl, Bw.out, fun h => by cases h⟩
    · obtain rfl : k = 22 := by omega
      have d1 : decide ((22 : Int) < 22) = false := by decide
      have n4 : n = 4 := Hn.out
      subst n4
      have e16 : outB (vals sl) 16 = decL (vals sl) := rfl
      have own := Own.out
      rw [show 6 * 22 / 8 = 16 from rfl, e16] at own
      have O16 := Lib.hid own; clear own Own e16
      go_wp2_with fail
      go_ret2
      exact ⟨_, true, rfl, HBut.out.below (Nat.le_refl _) (fun k hk h => absurd hk (Nat.not_lt.2 h)), fun _ => ⟨Ok.out, O16.out⟩⟩
end Go.Proofs.YthnhdfgonpbldaaGreatDoor
/- The specification's Bcrypt at a cost from 4 to 6 and 22 letters. -/
namespace Go.Proofs.YthnhdfgonpbldaaGreatDoor
open Go.RowKit Go.Lib
def BcSPost (T : Nat → Nat) (pw : List Nat) (cost : Nat) (sl : List Nat) (w : World) (e : Ending) (w' : World) : Prop :=
  ∃ v ok, e = .returned (.tuple #[v, .bool ok]) ∧ Below w.heap.size w w' ∧ (ok = true → (∀ i, i < 22 → 0 ≤ idx alN (sl.getD i 0) 64) ∧
    ∃ g cap, v = .slice (some ⟨g, 0, none⟩) 31 cap ∧ ∀ i, i < 31 → w'.cell? ⟨g, 0 + i, none⟩ = some (.int .u8 (((hashN T pw cost (vals sl)).getD i 0 : Nat) : Int)))
theorem lets_encL (l : List Nat) (h : l.length = 23) : lets l 31 = encL l := by
  unfold lets encL
  rw [h]
  rfl
set_option maxRecDepth 100000 in
set_option maxHeartbeats 2000000 in
theorem bcS_any (T : Nat → Nat) (pw : List Nat) (ka : Option Addr) (kc cost : Nat) (sl : List Nat) (b o c : Nat) (w : World) (h4 : 4 ≤ cost) (h6 : cost ≤ 6) (hp : ∀ x ∈ pw, x < 256) (hl : pw.length ≤ 72)
    (hk : PwAt w ka kc pw) (hs : sl.length = 22) (h256 : ∀ i, sl.getD i 0 < 256) (hc : ∀ i, i < 22 → w.cell? ⟨b, o + i, none⟩ = some (.int .u8 ((sl.getD i 0 : Nat) : Int))) (hT : W32 T) :
    Calls Tryz.prog 20 #[.agg (fishA T), .slice ka pw.length kc, .int .i64 (cost : Int), .slice (some ⟨b, o, none⟩) 22 c] w (BcSPost T pw cost sl w) := by
  obtain ⟨n, hn⟩ : ∃ n, n = pw.length := ⟨_, rfl⟩
  rw [← hn] at hl ⊢
  obtain ⟨A, hA⟩ : ∃ A, A = fishA T := ⟨_, rfl⟩
  rw [← hA]
  have t1 : decide ((72 : Int) < (n : Int)) = false := by simp; omega
  have t2 : decide ((cost : Int) < 4) = false := by simp; omega
  have t3 : decide ((31 : Int) < (cost : Int)) = false := by simp; omega
  have dec := fun (W : World) (b' : But (fun _ => False) w W) => decS_any sl b o c W hs h256 (fun i hi => b'.cell (hc i hi) (fun h => h))
  have crp := fun (W : World) (b' : But (fun _ => False) w W) (g cap : Nat) hcell => crypted_any T pw ka kc cost (decL (vals sl)) g 0 cap W h4 h6 hp (by rw [← hn]; exact hl) (hk.but b' (fun _ _ h => h)) (decL_length _) (bytes_dec _) hcell hT
  rw [← hn, ← hA] at crp
  have Dec := Lib.hid dec; clear dec
  have Crp := Lib.hid crp; clear crp
  have is : (Tryz.prog.info? 34).map (·.size) = some A.size := by rw [hA, fishA_size]; kernel_rfl
  have IS := Lib.hid is; clear is
  clear hp hk hs h256 hc hT hn hA
  go_enter Tryz.func20, Tryz.ntmps20
  go_wp2_with fail
  obtain ⟨tB, htB⟩ : ∃ B, B = w.heap.size := ⟨_, rfl⟩
  obtain ⟨W0, hW0⟩ : ∃ W0, W0 = w.alloc (.cells A 34) := ⟨_, rfl⟩
  have b0 : But (fun _ => False) w W0 := by rw [hW0]; exact (But.refl _ w).alloc _
  have t0 : W0.heap[tB]? = some (.cells A 34 (0, 0)) := by rw [hW0, htB]; exact heap_alloc_at w _
  simp only [← htB]
  rw [← hW0]
  clear hW0 htB
  have B0 := Lib.hid b0; clear b0
  have T0 := Lib.hid t0; clear t0
  refine (Dec.out W0 B0.out).mono ?_
  rintro e w1 ⟨v, ok, rfl, b1, h1⟩
  clear Dec
  have B1 := Lib.hid (B0.out.then (But.of_below b1))
  have t1 : w1.heap[tB]? = some (.cells A 34 (0, 0)) := by rw [b1.block tB (Array.getElem?_eq_some_iff.1 T0.out).1]; exact T0.out
  have T1 := Lib.hid t1; clear t1 b1
  have H1 := Lib.hid h1; clear h1
  cases ok with
  | false =>
    have bw := B1.out.below (Nat.le_refl _) (fun _ _ h => h)
    have Bw := Lib.hid bw; clear bw
    go_wp2_with fail
    go_ret2
    exact ⟨_, false, rfl, Bw.out, fun h => by cases h⟩
  | true =>
    obtain ⟨hok, own⟩ := H1.out rfl
    obtain ⟨g, cap, hv, y1, y2, y3, y4, y5, hcell⟩ := owned_slice own (by decide)
    subst hv
    clear y1 y2 y3 y4 y5 own H1
    have Hok := Lib.hid hok; clear hok
    have call := Crp.out w1 B1.out g cap hcell
    clear Crp hcell
    have Call := Lib.hid call; clear call
    go_wp2_with (refine wpList_load_row rfl 34 (.tmp 4) rfl tB rfl 34 A (0, 0) _ T1.out Tryz.underlying34 rfl IS.out ?_)
    refine Call.out.mono ?_
    rintro e w2 ⟨g2, cap2, rfl, c2, b2⟩
    clear Call
    have B2 := Lib.hid (B1.out.then (But.of_below b2)); clear b2
    have call := encS_any (crypt (setup T pw cost (decL (vals sl)))) g2 0 cap2 w2 (crypt_length _) (fun i => getD_lt (crypt_lt _) i) c2
    have Call := Lib.hid call; clear call c2
    go_wp2_with fail
    refine Call.out.mono ?_
    rintro e w3 ⟨v3, rfl, o3, b3⟩
    obtain ⟨g3, cap3, hv, y1, y2, y3, y4, y5, c3⟩ := owned_slice o3 (by decide)
    subst hv
    clear y1 y2 y3 y4 y5 o3 Call
    rw [lets_encL _ (crypt_length _)] at c3
    have bw := (B2.out.then (But.of_below b3)).below (Nat.le_refl _) (fun _ _ h => h)
    clear b3
    have Bw := Lib.hid bw; clear bw
    have C3 := Lib.hid c3; clear c3
    go_wp2_with fail
    go_ret2
    exact ⟨_, true, rfl, Bw.out, fun _ => ⟨Hok.out, g3, cap3, rfl, fun i hi => C3.out i (by rw [encL_length, crypt_length]; exact hi)⟩⟩
end Go.Proofs.YthnhdfgonpbldaaGreatDoor
