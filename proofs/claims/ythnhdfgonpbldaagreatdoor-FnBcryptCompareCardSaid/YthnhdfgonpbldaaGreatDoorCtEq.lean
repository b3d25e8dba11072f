/- crypto/subtle.ConstantTimeCompare at two slices of as many bytes: 1 if they are equal, 0 if not. -/
import Derived.Test.YthnhdfgonpbldaaGreatDoorEqual
import Derived.Laws.BitsAllLaws
import Derived.Outline
namespace Go.Proofs.YthnhdfgonpbldaaGreatDoor
open Go.RowKit Go.Lib
open Go.Extern
theorem ctHook (b : Bool) (w : World) : (callFunc 78 #[.bool b]).run Tryz.prog w = .ok (.value (.int .u8 (if b then 1 else 0))) w := by
  rw [@run_callFunc_extern Tryz.prog 78 _ (fun
    | #[.bool b] => pure (.int .u8 (if b then 1 else 0))
    | _ => stuck "boolToUint8: a bool expected") Tryz.func78 (by kernel_rfl) (by kernel_rfl) (by kernel_rfl) (by kernel_rfl) #[.bool b] w]
  rfl
theorem byteEq_any (x : Nat) (w : World) : Calls Tryz.prog 68 #[.int .u8 (x : Int), .int .u8 0] w fun e w' => e = .returned (.int .i64 (if x = 0 then 1 else 0)) ∧ w' = w := by
  have h1 := ctHook true
  have h2 := ctHook false
  by_cases h : x = 0
  · subst h
    go_enter Tryz.func68, Tryz.ntmps68
    go_wp2
    go_ret
    exact ⟨rfl, rfl⟩
  · have t : ((x : Int) == 0) = false := by simp; omega
    have hx := Lib.hid h; clear h
    go_enter Tryz.func68, Tryz.ntmps68
    go_wp2
    go_ret
    exact ⟨rfl, rfl⟩
theorem xor_zero {x y : Nat} (h : x ^^^ y = 0) : x = y := by
  apply Nat.eq_of_testBit_eq
  intro i
  have := congrArg (fun z => z.testBit i) h
  simp only [Nat.testBit_xor, Nat.zero_testBit] at this
  cases hx : x.testBit i <;> cases hy : y.testBit i <;> simp_all
def CtPost (w : World) (l1 l2 : List Nat) (e : Ending) (w' : World) : Prop := e = .returned (.int .i64 (if l1 = l2 then 1 else 0)) ∧ ∃ m, w' = w.drewN m
def CtRel (n : Nat) (l1 l2 : List Nat) (w : World) (v i : Value) (wr : World) : Prop :=
  ∃ k acc : Nat, k ≤ n ∧ i = .int .i64 k ∧ v = .int .u8 (acc : Int) ∧ acc < 256 ∧ (acc = 0 ↔ ∀ j, j < k → l1.getD j 0 = l2.getD j 0) ∧ ∃ m, wr = w.drewN m
set_option maxHeartbeats 400000 in
theorem ctEq_row (b1 o1 b2 o2 n c1 c2 : Nat) (l1 l2 : List Nat) (w : World) (h0 : 0 < n) (hn : n ≤ 1000000000000) (h1 : l1.length = n) (h2 : l2.length = n) (g1 : ∀ j, l1.getD j 0 < 256) (g2 : ∀ j, l2.getD j 0 < 256)
    (hc1 : ∀ j, j < n → w.cell? ⟨b1, o1 + j, none⟩ = some (.int .u8 ((l1.getD j 0 : Nat) : Int))) (hc2 : ∀ j, j < n → w.cell? ⟨b2, o2 + j, none⟩ = some (.int .u8 ((l2.getD j 0 : Nat) : Int))) :
    Calls Tryz.prog 52 #[.slice (some ⟨b1, o1, none⟩) n c1, .slice (some ⟨b2, o2, none⟩) n c2] w (CtPost w l1 l2) := by
  have H1 := Lib.hid hc1; clear hc1
  have H2 := Lib.hid hc2; clear hc2
  have L1 := Lib.hid h1; clear h1
  have L2 := Lib.hid h2; clear h2
  have G1 := Lib.hid g1; clear g1
  have G2 := Lib.hid g2; clear g2
  go_enter Tryz.func52, Tryz.ntmps52
  go_wp2_with fail
  go_loopw [5, 6] (CtRel n l1 l2 w) (fun _ i _ => n - (intOf i).toNat)
  case atStart => exact ⟨0, 0, Nat.zero_le _, rfl, rfl, by decide, ⟨fun _ j hj => by omega, fun _ => rfl⟩, 0, rfl⟩
  case round =>
    obtain ⟨k, acc, hk, rfl, rfl, ha, hiff, m, rfl⟩ := hrel
    have HI := Lib.hid hiff; clear hiff
    by_cases hlt : k < n
    · have q1 := H1.out k hlt
      have q2 := H2.out k hlt
      have m1 := G1.out k
      have m2 := G2.out k
      obtain ⟨x, hx⟩ : ∃ x, x = l1.getD k 0 := ⟨_, rfl⟩
      obtain ⟨y, hy⟩ : ∃ y, y = l2.getD k 0 := ⟨_, rfl⟩
      rw [← hx] at q1 m1
      rw [← hy] at q2 m2
      have X := Lib.hid hx; clear hx
      have Y := Lib.hid hy; clear hy
      obtain ⟨z, hz⟩ : ∃ z, z = x ^^^ y := ⟨_, rfl⟩
      have lz : z < 256 := by rw [hz]; exact Nat.xor_lt_two_pow (n := 8) m1 m2
      have ez : bits .xor .u8 (x : Int) (y : Int) = (z : Int) := by rw [hz]; exact u8_xor_nat _ _ m1 m2
      obtain ⟨s, hs⟩ : ∃ s, s = acc ||| z := ⟨_, rfl⟩
      have ls : s < 256 := by rw [hs]; exact Nat.or_lt_two_pow (n := 8) ha lz
      have es : bits .or .u8 (acc : Int) (z : Int) = (s : Int) := by rw [hs]; exact u8_or_nat _ _ ha lz
      have Z := Lib.hid hz; clear hz
      have S := Lib.hid hs; clear hs
      go_wp2_with fail
      go_quiet (fail)
      go_wp2_with fail
      go_roundw
      case rel =>
        refine ⟨k + 1, s, by omega, by go_num, rfl, ls, ?_, m + nq, rfl⟩
        rw [S.out, Nat.or_eq_zero_iff, HI.out]
        constructor
        · rintro ⟨p, q⟩ j hj
          rcases Nat.lt_or_ge j k with hj' | hj'
          · exact p j hj'
          · obtain rfl : j = k := by omega
            rw [← X.out, ← Y.out]
            exact xor_zero (by rw [← Z.out]; exact q)
        · intro p
          refine ⟨fun j hj => p j (by omega), ?_⟩
          rw [Z.out, X.out, Y.out, p k (by omega), Nat.xor_self]
      case measure => simp [intOf]; omega
    · obtain rfl : k = n := by omega
      have call := byteEq_any acc (w.drewN m)
      have Call := Lib.hid call; clear call
      have fin : (if acc = 0 then (1 : Int) else 0) = (if l1 = l2 then 1 else 0) := by
        have key : acc = 0 ↔ l1 = l2 := by
          rw [HI.out]
          exact ⟨fun h => getD_ext L1.out L2.out h, fun h j _ => by rw [h]⟩
        by_cases hl : l1 = l2
        · rw [if_pos hl, if_pos (key.2 hl)]
        · rw [if_neg hl, if_neg (fun h => hl (key.1 h))]
      have Fin := Lib.hid fin; clear fin
      go_wp2_with fail
      refine Call.out.mono ?_
      rintro e w1 ⟨rfl, rfl⟩
      rw [Fin.out]
      obtain ⟨r, hr⟩ : ∃ r : Int, r = (if l1 = l2 then 1 else 0) := ⟨_, rfl⟩
      rw [← hr]
      have R := Lib.hid hr; clear hr
      go_wp2_with fail
      go_ret
      exact ⟨by rw [← R.out]; rfl, m, rfl⟩
theorem ctCompare (b1 o1 b2 o2 n c1 c2 : Nat) (l1 l2 : List Nat) (w : World) (h0 : 0 < n) (hn : n ≤ 1000000000000) (h1 : l1.length = n) (h2 : l2.length = n) (g1 : ∀ j, l1.getD j 0 < 256) (g2 : ∀ j, l2.getD j 0 < 256)
    (hc1 : ∀ j, j < n → w.cell? ⟨b1, o1 + j, none⟩ = some (.int .u8 ((l1.getD j 0 : Nat) : Int))) (hc2 : ∀ j, j < n → w.cell? ⟨b2, o2 + j, none⟩ = some (.int .u8 ((l2.getD j 0 : Nat) : Int))) :
    Calls Tryz.prog 35 #[.slice (some ⟨b1, o1, none⟩) n c1, .slice (some ⟨b2, o2, none⟩) n c2] w (CtPost w l1 l2) := by
  have h := Lib.hid (ctEq_row b1 o1 b2 o2 n c1 c2 l1 l2 w h0 hn h1 h2 g1 g2 hc1 hc2)
  clear h1 h2 g1 g2 hc1 hc2
  go_enter Tryz.func35, Tryz.ntmps35
  go_wp2_with fail
  refine h.out.mono ?_
  rintro e w1 ⟨rfl, m, rfl⟩
  obtain ⟨r, hr⟩ : ∃ r : Int, r = (if l1 = l2 then 1 else 0) := ⟨_, rfl⟩
  rw [← hr]
  have R := Lib.hid hr; clear hr
  go_wp2_with fail
  go_ret
  exact ⟨by rw [← R.out]; rfl, m, rfl⟩
end Go.Proofs.YthnhdfgonpbldaaGreatDoor
