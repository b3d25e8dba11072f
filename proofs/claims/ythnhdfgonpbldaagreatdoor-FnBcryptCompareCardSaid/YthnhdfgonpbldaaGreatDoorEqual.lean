/- The statements' own 'equal' on two slices of bytes, and readLetters. -/
import Derived.Test.YthnhdfgonpbldaaGreatDoorBenc
import Derived.Lib.SlBytesConst
import Derived.Lib.SmallJoins
namespace Go.Proofs.YthnhdfgonpbldaaGreatDoor
open Go.RowKit Go.Lib
/-- A slice of bytes reads as a list, the nil slice among them. -/
def Rd (w : World) (v : Value) (l : List Nat) : Prop :=
  ∃ a cap, v = .slice a l.length cap ∧ l.length ≤ cap ∧ cap ≤ 1000000000000 ∧ ∀ i, i < l.length → ∃ b o, a = some ⟨b, o, none⟩ ∧ w.cell? ⟨b, o + i, none⟩ = some (.int .u8 ((l.getD i 0 : Nat) : Int))
theorem Rd.of_own {w : World} {base : Nat} {v : Value} {l : List Nat} (h : OwnB w base v l) : Rd w v l := by
  obtain ⟨g, cap, cur, rfl, _, hg, h1, h2, h3, hc⟩ := h
  exact ⟨_, cap, rfl, h1, by omega, fun i hi => ⟨g, 0, rfl, by rw [Nat.zero_add]; exact cell_row hg (hc i hi)⟩⟩
def EqPost (w : World) (l1 l2 : List Nat) (e : Ending) (w' : World) : Prop := e = .returned (.bool (decide (l1 = l2))) ∧ ∃ m, w' = w.drewN m
theorem equal_ne (a1 a2 : Option Addr) (n1 n2 c1 c2 : Nat) (w : World) (h : n1 ≠ n2) :
    Calls Tryz.prog 16 #[.slice a1 n1 c1, .slice a2 n2 c2] w fun e w' => e = .returned (.bool false) ∧ w = w' := by
  have hd : (!((n1 : Int) == (n2 : Int))) = true := by simp; omega
  go_enter Tryz.func16, Tryz.ntmps16
  go_wp2
  go_ret
  exact ⟨rfl, rfl⟩
theorem equal_nil (a1 a2 : Option Addr) (c1 c2 : Nat) (w : World) :
    Calls Tryz.prog 16 #[.slice a1 0 c1, .slice a2 0 c2] w fun e w' => e = .returned (.bool true) ∧ w = w' := by
  go_enter Tryz.func16, Tryz.ntmps16
  go_wp2
  refine wp_loop_rounds 1 ?_
  rw [rounds_succ]
  go_wp2
  go_ret
  exact ⟨rfl, rfl⟩
theorem getD_ext {l1 l2 : List Nat} {n : Nat} (h1 : l1.length = n) (h2 : l2.length = n) (h : ∀ j, j < n → l1.getD j 0 = l2.getD j 0) : l1 = l2 := by
  apply List.ext_getElem (by omega)
  intro i hi hi2
  have := h i (by omega)
  simpa [List.getD, hi, hi2] using this
set_option maxHeartbeats 400000 in
theorem equal_row (b1 o1 b2 o2 n c1 c2 : Nat) (l1 l2 : List Nat) (w : World) (hn : n ≤ 1000000000000) (h1 : l1.length = n) (h2 : l2.length = n)
    (hc1 : ∀ j, j < n → w.cell? ⟨b1, o1 + j, none⟩ = some (.int .u8 ((l1.getD j 0 : Nat) : Int))) (hc2 : ∀ j, j < n → w.cell? ⟨b2, o2 + j, none⟩ = some (.int .u8 ((l2.getD j 0 : Nat) : Int))) :
    Calls Tryz.prog 16 #[.slice (some ⟨b1, o1, none⟩) n c1, .slice (some ⟨b2, o2, none⟩) n c2] w (EqPost w l1 l2) := by
  go_enter Tryz.func16, Tryz.ntmps16
  go_wp2
  go_loopw [5] (fun i wr => ∃ k : Nat, k ≤ n ∧ i = .int .i64 k ∧ (∀ j, j < k → l1.getD j 0 = l2.getD j 0) ∧ ∃ m, wr = w.drewN m) (fun i _ => n - (intOf i).toNat)
  case atStart => exact ⟨0, Nat.zero_le _, rfl, fun j hj => by omega, 0, rfl⟩
  case round =>
    obtain ⟨k, hk, rfl, hall, m, rfl⟩ := hrel
    by_cases hlt : k < n
    · have g1 := hc1 k hlt
      have g2 := hc2 k hlt
      obtain ⟨x, hx⟩ : ∃ x, x = l1.getD k 0 := ⟨_, rfl⟩
      obtain ⟨y, hy⟩ : ∃ y, y = l2.getD k 0 := ⟨_, rfl⟩
      rw [← hx] at g1
      rw [← hy] at g2
      have H := Lib.hid hall; clear hall
      have H1 := Lib.hid hc1; clear hc1
      have H2 := Lib.hid hc2; clear hc2
      have L1 := Lib.hid h1; clear h1
      have L2 := Lib.hid h2; clear h2
      have X := Lib.hid hx; clear hx
      have Y := Lib.hid hy; clear hy
      by_cases hxy : x = y
      · have tst : ((x : Int) != (y : Int)) = false := by simp [hxy]
        have XY := Lib.hid hxy; clear hxy
        go_wp2
        go_quiet (fail)
        go_wp2
        go_roundw
        case rel =>
          refine ⟨k + 1, by omega, by go_num, fun j hj => ?_, m + nq, rfl⟩
          rcases Nat.lt_or_ge j k with hj' | hj'
          · exact H.out j hj'
          · obtain rfl : j = k := by omega
            rw [← X.out, ← Y.out, XY.out]
        case measure => simp [intOf]; omega
      · have tst : ((x : Int) != (y : Int)) = true := by simp; omega
        have XY := Lib.hid hxy; clear hxy
        go_wp2
        go_quiet (fail)
        go_wp2
        go_ret
        refine ⟨ret_bool (decide_eq_false ?_).symm, m + nq, World.drewN_drewN _ _ _⟩
        intro e; subst e; exact XY.out (by rw [X.out, Y.out])
    · obtain rfl : k = n := by omega
      go_wp2
      go_ret
      exact ⟨ret_bool (decide_eq_true (getD_ext h1 h2 hall)).symm, m, rfl⟩
theorem equal_any {w : World} {v1 v2 : Value} {l1 l2 : List Nat} (h1 : Rd w v1 l1) (h2 : Rd w v2 l2) : Calls Tryz.prog 16 #[v1, v2] w (EqPost w l1 l2) := by
  obtain ⟨a1, c1, rfl, g1, d1, k1⟩ := h1
  obtain ⟨a2, c2, rfl, g2, d2, k2⟩ := h2
  by_cases hl : l1.length = l2.length
  · by_cases h0 : l1.length = 0
    · have e1 := List.eq_nil_of_length_eq_zero h0
      have e2 := List.eq_nil_of_length_eq_zero (hl ▸ h0)
      subst e1 e2
      exact (equal_nil a1 a2 c1 c2 w).mono fun e w' ⟨he, hw⟩ => ⟨by rw [he]; rfl, 0, hw.symm⟩
    · obtain ⟨b1, o1, rfl, _⟩ := k1 0 (by omega)
      obtain ⟨b2, o2, rfl, _⟩ := k2 0 (by omega)
      have := equal_row b1 o1 b2 o2 l1.length c1 c2 l1 l2 w (by omega) rfl hl.symm (fun j hj => by
        obtain ⟨b, o, e, hc⟩ := k1 j hj
        cases e; exact hc) (fun j hj => by
        obtain ⟨b, o, e, hc⟩ := k2 j (by omega)
        cases e; exact hc)
      rw [← hl]
      exact this
  · exact (equal_ne a1 a2 _ _ c1 c2 w hl).mono fun e w' ⟨he, hw⟩ => ⟨by rw [he]; exact ret_bool (decide_eq_false (fun e => hl (by rw [e]))).symm, 0, hw.symm⟩
theorem doorEncode_any (sb so n sc : Nat) (l : List Nat) (w : World) (hn : 0 < n) (hn2 : n ≤ 100000) (hm : n % 3 ≠ 0) (hsc : n ≤ sc) (hsc2 : sc ≤ 1000000) (hl : l.length = n) (hlb : ∀ x ∈ l, x < 256)
    (hs : ∀ j, j < n → w.cell? ⟨sb, so + j, none⟩ = some (.int .u8 ((l.getD j 0 : Nat) : Int))) :
    Calls Tryz.prog 26 #[.slice (some ⟨sb, so, none⟩) n sc] w (EncBytes w l) := by
  have h := base64Encode_any sb so n sc l w hn hn2 hm hsc hsc2 hl hlb hs
  clear hn hn2 hm hsc hsc2 hl hlb hs
  go_enter Tryz.func26, Tryz.ntmps26
  go_wp2_with fail
  refine h.mono ?_
  rintro e w1 ⟨v, rfl, h1, h2⟩
  go_wp2_with fail
  go_ret
  exact ⟨v, rfl, h1, h2⟩
theorem bcryptEncode_any (sb so n sc : Nat) (l : List Nat) (w : World) (hn : 0 < n) (hn2 : n ≤ 100000) (hm : n % 3 ≠ 0) (hsc : n ≤ sc) (hsc2 : sc ≤ 1000000) (hl : l.length = n) (hlb : ∀ x ∈ l, x < 256)
    (hs : ∀ j, j < n → w.cell? ⟨sb, so + j, none⟩ = some (.int .u8 ((l.getD j 0 : Nat) : Int))) :
    Calls Tryz.prog 19 #[.slice (some ⟨sb, so, none⟩) n sc] w (EncBytes w l) := by
  have h := doorEncode_any sb so n sc l w hn hn2 hm hsc hsc2 hl hlb hs
  clear hn hn2 hm hsc hsc2 hl hlb hs
  go_enter Tryz.func19, Tryz.ntmps19
  go_wp2_with fail
  refine h.mono ?_
  rintro e w1 ⟨v, rfl, h1, h2⟩
  go_wp2_with fail
  go_ret
  exact ⟨v, rfl, h1, h2⟩
def TrueBelow (w : World) (e : Ending) (w' : World) : Prop := e = .returned (.bool true) ∧ Below w.heap.size w w'
set_option maxRecDepth 100000 in
theorem readLetters_any (w : World) : Calls Tryz.prog 8 #[] w (TrueBelow w) := by
  go_enter Tryz.func8, Tryz.ntmps8
  go_wp2_with fail
  refine (bcryptEncode_any w.heap.size 0 1 1 [0] _ (by omega) (by omega) (by omega) (by omega) (by omega) rfl (by simp) (fun j hj => ?hs)).mono ?_
  case hs =>
    obtain rfl : j = 0 := by omega
    simp
  rintro e w1 ⟨v, rfl, h1, h2⟩
  have g := h2.size
  simp only [World.size_alloc] at g
  have H1 := Lib.hid h1; clear h1
  have H2 := Lib.hid h2; clear h2
  have kc := fun (w : World) (C : Array Value) (n c : Nat) => Lib.run_convert_bytes_const (P := Tryz.prog) w 22 5 C n c Tryz.underlying22 Tryz.underlying5
  go_wp2_with fail
  refine (equal_any (l1 := [46, 46]) (l2 := [46, 46]) ?h1 ?h2).mono ?_
  case h1 =>
    have h := H1.out
    rw [show encL [0] = [46, 46] by decide] at h
    obtain ⟨g, cap, cur, rfl, k1, k2, k3⟩ := h
    refine Rd.of_own (base := w.heap.size + 1) ⟨g, cap, cur, rfl, by simpa using k1, ?_, k3⟩
    rw [heap_alloc_ne _ _ _ (by have := (Array.getElem?_eq_some_iff.1 k2).1; omega)]
    exact k2
  case h2 =>
    exact ⟨_, 2, rfl, by simp, by omega, fun i hi => ⟨w1.heap.size, 0, rfl, by
      rcases (show i = 0 ∨ i = 1 by simp at hi; omega) with rfl | rfl <;> exact cell_row (heap_alloc_at w1 _) rfl⟩⟩
  rintro e w2 ⟨rfl, m, rfl⟩
  go_wp2_with fail
  go_ret
  refine ⟨rfl, ?_⟩
  exact Below.trans (Below.alloc (Below.refl w.heap.size w) (Nat.le_refl _) _) (Below.trans (H2.out.mono (B' := w.heap.size) (by simp)) (((Below.alloc (Below.refl w.heap.size w1) (by omega) _)).trans ⟨rfl, rfl, rfl, by simp, fun _ _ => rfl⟩))
end Go.Proofs.YthnhdfgonpbldaaGreatDoor
