/- The statement FnBcryptRefuses, walked: it answers true for every hash and password. -/
import Derived.Test.YthnhdfgonpbldaaGreatDoorRefuse
import Derived.Test.YthnhdfgonpbldaaGreatDoorEqual
namespace Go.Proofs.YthnhdfgonpbldaaGreatDoor
open Go.RowKit Go.Lib
theorem ref_size (a1 a2 : Option Addr) (n1 n2 c1 c2 : Nat) (w : World) (h : 2147483647 < n1 ∨ 2147483647 < n2) :
    Calls Tryz.prog 5 #[.slice a1 n1 c1, .slice a2 n2 c2] w (TrueBelow w) := by
  rcases h with h | h
  · have t : (2147483647 : Int) < (n1 : Int) := by omega
    go_enter Tryz.func5, Tryz.ntmps5
    go_wp2
    go_ret
    exact ⟨rfl, Below.refl _ _⟩
  · by_cases h1 : 2147483647 < n1
    · have t : (2147483647 : Int) < (n1 : Int) := by omega
      go_enter Tryz.func5, Tryz.ntmps5
      go_wp2
      go_ret
      exact ⟨rfl, Below.refl _ _⟩
    · have t : decide ((2147483647 : Int) < (n1 : Int)) = false := by simp; omega
      have t2 : (2147483647 : Int) < (n2 : Int) := by omega
      go_enter Tryz.func5, Tryz.ntmps5
      go_wp2
      go_ret
      exact ⟨rfl, Below.refl _ _⟩
theorem ref_long (a1 a2 : Option Addr) (n1 n2 c1 c2 : Nat) (w : World) (h1 : n1 ≤ 2147483647) (h2 : n2 ≤ 2147483647) (h : 1024 < n1 ∨ 72 < n2) :
    Calls Tryz.prog 5 #[.slice a1 n1 c1, .slice a2 n2 c2] w (TrueBelow w) := by
  have t : decide ((2147483647 : Int) < (n1 : Int)) = false := by simp; omega
  have t2 : decide ((2147483647 : Int) < (n2 : Int)) = false := by simp; omega
  by_cases h3 : 1024 < n1
  · have t3 : (1024 : Int) < (n1 : Int) := by omega
    go_enter Tryz.func5, Tryz.ntmps5
    go_wp2_with (go_at_call 8; refine (readLetters_any _).mono ?_; rintro e w' ⟨rfl, hb⟩)
    go_ret
    exact ⟨rfl, hb⟩
  · have t3 : decide ((1024 : Int) < (n1 : Int)) = false := by simp; omega
    have t4 : (72 : Int) < (n2 : Int) := by omega
    go_enter Tryz.func5, Tryz.ntmps5
    go_wp2_with (go_at_call 8; refine (readLetters_any _).mono ?_; rintro e w' ⟨rfl, hb⟩)
    go_ret
    exact ⟨rfl, hb⟩
theorem ref_default (b o n1 c1 : Nat) (a2 : Option Addr) (n2 c2 : Nat) (y : Nat) (w : World) (h1 : n1 ≤ 1024) (h2 : n2 ≤ 72) (h : 59 ≤ n1) (hx : w.cell? ⟨b, o, none⟩ = some (.int .u8 36)) (hy : w.cell? ⟨b, o + 1, none⟩ = some (.int .u8 (y : Int))) (hle : y ≤ 50) :
    Calls Tryz.prog 5 #[.slice (some ⟨b, o, none⟩) n1 c1, .slice a2 n2 c2] w (TrueBelow w) := by
  have t : decide ((2147483647 : Int) < (n1 : Int)) = false := by simp; omega
  have t2 : decide ((2147483647 : Int) < (n2 : Int)) = false := by simp; omega
  have t3 : decide ((1024 : Int) < (n1 : Int)) = false := by simp; omega
  have t4 : decide ((72 : Int) < (n2 : Int)) = false := by simp; omega
  have t5 : decide ((n1 : Int) < 59) = false := by simp; omega
  have b0 : 0 < n1 := by omega
  have b1 : 1 < n1 := by omega
  have t6 : decide ((50 : Int) < (y : Int)) = false := by simp; omega
  go_enter Tryz.func5, Tryz.ntmps5
  go_wp2_with (go_at_call 8; refine (readLetters_any _).mono ?_; rintro e w' ⟨rfl, hb⟩)
  go_ret
  exact ⟨rfl, hb⟩
theorem ref_short (a1 : Option Addr) (n1 c1 : Nat) (a2 : Option Addr) (n2 c2 : Nat) (s0 s1 : Addr) (w : World) (s : Sen w s0 s1) (h2 : n2 ≤ 72) (h : n1 < 59) :
    Calls Tryz.prog 5 #[.slice a1 n1 c1, .slice a2 n2 c2] w (TrueBelow w) := by
  have t : decide ((2147483647 : Int) < (n1 : Int)) = false := by simp; omega
  have t2 : decide ((2147483647 : Int) < (n2 : Int)) = false := by simp; omega
  have t3 : decide ((1024 : Int) < (n1 : Int)) = false := by simp; omega
  have t4 : decide ((72 : Int) < (n2 : Int)) = false := by simp; omega
  have t5 : (n1 : Int) < 59 := by omega
  go_enter Tryz.func5, Tryz.ntmps5
  go_wp2_with fail
  refine (bcost_ref _ _ _ 2 s0 s1 w s (nfh_short a1 n1 c1 s0 s1 w s h) (fun W S => kind_short W s0 s1 S)).mono ?_
  rintro e w1 ⟨rfl, h1⟩
  have S1 := Lib.hid (s.below h1)
  have H1 := Lib.hid h1; clear h1
  go_wp2_with fail
  refine (bcompare_ref _ _ _ _ 2 s0 s1 w1 S1.out (nfh_short a1 n1 c1 s0 s1 w1 S1.out h) (fun W S => kind_short W s0 s1 S)).mono ?_
  rintro e w2 ⟨rfl, h2'⟩
  have H2 := Lib.hid h2'; clear h2'
  go_wp2_with fail
  refine (readLetters_any _).mono ?_
  rintro e w3 ⟨rfl, h3⟩
  have H3 := Lib.hid h3; clear h3
  go_wp2_with fail
  go_ret
  exact ⟨rfl, Below.trans' (Below.trans' H1.out H2.out) H3.out⟩
theorem ref_prefix (b o n1 c1 : Nat) (a2 : Option Addr) (n2 c2 : Nat) (x : Nat) (s0 s1 : Addr) (w : World) (s : Sen w s0 s1) (h1 : n1 ≤ 1024) (h2 : n2 ≤ 72) (h : 59 ≤ n1) (hx : w.cell? ⟨b, o, none⟩ = some (.int .u8 (x : Int))) (hne : x ≠ 36) :
    Calls Tryz.prog 5 #[.slice (some ⟨b, o, none⟩) n1 c1, .slice a2 n2 c2] w (TrueBelow w) := by
  have t : decide ((2147483647 : Int) < (n1 : Int)) = false := by simp; omega
  have t2 : decide ((2147483647 : Int) < (n2 : Int)) = false := by simp; omega
  have t3 : decide ((1024 : Int) < (n1 : Int)) = false := by simp; omega
  have t4 : decide ((72 : Int) < (n2 : Int)) = false := by simp; omega
  have t5 : decide ((n1 : Int) < 59) = false := by simp; omega
  have b0 : 0 < n1 := by omega
  have t6 : ((x : Int) != 36) = true := by simp; omega
  have blt : b < w.heap.size := World.block_lt_of_cell? _ _ hx
  have hr : ∀ W, Below w.heap.size w W → Refused W (.slice (some ⟨b, o, none⟩) n1 c1) (.iface 62 (.int .u8 (x : Int))) := fun W hW =>
    nfh_ver b o n1 c1 62 _ W h (fun W' hW' p => ver_prefix p b o n1 c1 x W' h (by rw [hW'.cell (by have := hW.size; show b < _; omega), hW.cell blt]; exact hx) hne)
  have Hr := Lib.hid hr; clear hr
  clear hne
  go_enter Tryz.func5, Tryz.ntmps5
  go_wp2_with fail
  refine (bcost_ref _ _ _ 3 s0 s1 w s (Hr.out w (Below.refl _ _)) (fun W S => kind_prefix _ W s0 s1 S)).mono ?_
  rintro e w1 ⟨rfl, h1⟩
  have S1 := Lib.hid (s.below h1)
  have H1 := Lib.hid h1; clear h1
  go_wp2_with fail
  refine (bcompare_ref _ _ _ _ 3 s0 s1 w1 S1.out (Hr.out w1 H1.out) (fun W S => kind_prefix _ W s0 s1 S)).mono ?_
  rintro e w2 ⟨rfl, h2'⟩
  have H2 := Lib.hid h2'; clear h2'
  go_wp2_with fail
  refine (readLetters_any _).mono ?_
  rintro e w3 ⟨rfl, h3⟩
  have H3 := Lib.hid h3; clear h3
  go_wp2_with fail
  go_ret
  exact ⟨rfl, Below.trans' (Below.trans' H1.out H2.out) H3.out⟩
theorem ref_version (b o n1 c1 : Nat) (a2 : Option Addr) (n2 c2 : Nat) (y : Nat) (s0 s1 : Addr) (w : World) (s : Sen w s0 s1) (h1 : n1 ≤ 1024) (h2 : n2 ≤ 72) (h : 59 ≤ n1) (hx : w.cell? ⟨b, o, none⟩ = some (.int .u8 36))
    (hy : w.cell? ⟨b, o + 1, none⟩ = some (.int .u8 (y : Int))) (hgt : 50 < y) :
    Calls Tryz.prog 5 #[.slice (some ⟨b, o, none⟩) n1 c1, .slice a2 n2 c2] w (TrueBelow w) := by
  have t : decide ((2147483647 : Int) < (n1 : Int)) = false := by simp; omega
  have t2 : decide ((2147483647 : Int) < (n2 : Int)) = false := by simp; omega
  have t3 : decide ((1024 : Int) < (n1 : Int)) = false := by simp; omega
  have t4 : decide ((72 : Int) < (n2 : Int)) = false := by simp; omega
  have t5 : decide ((n1 : Int) < 59) = false := by simp; omega
  have b0 : 0 < n1 := by omega
  have b1 : 1 < n1 := by omega
  have t6 : (50 : Int) < (y : Int) := by omega
  have blt : b < w.heap.size := World.block_lt_of_cell? _ _ hx
  have hr : ∀ W, Below w.heap.size w W → Refused W (.slice (some ⟨b, o, none⟩) n1 c1) (.iface 63 (.int .u8 (y : Int))) := fun W hW =>
    nfh_ver b o n1 c1 63 _ W h (fun W' hW' p => ver_new p b o n1 c1 y W' h (by rw [hW'.cell (by have := hW.size; show b < _; omega), hW.cell blt]; exact hx) (by rw [hW'.cell (by have := hW.size; show b < _; omega), hW.cell blt]; exact hy) hgt)
  have Hr := Lib.hid hr; clear hr
  go_enter Tryz.func5, Tryz.ntmps5
  go_wp2_with fail
  refine (bcost_ref _ _ _ 4 s0 s1 w s (Hr.out w (Below.refl _ _)) (fun W S => kind_version _ W s0 s1 S)).mono ?_
  rintro e w1 ⟨rfl, h1⟩
  have S1 := Lib.hid (s.below h1)
  have H1 := Lib.hid h1; clear h1
  go_wp2_with fail
  refine (bcompare_ref _ _ _ _ 4 s0 s1 w1 S1.out (Hr.out w1 H1.out) (fun W S => kind_version _ W s0 s1 S)).mono ?_
  rintro e w2 ⟨rfl, h2'⟩
  have H2 := Lib.hid h2'; clear h2'
  go_wp2_with fail
  refine (readLetters_any _).mono ?_
  rintro e w3 ⟨rfl, h3⟩
  have H3 := Lib.hid h3; clear h3
  go_wp2_with fail
  go_ret
  exact ⟨rfl, Below.trans' (Below.trans' H1.out H2.out) H3.out⟩
/-- All ways: a slice of bytes, nil or not. -/
theorem refuses_any (a1 : Option Addr) (n1 c1 : Nat) (a2 : Option Addr) (n2 c2 : Nat) (s0 s1 : Addr) (w : World) (s : Sen w s0 s1)
    (hc : 0 < n1 → ∃ b o, a1 = some ⟨b, o, none⟩ ∧ ∀ j, j < n1 → ∃ x : Nat, w.cell? ⟨b, o + j, none⟩ = some (.int .u8 (x : Int))) :
    Calls Tryz.prog 5 #[.slice a1 n1 c1, .slice a2 n2 c2] w (TrueBelow w) := by
  by_cases h : 2147483647 < n1 ∨ 2147483647 < n2
  · exact ref_size a1 a2 n1 n2 c1 c2 w h
  · by_cases h' : 1024 < n1 ∨ 72 < n2
    · exact ref_long a1 a2 n1 n2 c1 c2 w (by omega) (by omega) h'
    · by_cases hs : n1 < 59
      · exact ref_short a1 n1 c1 a2 n2 c2 s0 s1 w s (by omega) hs
      · obtain ⟨b, o, rfl, hcell⟩ := hc (by omega)
        obtain ⟨x, hx⟩ := hcell 0 (by omega)
        obtain ⟨y, hy⟩ := hcell 1 (by omega)
        rw [Nat.add_zero] at hx
        by_cases hx36 : x = 36
        · subst hx36
          by_cases hy50 : 50 < y
          · exact ref_version b o n1 c1 a2 n2 c2 y s0 s1 w s (by omega) (by omega) (by omega) hx hy hy50
          · exact ref_default b o n1 c1 a2 n2 c2 y w (by omega) (by omega) (by omega) hx hy (by omega)
        · exact ref_prefix b o n1 c1 a2 n2 c2 x s0 s1 w s (by omega) (by omega) (by omega) hx hx36
end Go.Proofs.YthnhdfgonpbldaaGreatDoor
