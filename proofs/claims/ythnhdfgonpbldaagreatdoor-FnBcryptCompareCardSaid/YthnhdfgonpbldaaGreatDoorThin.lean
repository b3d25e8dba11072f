/- The thin package's Bcrypt and BcryptCost at what the statements hand them; isBcrypt, salted, hashed. -/
import Derived.Test.YthnhdfgonpbldaaGreatDoorCmp
namespace Go.Proofs.YthnhdfgonpbldaaGreatDoor
open Go.RowKit Go.Lib
theorem cost_any (k : Nat) (ls lh : List Nat) (v : Value) (w : World) (h : Calls Tryz.prog 33 #[v] w (NfhPost k ls lh w)) : Calls Tryz.prog 25 #[v] w (Ret w (.tuple #[.int .i64 (k : Int), .nilIface])) := by
  have H := Lib.hid h; clear h
  go_enter Tryz.func25, Tryz.ntmps25
  go_wp2_with fail
  refine H.out.mono ?_
  rintro e w1 ⟨PB, SB, HB, rfl, p1, p2, p3, p4, p5, p6, hb1, r1, r2, r3⟩
  have R1 := Lib.hid r1; clear r1 r2 r3
  have B1 := Lib.hid hb1; clear hb1 H
  have k2 : w1.cell? ⟨PB, 2, none⟩ = some (.int .i64 (k : Int)) := cell_row R1.out rfl
  go_wp2_with fail
  go_ret2
  exact ⟨rfl, B1.out⟩
theorem bcost_any (k : Nat) (v : Value) (w : World) (h : Calls Tryz.prog 25 #[v] w (Ret w (.tuple #[.int .i64 (k : Int), .nilIface]))) : Calls Tryz.prog 18 #[v] w (Ret w (.tuple #[.int .i64 (k : Int), .int .i64 0])) := by
  have H := Lib.hid h; clear h
  go_enter Tryz.func18, Tryz.ntmps18
  go_wp2_with fail
  refine H.out.mono ?_
  rintro e w1 ⟨rfl, hb1⟩
  have B1 := Lib.hid hb1; clear hb1 H
  go_wp2_with fail
  refine (kind_nil w1).mono ?_
  rintro e w2 ⟨rfl, hb2⟩
  have B2 := Lib.hid hb2; clear hb2
  go_wp2_with fail
  go_ret2
  exact ⟨rfl, Below.trans' B1.out B2.out⟩
/-- The letters, and that all went well. -/
def BPost (T : Nat → Nat) (pw : List Nat) (cost : Nat) (vs : List Nat) (sb : Nat) (w : World) (e : Ending) (w' : World) : Prop :=
  ∃ v, e = .returned (.tuple #[v, .bool true]) ∧ OwnC w' w.heap.size v (hashN T pw cost vs) 32 ∧ But (· = sb) w w'
theorem doorHash_any (T : Nat → Nat) (pw : List Nat) (cost : Nat) (vs : List Nat) (sb : Nat) (w : World) (v1 v2 v3 : Value) (h : Calls Tryz.prog 34 #[v1, v2, v3] w (CryptPost T pw cost vs sb w)) : Calls Tryz.prog 24 #[v1, v2, v3] w (CryptPost T pw cost vs sb w) := by
  have H := Lib.hid h; clear h
  go_enter Tryz.func24, Tryz.ntmps24
  go_wp2_with fail
  refine H.out.mono ?_
  rintro e w1 ⟨v, rfl, h1, h2, h3⟩
  have H1 := Lib.hid h1; clear h1
  have H2 := Lib.hid h2; clear h2
  have H3 := Lib.hid h3; clear h3
  go_wp2_with fail
  go_ret2
  exact ⟨v, rfl, H1.out, H2.out, H3.out⟩
theorem implBcrypt_any (T : Nat → Nat) (pw : List Nat) (cost : Nat) (vs : List Nat) (sb : Nat) (w : World) (v1 v2 v3 : Value) (h : Calls Tryz.prog 34 #[v1, v2, v3] w (CryptPost T pw cost vs sb w)) : Calls Tryz.prog 14 #[v1, v2, v3] w (BPost T pw cost vs sb w) := by
  have H := Lib.hid (doorHash_any T pw cost vs sb w v1 v2 v3 h); clear h
  go_enter Tryz.func14, Tryz.ntmps14
  go_wp2_with fail
  refine H.out.mono ?_
  rintro e w1 ⟨v, rfl, h1, h2, h3⟩
  have H1 := Lib.hid h1; clear h1
  have H2 := Lib.hid h2; clear h2 h3
  go_wp2_with fail
  go_quiet (fail)
  go_wp2_with fail
  go_ret2
  exact ⟨v, rfl, H1.out, H2.out.drewN _⟩
theorem isBcrypt_yes (a : Option Addr) (n c k : Nat) (w : World) (hn : n ≤ 72) (h4 : 4 ≤ k) (h6 : k ≤ 6) : Calls Tryz.prog 13 #[.slice a n c, .int .i64 (k : Int)] w fun e w' => e = .returned (.bool true) ∧ w' = w := by
  have t1 : decide ((n : Int) ≤ 72) = true := by simp; omega
  have t2 : decide ((4 : Int) ≤ (k : Int)) = true := by simp; omega
  have t3 : decide ((k : Int) ≤ 6) = true := by simp; omega
  go_enter Tryz.func13, Tryz.ntmps13
  go_wp2
  go_ret
  exact ⟨rfl, rfl⟩
theorem isBcrypt_no (a : Option Addr) (n c : Nat) (k : Int) (w : World) (h : 72 < n ∨ k < 4 ∨ 6 < k) : Calls Tryz.prog 13 #[.slice a n c, .int .i64 k] w fun e w' => e = .returned (.bool false) ∧ w' = w := by
  by_cases h1 : 72 < n
  · have t1 : decide ((n : Int) ≤ 72) = false := by simp; omega
    go_enter Tryz.func13, Tryz.ntmps13
    go_wp2
    go_ret
    exact ⟨rfl, rfl⟩
  · have t1 : decide ((n : Int) ≤ 72) = true := by simp; omega
    by_cases h2 : k < 4
    · have t2 : decide ((4 : Int) ≤ k) = false := by simp; omega
      go_enter Tryz.func13, Tryz.ntmps13
      go_wp2
      go_ret
      exact ⟨rfl, rfl⟩
    · have t2 : decide ((4 : Int) ≤ k) = true := by simp; omega
      have t3 : decide (k ≤ 6) = false := by simp; omega
      go_enter Tryz.func13, Tryz.ntmps13
      go_wp2
      go_ret
      exact ⟨rfl, rfl⟩
end Go.Proofs.YthnhdfgonpbldaaGreatDoor
