/- bcrypt's decodeVersion and decodeCost where they succeed, and decodeCost at a cost that is too low. -/
import Derived.Test.YthnhdfgonpbldaaGreatDoorDigs
namespace Go.Proofs.YthnhdfgonpbldaaGreatDoor
open Go.RowKit Go.Lib
/-- The struct 'hashed' in a block of its own. -/
def HRow (w : World) (PB : Nat) (h s : Value) (c ma mi : Int) : Prop := w.heap[PB]? = some (.cells #[h, s, .int .i64 c, .int .u8 ma, .int .u8 mi] 74 (0, 0))
def VerPost (PB : Nat) (h s : Value) (w : World) (e : Ending) (w' : World) : Prop :=
  e = .returned (.tuple #[.int .i64 4, .nilIface]) ∧ But (· = PB) w w' ∧ HRow w' PB h s 0 50 97
theorem ver_fine (PB b o n c : Nat) (h s : Value) (w : World) (hn : 3 ≤ n) (hn2 : n ≤ 1000000000000) (hp : HRow w PB h s 0 0 0) (hne : b ≠ PB)
    (c0 : w.cell? ⟨b, o, none⟩ = some (.int .u8 36)) (c1 : w.cell? ⟨b, o + 1, none⟩ = some (.int .u8 50)) (c2 : w.cell? ⟨b, o + 2, none⟩ = some (.int .u8 97)) :
    Calls Tryz.prog 48 #[.pointer (some ⟨PB, 0, none⟩), .slice (some ⟨b, o, none⟩) n c] w (VerPost PB h s w) := by
  unfold HRow at hp
  have k3 : w.cell? ⟨PB, 3, none⟩ = some (.int .u8 0) := cell_row hp rfl
  have k4 : w.cell? ⟨PB, 4, none⟩ = some (.int .u8 0) := cell_row hp rfl
  have f3 := frozen_row hp 3
  have f4 := frozen_row hp 4
  have Hp := Lib.hid hp; clear hp
  have b0 : 0 < n := by omega
  have b1 : 1 < n := by omega
  have b2 : 2 < n := by omega
  go_enter Tryz.func48, Tryz.ntmps48
  go_wp2_with fail
  go_ret2
  refine ⟨rfl, ?_, ?_⟩
  · exact But.setCell (S := (· = PB)) (p := ⟨PB, 4, none⟩) (But.setCell (S := (· = PB)) (p := ⟨PB, 3, none⟩) (But.refl _ w) (fun _ => rfl) _) (fun _ => rfl) _
  · exact setCell_row _ PB 4 _ 74 (0, 0) _ (setCell_row w PB 3 _ 74 (0, 0) _ Hp.out)
def CostPost (PB : Nat) (h s : Value) (k : Nat) (w : World) (e : Ending) (w' : World) : Prop :=
  e = .returned (.tuple #[.int .i64 3, .nilIface]) ∧ But (· = PB) w w' ∧ HRow w' PB h s k 50 97
theorem cost_text (b o c k : Nat) (hk : k ≤ 6) (w : World) (c0 : w.cell? ⟨b, o, none⟩ = some (.int .u8 48)) (c1 : w.cell? ⟨b, o + 1, none⟩ = some (.int .u8 ((48 + k : Nat) : Int))) :
    (convert 22 9 (.slice (some ⟨b, o, none⟩) 2 c)).run Tryz.prog w = .ok (.string ⟨#[48, UInt8.ofNat (48 + k)]⟩) w := by
  have e : (UInt8.ofNat (48 + k)).toNat = 48 + k := by
    have := (by decide : ∀ k : Fin 7, (UInt8.ofNat (48 + k.1)).toNat = 48 + k.1) ⟨k, by omega⟩
    exact this
  have h := run_convert_bytes_back (P := Tryz.prog) w 22 9 5 ⟨b, o, none⟩ c [48, UInt8.ofNat (48 + k)] Tryz.underlying22 Tryz.underlying5 (by kernel_rfl) (fun j hj => by
    rcases (show j = 0 ∨ j = 1 by simp at hj; omega) with rfl | rfl
    · exact c0
    · rw [addr_add]
      show w.cell? ⟨b, o + 1, none⟩ = some (.int .u8 ((UInt8.ofNat (48 + k)).toNat : Int))
      rw [e]
      exact c1)
  exact h
set_option maxRecDepth 100000 in
theorem cost_fine (PB b o n c k : Nat) (h s : Value) (w : World) (hn : 2 ≤ n) (hn2 : n ≤ c) (hn3 : c ≤ 9223372036854775807) (h4 : 4 ≤ k) (h6 : k ≤ 6) (hp : HRow w PB h s 0 50 97) (_hne : b ≠ PB)
    (c0 : w.cell? ⟨b, o, none⟩ = some (.int .u8 48)) (c1 : w.cell? ⟨b, o + 1, none⟩ = some (.int .u8 ((48 + k : Nat) : Int))) :
    Calls Tryz.prog 49 #[.pointer (some ⟨PB, 0, none⟩), .slice (some ⟨b, o, none⟩) n c] w (CostPost PB h s k w) := by
  have kc := cost_text b o c k h6 w c0 c1
  have l2 : 2 ≤ c := by omega
  have call := atoi_any k h6 w
  have call2 := fun w1 : World => checkCost_fine k h4 h6 w1
  obtain ⟨str, hstr⟩ : ∃ str, str = (⟨#[48, UInt8.ofNat (48 + k)]⟩ : ByteArray) := ⟨_, rfl⟩
  rw [← hstr] at kc call
  clear hstr c0 c1
  have Call := Lib.hid call; clear call
  have Call2 := Lib.hid call2; clear call2
  unfold HRow at hp
  have Hp := Lib.hid hp; clear hp
  go_enter Tryz.func49, Tryz.ntmps49
  go_wp2_with fail
  refine Call.out.mono ?_
  rintro e w1 ⟨rfl, hb⟩
  clear kc
  have hp1 : w1.heap[PB]? = some (.cells #[h, s, .int .i64 0, .int .u8 50, .int .u8 97] 74 (0, 0)) := by rw [hb.block _ (Array.getElem?_eq_some_iff.1 Hp.out).1]; exact Hp.out
  have k2 : w1.cell? ⟨PB, 2, none⟩ = some (.int .i64 0) := cell_row hp1 rfl
  have f2 := frozen_row hp1 2
  have Hb := Lib.hid hb; clear hb
  have Hp1 := Lib.hid hp1; clear hp1
  go_wp2_with fail
  refine (Call2.out w1).mono ?_
  rintro e w2 ⟨rfl, rfl⟩
  go_wp2_with fail
  go_ret2
  refine ⟨rfl, But.setCell (S := (· = PB)) (p := ⟨PB, 2, none⟩) (But.of_below Hb.out) (fun _ => rfl) _, ?_⟩
  exact setCell_row _ PB 2 _ 74 (0, 0) _ Hp1.out
set_option maxRecDepth 100000 in
theorem cost_low (p : Value) (b o n c k : Nat) (w : World) (hn : 2 ≤ n) (hn2 : n ≤ c) (hn3 : c ≤ 9223372036854775807) (h4 : k < 4)
    (c0 : w.cell? ⟨b, o, none⟩ = some (.int .u8 48)) (c1 : w.cell? ⟨b, o + 1, none⟩ = some (.int .u8 ((48 + k : Nat) : Int))) :
    Calls Tryz.prog 49 #[p, .slice (some ⟨b, o, none⟩) n c] w (Ret w (.tuple #[.int .i64 (-1), .iface 64 (.int .i64 (k : Int))])) := by
  have kc := cost_text b o c k (by omega) w c0 c1
  have l2 : 2 ≤ c := by omega
  have call := atoi_any k (by omega) w
  have call2 := fun w1 : World => checkCost_low k h4 w1
  obtain ⟨str, hstr⟩ : ∃ str, str = (⟨#[48, UInt8.ofNat (48 + k)]⟩ : ByteArray) := ⟨_, rfl⟩
  rw [← hstr] at kc call
  clear hstr c0 c1
  have Call := Lib.hid call; clear call
  have Call2 := Lib.hid call2; clear call2
  go_enter Tryz.func49, Tryz.ntmps49
  go_wp2_with fail
  refine Call.out.mono ?_
  rintro e w1 ⟨rfl, hb⟩
  clear kc
  have Hb := Lib.hid hb; clear hb
  go_wp2_with fail
  refine (Call2.out w1).mono ?_
  rintro e w2 ⟨rfl, rfl⟩
  go_wp2_with fail
  go_ret2
  exact ⟨rfl, Hb.out⟩
end Go.Proofs.YthnhdfgonpbldaaGreatDoor
