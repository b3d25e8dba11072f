/- bcrypt's twoDigits and checkCost at the costs 4 to 6; decodeCost and decodeVersion where they succeed. (Written by wip/gen_digs.py.) -/
import Derived.Test.YthnhdfgonpbldaaGreatDoorAtoi
import Derived.Test.YthnhdfgonpbldaaGreatDoorRefuse
import Derived.Lib.SlBytesRow
import Derived.Outline
namespace Go.Proofs.YthnhdfgonpbldaaGreatDoor
open Go.RowKit Go.Lib
def StrIs (s : ByteArray) (w : World) (e : Ending) (w' : World) : Prop := e = .returned (.string s) ∧ w' = w
set_option maxRecDepth 100000 in
theorem digits4 (w : World) : Calls Tryz.prog 53 #[.int .i64 4] w (StrIs ⟨#[48, 52]⟩ w) := by
  go_enter Tryz.func53, Tryz.ntmps53
  go_wp2
  go_ret
  exact ⟨rfl, rfl⟩
set_option maxRecDepth 100000 in
theorem digits5 (w : World) : Calls Tryz.prog 53 #[.int .i64 5] w (StrIs ⟨#[48, 53]⟩ w) := by
  go_enter Tryz.func53, Tryz.ntmps53
  go_wp2
  go_ret
  exact ⟨rfl, rfl⟩
set_option maxRecDepth 100000 in
theorem digits6 (w : World) : Calls Tryz.prog 53 #[.int .i64 6] w (StrIs ⟨#[48, 54]⟩ w) := by
  go_enter Tryz.func53, Tryz.ntmps53
  go_wp2
  go_ret
  exact ⟨rfl, rfl⟩
theorem twoDigits_any (n : Nat) (h4 : 4 ≤ n) (h6 : n ≤ 6) (w : World) : Calls Tryz.prog 53 #[.int .i64 (n : Int)] w (StrIs ⟨#[48, UInt8.ofNat (48 + n)]⟩ w) := by
  rcases (show n = 4 ∨ n = 5 ∨ n = 6 by omega) with rfl | rfl | rfl
  · exact digits4 w
  · exact digits5 w
  · exact digits6 w
theorem checkCost_fine (n : Nat) (h4 : 4 ≤ n) (h6 : n ≤ 6) (w : World) : Calls Tryz.prog 63 #[.int .i64 (n : Int)] w fun e w' => e = .returned .nilIface ∧ w' = w := by
  have t1 : decide ((n : Int) < 4) = false := by simp; omega
  have t2 : decide ((31 : Int) < (n : Int)) = false := by simp; omega
  go_enter Tryz.func63, Tryz.ntmps63
  go_wp2
  go_ret
  exact ⟨rfl, rfl⟩
theorem checkCost_low (n : Nat) (h : n < 4) (w : World) : Calls Tryz.prog 63 #[.int .i64 (n : Int)] w fun e w' => e = .returned (.iface 64 (.int .i64 (n : Int))) ∧ w' = w := by
  have t1 : (n : Int) < 4 := by omega
  go_enter Tryz.func63, Tryz.ntmps63
  go_wp2
  go_ret
  exact ⟨rfl, rfl⟩
end Go.Proofs.YthnhdfgonpbldaaGreatDoor
