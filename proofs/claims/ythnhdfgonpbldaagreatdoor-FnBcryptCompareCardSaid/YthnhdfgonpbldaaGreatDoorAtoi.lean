/- strconv.Atoi at the texts 00 to 06. (Written by wip/gen_atoi.py.) -/
import Derived.Test.YthnhdfgonpbldaaGreatDoorBase
import Derived.Laws.IdiomStrings
import Derived.Outline
namespace Go.Proofs.YthnhdfgonpbldaaGreatDoor
open Go.RowKit Go.Lib
def AtoiPost (n : Int) (w : World) (e : Ending) (w' : World) : Prop := e = .returned (.tuple #[.int .i64 n, .nilIface]) ∧ Below w.heap.size w w'
/-- The bytes of a text of two, as the model makes them. -/
theorem bytes_two (a b : UInt8) (w : World) : ∃ cap W, (convert 9 22 (.string ⟨#[a, b]⟩)).run Tryz.prog w = .ok (.slice (some ⟨w.heap.size, 0, none⟩) 2 cap) W ∧ Below w.heap.size w W ∧
    W.cell? ⟨w.heap.size, 0, none⟩ = some (.int .u8 (a.toNat : Int)) ∧ W.cell? ⟨w.heap.size, 1, none⟩ = some (.int .u8 (b.toNat : Int)) := by
  refine ⟨_, _, run_bytes_of_string w 9 22 5 ⟨#[a, b]⟩ (by kernel_rfl) Tryz.underlying22 Tryz.underlying5, ?_, ?_, ?_⟩
  · exact ⟨rfl, rfl, rfl, by simp, fun k hk => Below.heap_alloc _ _ _ hk⟩
  · exact cell_row (heap_alloc_at w.drew _) (bytesRow_at ⟨#[a, b]⟩ _ 0 (by show 0 < 2; omega))
  · exact cell_row (heap_alloc_at w.drew _) (bytesRow_at ⟨#[a, b]⟩ _ 1 (by show 1 < 2; omega))
set_option maxRecDepth 100000 in
theorem atoi_in0 (w : World) : Calls Tryz.prog 71 #[.string ⟨#[48, 48]⟩] w (AtoiPost 0 w) := by
  obtain ⟨cap, W, kc, hb, c0, c1⟩ := bytes_two 48 48 w
  have c0 : W.cell? ⟨w.heap.size, 0, none⟩ = some (.int .u8 48) := c0
  have c1 : W.cell? ⟨w.heap.size, 1, none⟩ = some (.int .u8 48) := c1
  have Hb := Lib.hid hb; clear hb
  go_enter Tryz.func71, Tryz.ntmps71
  go_wp2_with fail
  refine wp_loop_rounds 3 ?_
  rw [rounds_succ]
  go_wp2_with fail
  rw [rounds_succ]
  go_wp2_with fail
  rw [rounds_succ]
  go_wp2_with fail
  go_ret2
  exact ⟨rfl, Hb.out⟩
set_option maxRecDepth 100000 in
theorem atoi_in1 (w : World) : Calls Tryz.prog 71 #[.string ⟨#[48, 49]⟩] w (AtoiPost 1 w) := by
  obtain ⟨cap, W, kc, hb, c0, c1⟩ := bytes_two 48 49 w
  have c0 : W.cell? ⟨w.heap.size, 0, none⟩ = some (.int .u8 48) := c0
  have c1 : W.cell? ⟨w.heap.size, 1, none⟩ = some (.int .u8 49) := c1
  have Hb := Lib.hid hb; clear hb
  go_enter Tryz.func71, Tryz.ntmps71
  go_wp2_with fail
  refine wp_loop_rounds 3 ?_
  rw [rounds_succ]
  go_wp2_with fail
  rw [rounds_succ]
  go_wp2_with fail
  rw [rounds_succ]
  go_wp2_with fail
  go_ret2
  exact ⟨rfl, Hb.out⟩
set_option maxRecDepth 100000 in
theorem atoi_in2 (w : World) : Calls Tryz.prog 71 #[.string ⟨#[48, 50]⟩] w (AtoiPost 2 w) := by
  obtain ⟨cap, W, kc, hb, c0, c1⟩ := bytes_two 48 50 w
  have c0 : W.cell? ⟨w.heap.size, 0, none⟩ = some (.int .u8 48) := c0
  have c1 : W.cell? ⟨w.heap.size, 1, none⟩ = some (.int .u8 50) := c1
  have Hb := Lib.hid hb; clear hb
  go_enter Tryz.func71, Tryz.ntmps71
  go_wp2_with fail
  refine wp_loop_rounds 3 ?_
  rw [rounds_succ]
  go_wp2_with fail
  rw [rounds_succ]
  go_wp2_with fail
  rw [rounds_succ]
  go_wp2_with fail
  go_ret2
  exact ⟨rfl, Hb.out⟩
set_option maxRecDepth 100000 in
theorem atoi_in3 (w : World) : Calls Tryz.prog 71 #[.string ⟨#[48, 51]⟩] w (AtoiPost 3 w) := by
  obtain ⟨cap, W, kc, hb, c0, c1⟩ := bytes_two 48 51 w
  have c0 : W.cell? ⟨w.heap.size, 0, none⟩ = some (.int .u8 48) := c0
  have c1 : W.cell? ⟨w.heap.size, 1, none⟩ = some (.int .u8 51) := c1
  have Hb := Lib.hid hb; clear hb
  go_enter Tryz.func71, Tryz.ntmps71
  go_wp2_with fail
  refine wp_loop_rounds 3 ?_
  rw [rounds_succ]
  go_wp2_with fail
  rw [rounds_succ]
  go_wp2_with fail
  rw [rounds_succ]
  go_wp2_with fail
  go_ret2
  exact ⟨rfl, Hb.out⟩
set_option maxRecDepth 100000 in
theorem atoi_in4 (w : World) : Calls Tryz.prog 71 #[.string ⟨#[48, 52]⟩] w (AtoiPost 4 w) := by
  obtain ⟨cap, W, kc, hb, c0, c1⟩ := bytes_two 48 52 w
  have c0 : W.cell? ⟨w.heap.size, 0, none⟩ = some (.int .u8 48) := c0
  have c1 : W.cell? ⟨w.heap.size, 1, none⟩ = some (.int .u8 52) := c1
  have Hb := Lib.hid hb; clear hb
  go_enter Tryz.func71, Tryz.ntmps71
  go_wp2_with fail
  refine wp_loop_rounds 3 ?_
  rw [rounds_succ]
  go_wp2_with fail
  rw [rounds_succ]
  go_wp2_with fail
  rw [rounds_succ]
  go_wp2_with fail
  go_ret2
  exact ⟨rfl, Hb.out⟩
set_option maxRecDepth 100000 in
theorem atoi_in5 (w : World) : Calls Tryz.prog 71 #[.string ⟨#[48, 53]⟩] w (AtoiPost 5 w) := by
  obtain ⟨cap, W, kc, hb, c0, c1⟩ := bytes_two 48 53 w
  have c0 : W.cell? ⟨w.heap.size, 0, none⟩ = some (.int .u8 48) := c0
  have c1 : W.cell? ⟨w.heap.size, 1, none⟩ = some (.int .u8 53) := c1
  have Hb := Lib.hid hb; clear hb
  go_enter Tryz.func71, Tryz.ntmps71
  go_wp2_with fail
  refine wp_loop_rounds 3 ?_
  rw [rounds_succ]
  go_wp2_with fail
  rw [rounds_succ]
  go_wp2_with fail
  rw [rounds_succ]
  go_wp2_with fail
  go_ret2
  exact ⟨rfl, Hb.out⟩
set_option maxRecDepth 100000 in
theorem atoi_in6 (w : World) : Calls Tryz.prog 71 #[.string ⟨#[48, 54]⟩] w (AtoiPost 6 w) := by
  obtain ⟨cap, W, kc, hb, c0, c1⟩ := bytes_two 48 54 w
  have c0 : W.cell? ⟨w.heap.size, 0, none⟩ = some (.int .u8 48) := c0
  have c1 : W.cell? ⟨w.heap.size, 1, none⟩ = some (.int .u8 54) := c1
  have Hb := Lib.hid hb; clear hb
  go_enter Tryz.func71, Tryz.ntmps71
  go_wp2_with fail
  refine wp_loop_rounds 3 ?_
  rw [rounds_succ]
  go_wp2_with fail
  rw [rounds_succ]
  go_wp2_with fail
  rw [rounds_succ]
  go_wp2_with fail
  go_ret2
  exact ⟨rfl, Hb.out⟩
theorem atoi_of (n : Nat) (d : UInt8) (w : World) (h : ∀ w, Calls Tryz.prog 71 #[.string ⟨#[48, d]⟩] w (AtoiPost n w)) : Calls Tryz.prog 62 #[.string ⟨#[48, d]⟩] w (AtoiPost n w) := by
  have H := Lib.hid (h w); clear h
  go_enter Tryz.func62, Tryz.ntmps62
  go_wp2_with fail
  refine H.out.mono ?_
  rintro e w1 ⟨rfl, hb⟩
  have Hb := Lib.hid hb; clear hb
  go_wp2_with fail
  go_ret2
  exact ⟨rfl, Hb.out⟩
theorem atoi_any (n : Nat) (hn : n ≤ 6) (w : World) : Calls Tryz.prog 62 #[.string ⟨#[48, UInt8.ofNat (48 + n)]⟩] w (AtoiPost n w) := by
  rcases (show n = 0 ∨ n = 1 ∨ n = 2 ∨ n = 3 ∨ n = 4 ∨ n = 5 ∨ n = 6 by omega) with rfl | rfl | rfl | rfl | rfl | rfl | rfl
  · exact atoi_of 0 48 w atoi_in0
  · exact atoi_of 1 49 w atoi_in1
  · exact atoi_of 2 50 w atoi_in2
  · exact atoi_of 3 51 w atoi_in3
  · exact atoi_of 4 52 w atoi_in4
  · exact atoi_of 5 53 w atoi_in5
  · exact atoi_of 6 54 w atoi_in6
end Go.Proofs.YthnhdfgonpbldaaGreatDoor
