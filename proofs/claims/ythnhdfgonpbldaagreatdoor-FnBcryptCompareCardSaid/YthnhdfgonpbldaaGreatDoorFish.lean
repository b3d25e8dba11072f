/- blowfish.encryptBlock: what it computes, by sixteen rounds of one function of the tables. (Written by wip/gen_fish.py.) -/
import Derived.Test.YthnhdfgonpbldaaGreatDoorBase
import Derived.Laws.BitsAllLaws
import Derived.Outline
namespace Go.Proofs.YthnhdfgonpbldaaGreatDoor
open Go.RowKit Go.Lib
/-- What the boxes make of a word, 'S' being the 1042 words of a cipher: 18 of p, then four boxes of 256. -/
def fF (S : Nat → Nat) (x : Nat) : Nat := ((((S (18 + x / 16777216) + S (274 + x / 65536 % 256)) % 4294967296) ^^^ S (530 + x / 256 % 256)) + S (786 + x % 256)) % 4294967296
def rnd (S : Nat → Nat) (k : Nat) (p : Nat × Nat) : Nat × Nat := (p.2 ^^^ (fF S p.1 ^^^ S (k + 1)), p.1)
def rnds (S : Nat → Nat) : Nat → Nat × Nat → Nat × Nat
  | 0, p => p
  | n + 1, p => rnd S n (rnds S n p)
/-- The block of two words. -/
def blk (S : Nat → Nat) (l r : Nat) : Nat × Nat := ((rnds S 16 (l ^^^ S 0, r)).2 ^^^ S 17, (rnds S 16 (l ^^^ S 0, r)).1)
theorem fF_lt (S : Nat → Nat) (x : Nat) : fF S x < 4294967296 := Nat.mod_lt _ (by decide)
theorem xor_lt32 {a b : Nat} (ha : a < 4294967296) (hb : b < 4294967296) : a ^^^ b < 4294967296 := Nat.xor_lt_two_pow (n := 32) ha hb
structure Words (S : Nat → Nat) (B : Nat) (w : World) : Prop where
  lt : ∀ j, S j < 4294967296
  cell : ∀ j, j < 1042 → w.cell? ⟨B, j, none⟩ = some (.int .u32 (S j : Int))
/-- One round's numbers, by names: what is loaded, and what each operation makes. -/
theorem round_names (S : Nat → Nat) (hS : ∀ j, S j < 4294967296) (k x z : Nat) (hz : z < 4294967296) :
    ∃ u1 u2 u3 u4 up t1 t2 t3 t4 y : Nat, S (18 + x / 16777216) = u1 ∧ S (274 + x / 65536 % 256) = u2 ∧ S (530 + x / 256 % 256) = u3 ∧ S (786 + x % 256) = u4 ∧ S (k + 1) = up ∧
      ((u1 : Int) + (u2 : Int)) % 4294967296 = (t1 : Int) ∧ bits .xor .u32 (t1 : Int) (u3 : Int) = (t2 : Int) ∧ ((t2 : Int) + (u4 : Int)) % 4294967296 = (t3 : Int) ∧ bits .xor .u32 (t3 : Int) (up : Int) = (t4 : Int) ∧
      bits .xor .u32 (z : Int) (t4 : Int) = (y : Int) ∧ y < 4294967296 ∧ rnd S k (x, z) = (y, x) := by
  have h1 := hS (18 + x / 16777216)
  have h2 := hS (274 + x / 65536 % 256)
  have h3 := hS (530 + x / 256 % 256)
  have h4 := hS (786 + x % 256)
  have h5 := hS (k + 1)
  have a1 : (S (18 + x / 16777216) + S (274 + x / 65536 % 256)) % 4294967296 < 4294967296 := Nat.mod_lt _ (by decide)
  have a2 := xor_lt32 a1 h3
  have a3 := fF_lt S x
  have a4 := xor_lt32 a3 h5
  refine ⟨_, _, _, _, _, (S (18 + x / 16777216) + S (274 + x / 65536 % 256)) % 4294967296, _, fF S x, fF S x ^^^ S (k + 1), z ^^^ (fF S x ^^^ S (k + 1)), rfl, rfl, rfl, rfl, rfl, by omega, u32_xor_nat _ _ a1 h3, ?_, u32_xor_nat _ _ a3 h5, u32_xor_nat _ _ hz a4, xor_lt32 hz a4, rfl⟩
  unfold fF
  omega
def BlkPost (S : Nat → Nat) (l r : Nat) (w : World) (e : Ending) (w' : World) : Prop := e = .returned (.tuple #[.int .u32 ((blk S l r).1 : Int), .int .u32 ((blk S l r).2 : Int)]) ∧ ∃ m, w' = w.drewN m

set_option maxRecDepth 100000 in
set_option maxHeartbeats 4000000 in
theorem encBlock (S : Nat → Nat) (B : Nat) (w : World) (l r : Nat) (hl : l < 4294967296) (hr : r < 4294967296) (h : Words S B w) :
    Calls Tryz.prog 67 #[.int .u32 (l : Int), .int .u32 (r : Int), .pointer (some ⟨B, 0, none⟩)] w (BlkPost S l r w) := by
  have hS := h.lt
  have hc := h.cell
  have cp0 := hc 0 (by omega)
  have cp17 := hc 17 (by omega)
  obtain ⟨a0, ha0⟩ : ∃ a0, l ^^^ S 0 = a0 := ⟨_, rfl⟩
  have la0 : a0 < 4294967296 := ha0 ▸ xor_lt32 hl (hS 0)
  have e0 : bits .xor .u32 (l : Int) (S 0 : Int) = (a0 : Int) := by rw [← ha0]; exact u32_xor_nat _ _ hl (hS 0)
  have Ha0 := Lib.hid ha0; clear ha0
  have HS := Lib.hid hS; clear hS
  have Hc := Lib.hid hc; clear hc
  have Hl := Lib.hid hl; clear hl
  have Hr := Lib.hid hr
  have Hh := Lib.hid h; clear h
  go_enter Tryz.func67, Tryz.ntmps67
  go_wp2_with fail
  clear e0
  -- round 0
  have k1 := Hc.out (18 + a0 / 16777216) (by omega)
  have k2 := Hc.out (274 + a0 / 65536 % 256) (by omega)
  have k3 := Hc.out (530 + a0 / 256 % 256) (by omega)
  have k4 := Hc.out (786 + a0 % 256) (by omega)
  have k5 := Hc.out (0 + 1) (by omega)
  obtain ⟨u1, u2, u3, u4, up, t1, t2, t3, t4, a1, q1, q2, q3, q4, q5, f1, f2, f3, f4, f5, la1, hy0⟩ := round_names S HS.out 0 a0 r hr
  rw [q1] at k1
  rw [q2] at k2
  rw [q3] at k3
  rw [q4] at k4
  rw [q5] at k5
  clear q1 q2 q3 q4 q5
  have Hy0 := Lib.hid hy0; clear hy0

  go_quiet (fail)
  go_wp2_with fail
  clear k1 k2 k3 k4 k5 f1 f2 f3 f4 f5
  -- round 1
  have k1 := Hc.out (18 + a1 / 16777216) (by omega)
  have k2 := Hc.out (274 + a1 / 65536 % 256) (by omega)
  have k3 := Hc.out (530 + a1 / 256 % 256) (by omega)
  have k4 := Hc.out (786 + a1 % 256) (by omega)
  have k5 := Hc.out (1 + 1) (by omega)
  obtain ⟨u1, u2, u3, u4, up, t1, t2, t3, t4, a2, q1, q2, q3, q4, q5, f1, f2, f3, f4, f5, la2, hy1⟩ := round_names S HS.out 1 a1 a0 la0
  rw [q1] at k1
  rw [q2] at k2
  rw [q3] at k3
  rw [q4] at k4
  rw [q5] at k5
  clear q1 q2 q3 q4 q5
  have Hy1 := Lib.hid hy1; clear hy1

  go_quiet (fail)
  go_wp2_with fail
  clear k1 k2 k3 k4 k5 f1 f2 f3 f4 f5
  -- round 2
  have k1 := Hc.out (18 + a2 / 16777216) (by omega)
  have k2 := Hc.out (274 + a2 / 65536 % 256) (by omega)
  have k3 := Hc.out (530 + a2 / 256 % 256) (by omega)
  have k4 := Hc.out (786 + a2 % 256) (by omega)
  have k5 := Hc.out (2 + 1) (by omega)
  obtain ⟨u1, u2, u3, u4, up, t1, t2, t3, t4, a3, q1, q2, q3, q4, q5, f1, f2, f3, f4, f5, la3, hy2⟩ := round_names S HS.out 2 a2 a1 la1
  rw [q1] at k1
  rw [q2] at k2
  rw [q3] at k3
  rw [q4] at k4
  rw [q5] at k5
  clear q1 q2 q3 q4 q5
  have Hy2 := Lib.hid hy2; clear hy2

  go_quiet (fail)
  go_wp2_with fail
  clear k1 k2 k3 k4 k5 f1 f2 f3 f4 f5
  as_aux_lemma =>
    -- round 3
    have k1 := Hc.out (18 + a3 / 16777216) (by omega)
    have k2 := Hc.out (274 + a3 / 65536 % 256) (by omega)
    have k3 := Hc.out (530 + a3 / 256 % 256) (by omega)
    have k4 := Hc.out (786 + a3 % 256) (by omega)
    have k5 := Hc.out (3 + 1) (by omega)
    obtain ⟨u1, u2, u3, u4, up, t1, t2, t3, t4, a4, q1, q2, q3, q4, q5, f1, f2, f3, f4, f5, la4, hy3⟩ := round_names S HS.out 3 a3 a2 la2
    rw [q1] at k1
    rw [q2] at k2
    rw [q3] at k3
    rw [q4] at k4
    rw [q5] at k5
    clear q1 q2 q3 q4 q5
    have Hy3 := Lib.hid hy3; clear hy3

    go_quiet (fail)
    go_wp2_with fail
    clear k1 k2 k3 k4 k5 f1 f2 f3 f4 f5
    -- round 4
    have k1 := Hc.out (18 + a4 / 16777216) (by omega)
    have k2 := Hc.out (274 + a4 / 65536 % 256) (by omega)
    have k3 := Hc.out (530 + a4 / 256 % 256) (by omega)
    have k4 := Hc.out (786 + a4 % 256) (by omega)
    have k5 := Hc.out (4 + 1) (by omega)
    obtain ⟨u1, u2, u3, u4, up, t1, t2, t3, t4, a5, q1, q2, q3, q4, q5, f1, f2, f3, f4, f5, la5, hy4⟩ := round_names S HS.out 4 a4 a3 la3
    rw [q1] at k1
    rw [q2] at k2
    rw [q3] at k3
    rw [q4] at k4
    rw [q5] at k5
    clear q1 q2 q3 q4 q5
    have Hy4 := Lib.hid hy4; clear hy4

    go_quiet (fail)
    go_wp2_with fail
    clear k1 k2 k3 k4 k5 f1 f2 f3 f4 f5
    -- round 5
    have k1 := Hc.out (18 + a5 / 16777216) (by omega)
    have k2 := Hc.out (274 + a5 / 65536 % 256) (by omega)
    have k3 := Hc.out (530 + a5 / 256 % 256) (by omega)
    have k4 := Hc.out (786 + a5 % 256) (by omega)
    have k5 := Hc.out (5 + 1) (by omega)
    obtain ⟨u1, u2, u3, u4, up, t1, t2, t3, t4, a6, q1, q2, q3, q4, q5, f1, f2, f3, f4, f5, la6, hy5⟩ := round_names S HS.out 5 a5 a4 la4
    rw [q1] at k1
    rw [q2] at k2
    rw [q3] at k3
    rw [q4] at k4
    rw [q5] at k5
    clear q1 q2 q3 q4 q5
    have Hy5 := Lib.hid hy5; clear hy5

    go_quiet (fail)
    go_wp2_with fail
    clear k1 k2 k3 k4 k5 f1 f2 f3 f4 f5
    as_aux_lemma =>
      -- round 6
      have k1 := Hc.out (18 + a6 / 16777216) (by omega)
      have k2 := Hc.out (274 + a6 / 65536 % 256) (by omega)
      have k3 := Hc.out (530 + a6 / 256 % 256) (by omega)
      have k4 := Hc.out (786 + a6 % 256) (by omega)
      have k5 := Hc.out (6 + 1) (by omega)
      obtain ⟨u1, u2, u3, u4, up, t1, t2, t3, t4, a7, q1, q2, q3, q4, q5, f1, f2, f3, f4, f5, la7, hy6⟩ := round_names S HS.out 6 a6 a5 la5
      rw [q1] at k1
      rw [q2] at k2
      rw [q3] at k3
      rw [q4] at k4
      rw [q5] at k5
      clear q1 q2 q3 q4 q5
      have Hy6 := Lib.hid hy6; clear hy6

      go_quiet (fail)
      go_wp2_with fail
      clear k1 k2 k3 k4 k5 f1 f2 f3 f4 f5
      -- round 7
      have k1 := Hc.out (18 + a7 / 16777216) (by omega)
      have k2 := Hc.out (274 + a7 / 65536 % 256) (by omega)
      have k3 := Hc.out (530 + a7 / 256 % 256) (by omega)
      have k4 := Hc.out (786 + a7 % 256) (by omega)
      have k5 := Hc.out (7 + 1) (by omega)
      obtain ⟨u1, u2, u3, u4, up, t1, t2, t3, t4, a8, q1, q2, q3, q4, q5, f1, f2, f3, f4, f5, la8, hy7⟩ := round_names S HS.out 7 a7 a6 la6
      rw [q1] at k1
      rw [q2] at k2
      rw [q3] at k3
      rw [q4] at k4
      rw [q5] at k5
      clear q1 q2 q3 q4 q5
      have Hy7 := Lib.hid hy7; clear hy7

      go_quiet (fail)
      go_wp2_with fail
      clear k1 k2 k3 k4 k5 f1 f2 f3 f4 f5
      -- round 8
      have k1 := Hc.out (18 + a8 / 16777216) (by omega)
      have k2 := Hc.out (274 + a8 / 65536 % 256) (by omega)
      have k3 := Hc.out (530 + a8 / 256 % 256) (by omega)
      have k4 := Hc.out (786 + a8 % 256) (by omega)
      have k5 := Hc.out (8 + 1) (by omega)
      obtain ⟨u1, u2, u3, u4, up, t1, t2, t3, t4, a9, q1, q2, q3, q4, q5, f1, f2, f3, f4, f5, la9, hy8⟩ := round_names S HS.out 8 a8 a7 la7
      rw [q1] at k1
      rw [q2] at k2
      rw [q3] at k3
      rw [q4] at k4
      rw [q5] at k5
      clear q1 q2 q3 q4 q5
      have Hy8 := Lib.hid hy8; clear hy8

      go_quiet (fail)
      go_wp2_with fail
      clear k1 k2 k3 k4 k5 f1 f2 f3 f4 f5
      as_aux_lemma =>
        -- round 9
        have k1 := Hc.out (18 + a9 / 16777216) (by omega)
        have k2 := Hc.out (274 + a9 / 65536 % 256) (by omega)
        have k3 := Hc.out (530 + a9 / 256 % 256) (by omega)
        have k4 := Hc.out (786 + a9 % 256) (by omega)
        have k5 := Hc.out (9 + 1) (by omega)
        obtain ⟨u1, u2, u3, u4, up, t1, t2, t3, t4, a10, q1, q2, q3, q4, q5, f1, f2, f3, f4, f5, la10, hy9⟩ := round_names S HS.out 9 a9 a8 la8
        rw [q1] at k1
        rw [q2] at k2
        rw [q3] at k3
        rw [q4] at k4
        rw [q5] at k5
        clear q1 q2 q3 q4 q5
        have Hy9 := Lib.hid hy9; clear hy9

        go_quiet (fail)
        go_wp2_with fail
        clear k1 k2 k3 k4 k5 f1 f2 f3 f4 f5
        -- round 10
        have k1 := Hc.out (18 + a10 / 16777216) (by omega)
        have k2 := Hc.out (274 + a10 / 65536 % 256) (by omega)
        have k3 := Hc.out (530 + a10 / 256 % 256) (by omega)
        have k4 := Hc.out (786 + a10 % 256) (by omega)
        have k5 := Hc.out (10 + 1) (by omega)
        obtain ⟨u1, u2, u3, u4, up, t1, t2, t3, t4, a11, q1, q2, q3, q4, q5, f1, f2, f3, f4, f5, la11, hy10⟩ := round_names S HS.out 10 a10 a9 la9
        rw [q1] at k1
        rw [q2] at k2
        rw [q3] at k3
        rw [q4] at k4
        rw [q5] at k5
        clear q1 q2 q3 q4 q5
        have Hy10 := Lib.hid hy10; clear hy10

        go_quiet (fail)
        go_wp2_with fail
        clear k1 k2 k3 k4 k5 f1 f2 f3 f4 f5
        -- round 11
        have k1 := Hc.out (18 + a11 / 16777216) (by omega)
        have k2 := Hc.out (274 + a11 / 65536 % 256) (by omega)
        have k3 := Hc.out (530 + a11 / 256 % 256) (by omega)
        have k4 := Hc.out (786 + a11 % 256) (by omega)
        have k5 := Hc.out (11 + 1) (by omega)
        obtain ⟨u1, u2, u3, u4, up, t1, t2, t3, t4, a12, q1, q2, q3, q4, q5, f1, f2, f3, f4, f5, la12, hy11⟩ := round_names S HS.out 11 a11 a10 la10
        rw [q1] at k1
        rw [q2] at k2
        rw [q3] at k3
        rw [q4] at k4
        rw [q5] at k5
        clear q1 q2 q3 q4 q5
        have Hy11 := Lib.hid hy11; clear hy11

        go_quiet (fail)
        go_wp2_with fail
        clear k1 k2 k3 k4 k5 f1 f2 f3 f4 f5
        as_aux_lemma =>
          -- round 12
          have k1 := Hc.out (18 + a12 / 16777216) (by omega)
          have k2 := Hc.out (274 + a12 / 65536 % 256) (by omega)
          have k3 := Hc.out (530 + a12 / 256 % 256) (by omega)
          have k4 := Hc.out (786 + a12 % 256) (by omega)
          have k5 := Hc.out (12 + 1) (by omega)
          obtain ⟨u1, u2, u3, u4, up, t1, t2, t3, t4, a13, q1, q2, q3, q4, q5, f1, f2, f3, f4, f5, la13, hy12⟩ := round_names S HS.out 12 a12 a11 la11
          rw [q1] at k1
          rw [q2] at k2
          rw [q3] at k3
          rw [q4] at k4
          rw [q5] at k5
          clear q1 q2 q3 q4 q5
          have Hy12 := Lib.hid hy12; clear hy12

          go_quiet (fail)
          go_wp2_with fail
          clear k1 k2 k3 k4 k5 f1 f2 f3 f4 f5
          -- round 13
          have k1 := Hc.out (18 + a13 / 16777216) (by omega)
          have k2 := Hc.out (274 + a13 / 65536 % 256) (by omega)
          have k3 := Hc.out (530 + a13 / 256 % 256) (by omega)
          have k4 := Hc.out (786 + a13 % 256) (by omega)
          have k5 := Hc.out (13 + 1) (by omega)
          obtain ⟨u1, u2, u3, u4, up, t1, t2, t3, t4, a14, q1, q2, q3, q4, q5, f1, f2, f3, f4, f5, la14, hy13⟩ := round_names S HS.out 13 a13 a12 la12
          rw [q1] at k1
          rw [q2] at k2
          rw [q3] at k3
          rw [q4] at k4
          rw [q5] at k5
          clear q1 q2 q3 q4 q5
          have Hy13 := Lib.hid hy13; clear hy13

          go_quiet (fail)
          go_wp2_with fail
          clear k1 k2 k3 k4 k5 f1 f2 f3 f4 f5
          -- round 14
          have k1 := Hc.out (18 + a14 / 16777216) (by omega)
          have k2 := Hc.out (274 + a14 / 65536 % 256) (by omega)
          have k3 := Hc.out (530 + a14 / 256 % 256) (by omega)
          have k4 := Hc.out (786 + a14 % 256) (by omega)
          have k5 := Hc.out (14 + 1) (by omega)
          obtain ⟨u1, u2, u3, u4, up, t1, t2, t3, t4, a15, q1, q2, q3, q4, q5, f1, f2, f3, f4, f5, la15, hy14⟩ := round_names S HS.out 14 a14 a13 la13
          rw [q1] at k1
          rw [q2] at k2
          rw [q3] at k3
          rw [q4] at k4
          rw [q5] at k5
          clear q1 q2 q3 q4 q5
          have Hy14 := Lib.hid hy14; clear hy14

          go_quiet (fail)
          go_wp2_with fail
          clear k1 k2 k3 k4 k5 f1 f2 f3 f4 f5
          obtain ⟨b, hb⟩ : ∃ b, a15 ^^^ S 17 = b := ⟨_, rfl⟩
          have e17 : bits .xor .u32 (a15 : Int) (S 17 : Int) = (b : Int) := by rw [← hb]; exact u32_xor_nat _ _ la15 (HS.out 17)
          have Hb := Lib.hid hb; clear hb
          as_aux_lemma =>
            -- round 15
            have k1 := Hc.out (18 + a15 / 16777216) (by omega)
            have k2 := Hc.out (274 + a15 / 65536 % 256) (by omega)
            have k3 := Hc.out (530 + a15 / 256 % 256) (by omega)
            have k4 := Hc.out (786 + a15 % 256) (by omega)
            have k5 := Hc.out (15 + 1) (by omega)
            obtain ⟨u1, u2, u3, u4, up, t1, t2, t3, t4, a16, q1, q2, q3, q4, q5, f1, f2, f3, f4, f5, la16, hy15⟩ := round_names S HS.out 15 a15 a14 la14
            rw [q1] at k1
            rw [q2] at k2
            rw [q3] at k3
            rw [q4] at k4
            rw [q5] at k5
            clear q1 q2 q3 q4 q5
            have Hy15 := Lib.hid hy15; clear hy15

            go_quiet (fail)
            go_wp2_with fail
            clear k1 k2 k3 k4 k5 f1 f2 f3 f4 f5
            have e16 : rnds S 16 (a0, r) = (a16, a15) := by
              show (rnd S 15 (rnd S 14 (rnd S 13 (rnd S 12 (rnd S 11 (rnd S 10 (rnd S 9 (rnd S 8 (rnd S 7 (rnd S 6 (rnd S 5 (rnd S 4 (rnd S 3 (rnd S 2 (rnd S 1 (rnd S 0 (a0, r))))))))))))))))) = _
              rw [Hy0.out, Hy1.out, Hy2.out, Hy3.out, Hy4.out, Hy5.out, Hy6.out, Hy7.out, Hy8.out, Hy9.out, Hy10.out, Hy11.out, Hy12.out, Hy13.out, Hy14.out, Hy15.out]
            have eb : blk S l r = (b, a16) := by
              unfold blk
              rw [Ha0.out, e16]
              show (a15 ^^^ S 17, a16) = _
              rw [Hb.out]
            have He := Lib.hid eb; clear eb e16
            go_ret2
            unfold BlkPost
            rw [He.out]
            exact ⟨rfl, _, rfl⟩
end Go.Proofs.YthnhdfgonpbldaaGreatDoor
