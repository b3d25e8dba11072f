/- encoding/base64's Decode at bcrypt's salt: 22 letters and two signs that fill them up; 16 bytes. (Written by wip/gen_dec.py.) -/
import Derived.Test.YthnhdfgonpbldaaGreatDoorQuan
import Derived.Test.YthnhdfgonpbldaaGreatDoorDecp
import Derived.Outline
import Derived.Deep.Cut
import Derived.Deep.CutBlock
namespace Go.Proofs.YthnhdfgonpbldaaGreatDoor
open Go.RowKit Go.Lib
def DecPost (g : Nat) (vs : List Nat) (cur : Array Value) (w : World) (e : Ending) (w' : World) : Prop :=
  e = .returned (.tuple #[.int .i64 16, .nilIface]) ∧ But (· = g) w w' ∧ w'.heap[g]? = some (.cells (decCur vs cur) 5 (0, 0))
set_option maxRecDepth 100000 in
set_option maxHeartbeats 16000000 in
theorem decode24 (B g b : Nat) (vs : List Nat) (cur : Array Value) (w : World) (hv : ∀ i, vs.getD i 0 < 64) (h6 : vs.getD 22 0 = 0) (h7 : vs.getD 23 0 = 0) (hs : cur.size = 18) (n1 : B ≠ g) (n2 : b ≠ g)
    (hB : w.heap[B]? = some (.cells (encA 64) 138 (0, 0))) (hg : w.heap[g]? = some (.cells cur 5 (0, 0)))
    (hc : ∀ i, i < 22 → w.cell? ⟨b, i, none⟩ = some (.int .u8 ((alN (vs.getD i 0) : Nat) : Int))) (h22 : w.cell? ⟨b, 22, none⟩ = some (.int .u8 61)) (h23 : w.cell? ⟨b, 23, none⟩ = some (.int .u8 61)) :
    Calls Tryz.prog 74 #[.pointer (some ⟨B, 0, none⟩), .slice (some ⟨g, 0, none⟩) 18 18, .slice (some ⟨b, 0, none⟩) 24 24] w (DecPost g vs cur w) := by
  have val : ∀ (W : World), But (· = g) w W → ∀ i, W.cell? ⟨B, 64 + alN (vs.getD i 0), none⟩ = some (.int .u8 ((vs.getD i 0 : Nat) : Int)) := fun W h i =>
    h.cell (cell_row hB (encA_val _ (hv i) 64 (hv i) (Nat.le_refl _))) n1
  have let' : ∀ (W : World), But (· = g) w W → ∀ i, i < 22 → W.cell? ⟨b, i, none⟩ = some (.int .u8 ((alN (vs.getD i 0) : Nat) : Int)) := fun W h i hi => h.cell (hc i hi) n2
  have Val := Lib.hid val; clear val
  have Let := Lib.hid let'; clear let' hc
  have Hv := Lib.hid hv; clear hv
  have H22 := Lib.hid h22; clear h22
  have H23 := Lib.hid h23; clear h23
  have H6 := Lib.hid h6; clear h6
  have H7 := Lib.hid h7; clear h7
  have HB := Lib.hid hB; clear hB
  have Hg := Lib.hid hg; clear hg
  have Hs := Lib.hid hs; clear hs
  have Hb := Lib.hid (But.refl (· = g) w)
  go_enter Tryz.func74, Tryz.ntmps74
  go_wp2_with fail
  refine wp_load_part 136 (.tmp 23) rfl B 64 rfl 138 (encA 64) decCells (0, 0) _ HB.out dec_part Tryz.underlying136 rfl size136 ?_
  obtain ⟨C2, hC2⟩ : ∃ C, C = putAll (putAll cur 0 (put64B (v64 (qv vs 0) (qv vs 1)))) 6 (put64B (v64 (qv vs 2) (qv vs 3))) := ⟨_, rfl⟩
  have HC2 := Lib.hid hC2; clear hC2
  go_upto_block 0 with fail
  go_cut [6, 7, 8] from 18 (fun n er si wx => n = .int .i64 12 ∧ er = .nilIface ∧ si = .int .i64 16 ∧ But (· = g) w wx ∧ wx.heap[g]? = some (.cells C2 5 (0, 0)))
  case first =>
    go_wp2_with fail
    refine wp_loop_rounds 3 ?_
    rw [rounds_succ]
    have c0 := Let.out _ Hb.out 0 (by omega)
    have k0 := Val.out _ Hb.out 0
    have l0 := (alN_facts _ (Hv.out 0)).1
    have m0 := Hv.out 0
    obtain ⟨v0, hv0⟩ : ∃ v, v = vs.getD 0 0 := ⟨_, rfl⟩
    rw [← hv0] at c0 k0 l0 m0
    obtain ⟨x0, hx0⟩ : ∃ x, x = alN v0 := ⟨_, rfl⟩
    rw [← hx0] at c0 k0 l0
    clear hx0
    have V0 := Lib.hid hv0; clear hv0
    have c1 := Let.out _ Hb.out 1 (by omega)
    have k1 := Val.out _ Hb.out 1
    have l1 := (alN_facts _ (Hv.out 1)).1
    have m1 := Hv.out 1
    obtain ⟨v1, hv1⟩ : ∃ v, v = vs.getD 1 0 := ⟨_, rfl⟩
    rw [← hv1] at c1 k1 l1 m1
    obtain ⟨x1, hx1⟩ : ∃ x, x = alN v1 := ⟨_, rfl⟩
    rw [← hx1] at c1 k1 l1
    clear hx1
    have V1 := Lib.hid hv1; clear hv1
    have c2 := Let.out _ Hb.out 2 (by omega)
    have k2 := Val.out _ Hb.out 2
    have l2 := (alN_facts _ (Hv.out 2)).1
    have m2 := Hv.out 2
    obtain ⟨v2, hv2⟩ : ∃ v, v = vs.getD 2 0 := ⟨_, rfl⟩
    rw [← hv2] at c2 k2 l2 m2
    obtain ⟨x2, hx2⟩ : ∃ x, x = alN v2 := ⟨_, rfl⟩
    rw [← hx2] at c2 k2 l2
    clear hx2
    have V2 := Lib.hid hv2; clear hv2
    have c3 := Let.out _ Hb.out 3 (by omega)
    have k3 := Val.out _ Hb.out 3
    have l3 := (alN_facts _ (Hv.out 3)).1
    have m3 := Hv.out 3
    obtain ⟨v3, hv3⟩ : ∃ v, v = vs.getD 3 0 := ⟨_, rfl⟩
    rw [← hv3] at c3 k3 l3 m3
    obtain ⟨x3, hx3⟩ : ∃ x, x = alN v3 := ⟨_, rfl⟩
    rw [← hx3] at c3 k3 l3
    clear hx3
    have V3 := Lib.hid hv3; clear hv3
    have c4 := Let.out _ Hb.out 4 (by omega)
    have k4 := Val.out _ Hb.out 4
    have l4 := (alN_facts _ (Hv.out 4)).1
    have m4 := Hv.out 4
    obtain ⟨v4, hv4⟩ : ∃ v, v = vs.getD 4 0 := ⟨_, rfl⟩
    rw [← hv4] at c4 k4 l4 m4
    obtain ⟨x4, hx4⟩ : ∃ x, x = alN v4 := ⟨_, rfl⟩
    rw [← hx4] at c4 k4 l4
    clear hx4
    have V4 := Lib.hid hv4; clear hv4
    have c5 := Let.out _ Hb.out 5 (by omega)
    have k5 := Val.out _ Hb.out 5
    have l5 := (alN_facts _ (Hv.out 5)).1
    have m5 := Hv.out 5
    obtain ⟨v5, hv5⟩ : ∃ v, v = vs.getD 5 0 := ⟨_, rfl⟩
    rw [← hv5] at c5 k5 l5 m5
    obtain ⟨x5, hx5⟩ : ∃ x, x = alN v5 := ⟨_, rfl⟩
    rw [← hx5] at c5 k5 l5
    clear hx5
    have V5 := Lib.hid hv5; clear hv5
    have c6 := Let.out _ Hb.out 6 (by omega)
    have k6 := Val.out _ Hb.out 6
    have l6 := (alN_facts _ (Hv.out 6)).1
    have m6 := Hv.out 6
    obtain ⟨v6, hv6⟩ : ∃ v, v = vs.getD 6 0 := ⟨_, rfl⟩
    rw [← hv6] at c6 k6 l6 m6
    obtain ⟨x6, hx6⟩ : ∃ x, x = alN v6 := ⟨_, rfl⟩
    rw [← hx6] at c6 k6 l6
    clear hx6
    have V6 := Lib.hid hv6; clear hv6
    have c7 := Let.out _ Hb.out 7 (by omega)
    have k7 := Val.out _ Hb.out 7
    have l7 := (alN_facts _ (Hv.out 7)).1
    have m7 := Hv.out 7
    obtain ⟨v7, hv7⟩ : ∃ v, v = vs.getD 7 0 := ⟨_, rfl⟩
    rw [← hv7] at c7 k7 l7 m7
    obtain ⟨x7, hx7⟩ : ∃ x, x = alN v7 := ⟨_, rfl⟩
    rw [← hx7] at c7 k7 l7
    clear hx7
    have V7 := Lib.hid hv7; clear hv7
    go_wp2_with fail
    refine wp_region_quiet_lit (by kernel_rfl) (by kernel_rfl) ?_
    conv => arg 2; dsimp only [List.append]
    conv => arg 5; dsimp only [List.append]
    repeat (go_big_quiet_step ((go_at_call 86; exact Calls.quiet_of_same (assemble64 v0 v1 v2 v3 v4 v5 v6 v7 _ m0 m1 m2 m3 m4 m5 m6 m7))))
    refine wpQuiet_nil ?_
    intro _ hw'
    obtain ⟨nq, hw''⟩ := hw'
    subst hw''
    clear c0 k0 l0 c1 k1 l1 c2 k2 l2 c3 k3 l3 c4 k4 l4 c5 k5 l5 c6 k6 l6 c7 k7 l7
    obtain ⟨X, hX⟩ : ∃ X, X = v64 (q4 v0 v1 v2 v3) (q4 v4 v5 v6 v7) := ⟨_, rfl⟩
    have lX : X < 18446744073709551616 := by rw [hX]; exact (v64_bytes _ _ (q4_lt m0 m1 m2 m3) (q4_lt m4 m5 m6 m7)).2.2.2.2.2.2.2.2
    simp only [← hX]
    have X0 := Lib.hid (show X = v64 (qv vs 0) (qv vs 1) by rw [hX, V0.out, V1.out, V2.out, V3.out, V4.out, V5.out, V6.out, V7.out]; rfl); clear hX
    go_wp2_with fail
    clear m0 m1 m2 m3 m4 m5 m6 m7
    refine (put64 g 0 18 18 X cur _ lX (by omega) (by omega) (by have := Hs.out; omega) (show (w.drewN _).heap[g]? = _ from Hg.out)).mono ?_
    rintro e w1 ⟨rfl, hb, hr⟩
    clear lX
    have Hb1 := Lib.hid ((Hb.out.drewN _).then hb); clear hb
    obtain ⟨A1, hA1⟩ : ∃ A, A = putAll cur 0 (put64B X) := ⟨_, rfl⟩
    rw [← hA1] at hr
    have Hs1 := Lib.hid (show A1.size = 18 by rw [hA1, putAll_size]; exact Hs.out)
    have HA1 := Lib.hid hA1; clear hA1
    have Hg1 := Lib.hid hr; clear hr
    go_wp2_with fail
    rw [rounds_succ]
    have c8 := Let.out _ Hb1.out 8 (by omega)
    have k8 := Val.out _ Hb1.out 8
    have l8 := (alN_facts _ (Hv.out 8)).1
    have m8 := Hv.out 8
    obtain ⟨v8, hv8⟩ : ∃ v, v = vs.getD 8 0 := ⟨_, rfl⟩
    rw [← hv8] at c8 k8 l8 m8
    obtain ⟨x8, hx8⟩ : ∃ x, x = alN v8 := ⟨_, rfl⟩
    rw [← hx8] at c8 k8 l8
    clear hx8
    have V8 := Lib.hid hv8; clear hv8
    have c9 := Let.out _ Hb1.out 9 (by omega)
    have k9 := Val.out _ Hb1.out 9
    have l9 := (alN_facts _ (Hv.out 9)).1
    have m9 := Hv.out 9
    obtain ⟨v9, hv9⟩ : ∃ v, v = vs.getD 9 0 := ⟨_, rfl⟩
    rw [← hv9] at c9 k9 l9 m9
    obtain ⟨x9, hx9⟩ : ∃ x, x = alN v9 := ⟨_, rfl⟩
    rw [← hx9] at c9 k9 l9
    clear hx9
    have V9 := Lib.hid hv9; clear hv9
    have c10 := Let.out _ Hb1.out 10 (by omega)
    have k10 := Val.out _ Hb1.out 10
    have l10 := (alN_facts _ (Hv.out 10)).1
    have m10 := Hv.out 10
    obtain ⟨v10, hv10⟩ : ∃ v, v = vs.getD 10 0 := ⟨_, rfl⟩
    rw [← hv10] at c10 k10 l10 m10
    obtain ⟨x10, hx10⟩ : ∃ x, x = alN v10 := ⟨_, rfl⟩
    rw [← hx10] at c10 k10 l10
    clear hx10
    have V10 := Lib.hid hv10; clear hv10
    have c11 := Let.out _ Hb1.out 11 (by omega)
    have k11 := Val.out _ Hb1.out 11
    have l11 := (alN_facts _ (Hv.out 11)).1
    have m11 := Hv.out 11
    obtain ⟨v11, hv11⟩ : ∃ v, v = vs.getD 11 0 := ⟨_, rfl⟩
    rw [← hv11] at c11 k11 l11 m11
    obtain ⟨x11, hx11⟩ : ∃ x, x = alN v11 := ⟨_, rfl⟩
    rw [← hx11] at c11 k11 l11
    clear hx11
    have V11 := Lib.hid hv11; clear hv11
    have c12 := Let.out _ Hb1.out 12 (by omega)
    have k12 := Val.out _ Hb1.out 12
    have l12 := (alN_facts _ (Hv.out 12)).1
    have m12 := Hv.out 12
    obtain ⟨v12, hv12⟩ : ∃ v, v = vs.getD 12 0 := ⟨_, rfl⟩
    rw [← hv12] at c12 k12 l12 m12
    obtain ⟨x12, hx12⟩ : ∃ x, x = alN v12 := ⟨_, rfl⟩
    rw [← hx12] at c12 k12 l12
    clear hx12
    have V12 := Lib.hid hv12; clear hv12
    have c13 := Let.out _ Hb1.out 13 (by omega)
    have k13 := Val.out _ Hb1.out 13
    have l13 := (alN_facts _ (Hv.out 13)).1
    have m13 := Hv.out 13
    obtain ⟨v13, hv13⟩ : ∃ v, v = vs.getD 13 0 := ⟨_, rfl⟩
    rw [← hv13] at c13 k13 l13 m13
    obtain ⟨x13, hx13⟩ : ∃ x, x = alN v13 := ⟨_, rfl⟩
    rw [← hx13] at c13 k13 l13
    clear hx13
    have V13 := Lib.hid hv13; clear hv13
    have c14 := Let.out _ Hb1.out 14 (by omega)
    have k14 := Val.out _ Hb1.out 14
    have l14 := (alN_facts _ (Hv.out 14)).1
    have m14 := Hv.out 14
    obtain ⟨v14, hv14⟩ : ∃ v, v = vs.getD 14 0 := ⟨_, rfl⟩
    rw [← hv14] at c14 k14 l14 m14
    obtain ⟨x14, hx14⟩ : ∃ x, x = alN v14 := ⟨_, rfl⟩
    rw [← hx14] at c14 k14 l14
    clear hx14
    have V14 := Lib.hid hv14; clear hv14
    have c15 := Let.out _ Hb1.out 15 (by omega)
    have k15 := Val.out _ Hb1.out 15
    have l15 := (alN_facts _ (Hv.out 15)).1
    have m15 := Hv.out 15
    obtain ⟨v15, hv15⟩ : ∃ v, v = vs.getD 15 0 := ⟨_, rfl⟩
    rw [← hv15] at c15 k15 l15 m15
    obtain ⟨x15, hx15⟩ : ∃ x, x = alN v15 := ⟨_, rfl⟩
    rw [← hx15] at c15 k15 l15
    clear hx15
    have V15 := Lib.hid hv15; clear hv15
    go_wp2_with fail
    refine wp_region_quiet_lit (by kernel_rfl) (by kernel_rfl) ?_
    conv => arg 2; dsimp only [List.append]
    conv => arg 5; dsimp only [List.append]
    repeat (go_big_quiet_step ((go_at_call 86; exact Calls.quiet_of_same (assemble64 v8 v9 v10 v11 v12 v13 v14 v15 _ m8 m9 m10 m11 m12 m13 m14 m15))))
    refine wpQuiet_nil ?_
    intro _ hw'
    obtain ⟨nq, hw''⟩ := hw'
    subst hw''
    clear c8 k8 l8 c9 k9 l9 c10 k10 l10 c11 k11 l11 c12 k12 l12 c13 k13 l13 c14 k14 l14 c15 k15 l15
    obtain ⟨X, hX⟩ : ∃ X, X = v64 (q4 v8 v9 v10 v11) (q4 v12 v13 v14 v15) := ⟨_, rfl⟩
    have lX : X < 18446744073709551616 := by rw [hX]; exact (v64_bytes _ _ (q4_lt m8 m9 m10 m11) (q4_lt m12 m13 m14 m15)).2.2.2.2.2.2.2.2
    simp only [← hX]
    have X1 := Lib.hid (show X = v64 (qv vs 2) (qv vs 3) by rw [hX, V8.out, V9.out, V10.out, V11.out, V12.out, V13.out, V14.out, V15.out]; rfl); clear hX
    go_wp2_with fail
    clear m8 m9 m10 m11 m12 m13 m14 m15
    refine (put64 g 6 12 12 X A1 _ lX (by omega) (by omega) (by have := Hs1.out; omega) (show (w1.drewN _).heap[g]? = _ from Hg1.out)).mono ?_
    rintro e w2 ⟨rfl, hb, hr⟩
    clear lX
    have Hb2 := Lib.hid ((Hb1.out.drewN _).then hb); clear hb
    obtain ⟨A2, hA2⟩ : ∃ A, A = putAll A1 6 (put64B X) := ⟨_, rfl⟩
    rw [← hA2] at hr
    have Hs2 := Lib.hid (show A2.size = 18 by rw [hA2, putAll_size]; exact Hs1.out)
    have HA2 := Lib.hid hA2; clear hA2
    have Hg2 := Lib.hid hr; clear hr
    go_wp2_with fail
    rw [rounds_succ]
    go_wp2_with fail
    have fin : w2.heap[g]? = some (.cells C2 5 (0, 0)) := by rw [Hg2.out, HA2.out, HA1.out, X0.out, X1.out, HC2.out]
    have Fin := Lib.hid fin; clear fin
    go_meet
    exact ⟨rfl, rfl, rfl, Hb2.out, Fin.out⟩
  case rest =>
    obtain ⟨rfl, rfl, rfl, hb2, hg2⟩ := hcut
    have Hb2 := Lib.hid hb2; clear hb2
    have Hg2 := Lib.hid hg2; clear hg2
    have Hs2 := Lib.hid (show C2.size = 18 by rw [HC2.out, putAll_size, putAll_size]; exact Hs.out)
    obtain ⟨C3, hC3⟩ : ∃ C, C = putAll C2 12 (put32B (w32 (qv vs 4))) := ⟨_, rfl⟩
    have HC3 := Lib.hid hC3; clear hC3
    go_upto_block 2 with fail
    go_cut [6, 7, 8] from 18 (fun n er si wx => n = .int .i64 15 ∧ er = .nilIface ∧ si = .int .i64 20 ∧ But (· = g) w wx ∧ wx.heap[g]? = some (.cells C3 5 (0, 0)))
    case first =>
      go_wp2_with fail
      refine wp_loop_rounds 2 ?_
      rw [rounds_succ]
      have c16 := Let.out _ Hb2.out 16 (by omega)
      have k16 := Val.out _ Hb2.out 16
      have l16 := (alN_facts _ (Hv.out 16)).1
      have m16 := Hv.out 16
      obtain ⟨v16, hv16⟩ : ∃ v, v = vs.getD 16 0 := ⟨_, rfl⟩
      rw [← hv16] at c16 k16 l16 m16
      obtain ⟨x16, hx16⟩ : ∃ x, x = alN v16 := ⟨_, rfl⟩
      rw [← hx16] at c16 k16 l16
      clear hx16
      have V16 := Lib.hid hv16; clear hv16
      have c17 := Let.out _ Hb2.out 17 (by omega)
      have k17 := Val.out _ Hb2.out 17
      have l17 := (alN_facts _ (Hv.out 17)).1
      have m17 := Hv.out 17
      obtain ⟨v17, hv17⟩ : ∃ v, v = vs.getD 17 0 := ⟨_, rfl⟩
      rw [← hv17] at c17 k17 l17 m17
      obtain ⟨x17, hx17⟩ : ∃ x, x = alN v17 := ⟨_, rfl⟩
      rw [← hx17] at c17 k17 l17
      clear hx17
      have V17 := Lib.hid hv17; clear hv17
      have c18 := Let.out _ Hb2.out 18 (by omega)
      have k18 := Val.out _ Hb2.out 18
      have l18 := (alN_facts _ (Hv.out 18)).1
      have m18 := Hv.out 18
      obtain ⟨v18, hv18⟩ : ∃ v, v = vs.getD 18 0 := ⟨_, rfl⟩
      rw [← hv18] at c18 k18 l18 m18
      obtain ⟨x18, hx18⟩ : ∃ x, x = alN v18 := ⟨_, rfl⟩
      rw [← hx18] at c18 k18 l18
      clear hx18
      have V18 := Lib.hid hv18; clear hv18
      have c19 := Let.out _ Hb2.out 19 (by omega)
      have k19 := Val.out _ Hb2.out 19
      have l19 := (alN_facts _ (Hv.out 19)).1
      have m19 := Hv.out 19
      obtain ⟨v19, hv19⟩ : ∃ v, v = vs.getD 19 0 := ⟨_, rfl⟩
      rw [← hv19] at c19 k19 l19 m19
      obtain ⟨x19, hx19⟩ : ∃ x, x = alN v19 := ⟨_, rfl⟩
      rw [← hx19] at c19 k19 l19
      clear hx19
      have V19 := Lib.hid hv19; clear hv19
      go_wp2_with fail
      refine wp_region_quiet_lit (by kernel_rfl) (by kernel_rfl) ?_
      repeat (go_big_quiet_step ((go_at_call 89; exact Calls.quiet_of_same (assemble32 v16 v17 v18 v19 _ m16 m17 m18 m19))))
      refine wpQuiet_nil ?_
      intro _ hw'
      obtain ⟨nq, hw''⟩ := hw'
      subst hw''
      clear c16 k16 l16 c17 k17 l17 c18 k18 l18 c19 k19 l19
      obtain ⟨X, hX⟩ : ∃ X, X = w32 (q4 v16 v17 v18 v19) := ⟨_, rfl⟩
      have lX : X < 4294967296 := by rw [hX]; exact w32_lt (q4_lt m16 m17 m18 m19)
      simp only [← hX]
      have X2 := Lib.hid (show X = w32 (qv vs 4) by rw [hX, V16.out, V17.out, V18.out, V19.out]; rfl); clear hX
      go_wp2_with fail
      clear m16 m17 m18 m19
      refine (put32 g 12 6 6 X C2 _ lX (by omega) (by omega) (by have := Hs2.out; omega) (show (wc.drewN _).heap[g]? = _ from Hg2.out)).mono ?_
      rintro e w3 ⟨rfl, hb, hr⟩
      clear lX
      have Hb3 := Lib.hid ((Hb2.out.drewN _).then hb); clear hb
      have Hg3 := Lib.hid hr; clear hr
      go_wp2_with fail
      rw [rounds_succ]
      go_wp2_with fail
      have fin : w3.heap[g]? = some (.cells C3 5 (0, 0)) := by rw [Hg3.out, X2.out, HC3.out]
      have Fin := Lib.hid fin; clear fin
      go_meet
      exact ⟨rfl, rfl, rfl, Hb3.out, Fin.out⟩
    case rest =>
      obtain ⟨rfl, rfl, rfl, hb3, hg3⟩ := hcut
      have Hb3 := Lib.hid hb3; clear hb3
      have Hg3 := Lib.hid hg3; clear hg3
      have Hs3 := Lib.hid (show C3.size = 18 by rw [HC3.out, putAll_size]; exact Hs2.out)
      have hl20 := Let.out _ Hb3.out 20 (by omega)
      have hl21 := Let.out _ Hb3.out 21 (by omega)
      have call := quantum B g 15 3 3 b 24 (vs.getD 20 0) (vs.getD 21 0) C3 wc (Hv.out 20) (Hv.out 21) (by omega) (by omega) (by have := Hs3.out; omega) n1 (Hb3.out.row HB.out n1) Hg3.out hl20 hl21 (Hb3.out.cell H22.out n2) (Hb3.out.cell H23.out n2)
      clear hl20 hl21
      have Call := Lib.hid call; clear call
      go_wp2_with fail
      refine wp_loop_rounds 2 ?_
      rw [rounds_succ]
      go_wp2_with fail
      refine Call.out.mono ?_
      rintro e w4 ⟨rfl, hb, hr⟩
      have Hb4 := Lib.hid (Hb3.out.then hb); clear hb Call
      have Hg4 := Lib.hid hr; clear hr
      go_wp2_with fail
      rw [rounds_succ]
      go_wp2_with fail
      go_ret2
      refine ⟨rfl, Hb4.out, ?_⟩
      have e5 : qv vs 5 = q4 (vs.getD 20 0) (vs.getD 21 0) 0 0 := by unfold qv; rw [show 4 * 5 + 2 = 22 by decide, show 4 * 5 + 3 = 23 by decide, H6.out, H7.out]
      rw [Hg4.out, decCur, e5, HC3.out, HC2.out]
end Go.Proofs.YthnhdfgonpbldaaGreatDoor
