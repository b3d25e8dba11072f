/- The specification's forth, round and expanded: the tables that a key and a salt make. -/
import Derived.Test.YthnhdfgonpbldaaGreatDoorModel
import Derived.Laws.BitsAllLaws
import Derived.Outline
import Derived.Test.YthnhdfgonpbldaaGreatDoorInit
import Derived.Test.YthnhdfgonpbldaaGreatDoorCiph
/- The specification's through and forth at tables in a block: the same as blowfish's block. -/
namespace Go.Proofs.YthnhdfgonpbldaaGreatDoor
open Go.RowKit Go.Lib
theorem and255 (x : Nat) (h : x < 4294967296) : bits .and .u32 (x : Int) 255 = ((x % 256 : Nat) : Int) := by
  have e := u32_and_nat x 255 h (by omega)
  have e2 : x &&& 255 = x % 256 := Nat.and_two_pow_sub_one_eq_mod x 8
  rw [e2] at e
  exact e
def ThrPost (S : Nat → Nat) (x : Nat) (w : World) (e : Ending) (w' : World) : Prop := e = .returned (.int .u32 (fF S x : Int)) ∧ ∃ m, w' = w.drewN m
set_option maxRecDepth 100000 in
set_option maxHeartbeats 2000000 in
theorem through_any (S : Nat → Nat) (B : Nat) (w : World) (x : Nat) (hx : x < 4294967296) (h : Words S B w) : Calls Tryz.prog 59 #[.pointer (some ⟨B, 0, none⟩), .int .u32 (x : Int)] w (ThrPost S x w) := by
  have hS := h.lt
  have k1 := h.cell (18 + x / 16777216) (by omega)
  have k2 := h.cell (274 + x / 65536 % 256) (by omega)
  have k3 := h.cell (530 + x / 256 % 256) (by omega)
  have k4 := h.cell (786 + x % 256) (by omega)
  obtain ⟨i1, hi1⟩ : ∃ i, i = x / 16777216 := ⟨_, rfl⟩
  obtain ⟨i2, hi2⟩ : ∃ i, i = x / 65536 % 256 := ⟨_, rfl⟩
  obtain ⟨i3, hi3⟩ : ∃ i, i = x / 256 % 256 := ⟨_, rfl⟩
  obtain ⟨i4, hi4⟩ : ∃ i, i = x % 256 := ⟨_, rfl⟩
  have m1 : i1 < 256 := by omega
  have m2 : i2 < 256 := by omega
  have m3 : i3 < 256 := by omega
  have m4 : i4 < 256 := by omega
  have a1 : (x : Int) / 16777216 = (i1 : Int) := by omega
  have a2 : bits .and .u32 ((x : Int) / 65536) 255 = (i2 : Int) := by
    have := and255 (x / 65536) (by omega)
    rw [← hi2] at this
    simpa using this
  have a3 : bits .and .u32 ((x : Int) / 256) 255 = (i3 : Int) := by
    have := and255 (x / 256) (by omega)
    rw [← hi3] at this
    simpa using this
  have a4 : bits .and .u32 (x : Int) 255 = (i4 : Int) := by rw [hi4]; exact and255 x hx
  rw [← hi1] at k1
  rw [← hi2] at k2
  rw [← hi3] at k3
  rw [← hi4] at k4
  have h1 := hS (18 + i1)
  have h2 := hS (274 + i2)
  have h3 := hS (530 + i3)
  have h4 := hS (786 + i4)
  obtain ⟨u1, hu1⟩ : ∃ u, u = S (18 + i1) := ⟨_, rfl⟩
  obtain ⟨u2, hu2⟩ : ∃ u, u = S (274 + i2) := ⟨_, rfl⟩
  obtain ⟨u3, hu3⟩ : ∃ u, u = S (530 + i3) := ⟨_, rfl⟩
  obtain ⟨u4, hu4⟩ : ∃ u, u = S (786 + i4) := ⟨_, rfl⟩
  rw [← hu1] at k1 h1
  rw [← hu2] at k2 h2
  rw [← hu3] at k3 h3
  rw [← hu4] at k4 h4
  obtain ⟨t1, ht1⟩ : ∃ t, t = (u1 + u2) % 4294967296 := ⟨_, rfl⟩
  obtain ⟨t2, ht2⟩ : ∃ t, t = t1 ^^^ u3 := ⟨_, rfl⟩
  obtain ⟨t3, ht3⟩ : ∃ t, t = (t2 + u4) % 4294967296 := ⟨_, rfl⟩
  have l1 : t1 < 4294967296 := by omega
  have l2 : t2 < 4294967296 := by rw [ht2]; exact xor_lt32 l1 h3
  have f1 : ((u1 : Int) + (u2 : Int)) % 4294967296 = (t1 : Int) := by omega
  have f2 : bits .xor .u32 (t1 : Int) (u3 : Int) = (t2 : Int) := by rw [ht2]; exact u32_xor_nat _ _ l1 h3
  have f3 : ((t2 : Int) + (u4 : Int)) % 4294967296 = (t3 : Int) := by omega
  have fin : t3 = fF S x := by
    rw [ht3, ht2, ht1, hu1, hu2, hu3, hu4, hi1, hi2, hi3, hi4]
    rfl
  have Fin := Lib.hid fin
  have F3 := Lib.hid f3
  clear fin ht1 ht2 ht3 hu1 hu2 hu3 hu4 hi1 hi2 hi3 hi4 hS
  have HH := Lib.hid h; clear h
  go_enter Tryz.func59, Tryz.ntmps59
  go_wp2_with fail
  go_quiet (fail)
  go_wp2_with fail
  go_ret
  exact ⟨by rw [← Fin.out]; exact ret_int F3.out, _, rfl⟩
/-- One round of the specification: the next word of p goes in ahead of the boxes. -/
def frd (S : Nat → Nat) (k : Nat) (p : Nat × Nat) : Nat × Nat := (p.2 ^^^ fF S (p.1 ^^^ S k), p.1 ^^^ S k)
def frds (S : Nat → Nat) : Nat → Nat × Nat → Nat × Nat
  | 0, p => p
  | n + 1, p => frd S n (frds S n p)
/-- The specification's block. -/
def fblk (S : Nat → Nat) (l r : Nat) : Nat × Nat := ((frds S 16 (l, r)).2 ^^^ S 17, (frds S 16 (l, r)).1 ^^^ S 16)
theorem frds_rnds (S : Nat → Nat) (l r : Nat) : ∀ n, rnds S n (l ^^^ S 0, r) = ((frds S n (l, r)).1 ^^^ S n, (frds S n (l, r)).2)
  | 0 => rfl
  | n + 1 => by
    show rnd S n (rnds S n (l ^^^ S 0, r)) = _
    rw [frds_rnds S l r n]
    show ((frds S n (l, r)).2 ^^^ (fF S ((frds S n (l, r)).1 ^^^ S n) ^^^ S (n + 1)), (frds S n (l, r)).1 ^^^ S n) = (((frds S n (l, r)).2 ^^^ fF S ((frds S n (l, r)).1 ^^^ S n)) ^^^ S (n + 1), (frds S n (l, r)).1 ^^^ S n)
    rw [Nat.xor_assoc]
theorem fblk_blk (S : Nat → Nat) (l r : Nat) : fblk S l r = blk S l r := by
  unfold fblk blk
  rw [frds_rnds S l r 16]
theorem frds_lt {S : Nat → Nat} (h : W32 S) {p : Nat × Nat} (h1 : p.1 < 4294967296) (h2 : p.2 < 4294967296) : ∀ n, (frds S n p).1 < 4294967296 ∧ (frds S n p).2 < 4294967296
  | 0 => ⟨h1, h2⟩
  | n + 1 => by
    obtain ⟨a, b⟩ := frds_lt h h1 h2 n
    exact ⟨xor_lt32 b (fF_lt _ _), xor_lt32 a (h _)⟩
def FRel (S : Nat → Nat) (l r : Nat) (w : World) (x y i : Value) (wr : World) : Prop :=
  ∃ k : Nat, k ≤ 16 ∧ i = .int .i64 (k : Int) ∧ x = .int .u32 ((frds S k (l, r)).1 : Int) ∧ y = .int .u32 ((frds S k (l, r)).2 : Int) ∧ ∃ m, wr = w.drewN m
set_option maxRecDepth 100000 in
set_option maxHeartbeats 2000000 in
theorem forth_any (S : Nat → Nat) (B : Nat) (w : World) (l r : Nat) (hl : l < 4294967296) (hr : r < 4294967296) (h : Words S B w) :
    Calls Tryz.prog 40 #[.pointer (some ⟨B, 0, none⟩), .int .u32 (l : Int), .int .u32 (r : Int)] w (BlkPost S l r w) := by
  have HW := Lib.hid h; clear h
  go_enter Tryz.func40, Tryz.ntmps40
  go_wp2_with fail
  go_loopw [1, 2, 8] (FRel S l r w) (fun _ _ i _ => 16 - (intOf i).toNat)
  case atStart => exact ⟨0, by omega, rfl, rfl, rfl, 0, rfl⟩
  case round =>
    obtain ⟨k, hk, rfl, rfl, rfl, m, rfl⟩ := hrel
    have lm := frds_lt (p := (l, r)) HW.out.lt hl hr k
    obtain ⟨p, hp⟩ : ∃ p, p = frds S k (l, r) := ⟨_, rfl⟩
    rw [← hp] at lm ⊢
    obtain ⟨x, y⟩ := p
    obtain ⟨lx, ly⟩ := lm
    simp only at lx ly ⊢
    have HP := Lib.hid hp; clear hp
    by_cases hlt : k < 16
    · have c1 := HW.out.cell k (by omega)
      obtain ⟨u, hu⟩ : ∃ u, u = S k := ⟨_, rfl⟩
      have lu : u < 4294967296 := by rw [hu]; exact HW.out.lt k
      rw [← hu] at c1
      obtain ⟨z, hz⟩ : ∃ z, z = x ^^^ u := ⟨_, rfl⟩
      have lz : z < 4294967296 := by rw [hz]; exact xor_lt32 lx lu
      have e1 : bits .xor .u32 (x : Int) (u : Int) = (z : Int) := by rw [hz]; exact u32_xor_nat _ _ lx lu
      obtain ⟨f, hf⟩ : ∃ f, f = fF S z := ⟨_, rfl⟩
      have lf : f < 4294967296 := by rw [hf]; exact fF_lt _ _
      obtain ⟨v, hv⟩ : ∃ v, v = y ^^^ f := ⟨_, rfl⟩
      have e2 : bits .xor .u32 (y : Int) (f : Int) = (v : Int) := by rw [hv]; exact u32_xor_nat _ _ ly lf
      have call : ∀ W : World, Words S B W → Calls Tryz.prog 59 #[.pointer (some ⟨B, 0, none⟩), .int .u32 (z : Int)] W (ThrPost S z W) := fun W hW => through_any S B W z lz hW
      have Call := Lib.hid call; clear call
      have HU := Lib.hid hu; clear hu
      have HZ := Lib.hid hz; clear hz
      have HV := Lib.hid hv; clear hv
      have HF := Lib.hid hf; clear hf
      go_wp2_with fail
      refine (Call.out (w.drewN m) ⟨HW.out.lt, fun j hj => show (w.drewN m).cell? _ = _ by have := HW.out.cell j hj; simpa using this⟩).mono ?_
      rintro e w2 ⟨rfl, m2, rfl⟩
      rw [← HF.out]
      go_wp2_with fail
      go_roundw
      case rel =>
        have en : frds S (k + 1) (l, r) = (v, z) := by
          show frd S k (frds S k (l, r)) = _
          rw [← HP.out]
          show (y ^^^ fF S (x ^^^ S k), x ^^^ S k) = _
          rw [← HU.out, ← HZ.out, ← HF.out, ← HV.out]
        exact ⟨k + 1, by omega, by go_num, by rw [en], by rw [en], m + m2, rfl⟩
      case measure => simp [intOf]; omega
    · obtain rfl : k = 16 := by omega
      have c1 := HW.out.cell 17 (by omega)
      have c2 := HW.out.cell 16 (by omega)
      obtain ⟨u, hu⟩ : ∃ u, u = S 17 := ⟨_, rfl⟩
      obtain ⟨v, hv⟩ : ∃ v, v = S 16 := ⟨_, rfl⟩
      have lu : u < 4294967296 := by rw [hu]; exact HW.out.lt 17
      have lv : v < 4294967296 := by rw [hv]; exact HW.out.lt 16
      rw [← hu] at c1
      rw [← hv] at c2
      obtain ⟨z, hz⟩ : ∃ z, z = y ^^^ u := ⟨_, rfl⟩
      obtain ⟨z2, hz2⟩ : ∃ z, z = x ^^^ v := ⟨_, rfl⟩
      have e1 : bits .xor .u32 (y : Int) (u : Int) = (z : Int) := by rw [hz]; exact u32_xor_nat _ _ ly lu
      have e2 : bits .xor .u32 (x : Int) (v : Int) = (z2 : Int) := by rw [hz2]; exact u32_xor_nat _ _ lx lv
      have fin : blk S l r = (z, z2) := by
        rw [← fblk_blk]
        unfold fblk
        rw [← HP.out]
        show (y ^^^ S 17, x ^^^ S 16) = _
        rw [← hu, ← hv, ← hz, ← hz2]
      have Fin := Lib.hid fin
      clear fin hz hz2 hu hv
      go_wp2_with fail
      go_quiet (fail)
      go_wp2_with fail
      go_ret2
      unfold BlkPost
      rw [Fin.out]
      exact ⟨rfl, _, World.drewN_drewN _ _ _⟩
end Go.Proofs.YthnhdfgonpbldaaGreatDoor
/- The specification's round: four bytes of a key that is gone through in a circle. -/
namespace Go.Proofs.YthnhdfgonpbldaaGreatDoor
open Go.RowKit Go.Lib
def RndPost (bs : List Nat) (j : Nat) (w : World) (e : Ending) (w' : World) : Prop :=
  e = .returned (.tuple #[.int .u32 ((cycs bs 4 (0, j)).1 : Int), .int .i64 ((cycs bs 4 (0, j)).2 : Int)]) ∧ w' = w
theorem round_any (bs : List Nat) (b o c j : Nat) (w : World) (h0 : 0 < bs.length) (hm : bs.length ≤ 1000000000000) (hj : j < bs.length) (hb : ∀ i, i < bs.length → bs.getD i 0 < 256)
    (hc : ∀ i, i < bs.length → w.cell? ⟨b, o + i, none⟩ = some (.int .u8 ((bs.getD i 0 : Nat) : Int))) :
    Calls Tryz.prog 57 #[.slice (some ⟨b, o, none⟩) bs.length c, .int .i64 (j : Int)] w (RndPost bs j w) := by
  obtain ⟨n, hn⟩ : ∃ n, n = bs.length := ⟨_, rfl⟩
  rw [← hn] at h0 hm hj ⊢
  have Hn := Lib.hid hn; clear hn
  have Hb := Lib.hid hb; clear hb
  have Hc := Lib.hid hc; clear hc
  go_enter Tryz.func57, Tryz.ntmps57
  go_wp2_with fail
  go_loop [1, 6, 7] (fun p x i => ∃ k : Nat, k ≤ 4 ∧ i = .int .i64 k ∧ x = .int .u32 ((cycs bs k (0, j)).1 : Int) ∧ p = .int .i64 ((cycs bs k (0, j)).2 : Int)) (fun _ _ i => 4 - (intOf i).toNat)
  case atStart => exact ⟨0, Nat.zero_le _, rfl, rfl, rfl⟩
  case round =>
    obtain ⟨k, hk, rfl, rfl, rfl⟩ := hrel
    obtain ⟨l1, l2⟩ := cycs_lt Hb.out (by rw [← Hn.out]; exact h0) (by rw [← Hn.out]; exact hj) k
    have l3 := Hb.out _ l2
    have g := Hc.out _ l2
    rw [← Hn.out] at l2
    obtain ⟨s, hs⟩ : ∃ s, s = cycs bs k (0, j) := ⟨_, rfl⟩
    have hnext : cycs bs (k + 1) (0, j) = (s.1 * 256 % 4294967296 + bs.getD s.2 0, if n ≤ s.2 + 1 then 0 else s.2 + 1) := by rw [hs, Hn.out]; rfl
    rw [← hs] at l1 l2 l3 g ⊢
    obtain ⟨x, p⟩ := s
    simp only at l1 l2 l3 g hnext ⊢
    obtain ⟨y, hy⟩ : ∃ y, y = bs.getD p 0 := ⟨_, rfl⟩
    rw [← hy] at g l3 hnext
    have e1 : bits .or .u32 ((x : Int) * 256 % 4294967296) (y : Int) = ((x * 256 % 4294967296 + y : Nat) : Int) := by
      have := or_join32 8 (x * 256 % 4294967296) y (by omega) (by omega) (by omega) (by omega)
      simpa using this
    have Hs := Lib.hid hs; clear hs
    have Hy := Lib.hid hy; clear hy
    have Hnext := Lib.hid hnext; clear hnext
    by_cases hlt : k < 4
    · by_cases hw : n ≤ p + 1
      · have tst : ((p : Int) + 1) % (n : Int) = 0 := by
          obtain rfl : n = p + 1 := by omega
          simp
        have Tst := Lib.hid tst
        go_wp2_with fail
        go_round
        case rel =>
          refine ⟨k + 1, by omega, by go_num, ?_, ?_⟩
          · rw [Hnext.out]; simp
          · rw [Hnext.out]; simp [hw]; exact Tst.out
        case measure => simp [intOf]; omega
      · have tst : ((p : Int) + 1) % (n : Int) = (p : Int) + 1 := Int.emod_eq_of_lt (by omega) (by omega)
        have Tst := Lib.hid tst
        go_wp2_with fail
        go_round
        case rel =>
          refine ⟨k + 1, by omega, by go_num, ?_, ?_⟩
          · rw [Hnext.out]; simp
          · rw [Hnext.out]; simp [hw]; exact Tst.out
        case measure => simp [intOf]; omega
    · obtain rfl : k = 4 := by omega
      go_wp2_with fail
      go_ret2
      refine ⟨?_, rfl⟩
      rw [← Hs.out]
      rfl
end Go.Proofs.YthnhdfgonpbldaaGreatDoor
/- The closure in the specification's expanded: one step with a salt, and one without. -/
namespace Go.Proofs.YthnhdfgonpbldaaGreatDoor
open Go.RowKit Go.Lib
def Cell1 (w : World) (g : Nat) (t : TypeId) (v : Value) : Prop := w.heap[g]? = some (.cells #[v] t (0, 0))
theorem Cell1.but {w w' : World} {S : Nat → Prop} {g : Nat} {t : TypeId} {v : Value} (h : Cell1 w g t v) (b : But S w w') (hs : ¬ S g) : Cell1 w' g t v := b.row h hs
theorem Cell1.cell {w : World} {g : Nat} {t : TypeId} {v : Value} (h : Cell1 w g t v) : w.cell? ⟨g, 0, none⟩ = some v := cell_row h rfl
theorem Cell1.free {w : World} {g : Nat} {t : TypeId} {v : Value} (h : Cell1 w g t v) : w.frozen? ⟨g, 0, none⟩ = false := frozen_row h 0
theorem Cell1.set {w : World} {g : Nat} {t : TypeId} {v : Value} (h : Cell1 w g t v) (u : Value) : Cell1 (w.setCell ⟨g, 0, none⟩ u) g t u := by
  have := setCell_row w g 0 _ t (0, 0) u h
  unfold Cell1
  simpa using this
def StepPost (aB lB rB j : Nat) (p : Nat × Nat) (w : World) (e : Ending) (w' : World) : Prop :=
  e = .returned (.tuple #[]) ∧ But (fun k => k = aB ∨ k = lB ∨ k = rB) w w' ∧ Cell1 w' aB 3 (.int .i64 (j : Int)) ∧ Cell1 w' lB 29 (.int .u32 (p.1 : Int)) ∧ Cell1 w' rB 29 (.int .u32 (p.2 : Int))
set_option maxRecDepth 100000 in
theorem step_plain (S : Nat → Nat) (sB aB lB rB tB l r j : Nat) (a : Option Addr) (c : Nat) (w : World) (hl : l < 4294967296) (hr : r < 4294967296) (hW : Words S tB w) (n1 : lB ≠ rB) (n2 : aB ≠ lB) (n3 : aB ≠ rB)
    (hs : w.cell? ⟨sB, 0, none⟩ = some (.slice a 0 c)) (ha : Cell1 w aB 3 (.int .i64 (j : Int))) (hL : Cell1 w lB 29 (.int .u32 (l : Int))) (hR : Cell1 w rB 29 (.int .u32 (r : Int))) :
    Calls Tryz.prog 58 #[.pointer (some ⟨sB, 0, none⟩), .pointer (some ⟨aB, 0, none⟩), .pointer (some ⟨lB, 0, none⟩), .pointer (some ⟨rB, 0, none⟩), .pointer (some ⟨tB, 0, none⟩)] w (StepPost aB lB rB j (blk S l r) w) := by
  have cl := hL.cell
  have cr := hR.cell
  have fl := hL.free
  have fr := hR.free
  have f := forth_any S tB w l r hl hr hW
  have F := Lib.hid f; clear f
  have HL := Lib.hid hL; clear hL
  have HR := Lib.hid hR; clear hR
  have HA := Lib.hid ha; clear ha
  clear hW
  go_enter Tryz.func58, Tryz.ntmps58
  go_wp2_with fail
  refine F.out.mono ?_
  rintro e w1 ⟨rfl, m, rfl⟩
  obtain ⟨u, hu⟩ : ∃ u, u = (blk S l r).1 := ⟨_, rfl⟩
  obtain ⟨v, hv⟩ : ∃ v, v = (blk S l r).2 := ⟨_, rfl⟩
  simp only [← hu, ← hv]
  have Hu := Lib.hid hu; clear hu
  have Hv := Lib.hid hv; clear hv
  go_wp2_with fail
  go_end0
  refine ⟨rfl, ?_, ?_, ?_, ?_⟩
  · exact But.setCell (p := ⟨rB, 0, none⟩) (But.setCell (p := ⟨lB, 0, none⟩) ((But.refl (fun k => k = aB ∨ k = lB ∨ k = rB) w).drewN m) (fun _ => Or.inr (Or.inl rfl)) _) (fun _ => Or.inr (Or.inr rfl)) _
  · have b : But (fun k => k = lB ∨ k = rB) w (((w.drewN m).setCell ⟨lB, 0, none⟩ (.int .u32 (u : Int))).setCell ⟨rB, 0, none⟩ (.int .u32 (v : Int))) :=
      But.setCell (p := ⟨rB, 0, none⟩) (But.setCell (p := ⟨lB, 0, none⟩) ((But.refl _ w).drewN m) (fun _ => Or.inl rfl) _) (fun _ => Or.inr rfl) _
    exact HA.out.but b (fun h => h.elim n2 n3)
  · rw [← Hu.out]
    have h1 : Cell1 ((w.drewN m).setCell ⟨lB, 0, none⟩ (.int .u32 (u : Int))) lB 29 (.int .u32 (u : Int)) := Cell1.set (w := w.drewN m) HL.out _
    exact h1.but (But.setCell (S := (· = rB)) (p := ⟨rB, 0, none⟩) (But.refl _ _) (fun _ => rfl) _) n1
  · rw [← Hv.out]
    have h1 : Cell1 ((w.drewN m).setCell ⟨lB, 0, none⟩ (.int .u32 (u : Int))) rB 29 (.int .u32 (r : Int)) := Cell1.but (w := w.drewN m) HR.out (But.setCell (S := (· = lB)) (p := ⟨lB, 0, none⟩) (But.refl _ _) (fun _ => rfl) _) (fun h => n1 h.symm)
    exact h1.set _
set_option maxRecDepth 100000 in
set_option maxHeartbeats 1000000 in
theorem step_salt (S : Nat → Nat) (ss : List Nat) (sB aB lB rB tB l r j b o c : Nat) (w : World) (hl : l < 4294967296) (hr : r < 4294967296) (hW : Words S tB w) (n1 : lB ≠ rB) (n2 : aB ≠ lB) (n3 : aB ≠ rB) (n4 : sB ≠ aB) (n5 : sB ≠ lB) (n6 : sB ≠ rB)
    (m1 : b ≠ aB) (m2 : b ≠ lB) (m3 : b ≠ rB) (t1 : tB ≠ aB) (t2 : tB ≠ lB) (t3 : tB ≠ rB)
    (h0 : 0 < ss.length) (hm : ss.length ≤ 1000000000000) (hj : j < ss.length) (hb : Bytes ss) (hc : ∀ i, i < ss.length → w.cell? ⟨b, o + i, none⟩ = some (.int .u8 ((ss.getD i 0 : Nat) : Int)))
    (hs : w.cell? ⟨sB, 0, none⟩ = some (.slice (some ⟨b, o, none⟩) ss.length c)) (ha : Cell1 w aB 3 (.int .i64 (j : Int))) (hL : Cell1 w lB 29 (.int .u32 (l : Int))) (hR : Cell1 w rB 29 (.int .u32 (r : Int))) :
    Calls Tryz.prog 58 #[.pointer (some ⟨sB, 0, none⟩), .pointer (some ⟨aB, 0, none⟩), .pointer (some ⟨lB, 0, none⟩), .pointer (some ⟨rB, 0, none⟩), .pointer (some ⟨tB, 0, none⟩)] w
      (StepPost aB lB rB (salt2 ss (l, r) j).2 (blk S (salt2 ss (l, r) j).1.1 (salt2 ss (l, r) j).1.2) w) := by
  have lA := cycs_lt hb h0 hj 4
  obtain ⟨A, hA⟩ : ∃ A, A = cycs ss 4 (0, j) := ⟨_, rfl⟩
  have ca := round_any ss b o c j w h0 hm hj hb hc
  unfold RndPost at ca
  rw [← hA] at lA ca
  obtain ⟨a1, j1⟩ := A
  simp only at lA ca
  have lD := cycs_lt hb h0 lA.2 4
  obtain ⟨D, hD⟩ : ∃ D, D = cycs ss 4 (0, j1) := ⟨_, rfl⟩
  have cb := fun (w2 : World) hc2 => round_any ss b o c j1 w2 h0 hm lA.2 hb hc2
  unfold RndPost at cb
  rw [← hD] at lD
  simp only [← hD] at cb
  obtain ⟨a2, j2⟩ := D
  simp only at lD cb
  obtain ⟨l', hl'⟩ : ∃ l', l' = l ^^^ a1 := ⟨_, rfl⟩
  obtain ⟨r', hr'⟩ : ∃ r', r' = r ^^^ a2 := ⟨_, rfl⟩
  have ll : l' < 4294967296 := by rw [hl']; exact xor_lt32 hl lA.1
  have lr : r' < 4294967296 := by rw [hr']; exact xor_lt32 hr lD.1
  have x1 : bits .xor .u32 (l : Int) (a1 : Int) = (l' : Int) := by rw [hl']; exact u32_xor_nat _ _ hl lA.1
  have x2 : bits .xor .u32 (r : Int) (a2 : Int) = (r' : Int) := by rw [hr']; exact u32_xor_nat _ _ hr lD.1
  have es : salt2 ss (l, r) j = ((l', r'), j2) := by
    unfold salt2
    rw [← hA]
    simp only
    rw [← hD, hl', hr']
  rw [es]
  have fo := fun (w2 : World) hW2 => forth_any S tB w2 l' r' ll lr hW2
  obtain ⟨n, hn⟩ : ∃ n, n = ss.length := ⟨_, rfl⟩
  rw [← hn] at hs ca cb h0
  have CA := Lib.hid ca; clear ca
  have CB := Lib.hid cb; clear cb
  have FO := Lib.hid fo; clear fo
  have HW := Lib.hid hW; clear hW
  have HC := Lib.hid hc; clear hc
  have cs := hs
  have k1 := ha.cell
  have k2 := hL.cell
  have k3 := hR.cell
  have f1 := ha.free
  have f2 := hL.free
  have f3 := hR.free
  have HA := Lib.hid ha; clear ha
  have HL := Lib.hid hL; clear hL
  have HR := Lib.hid hR; clear hR
  have Hn := Lib.hid hn
  clear es hl' hr' hA hD lA lD hb hj hn hs hl hr
  go_enter Tryz.func58, Tryz.ntmps58
  go_wp2_with fail
  refine CA.out.mono ?_
  rintro e w1 ⟨rfl, hw1⟩
  rw [hw1]
  clear hw1
  go_wp2_with fail
  obtain ⟨w2, hw2⟩ : ∃ w2, w2 = (w.setCell ⟨aB, 0, none⟩ (.int .i64 (j1 : Int))).setCell ⟨lB, 0, none⟩ (.int .u32 (l' : Int)) := ⟨_, rfl⟩
  have b2 : But (fun k => k = aB ∨ k = lB) w w2 := by
    rw [hw2]
    exact But.setCell (p := ⟨lB, 0, none⟩) (But.setCell (p := ⟨aB, 0, none⟩) (But.refl (fun k => k = aB ∨ k = lB) w) (fun _ => Or.inl rfl) _) (fun _ => Or.inr rfl) _
  have a2' : Cell1 w2 aB 3 (.int .i64 (j1 : Int)) := by
    rw [hw2]
    exact (HA.out.set _).but (But.setCell (S := (· = lB)) (p := ⟨lB, 0, none⟩) (But.refl _ _) (fun _ => rfl) _) n2
  have l2' : Cell1 w2 lB 29 (.int .u32 (l' : Int)) := by
    rw [hw2]
    exact (HL.out.but (But.setCell (S := (· = aB)) (p := ⟨aB, 0, none⟩) (But.refl _ w) (fun _ => rfl) _) (fun h => n2 h.symm)).set _
  have r2' : Cell1 w2 rB 29 (.int .u32 (r : Int)) := HR.out.but b2 (fun h => h.elim (fun h => n3 h.symm) (fun h => n1 h.symm))
  simp only [← hw2]
  clear hw2 k1 k2 k3 f1 f2 f3 CA
  have cs2 := b2.cell cs (fun h => h.elim n4 n5)
  have k1 := a2'.cell
  have k2 := l2'.cell
  have k3 := r2'.cell
  have f1 := a2'.free
  have f2 := l2'.free
  have f3 := r2'.free
  have cbx := CB.out w2 (fun i hi => b2.cell (HC.out i (by rw [← Hn.out]; exact hi)) (fun h => h.elim m1 m2))
  have CBX := Lib.hid cbx; clear cbx CB cs
  have A2 := Lib.hid a2'; clear a2'
  have L2 := Lib.hid l2'; clear l2'
  have R2 := Lib.hid r2'; clear r2'
  have B2 := Lib.hid b2; clear b2
  refine CBX.out.mono ?_
  rintro e w3 ⟨rfl, hw3⟩
  rw [hw3]
  clear hw3 CBX
  go_wp2_with fail
  obtain ⟨w4, hw4⟩ : ∃ w4, w4 = (w2.setCell ⟨aB, 0, none⟩ (.int .i64 (j2 : Int))).setCell ⟨rB, 0, none⟩ (.int .u32 (r' : Int)) := ⟨_, rfl⟩
  have b4 : But (fun k => k = aB ∨ k = lB ∨ k = rB) w w4 := by
    rw [hw4]
    exact But.setCell (p := ⟨rB, 0, none⟩) (But.setCell (p := ⟨aB, 0, none⟩) (B2.out.trans (But.refl (fun k => k = aB ∨ k = lB ∨ k = rB) w2) (fun _ _ h => h.elim Or.inl (fun h => Or.inr (Or.inl h))) (fun _ _ h => h)) (fun _ => Or.inl rfl) _) (fun _ => Or.inr (Or.inr rfl)) _
  have a4 : Cell1 w4 aB 3 (.int .i64 (j2 : Int)) := by
    rw [hw4]
    exact (A2.out.set _).but (But.setCell (S := (· = rB)) (p := ⟨rB, 0, none⟩) (But.refl _ _) (fun _ => rfl) _) n3
  have l4 : Cell1 w4 lB 29 (.int .u32 (l' : Int)) := by
    rw [hw4]
    exact (L2.out.but (But.setCell (S := (· = aB)) (p := ⟨aB, 0, none⟩) (But.refl _ w2) (fun _ => rfl) _) (fun h => n2 h.symm)).but (But.setCell (S := (· = rB)) (p := ⟨rB, 0, none⟩) (But.refl _ _) (fun _ => rfl) _) n1
  have r4 : Cell1 w4 rB 29 (.int .u32 (r' : Int)) := by
    rw [hw4]
    exact (R2.out.but (But.setCell (S := (· = aB)) (p := ⟨aB, 0, none⟩) (But.refl _ w2) (fun _ => rfl) _) (fun h => n3 h.symm)).set _
  simp only [← hw4]
  clear hw4 k1 k2 k3 f1 f2 f3 cs2 x1 x2
  have k2 := l4.cell
  have k3 := r4.cell
  have f2 := l4.free
  have f3 := r4.free
  have fx := FO.out w4 ⟨HW.out.lt, fun i hi => b4.cell (HW.out.cell i hi) (fun h => h.elim t1 (fun h => h.elim t2 t3))⟩
  have FX := Lib.hid fx; clear fx FO
  have A4 := Lib.hid a4; clear a4
  have L4 := Lib.hid l4; clear l4
  have R4 := Lib.hid r4; clear r4
  have B4 := Lib.hid b4; clear b4
  refine FX.out.mono ?_
  rintro e w5 ⟨rfl, m, rfl⟩
  obtain ⟨u, hu⟩ : ∃ u, u = (blk S l' r').1 := ⟨_, rfl⟩
  obtain ⟨v, hv⟩ : ∃ v, v = (blk S l' r').2 := ⟨_, rfl⟩
  simp only [← hu, ← hv]
  have Hu := Lib.hid hu; clear hu
  have Hv := Lib.hid hv; clear hv
  go_wp2_with fail
  go_end0
  have b5 : But (fun k => k = lB ∨ k = rB) w4 (((w4.drewN m).setCell ⟨lB, 0, none⟩ (.int .u32 (u : Int))).setCell ⟨rB, 0, none⟩ (.int .u32 (v : Int))) :=
    But.setCell (p := ⟨rB, 0, none⟩) (But.setCell (p := ⟨lB, 0, none⟩) ((But.refl _ w4).drewN m) (fun _ => Or.inl rfl) _) (fun _ => Or.inr rfl) _
  refine ⟨rfl, ?_, ?_, ?_, ?_⟩
  · exact B4.out.trans b5 (fun _ _ h => h) (fun _ _ h => Or.inr h)
  · exact A4.out.but b5 (fun h => h.elim n2 n3)
  · rw [← Hu.out]
    have h1 : Cell1 ((w4.drewN m).setCell ⟨lB, 0, none⟩ (.int .u32 (u : Int))) lB 29 (.int .u32 (u : Int)) := Cell1.set (w := w4.drewN m) L4.out _
    exact h1.but (But.setCell (S := (· = rB)) (p := ⟨rB, 0, none⟩) (But.refl _ _) (fun _ => rfl) _) n1
  · rw [← Hv.out]
    have h1 : Cell1 ((w4.drewN m).setCell ⟨lB, 0, none⟩ (.int .u32 (u : Int))) rB 29 (.int .u32 (r' : Int)) := Cell1.but (w := w4.drewN m) R4.out (But.setCell (S := (· = lB)) (p := ⟨lB, 0, none⟩) (But.refl _ _) (fun _ => rfl) _) (fun h => n1 h.symm)
    exact h1.set _
end Go.Proofs.YthnhdfgonpbldaaGreatDoor
/- The specification's block of tables as one value, and in memory. -/
namespace Go.Proofs.YthnhdfgonpbldaaGreatDoor
open Go.RowKit Go.Lib
def fishA (S : Nat → Nat) : Array Value := (tw S 0 1042).toArray
theorem fishA_size (S : Nat → Nat) : (fishA S).size = 1042 := by simp [fishA, tw]
theorem fishA_get (S : Nat → Nat) (j : Nat) (hj : j < 1042) : (fishA S)[j]? = some (.int .u32 (S j : Int)) := by
  simp [fishA, tw, hj]
theorem fishA_one (S : Nat → Nat) : (fishA S).all (·.oneCell') = true := by
  rw [Array.all_eq_true_iff_forall_mem]
  intro v hv
  exact tw_one S 0 1042 v (by simpa [fishA] using hv)
theorem fishA_ext {S T : Nat → Nat} (h : ∀ j, j < 1042 → S j = T j) : fishA S = fishA T := by
  apply Array.ext_getElem?
  intro i
  by_cases hi : i < 1042
  · rw [fishA_get S i hi, fishA_get T i hi, h i hi]
  · rw [Array.getElem?_eq_none (by rw [fishA_size]; omega), Array.getElem?_eq_none (by rw [fishA_size]; omega)]
def FishAt (w : World) (B : Nat) (S : Nat → Nat) : Prop := w.heap[B]? = some (.cells (fishA S) 34 (0, 0))
theorem FishAt.cell {w : World} {B : Nat} {S : Nat → Nat} (h : FishAt w B S) (j : Nat) (hj : j < 1042) : w.cell? ⟨B, j, none⟩ = some (.int .u32 (S j : Int)) := cell_row h (fishA_get S j hj)
theorem FishAt.free {w : World} {B : Nat} {S : Nat → Nat} (h : FishAt w B S) (j : Nat) : w.frozen? ⟨B, j, none⟩ = false := frozen_row h j
theorem FishAt.words {w : World} {B : Nat} {S : Nat → Nat} (h : FishAt w B S) (hS : W32 S) : Words S B w := ⟨hS, h.cell⟩
theorem FishAt.set {w : World} {B : Nat} {S : Nat → Nat} (h : FishAt w B S) (i : Nat) (n : Nat) : FishAt (w.setCell ⟨B, i, none⟩ (.int .u32 (n : Int))) B (fun j => if j = i then n else S j) := by
  have e := setCell_row w B i _ 34 (0, 0) (.int .u32 (n : Int)) h
  suffices k : (fishA S).setIfInBounds i (.int .u32 (n : Int)) = fishA (fun j => if j = i then n else S j) by
    rw [k] at e
    exact e
  apply Array.ext_getElem?
  intro j
  by_cases hj : j < 1042
  · rw [fishA_get _ j hj]
    by_cases e : j = i
    · subst e
      simp [fishA_size, hj]
    · rw [Array.getElem?_setIfInBounds_ne (Ne.symm e), fishA_get S j hj]
      simp [e]
  · rw [Array.getElem?_eq_none (by simp [fishA_size]; omega), Array.getElem?_eq_none (by rw [fishA_size]; omega)]
theorem FishAt.congr {w : World} {B : Nat} {S T : Nat → Nat} (h : FishAt w B S) (e : ∀ j, j < 1042 → S j = T j) : FishAt w B T := by
  unfold FishAt
  rw [← fishA_ext e]
  exact h
theorem FishAt.set2 {w : World} {B : Nat} {S : Nat → Nat} (h : FishAt w B S) (i : Nat) (p : Nat × Nat) :
    FishAt ((w.setCell ⟨B, i, none⟩ (.int .u32 (p.1 : Int))).setCell ⟨B, i + 1, none⟩ (.int .u32 (p.2 : Int))) B (up2 S i p) := by
  refine ((h.set i p.1).set (i + 1) p.2).congr fun j _ => ?_
  unfold up2
  by_cases e : j = i
  · simp [e]
  · by_cases e1 : j = i + 1
    · simp [e1]
    · simp [e, e1]
theorem FishAt.drewN {w : World} {B : Nat} {S : Nat → Nat} (h : FishAt w B S) (n : Nat) : FishAt (w.drewN n) B S := h
theorem FishAt.but {w w' : World} {B : Nat} {S : Nat → Nat} {K : Nat → Prop} (h : FishAt w B S) (b : But K w w') (hk : ¬ K B) : FishAt w' B S := b.row h hk
/-- A filling, step by step: F k holds the words behind k steps, the last two words, and the place in the salt. -/
structure Fills (F : Nat → (Nat → Nat) × (Nat × Nat) × Nat) (sl : Value) (n : Nat) (w : World) : Prop where
  step : ∀ k, F (k + 1) = (up2 (F k).1 (2 * k) (F (k + 1)).2.1, (F (k + 1)).2.1, (F (k + 1)).2.2)
  lt : ∀ k, W32 (F k).1 ∧ (F k).2.1.1 < 4294967296 ∧ (F k).2.1.2 < 4294967296
  call : ∀ k sB aB lB rB tB w2, n ≤ sB → n ≤ aB → n ≤ lB → n ≤ rB → n ≤ tB → lB ≠ rB → aB ≠ lB → aB ≠ rB → sB ≠ aB → sB ≠ lB → sB ≠ rB → tB ≠ aB → tB ≠ lB → tB ≠ rB →
    But (fun i => n ≤ i) w w2 → FishAt w2 tB (F k).1 → w2.cell? ⟨sB, 0, none⟩ = some sl → Cell1 w2 aB 3 (.int .i64 ((F k).2.2 : Int)) → Cell1 w2 lB 29 (.int .u32 ((F k).2.1.1 : Int)) → Cell1 w2 rB 29 (.int .u32 ((F k).2.1.2 : Int)) →
    Calls Tryz.prog 58 #[.pointer (some ⟨sB, 0, none⟩), .pointer (some ⟨aB, 0, none⟩), .pointer (some ⟨lB, 0, none⟩), .pointer (some ⟨rB, 0, none⟩), .pointer (some ⟨tB, 0, none⟩)] w2 (StepPost aB lB rB (F (k + 1)).2.2 (F (k + 1)).2.1 w2)
theorem fills_plain {S : Nat → Nat} (hS : W32 S) (n c : Nat) (a : Option Addr) (w : World) : Fills (fun k => ((fillN S k).1, (fillN S k).2, 0)) (.slice a 0 c) n w where
  step := fun _ => rfl
  lt := fun k => fillN_lt hS k
  call := fun k sB aB lB rB tB w2 _ _ _ _ _ n1 n2 n3 _ _ _ _ _ _ _ ht hs ha hL hR => by
    have l := fillN_lt hS k
    exact step_plain (fillN S k).1 sB aB lB rB tB _ _ 0 a c w2 l.2.1 l.2.2 (ht.words l.1) n1 n2 n3 hs ha hL hR
theorem fills_salt {S : Nat → Nat} (hS : W32 S) (ss : List Nat) (b o c : Nat) (w : World) (h0 : 0 < ss.length) (hm : ss.length ≤ 1000000000000) (hb : Bytes ss) (hc : ∀ i, i < ss.length → w.cell? ⟨b, o + i, none⟩ = some (.int .u8 ((ss.getD i 0 : Nat) : Int))) :
    Fills (fun k => fillS ss S k) (.slice (some ⟨b, o, none⟩) ss.length c) w.heap.size w where
  step := fun _ => rfl
  lt := fun k => ⟨(fillS_lt hb h0 hS k).1, (fillS_lt hb h0 hS k).2.1, (fillS_lt hb h0 hS k).2.2.1⟩
  call := fun k sB aB lB rB tB w2 k1 k2 k3 k4 k5 n1 n2 n3 n4 n5 n6 t1 t2 t3 bu ht hs ha hL hR => by
    have l := fillS_lt hb h0 hS k
    have hbl : b < w.heap.size := World.block_lt_of_cell? _ _ (hc 0 h0)
    exact step_salt (fillS ss S k).1 ss sB aB lB rB tB _ _ _ b o c w2 l.2.1 l.2.2.1 (ht.words l.1) n1 n2 n3 n4 n5 n6 (fun e => absurd k2 (by omega)) (fun e => absurd k3 (by omega)) (fun e => absurd k4 (by omega)) t1 t2 t3 h0 hm l.2.2.2 hb (fun i hi => bu.cell (hc i hi) (fun h => absurd hbl (Nat.not_lt.2 h))) hs ha hL hR
end Go.Proofs.YthnhdfgonpbldaaGreatDoor
/- The specification's expanded: the key mixed in, then the words filled. -/
namespace Go.Proofs.YthnhdfgonpbldaaGreatDoor
open Go.RowKit Go.Lib
def ExpdPost (T : Nat → Nat) (w : World) (e : Ending) (w' : World) : Prop := e = .returned (.agg (fishA T)) ∧ Below w.heap.size w w'
structure ExRel (F : Nat → (Nat → Nat) × (Nat × Nat) × Nat) (tB aB lB rB : Nat) (w5 : World) (k : Nat) (w : World) : Prop where
  but : But (fun i => i = tB ∨ i = aB ∨ i = lB ∨ i = rB) w5 w
  t : FishAt w tB (F k).1
  a : Cell1 w aB 3 (.int .i64 ((F k).2.2 : Int))
  l : Cell1 w lB 29 (.int .u32 ((F k).2.1.1 : Int))
  r : Cell1 w rB 29 (.int .u32 ((F k).2.1.2 : Int))
structure Apart (tB sB aB lB rB : Nat) : Prop where
  a : tB < sB
  b : sB < aB
  c : aB < lB
  d : lB < rB
theorem ExRel.step {F : Nat → (Nat → Nat) × (Nat × Nat) × Nat} {tB sB aB lB rB : Nat} {w5 : World} {k : Nat} {w w1 : World} {e : Ending} {sl : Value} {n : Nat} {wn : World} (h : ExRel F tB aB lB rB w5 k w) (o : Apart tB sB aB lB rB) (f : Fills F sl n wn)
    (p : StepPost aB lB rB (F (k + 1)).2.2 (F (k + 1)).2.1 w e w1) (m : Nat) :
    ExRel F tB aB lB rB w5 (k + 1) (((w1.drewN m).setCell ⟨tB, 2 * k, none⟩ (.int .u32 ((F (k + 1)).2.1.1 : Int))).setCell ⟨tB, 2 * k + 1, none⟩ (.int .u32 ((F (k + 1)).2.1.2 : Int))) := by
  obtain ⟨o1, o2, o3, o4⟩ := o
  obtain ⟨_, pb, pa, pl, pr⟩ := p
  have b2 : But (· = tB) (w1.drewN m) (((w1.drewN m).setCell ⟨tB, 2 * k, none⟩ (.int .u32 ((F (k + 1)).2.1.1 : Int))).setCell ⟨tB, 2 * k + 1, none⟩ (.int .u32 ((F (k + 1)).2.1.2 : Int))) :=
    But.setCell (S := (· = tB)) (p := ⟨tB, 2 * k + 1, none⟩) (But.setCell (S := (· = tB)) (p := ⟨tB, 2 * k, none⟩) (But.refl (· = tB) (w1.drewN m)) (fun _ => rfl) _) (fun _ => rfl) _
  refine ⟨?_, ?_, ?_, ?_, ?_⟩
  · exact ((h.but.then (pb.trans (But.refl _ _) (fun _ _ h => Or.inr h) (fun _ _ h => h))).drewN m).then (b2.trans (But.refl _ _) (fun _ _ h => Or.inl h) (fun _ _ h => h))
  · have t1 : FishAt (w1.drewN m) tB (F k).1 := FishAt.but (w' := w1) h.t pb (fun h => by have h' : tB = aB ∨ tB = lB ∨ tB = rB := h; omega)
    have t2 := FishAt.set2 t1 (2 * k) (F (k + 1)).2.1
    rw [congrArg Prod.fst (f.step k)]
    exact t2
  · exact Cell1.but (w := w1.drewN m) pa b2 (fun h => by have h' : aB = tB := h; omega)
  · exact Cell1.but (w := w1.drewN m) pl b2 (fun h => by have h' : lB = tB := h; omega)
  · exact Cell1.but (w := w1.drewN m) pr b2 (fun h => by have h' : rB = tB := h; omega)
set_option maxRecDepth 100000 in
set_option maxHeartbeats 2000000 in
theorem expanded_any (bs : List Nat) (b o c : Nat) (a2 : Option Addr) (n2 c2 : Nat) (S : Nat → Nat) (F : Nat → (Nat → Nat) × (Nat × Nat) × Nat) (w : World) (h0 : 0 < bs.length) (hm : bs.length ≤ 1000000000000) (hb : Bytes bs) (hS : W32 S)
    (hc : ∀ i, i < bs.length → w.cell? ⟨b, o + i, none⟩ = some (.int .u8 ((bs.getD i 0 : Nat) : Int))) (hF : Fills F (.slice a2 n2 c2) w.heap.size w) (hF0 : F 0 = ((mixK bs S 18).1, (0, 0), 0)) :
    Calls Tryz.prog 38 #[.agg (fishA S), .slice (some ⟨b, o, none⟩) bs.length c, .slice a2 n2 c2] w (ExpdPost (F 521).1 w) := by
  obtain ⟨A, hA⟩ : ∃ A, A = fishA S := ⟨_, rfl⟩
  rw [← hA]
  have HA := Lib.hid hA; clear hA
  have Hb := Lib.hid hb; clear hb
  have Hc := Lib.hid hc; clear hc
  have HS := Lib.hid hS; clear hS
  have HF := Lib.hid hF; clear hF
  have HF0 := Lib.hid hF0; clear hF0
  obtain ⟨n, hn⟩ : ∃ n, n = bs.length := ⟨_, rfl⟩
  rw [← hn] at h0 hm ⊢
  have Hn := Lib.hid hn; clear hn
  have H0 := Lib.hid h0
  go_enter Tryz.func38, Tryz.ntmps38
  go_wp2_with fail
  obtain ⟨tB, htB⟩ : ∃ B, B = w.heap.size := ⟨_, rfl⟩
  obtain ⟨sB, hsB⟩ : ∃ B, B = tB + 1 := ⟨_, rfl⟩
  obtain ⟨zB, hzB⟩ : ∃ B, B = sB + 1 := ⟨_, rfl⟩
  obtain ⟨aB, haB⟩ : ∃ B, B = zB + 1 := ⟨_, rfl⟩
  simp only [← htB, ← hsB, ← hzB, ← haB]
  obtain ⟨w0, hw0⟩ : ∃ w0, w0 = (((w.alloc (Obj.cells A 34)).alloc (Obj.cells #[Value.slice a2 n2 c2] 22)).alloc (Obj.cells Tryz.zeroCells34 34)).alloc (Obj.cells #[Value.int IntKind.i64 0] 3) := ⟨_, rfl⟩
  simp only [← hw0]
  have b0 : But (fun i => tB ≤ i) w w0 := by rw [hw0]; exact (((But.refl _ w).alloc _).alloc _ |>.alloc _).alloc _
  have z0 : w0.heap.size = aB + 1 := by rw [hw0]; simp [haB, hzB, hsB, htB]
  have r1 : FishAt w0 tB S := by
    unfold FishAt
    rw [hw0, ← HA.out, heap_alloc_ne _ _ _ (by simp; omega), heap_alloc_ne _ _ _ (by simp; omega), heap_alloc_ne _ _ _ (by simp; omega), htB]
    exact heap_alloc_at w _
  have r2 : Cell1 w0 sB 22 (.slice a2 n2 c2) := by
    unfold Cell1
    rw [hw0, heap_alloc_ne _ _ _ (by simp; omega), heap_alloc_ne _ _ _ (by simp; omega), show sB = (w.alloc (Obj.cells A 34)).heap.size by simp; omega]
    exact heap_alloc_at _ _
  have r3 : w0.heap[zB]? = some (.cells Tryz.zeroCells34 34 (0, 0)) := by
    rw [hw0, heap_alloc_ne _ _ _ (by simp; omega), show zB = ((w.alloc (Obj.cells A 34)).alloc (Obj.cells #[Value.slice a2 n2 c2] 22)).heap.size by simp; omega]
    exact heap_alloc_at _ _
  have r4 : Cell1 w0 aB 3 (.int .i64 0) := by
    unfold Cell1
    rw [hw0, show aB = (((w.alloc (Obj.cells A 34)).alloc (Obj.cells #[Value.slice a2 n2 c2] 22)).alloc (Obj.cells Tryz.zeroCells34 34)).heap.size by simp; omega]
    exact heap_alloc_at _ _
  have ord : tB < sB ∧ sB < zB ∧ zB < aB := by omega
  clear hw0 haB hzB hsB
  rw [← htB] at HF
  have B0 := Lib.hid b0; clear b0
  have R1 := Lib.hid r1; clear r1
  have R2 := Lib.hid r2; clear r2
  have R3 := Lib.hid r3; clear r3
  have R4 := Lib.hid r4; clear r4
  have HtB := Lib.hid htB; clear htB
  have Ord := Lib.hid ord; clear ord
  have Z0 := Lib.hid z0; clear z0
  go_loopw [16] (fun i wr => ∃ k : Nat, k ≤ 18 ∧ i = .int .i64 k ∧ But (fun i => i = tB ∨ i = aB) w0 wr ∧ FishAt wr tB (mixK bs S k).1 ∧ Cell1 wr aB 3 (.int .i64 ((mixK bs S k).2 : Int))) (fun i _ => 18 - (intOf i).toNat)
  case atStart => exact ⟨0, Nat.zero_le _, rfl, But.refl _ _, R1.out, R4.out⟩
  case round =>
    obtain ⟨k, hk, rfl, hbut, hfi, hat⟩ := hrel
    have mk := mixK_lt Hb.out (by rw [← Hn.out]; exact h0) HS.out k
    obtain ⟨j, hj⟩ : ∃ j, j = (mixK bs S k).2 := ⟨_, rfl⟩
    rw [← hj] at mk hat
    have Hj := Lib.hid hj; clear hj
    have bl : ∀ i, i < bs.length → b < tB := fun i hi => by have l : b < w.heap.size := World.block_lt_of_cell? _ _ (Hc.out i hi); rw [HtB.out]; exact l
    have hcw : ∀ i, i < bs.length → wr.cell? ⟨b, o + i, none⟩ = some (.int .u8 ((bs.getD i 0 : Nat) : Int)) := fun i hi => by
      have l := bl i hi
      have o3 := Ord.out
      exact hbut.cell (B0.out.cell (Hc.out i hi) (fun h => absurd l (Nat.not_lt.2 h))) (fun h => by have h' : b = tB ∨ b = aB := h; omega)
    by_cases hlt : k < 18
    · have call := round_any bs b o c j wr (by rw [← Hn.out]; exact h0) (by rw [← Hn.out]; exact hm) mk.2 Hb.out hcw
      unfold RndPost at call
      have lx := cycs_lt Hb.out (by rw [← Hn.out]; exact h0) mk.2 4
      obtain ⟨P, hP⟩ : ∃ P, P = cycs bs 4 (0, j) := ⟨_, rfl⟩
      rw [← hP] at call lx
      have ek : mixK bs S (k + 1) = (fun i => if i = k then (mixK bs S k).1 i ^^^ P.1 else (mixK bs S k).1 i, P.2) := by
        show (fun i => if i = k then (mixK bs S k).1 i ^^^ (cycs bs 4 (0, (mixK bs S k).2)).1 else (mixK bs S k).1 i, (cycs bs 4 (0, (mixK bs S k).2)).2) = _
        rw [← Hj.out, ← hP]
      clear hP
      obtain ⟨x, p⟩ := P
      simp only at call lx ek
      rw [← Hn.out] at call
      have Call := Lib.hid call; clear call hcw bl
      have Ek := Lib.hid ek; clear ek
      obtain ⟨w4, hw4⟩ : ∃ w4, w4 = wr.setCell ⟨aB, 0, none⟩ (.int .i64 (p : Int)) := ⟨_, rfl⟩
      have nta : tB ≠ aB := by have := Ord.out; omega
      have b4 : But (· = aB) wr w4 := by rw [hw4]; exact But.setCell (S := (· = aB)) (p := ⟨aB, 0, none⟩) (But.refl _ wr) (fun _ => rfl) _
      have f4 := hfi.but b4 nta
      have k1 := f4.cell k (by omega)
      have k2 := f4.free k
      have a4 : Cell1 w4 aB 3 (.int .i64 (p : Int)) := by rw [hw4]; exact hat.set _
      obtain ⟨v, hv⟩ : ∃ v, v = (mixK bs S k).1 k := ⟨_, rfl⟩
      have lv : v < 4294967296 := by rw [hv]; exact mk.1 k
      rw [← hv] at k1
      have Hv := Lib.hid hv; clear hv
      obtain ⟨z, hz⟩ : ∃ z, z = v ^^^ x := ⟨_, rfl⟩
      have e2 : bits .xor .u32 (v : Int) (x : Int) = (z : Int) := by rw [hz]; exact u32_xor_nat _ _ lv lx.1
      have Hz := Lib.hid hz; clear hz
      have ca := hat.cell
      have fa := hat.free
      rw [hw4] at k1 k2
      have F4 := Lib.hid f4; clear f4
      have HW4 := Lib.hid hw4; clear hw4
      have A4 := Lib.hid a4; clear a4
      have B4 := Lib.hid b4; clear b4
      have HBut := Lib.hid hbut; clear hbut
      clear mk lx lv hfi hat
      go_wp2_with fail
      refine Call.out.mono ?_
      rintro e w1 ⟨rfl, hw1⟩
      rw [hw1]
      clear hw1 Call
      go_wp2_with fail
      go_roundw
      case rel =>
        have ez : (fun i => if i = k then z else (mixK bs S k).1 i) = (mixK bs S (k + 1)).1 := by
          rw [Ek.out]
          funext i
          show _ = if i = k then (mixK bs S k).1 i ^^^ x else (mixK bs S k).1 i
          by_cases hi : i = k
          · subst hi
            simp [Hz.out, Hv.out]
          · simp [hi]
        rw [← HW4.out]
        refine ⟨k + 1, by omega, by go_num, ?_, ?_, ?_⟩
        · exact But.setCell (HBut.out.then (B4.out.trans (But.refl (fun i => i = tB ∨ i = aB) w4) (fun _ _ h => Or.inr h) (fun _ _ h => h))) (fun _ => Or.inl rfl) _
        · rw [← ez]
          exact FishAt.set F4.out k z
        · rw [Ek.out]
          exact A4.out.but (But.setCell (S := (· = tB)) (p := ⟨tB, k, none⟩) (But.refl _ _) (fun _ => rfl) _) (Ne.symm nta)
      case measure => simp [intOf]; omega
    · obtain rfl : k = 18 := by omega
      clear hcw bl
      obtain ⟨we, hwe⟩ : ∃ we, we = (wr.alloc (.cells #[.int .u32 0] 29)).alloc (.cells #[.int .u32 0] 29) := ⟨_, rfl⟩
      obtain ⟨lB, hlB⟩ : ∃ l, l = wr.heap.size := ⟨_, rfl⟩
      obtain ⟨rB, hrB⟩ : ∃ r, r = lB + 1 := ⟨_, rfl⟩
      have be : But (fun _ => False) wr we := by rw [hwe]; exact ((But.refl _ wr).alloc _).alloc _
      have wl : aB < lB := by have := hbut.size; have := Z0.out; omega
      have el : Cell1 we lB 29 (.int .u32 0) := by
        unfold Cell1
        rw [hwe, heap_alloc_ne _ _ _ (by simp; omega), hlB]
        exact heap_alloc_at wr _
      have er : Cell1 we rB 29 (.int .u32 0) := by
        unfold Cell1
        rw [hwe, show rB = (wr.alloc (Obj.cells #[Value.int IntKind.u32 0] 29)).heap.size by simp; omega]
        exact heap_alloc_at _ _
      have ea := hat.but be id
      have ca := ea.cell
      have fa := ea.free
      obtain ⟨w5, hw5⟩ : ∃ w5, w5 = we.setCell ⟨aB, 0, none⟩ (.int .i64 0) := ⟨_, rfl⟩
      have b5 : But (· = aB) we w5 := by rw [hw5]; exact But.setCell (S := (· = aB)) (p := ⟨aB, 0, none⟩) (But.refl _ we) (fun _ => rfl) _
      have a5 : Cell1 w5 aB 3 (.int .i64 0) := by rw [hw5]; exact ea.set _
      have l5 := el.but b5 (by show ¬ lB = aB; omega)
      have r5 := er.but b5 (by show ¬ rB = aB; omega)
      have o3 := Ord.out
      have t5 := (hfi.but be id).but b5 (by show ¬ tB = aB; omega)
      have bw : But (fun i => i = tB ∨ i = aB) w0 w5 := (hbut.trans be (fun _ _ h => h) (fun _ _ h => h.elim)).then (b5.trans (But.refl _ w5) (fun _ _ h => Or.inr h) (fun _ _ h => h))
      have s5 := R2.out.but bw (by show ¬ (sB = tB ∨ sB = aB); omega)
      have z5 := bw.row R3.out (by show ¬ (zB = tB ∨ zB = aB); omega)
      have g5 : But (fun i => tB ≤ i) w w5 := B0.out.then (bw.trans (But.refl _ w5) (fun i _ h => by have h' : i = tB ∨ i = aB := h; show tB ≤ i; omega) (fun _ _ h => h))
      have ap : Apart tB sB aB lB rB := ⟨by omega, by omega, wl, by omega⟩
      have x0 : ExRel F tB aB lB rB w5 0 w5 := by
        have m0 := HF0.out
        refine ⟨But.refl _ _, ?_, ?_, ?_, ?_⟩
        · rw [m0]; exact t5
        · rw [m0]; exact a5
        · rw [m0]; exact l5
        · rw [m0]; exact r5
      have rzl : zB < lB := by omega
      rw [hwe] at ca fa
      clear be ea b5 a5 l5 r5 t5 bw el er wl hfi hat hbut mk o3
      have X0 := Lib.hid x0; clear x0
      have S5 := Lib.hid s5; clear s5
      have Z5 := Lib.hid z5; clear z5
      have G5 := Lib.hid g5; clear g5
      have Ap := Lib.hid ap; clear ap
      have Hrzl := Lib.hid rzl; clear rzl
      go_wp2_with fail
      simp only [← hwe, ← hw5, ← hlB, ← hrB, Int.cast_ofNat_Int]
      clear hwe hw5 hlB hrB ca fa
      go_loopw [13] (fun i w6 => ∃ k m : Nat, 2 * k = m ∧ m ≤ 18 ∧ i = .int .i64 m ∧ ExRel F tB aB lB rB w5 k w6) (fun i _ => 18 - (intOf i).toNat)
      case atStart => exact ⟨0, 0, rfl, by omega, rfl, X0.out⟩
      case round =>
        obtain ⟨k, m, hm2, hm18, rfl, hx⟩ := hrel
        have Hm2 := Lib.hid hm2; clear hm2
        have ap := Ap.out
        obtain ⟨o1, o2, o3, o4⟩ := ap
        by_cases hlt : m < 18
        · have cs : wr.cell? ⟨sB, 0, none⟩ = some (.slice a2 n2 c2) := hx.but.cell S5.out.cell (by show ¬ (sB = tB ∨ sB = aB ∨ sB = lB ∨ sB = rB); omega)
          have call := HF.out.call k sB aB lB rB tB wr (by omega) (by omega) (by omega) (by omega) (by omega) (by omega) (by omega) (by omega) (by omega) (by omega) (by omega) (by omega) (by omega) (by omega)
            (G5.out.then (hx.but.trans (But.refl _ wr) (fun i _ h => by have h' : i = tB ∨ i = aB ∨ i = lB ∨ i = rB := h; show tB ≤ i; omega) (fun _ _ h => h))) hx.t cs hx.a hx.l hx.r
          have Call := Lib.hid call; clear call cs
          have HX := Lib.hid hx; clear hx
          go_wp2_with fail
          refine Call.out.mono ?_
          intro e w1 hp
          obtain ⟨rfl, pb, pa, pl, pr⟩ := (show StepPost aB lB rB (F (k + 1)).2.2 (F (k + 1)).2.1 wr e w1 from hp)
          have t1 : FishAt w1 tB (F k).1 := FishAt.but (w' := w1) HX.out.t pb (fun h => by have h' : tB = aB ∨ tB = lB ∨ tB = rB := h; omega)
          have k1 := t1.cell m (by omega)
          have k2 := t1.cell (m + 1) (by have := Hm2.out; omega)
          have k3 := t1.free m
          have k4 := t1.free (m + 1)
          have cl := pl.cell
          have cr := pr.cell
          obtain ⟨u, hu⟩ : ∃ u, u = (F (k + 1)).2.1.1 := ⟨_, rfl⟩
          obtain ⟨v, hv⟩ : ∃ v, v = (F (k + 1)).2.1.2 := ⟨_, rfl⟩
          rw [← hu] at cl
          rw [← hv] at cr
          have tl1 : m + 1 < 18 := by have := Hm2.out; omega
          have Hu := Lib.hid hu; clear hu
          have Hv := Lib.hid hv; clear hv
          have Hp := Lib.hid hp; clear hp
          have Ho := Lib.hid (⟨o1, o2, o3, o4⟩ : Apart tB sB aB lB rB)
          clear pb pa pl pr t1 Call
          go_wp2_with fail
          go_region
          go_wp2_with fail
          go_roundw
          case rel =>
            have st := fun q => HX.out.step Ho.out HF.out Hp.out q
            rw [← Hu.out, ← Hv.out, Hm2.out] at st
            exact ⟨k + 1, m + 2, by have := Hm2.out; omega, by omega, by go_num, st _⟩
          case measure => simp [intOf]; omega
        · obtain rfl : m = 18 := by omega
          obtain rfl : k = 9 := by have := Hm2.out; omega
          have X9 := Lib.hid hx; clear hx X0 Hm2
          go_wp2_with fail
          simp only [Int.cast_ofNat_Int]
          go_loopw [50] (fun i wr => ∃ q : Nat, q ≤ 4 ∧ i = .int .i64 q ∧ ExRel F tB aB lB rB w5 (9 + 128 * q) wr) (fun i _ => 4 - (intOf i).toNat)
          case atStart => exact ⟨0, by omega, rfl, X9.out⟩
          case round =>
            obtain ⟨q, hq, rfl, hx⟩ := hrel
            have XQ := Lib.hid hx; clear hx X9
            by_cases hlq : q < 4
            · have dq : decide ((q : Int) < 4) = true := by simp; omega
              go_wp2_with fail
              go_loopw [15] (fun i wr => ∃ k m : Nat, 2 * k = m ∧ m ≤ 256 ∧ i = .int .i64 m ∧ ExRel F tB aB lB rB w5 (9 + 128 * q + k) wr) (fun i _ => 256 - (intOf i).toNat)
              case atStart => exact ⟨0, 0, rfl, by omega, rfl, XQ.out⟩
              case round =>
                obtain ⟨k, m, hm2, hm18, rfl, hx⟩ := hrel
                have Hm2 := Lib.hid hm2; clear hm2
                by_cases hlt : m < 256
                · have cs : wr.cell? ⟨sB, 0, none⟩ = some (.slice a2 n2 c2) := hx.but.cell S5.out.cell (by show ¬ (sB = tB ∨ sB = aB ∨ sB = lB ∨ sB = rB); omega)
                  have call := HF.out.call (9 + 128 * q + k) sB aB lB rB tB wr (by omega) (by omega) (by omega) (by omega) (by omega) (by omega) (by omega) (by omega) (by omega) (by omega) (by omega) (by omega) (by omega) (by omega)
                    (G5.out.then (hx.but.trans (But.refl _ wr) (fun i _ h => by have h' : i = tB ∨ i = aB ∨ i = lB ∨ i = rB := h; show tB ≤ i; omega) (fun _ _ h => h))) hx.t cs hx.a hx.l hx.r
                  have Call := Lib.hid call; clear call cs
                  have HX := Lib.hid hx; clear hx
                  go_wp2_with fail
                  refine Call.out.mono ?_
                  intro e w1 hp
                  obtain ⟨rfl, pb, pa, pl, pr⟩ := (show StepPost aB lB rB (F (9 + 128 * q + k + 1)).2.2 (F (9 + 128 * q + k + 1)).2.1 wr e w1 from hp)
                  have t1 : FishAt w1 tB (F (9 + 128 * q + k)).1 := FishAt.but (w' := w1) HX.out.t pb (fun h => by have h' : tB = aB ∨ tB = lB ∨ tB = rB := h; omega)
                  have k1 := t1.cell (18 + q * 256 + m) (by omega)
                  have k2 := t1.cell (18 + q * 256 + (m + 1)) (by have := Hm2.out; omega)
                  have k3 := t1.free (18 + q * 256 + m)
                  have k4 := t1.free (18 + q * 256 + (m + 1))
                  have cl := pl.cell
                  have cr := pr.cell
                  obtain ⟨u, hu⟩ : ∃ u, u = (F (9 + 128 * q + k + 1)).2.1.1 := ⟨_, rfl⟩
                  obtain ⟨v, hv⟩ : ∃ v, v = (F (9 + 128 * q + k + 1)).2.1.2 := ⟨_, rfl⟩
                  rw [← hu] at cl
                  rw [← hv] at cr
                  have tl1 : m + 1 < 256 := by have := Hm2.out; omega
                  have Hu := Lib.hid hu; clear hu
                  have Hv := Lib.hid hv; clear hv
                  have Hp := Lib.hid hp; clear hp
                  have Ho := Lib.hid (⟨o1, o2, o3, o4⟩ : Apart tB sB aB lB rB)
                  clear pb pa pl pr t1 Call
                  go_wp2_with fail
                  go_region
                  go_wp2_with fail
                  go_roundw
                  case rel =>
                    have st := fun t => HX.out.step Ho.out HF.out Hp.out t
                    rw [← Hu.out, ← Hv.out, show 2 * (9 + 128 * q + k) = 18 + q * 256 + m by have := Hm2.out; omega] at st
                    exact ⟨k + 1, m + 2, by have := Hm2.out; omega, by omega, by go_num, st _⟩
                  case measure => simp [intOf]; omega
                · obtain rfl : m = 256 := by omega
                  obtain rfl : k = 128 := by have := Hm2.out; omega
                  have XX := Lib.hid hx; clear hx Hm2
                  go_wp2_with fail
                  go_roundw
                  case rel => exact ⟨q + 1, by omega, by go_num, XX.out⟩
                  case measure => simp [intOf]; omega
            · obtain rfl : q = 4 := by omega
              have t9 := XQ.out.t
              have z9 := XQ.out.but.row Z5.out (by have := Hrzl.out; have := Ord.out; show ¬ (zB = tB ∨ zB = aB ∨ zB = lB ∨ zB = rB); omega)
              have zs : Tryz.zeroCells34.size = (fishA (F 521).1).size := by rw [fishA_size]; kernel_rfl
              have is : (Tryz.prog.info? 34).map (·.size) = some (fishA (F 521).1).size := by rw [fishA_size]; kernel_rfl
              have on := fishA_one (F 521).1
              have T9 := Lib.hid t9; clear t9
              have Z9 := Lib.hid z9; clear z9
              have ZS := Lib.hid zs; clear zs
              have IS := Lib.hid is; clear is
              have ON := Lib.hid on; clear on
              go_wp2_with (first
                | refine wpList_load_row rfl 34 (.tmp 3) rfl tB rfl 34 (fishA (F 521).1) (0, 0) _ T9.out Tryz.underlying34 rfl IS.out ?_
                | refine wpList_store_row rfl 34 (.tmp 6) (.tmp 73) rfl zB (fishA (F 521).1) rfl rfl 34 Tryz.zeroCells34 Z9.out IS.out ZS.out ON.out ?_)
              have RZ := Lib.hid (setRow_heap wr zB _ (fishA (F 521).1) 34 (0, 0) Z9.out)
              have BL := Lib.hid (show Below w.heap.size w (wr.setRow zB (fishA (F 521).1)) from by
                have c1 := G5.out.then (XQ.out.but.trans (But.refl (fun i => tB ≤ i) wr) (fun i _ h => by have h' : i = tB ∨ i = aB ∨ i = lB ∨ i = rB := h; show tB ≤ i; omega) (fun _ _ h => h))
                have c2 := But.setRow c1 (by have := Ord.out; show tB ≤ zB; omega) (fishA (F 521).1)
                exact c2.below (Nat.le_refl _) (fun k hk h => by have h' : tB ≤ k := h; have := HtB.out; omega))
              go_wp2_with fail
              refine bodyPost_ret (results_cell_row rfl _ _ zB 34 (fishA (F 521).1) (0, 0) _ rfl RZ.out Tryz.underlying34 rfl IS.out) rfl ?_
              exact ⟨rfl, BL.out⟩
end Go.Proofs.YthnhdfgonpbldaaGreatDoor
/- The specification's expanded with a salt, and without. -/
namespace Go.Proofs.YthnhdfgonpbldaaGreatDoor
open Go.RowKit Go.Lib
theorem expanded_salt (bs ss : List Nat) (b o c b2 o2 c2 : Nat) (S : Nat → Nat) (w : World) (h0 : 0 < bs.length) (hm : bs.length ≤ 1000000000000) (hb : Bytes bs) (hS : W32 S) (g0 : 0 < ss.length) (gm : ss.length ≤ 1000000000000) (gb : Bytes ss)
    (hc : ∀ i, i < bs.length → w.cell? ⟨b, o + i, none⟩ = some (.int .u8 ((bs.getD i 0 : Nat) : Int))) (gc : ∀ i, i < ss.length → w.cell? ⟨b2, o2 + i, none⟩ = some (.int .u8 ((ss.getD i 0 : Nat) : Int))) :
    Calls Tryz.prog 38 #[.agg (fishA S), .slice (some ⟨b, o, none⟩) bs.length c, .slice (some ⟨b2, o2, none⟩) ss.length c2] w (ExpdPost (expS bs ss S) w) := by
  have f := fills_salt (mixK_lt hb h0 hS 18).1 ss b2 o2 c2 w g0 gm gb gc
  have e0 : fillS ss (mixK bs S 18).1 0 = ((mixK bs S 18).1, (0, 0), 0) := by rw [fillS]
  unfold expS
  obtain ⟨F, hF⟩ : ∃ F, F = fun k => fillS ss (mixK bs S 18).1 k := ⟨_, rfl⟩
  have e1 : ∀ k, fillS ss (mixK bs S 18).1 k = F k := fun k => by rw [hF]
  rw [← hF] at f
  rw [e1] at e0
  rw [e1]
  clear e1 hF
  exact expanded_any bs b o c _ _ c2 S F w h0 hm hb hS hc f e0
theorem expanded_plain (bs : List Nat) (b o c : Nat) (S : Nat → Nat) (w : World) (h0 : 0 < bs.length) (hm : bs.length ≤ 1000000000000) (hb : Bytes bs) (hS : W32 S)
    (hc : ∀ i, i < bs.length → w.cell? ⟨b, o + i, none⟩ = some (.int .u8 ((bs.getD i 0 : Nat) : Int))) :
    Calls Tryz.prog 38 #[.agg (fishA S), .slice (some ⟨b, o, none⟩) bs.length c, .slice none 0 0] w (ExpdPost (expK bs S) w) := by
  have f := fills_plain (mixK_lt hb h0 hS 18).1 w.heap.size 0 none w
  have e0 : fillN (mixK bs S 18).1 0 = ((mixK bs S 18).1, (0, 0)) := by rw [fillN]
  unfold expK
  obtain ⟨G, hG⟩ : ∃ G, G = fun k => fillN (mixK bs S 18).1 k := ⟨_, rfl⟩
  have e1 : ∀ k, fillN (mixK bs S 18).1 k = G k := fun k => by rw [hG]
  simp only [e1] at f
  rw [e1] at e0
  rw [e1]
  clear e1 hG
  obtain ⟨F, hF⟩ : ∃ F : Nat → (Nat → Nat) × (Nat × Nat) × Nat, F = fun k => ((G k).1, (G k).2, 0) := ⟨_, rfl⟩
  rw [← hF] at f
  have e2 : (G 521).1 = (F 521).1 := by rw [hF]
  rw [e2]
  exact expanded_any bs b o c none 0 0 S F w h0 hm hb hS hc f (by rw [hF]; show ((G 0).1, (G 0).2, 0) = _; rw [e0])
end Go.Proofs.YthnhdfgonpbldaaGreatDoor
