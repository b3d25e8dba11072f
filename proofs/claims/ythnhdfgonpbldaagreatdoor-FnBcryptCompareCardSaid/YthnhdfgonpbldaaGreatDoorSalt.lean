/- blowfish.expandKeyWithSalt, walked. NOT FINISHED. -/
import Derived.Test.YthnhdfgonpbldaaGreatDoorCiph
import Derived.Outline
import Derived.Deep.RegionWith
namespace Go.Proofs.YthnhdfgonpbldaaGreatDoor
open Go.RowKit Go.Lib
def SaltPost (T : Nat → Nat) (B : Nat) (w : World) (e : Ending) (w' : World) : Prop := e = .returned (.tuple #[]) ∧ But (· = B) w w' ∧ Ciph w' B T
set_option maxRecDepth 100000 in
set_option maxHeartbeats 2000000 in
theorem expandSalt_any (bs ss : List Nat) (b o c b2 o2 c2 B : Nat) (S : Nat → Nat) (w : World) (h0 : 0 < bs.length) (hm : bs.length ≤ 1000000000000) (hb : Bytes bs) (g0 : 0 < ss.length) (gm : ss.length ≤ 1000000000000) (gb : Bytes ss)
    (hS : W32 S) (hne : b ≠ B) (gne : b2 ≠ B) (hB : B < w.heap.size)
    (hc : ∀ i, i < bs.length → w.cell? ⟨b, o + i, none⟩ = some (.int .u8 ((bs.getD i 0 : Nat) : Int))) (gc : ∀ i, i < ss.length → w.cell? ⟨b2, o2 + i, none⟩ = some (.int .u8 ((ss.getD i 0 : Nat) : Int))) (hC : Ciph w B S) :
    Calls Tryz.prog 77 #[.slice (some ⟨b, o, none⟩) bs.length c, .slice (some ⟨b2, o2, none⟩) ss.length c2, .pointer (some ⟨B, 0, none⟩)] w (SaltPost (expS bs ss S) B w) := by
  have Hb := Lib.hid hb; clear hb
  have Hc := Lib.hid hc; clear hc
  have Gb := Lib.hid gb; clear gb
  have Gc := Lib.hid gc; clear gc
  have HS := Lib.hid hS; clear hS
  have HC := Lib.hid hC; clear hC
  have HB := Lib.hid hB; clear hB
  obtain ⟨n, hn⟩ : ∃ n, n = bs.length := ⟨_, rfl⟩
  rw [← hn] at h0 hm ⊢
  have Hn := Lib.hid hn; clear hn
  obtain ⟨n2, hn2⟩ : ∃ n2, n2 = ss.length := ⟨_, rfl⟩
  rw [← hn2] at g0 gm ⊢
  have Hn2 := Lib.hid hn2; clear hn2
  go_enter Tryz.func77, Tryz.ntmps77
  go_wp2_with fail
  obtain ⟨P, hP⟩ : ∃ P, w.heap.size = P := ⟨_, rfl⟩
  simp only [hP]
  have HP := Lib.hid hP; clear hP
  have hne2 : P ≠ B := by have := HP.out; have := HB.out; omega
  go_loopw [7] (fun i wr => ∃ k : Nat, k ≤ 18 ∧ i = .int .i64 k ∧ But (· = B) w wr ∧ Ciph wr B (mixK bs S k).1 ∧ wr.heap[P]? = some (.cells #[.int .i64 ((mixK bs S k).2 : Int)] 3 (0, 0))) (fun i _ => 18 - (intOf i).toNat)
  case atStart =>
    refine ⟨0, Nat.zero_le _, rfl, (But.refl _ _).alloc _, ?_, ?_⟩
    · obtain ⟨cs, h1, h2, h3⟩ := HC.out
      exact ⟨cs, by rw [heap_alloc_ne _ _ _ (by have := HB.out; omega)]; exact h1, h2, h3⟩
    · rw [← HP.out]; exact heap_alloc_at w _
  case round =>
    obtain ⟨k, hk, rfl, hbut, hci, hp⟩ := hrel
    have mk := mixK_lt Hb.out (by rw [← Hn.out]; exact h0) HS.out k
    obtain ⟨j, hj⟩ : ∃ j, j = (mixK bs S k).2 := ⟨_, rfl⟩
    rw [← hj] at hp
    have ljn : j < bs.length := by rw [hj]; exact mk.2
    have Ljn := Lib.hid ljn; clear ljn
    have Hj := Lib.hid hj; clear hj
    have Hmk := Lib.hid mk; clear mk
    have Hp := Lib.hid hp; clear hp
    have Hbut := Lib.hid hbut; clear hbut
    by_cases hlt : k < 18
    · have k1 := hci.cell k (by omega)
      have k2 := hci.free k
      obtain ⟨v, hv⟩ : ∃ v, v = (mixK bs S k).1 k := ⟨_, rfl⟩
      rw [← hv] at k1
      have Hv := Lib.hid hv; clear hv
      have Hci := Lib.hid hci; clear hci
      have call := Lib.hid (fun (w3 : World) (hh : w3.heap = wr.heap) => nextWord bs b o c P j w3 (by rw [← Hn.out]; exact h0) (by rw [← Hn.out]; exact hm) Ljn.out Hb.out (fun i hi => by
        have := Hbut.out.cell (Hc.out i hi) hne
        unfold World.cell? at this ⊢
        rw [hh]; exact this) (by rw [hh]; exact Hp.out))
      rw [← Hn.out] at call
      go_wp2_with fail
      have cc : Calls Tryz.prog 91 #[.slice (some ⟨b, o, none⟩) n c, .pointer (some ⟨P, 0, none⟩)] wr.drew (NwPost bs j P wr.drew) := call.out wr.drew rfl
      have post : ∀ e w4, NwPost bs j P wr.drew e w4 → e = .returned (.int .u32 ((cycs bs 4 (0, j)).1 : Int)) := fun e w4 h => h.1
      have CC := Lib.hid cc; clear cc
      obtain ⟨x, hx⟩ : ∃ x, x = (cycs bs 4 (0, j)).1 := ⟨_, rfl⟩
      obtain ⟨p, hp2⟩ : ∃ p, p = (cycs bs 4 (0, j)).2 := ⟨_, rfl⟩
      have HX := Lib.hid hx; clear hx
      have HP2 := Lib.hid hp2; clear hp2
      go_region_with (refine CC.out.mono ?_; rintro e w4 ⟨rfl, hb4, hp4⟩; have y1 := But.cell hb4 (p := ⟨B, k, none⟩) (v := .int .u32 (v : Int)) k1 (fun e => hne2 e.symm); have y2 := (Ciph.but (w := wr.drew) Hci.out hb4 (fun e => hne2 e.symm)).free k)
      all_goals go_wp2_with fail
      all_goals go_roundw
      case rel =>
        have lv : v < 4294967296 := by rw [Hv.out]; exact Hmk.out.1 k
        have lx := cycs_lt Hb.out (by rw [← Hn.out]; exact h0) Ljn.out 4
        have ez : (fun i => if i = k then v ^^^ (cycs bs 4 (0, j)).1 else (mixK bs S k).1 i) = (mixK bs S (k + 1)).1 := by
          funext i
          show _ = if i = k then (mixK bs S k).1 i ^^^ (cycs bs 4 (0, (mixK bs S k).2)).1 else (mixK bs S k).1 i
          rw [← Hj.out]
          by_cases hi : i = k
          · subst hi
            simp [Hv.out]
          · simp [hi]
        rw [u32_xor_nat _ _ lv lx.1]
        refine ⟨k + 1, by omega, by go_num, ?_, ?_, ?_⟩
        · have hB4 : But (· = B) w w4 := But.trans Hbut.out.drew hb4 (fun _ _ h => h) (fun i hi h => absurd h (by have := HP.out; omega))
          exact But.setCell hB4 (fun _ => rfl) _
        · rw [← ez]
          exact Ciph.set (Ciph.but (w := wr.drew) Hci.out hb4 (fun e => hne2 e.symm)) k (by omega) _
        · have : (mixK bs S (k + 1)).2 = (cycs bs 4 (0, j)).2 := by rw [Hj.out]; rfl
          rw [this]
          exact (But.setCell (But.refl (· = B) w4) (p := ⟨B, k, none⟩) (fun _ => rfl) _).row hp4 hne2
      case rel =>
        have lv : v < 4294967296 := by rw [Hv.out]; exact Hmk.out.1 k
        have lx := cycs_lt Hb.out (by rw [← Hn.out]; exact h0) Ljn.out 4
        have ez : (fun i => if i = k then v ^^^ (cycs bs 4 (0, j)).1 else (mixK bs S k).1 i) = (mixK bs S (k + 1)).1 := by
          funext i
          show _ = if i = k then (mixK bs S k).1 i ^^^ (cycs bs 4 (0, (mixK bs S k).2)).1 else (mixK bs S k).1 i
          rw [← Hj.out]
          by_cases hi : i = k
          · subst hi
            simp [Hv.out]
          · simp [hi]
        rw [u32_xor_nat _ _ lv lx.1]
        refine ⟨k + 1, by omega, by go_num, ?_, ?_, ?_⟩
        · have hB4 : But (· = B) w w4 := But.trans Hbut.out.drew hb4 (fun _ _ h => h) (fun i hi h => absurd h (by have := HP.out; omega))
          exact But.setCell hB4 (fun _ => rfl) _
        · rw [← ez]
          exact Ciph.set (Ciph.but (w := wr.drew) Hci.out hb4 (fun e => hne2 e.symm)) k (by omega) _
        · have : (mixK bs S (k + 1)).2 = (cycs bs 4 (0, j)).2 := by rw [Hj.out]; rfl
          rw [this]
          exact (But.setCell (But.refl (· = B) w4) (p := ⟨B, k, none⟩) (fun _ => rfl) _).row hp4 hne2
      all_goals (simp [intOf]; omega)
    · obtain rfl : k = 18 := by omega
      obtain ⟨M, hM⟩ : ∃ M, M = (mixK bs S 18).1 := ⟨_, rfl⟩
      have HM := Lib.hid hM
      have HW := Lib.hid (show W32 M by rw [hM]; exact Hmk.out.1)
      have HC1 := Lib.hid (show Ciph wr B M by rw [hM]; exact hci)
      clear hM hci Hmk
      have p1 := cell_row Hp.out (i := 0) (v := .int .i64 (j : Int)) (by simp)
      have p2 := frozen_row Hp.out 0
      go_wp2_with fail
      have bp : But (· = P) wr (wr.setCell ⟨P, 0, none⟩ (.int .i64 0)) := But.setCell (But.refl (· = P) wr) (fun _ => rfl) _
      have rp : (wr.setCell ⟨P, 0, none⟩ (.int .i64 0)).heap[P]? = some (.cells #[.int .i64 ((0 : Nat) : Int)] 3 (0, 0)) := by
        have := setCell_row wr P 0 _ 3 (0, 0) (.int .i64 0) Hp.out
        simpa using this
      have HB0 := Lib.hid (show But (· = B) w (wr.setCell ⟨P, 0, none⟩ (.int .i64 0)) from But.trans Hbut.out bp (fun _ _ h => h) (fun i hi h => absurd h (by have := HP.out; omega)))
      have HCI0 := Lib.hid (HC1.out.but bp (fun e => hne2 e.symm))
      have HR0 := Lib.hid rp; clear rp bp p1 p2 HC1 Hbut Hp
      go_loopw [8, 9, 10] (fun x y i w3 => ∃ m t : Nat, 2 * m = t ∧ t ≤ 18 ∧ i = .int .i64 (t : Int) ∧ x = .int .u32 ((fillS ss M m).2.1.1 : Int) ∧ y = .int .u32 ((fillS ss M m).2.1.2 : Int) ∧ But (· = B) w w3 ∧ Ciph w3 B (fillS ss M m).1 ∧ w3.heap[P]? = some (.cells #[.int .i64 ((fillS ss M m).2.2 : Int)] 3 (0, 0))) (fun _ _ i _ => 18 - (intOf i).toNat)
      case atStart => exact ⟨0, 0, rfl, by omega, rfl, rfl, rfl, HB0.out, HCI0.out, HR0.out⟩
      case round =>
        obtain ⟨m, t, ht, hm9, rfl, rfl, rfl, hb3, hc3, hp3⟩ := hrel
        have lim := fillS_lt Gb.out (by rw [← Hn2.out]; exact g0) HW.out m
        obtain ⟨F, hF⟩ : ∃ F, F = (fillS ss M m) := ⟨_, rfl⟩
        rw [← hF] at hc3 hp3 lim
        simp only [← hF]
        obtain ⟨T, ⟨l, r⟩, q⟩ := F
        obtain ⟨lW, l1, l2, lq⟩ := lim
        simp only at lW l1 l2 lq hc3 hp3 ⊢
        have HF := Lib.hid hF; clear hF
        have Hb3 := Lib.hid hb3; clear hb3
        have Hc3 := Lib.hid hc3; clear hc3
        have Hp3 := Lib.hid hp3; clear hp3
        have HlW := Lib.hid lW; clear lW
        have Hl1 := Lib.hid l1; clear l1
        have Hl2 := Lib.hid l2; clear l2
        have Hlq := Lib.hid lq; clear lq
        have Ht := Lib.hid ht; clear ht
        by_cases hlt9 : t < 18
        · have tl1 : t + 1 < 18 := by have := Ht.out; omega
          have cA : Calls Tryz.prog 91 #[.slice (some ⟨b2, o2, none⟩) n2 c2, .pointer (some ⟨P, 0, none⟩)] wr (NwPost ss q P wr) := by
            have := nextWord ss b2 o2 c2 P q wr (by rw [← Hn2.out]; exact g0) (by rw [← Hn2.out]; exact gm) Hlq.out Gb.out (fun i hi => Hb3.out.cell (Gc.out i hi) gne) Hp3.out
            rw [← Hn2.out] at this
            exact this
          have CA := Lib.hid cA; clear cA
          go_wp2_with fail
          refine CA.out.mono ?_
          rintro e w4 ⟨rfl, hb4, hp4⟩
          obtain ⟨A, hA⟩ : ∃ A, A = cycs ss 4 (0, q) := ⟨_, rfl⟩
          have lA := cycs_lt Gb.out (by rw [← Hn2.out]; exact g0) Hlq.out 4
          rw [← hA] at hp4 lA
          simp only [← hA]
          obtain ⟨a1, q1⟩ := A
          simp only at hp4 lA ⊢
          have b4 : But (· = B) w w4 := But.trans Hb3.out hb4 (fun _ _ h => h) (fun i hi h => absurd h (by have := HP.out; omega))
          have c4 := Ciph.but Hc3.out hb4 (fun e => hne2 e.symm)
          have cB : Calls Tryz.prog 91 #[.slice (some ⟨b2, o2, none⟩) n2 c2, .pointer (some ⟨P, 0, none⟩)] w4 (NwPost ss q1 P w4) := by
            have := nextWord ss b2 o2 c2 P q1 w4 (by rw [← Hn2.out]; exact g0) (by rw [← Hn2.out]; exact gm) lA.2 Gb.out (fun i hi => b4.cell (Gc.out i hi) gne) hp4
            rw [← Hn2.out] at this
            exact this
          have CB := Lib.hid cB; clear cB
          have eA : bits .xor .u32 (l : Int) (a1 : Int) = ((l ^^^ a1 : Nat) : Int) := u32_xor_nat _ _ Hl1.out lA.1
          obtain ⟨l', hl'⟩ : ∃ l', l' = l ^^^ a1 := ⟨_, rfl⟩
          rw [← hl'] at eA
          have ll' : l' < 4294967296 := by rw [hl']; exact xor_lt32 Hl1.out lA.1
          have LL := Lib.hid ll'; clear ll'
          have HL' := Lib.hid hl'; clear hl'
          have HA := Lib.hid hA; clear hA
          have LA := Lib.hid lA; clear lA
          have B4 := Lib.hid b4; clear b4
          have C4 := Lib.hid c4; clear c4
          clear hb4 hp4
          go_wp2_with fail
          refine CB.out.mono ?_
          rintro e w5 ⟨rfl, hb5, hp5⟩
          obtain ⟨D, hD⟩ : ∃ D, D = cycs ss 4 (0, q1) := ⟨_, rfl⟩
          have lD := cycs_lt Gb.out (by rw [← Hn2.out]; exact g0) LA.out.2 4
          rw [← hD] at hp5 lD
          simp only [← hD]
          obtain ⟨a2, q2⟩ := D
          simp only at hp5 lD ⊢
          have b5 : But (· = B) w w5 := But.trans B4.out hb5 (fun _ _ h => h) (fun i hi h => absurd h (by have := HP.out; omega))
          have c5 := Ciph.but C4.out hb5 (fun e => hne2 e.symm)
          have eD : bits .xor .u32 (r : Int) (a2 : Int) = ((r ^^^ a2 : Nat) : Int) := u32_xor_nat _ _ Hl2.out lD.1
          obtain ⟨r', hr'⟩ : ∃ r', r' = r ^^^ a2 := ⟨_, rfl⟩
          rw [← hr'] at eD
          have lr' : r' < 4294967296 := by rw [hr']; exact xor_lt32 Hl2.out lD.1
          have LR := Lib.hid lr'; clear lr'
          have HR' := Lib.hid hr'; clear hr'
          have HD := Lib.hid hD; clear hD
          have B5 := Lib.hid b5; clear b5
          have C5 := Lib.hid c5; clear c5
          have P5 := Lib.hid hp5; clear hp5
          clear hb5
          go_wp2_with fail
          refine (encBlock T B _ l' r' LL.out LR.out (C5.out.words HlW.out)).mono ?_
          rintro e w6 ⟨rfl, d, rfl⟩
          obtain ⟨u, hu⟩ : ∃ u, u = (blk T l' r').1 := ⟨_, rfl⟩
          obtain ⟨v, hv⟩ : ∃ v, v = (blk T l' r').2 := ⟨_, rfl⟩
          simp only [← hu, ← hv]
          have Hu := Lib.hid hu; clear hu
          have Hv2 := Lib.hid hv; clear hv
          have k1 := C5.out.cell (t) (by omega)
          have k2 := C5.out.cell (t + 1) (by omega)
          have k3 := C5.out.free (t)
          have k4 := C5.out.free (t + 1)
          clear eA eD
          go_wp2_with fail
          go_region
          go_wp2_with fail
          go_roundw
          case rel =>
            have ef : fillS ss M (m + 1) = (up2 T (t) (u, v), (u, v), q2) := by
              show (up2 (fillS ss M m).1 (2 * m) (blk (fillS ss M m).1 (salt2 ss (fillS ss M m).2.1 (fillS ss M m).2.2).1.1 (salt2 ss (fillS ss M m).2.1 (fillS ss M m).2.2).1.2), blk (fillS ss M m).1 (salt2 ss (fillS ss M m).2.1 (fillS ss M m).2.2).1.1 (salt2 ss (fillS ss M m).2.1 (fillS ss M m).2.2).1.2, (salt2 ss (fillS ss M m).2.1 (fillS ss M m).2.2).2) = _
              rw [← HF.out]
              have es : salt2 ss (l, r) q = ((l', r'), q2) := by
                unfold salt2
                rw [← HA.out]
                simp only
                rw [← HD.out, HL'.out, HR'.out]
              simp only [es]
              rw [show 2 * m = t by have := Ht.out; omega, Hu.out, Hv2.out]
            have ef2 : fillS ss M (m + 1) = (up2 T (t) (u, v), (u, v), q2) := ef
            refine ⟨m + 1, t + 2, by have := Ht.out; omega, by omega, by go_num, by rw [ef2], by rw [ef2], ?_, ?_, ?_⟩
            · exact But.setCell (But.setCell (B5.out.drewN _) (fun _ => rfl) _) (fun _ => rfl) _
            · rw [ef2]
              exact Ciph.set2 (C5.out.drewN _) (t) (by omega) (u, v)
            · rw [ef2]
              exact (But.setCell (But.setCell (But.refl (· = B) _) (p := ⟨B, t, none⟩) (fun _ => rfl) _) (p := ⟨B, t + 1, none⟩) (fun _ => rfl) _).row P5.out hne2
          case measure => simp [intOf]; omega
        · obtain rfl : t = 18 := by omega
          obtain rfl : m = 9 := by have := Ht.out; omega
          have HX1 := Lib.hid (show l = (fillS ss M 9).2.1.1 by have := HF.out; exact congrArg (fun z => z.2.1.1) this)
          have HY1 := Lib.hid (show r = (fillS ss M 9).2.1.2 by have := HF.out; exact congrArg (fun z => z.2.1.2) this)
          have HB1 := Hb3
          have HCI1 := Lib.hid (show Ciph wr B (fillS ss M 9).1 by have := congrArg (fun z => z.1) HF.out; have k := Hc3.out; exact this ▸ k)
          have HR1 := Lib.hid (show wr.heap[P]? = some (.cells #[.int .i64 ((fillS ss M 9).2.2 : Int)] 3 (0, 0)) by have := congrArg (fun z => z.2.2) HF.out; have k := Hp3.out; exact this ▸ k)
          clear Hb3 Hc3 Hp3 HF Hl1 Hl2 HlW Hlq Ht
          go_wp2_with fail
          go_loopw [8, 9, 11] (fun x y i w3 => ∃ m t : Nat, 2 * m = t ∧ t ≤ 256 ∧ i = .int .i64 (t : Int) ∧ x = .int .u32 ((fillS ss M (9 + m)).2.1.1 : Int) ∧ y = .int .u32 ((fillS ss M (9 + m)).2.1.2 : Int) ∧ But (· = B) w w3 ∧ Ciph w3 B (fillS ss M (9 + m)).1 ∧ w3.heap[P]? = some (.cells #[.int .i64 ((fillS ss M (9 + m)).2.2 : Int)] 3 (0, 0))) (fun _ _ i _ => 256 - (intOf i).toNat)
          case atStart => exact ⟨0, 0, rfl, by omega, rfl, by rw [HX1.out], by rw [HY1.out], HB1.out, HCI1.out, HR1.out⟩
          case round =>
            obtain ⟨m, t, ht, hm9, rfl, rfl, rfl, hb3, hc3, hp3⟩ := hrel
            have lim := fillS_lt Gb.out (by rw [← Hn2.out]; exact g0) HW.out (9 + m)
            obtain ⟨F, hF⟩ : ∃ F, F = (fillS ss M (9 + m)) := ⟨_, rfl⟩
            rw [← hF] at hc3 hp3 lim
            simp only [← hF]
            obtain ⟨T, ⟨l, r⟩, q⟩ := F
            obtain ⟨lW, l1, l2, lq⟩ := lim
            simp only at lW l1 l2 lq hc3 hp3 ⊢
            have HF := Lib.hid hF; clear hF
            have Hb3 := Lib.hid hb3; clear hb3
            have Hc3 := Lib.hid hc3; clear hc3
            have Hp3 := Lib.hid hp3; clear hp3
            have HlW := Lib.hid lW; clear lW
            have Hl1 := Lib.hid l1; clear l1
            have Hl2 := Lib.hid l2; clear l2
            have Hlq := Lib.hid lq; clear lq
            have Ht := Lib.hid ht; clear ht
            by_cases hlt9 : t < 256
            · have tl1 : t + 1 < 256 := by have := Ht.out; omega
              have cA : Calls Tryz.prog 91 #[.slice (some ⟨b2, o2, none⟩) n2 c2, .pointer (some ⟨P, 0, none⟩)] wr (NwPost ss q P wr) := by
                have := nextWord ss b2 o2 c2 P q wr (by rw [← Hn2.out]; exact g0) (by rw [← Hn2.out]; exact gm) Hlq.out Gb.out (fun i hi => Hb3.out.cell (Gc.out i hi) gne) Hp3.out
                rw [← Hn2.out] at this
                exact this
              have CA := Lib.hid cA; clear cA
              go_wp2_with fail
              refine CA.out.mono ?_
              rintro e w4 ⟨rfl, hb4, hp4⟩
              obtain ⟨A, hA⟩ : ∃ A, A = cycs ss 4 (0, q) := ⟨_, rfl⟩
              have lA := cycs_lt Gb.out (by rw [← Hn2.out]; exact g0) Hlq.out 4
              rw [← hA] at hp4 lA
              simp only [← hA]
              obtain ⟨a1, q1⟩ := A
              simp only at hp4 lA ⊢
              have b4 : But (· = B) w w4 := But.trans Hb3.out hb4 (fun _ _ h => h) (fun i hi h => absurd h (by have := HP.out; omega))
              have c4 := Ciph.but Hc3.out hb4 (fun e => hne2 e.symm)
              have cB : Calls Tryz.prog 91 #[.slice (some ⟨b2, o2, none⟩) n2 c2, .pointer (some ⟨P, 0, none⟩)] w4 (NwPost ss q1 P w4) := by
                have := nextWord ss b2 o2 c2 P q1 w4 (by rw [← Hn2.out]; exact g0) (by rw [← Hn2.out]; exact gm) lA.2 Gb.out (fun i hi => b4.cell (Gc.out i hi) gne) hp4
                rw [← Hn2.out] at this
                exact this
              have CB := Lib.hid cB; clear cB
              have eA : bits .xor .u32 (l : Int) (a1 : Int) = ((l ^^^ a1 : Nat) : Int) := u32_xor_nat _ _ Hl1.out lA.1
              obtain ⟨l', hl'⟩ : ∃ l', l' = l ^^^ a1 := ⟨_, rfl⟩
              rw [← hl'] at eA
              have ll' : l' < 4294967296 := by rw [hl']; exact xor_lt32 Hl1.out lA.1
              have LL := Lib.hid ll'; clear ll'
              have HL' := Lib.hid hl'; clear hl'
              have HA := Lib.hid hA; clear hA
              have LA := Lib.hid lA; clear lA
              have B4 := Lib.hid b4; clear b4
              have C4 := Lib.hid c4; clear c4
              clear hb4 hp4
              go_wp2_with fail
              refine CB.out.mono ?_
              rintro e w5 ⟨rfl, hb5, hp5⟩
              obtain ⟨D, hD⟩ : ∃ D, D = cycs ss 4 (0, q1) := ⟨_, rfl⟩
              have lD := cycs_lt Gb.out (by rw [← Hn2.out]; exact g0) LA.out.2 4
              rw [← hD] at hp5 lD
              simp only [← hD]
              obtain ⟨a2, q2⟩ := D
              simp only at hp5 lD ⊢
              have b5 : But (· = B) w w5 := But.trans B4.out hb5 (fun _ _ h => h) (fun i hi h => absurd h (by have := HP.out; omega))
              have c5 := Ciph.but C4.out hb5 (fun e => hne2 e.symm)
              have eD : bits .xor .u32 (r : Int) (a2 : Int) = ((r ^^^ a2 : Nat) : Int) := u32_xor_nat _ _ Hl2.out lD.1
              obtain ⟨r', hr'⟩ : ∃ r', r' = r ^^^ a2 := ⟨_, rfl⟩
              rw [← hr'] at eD
              have lr' : r' < 4294967296 := by rw [hr']; exact xor_lt32 Hl2.out lD.1
              have LR := Lib.hid lr'; clear lr'
              have HR' := Lib.hid hr'; clear hr'
              have HD := Lib.hid hD; clear hD
              have B5 := Lib.hid b5; clear b5
              have C5 := Lib.hid c5; clear c5
              have P5 := Lib.hid hp5; clear hp5
              clear hb5
              go_wp2_with fail
              refine (encBlock T B _ l' r' LL.out LR.out (C5.out.words HlW.out)).mono ?_
              rintro e w6 ⟨rfl, d, rfl⟩
              obtain ⟨u, hu⟩ : ∃ u, u = (blk T l' r').1 := ⟨_, rfl⟩
              obtain ⟨v, hv⟩ : ∃ v, v = (blk T l' r').2 := ⟨_, rfl⟩
              simp only [← hu, ← hv]
              have Hu := Lib.hid hu; clear hu
              have Hv2 := Lib.hid hv; clear hv
              have k1 := C5.out.cell (18 + t) (by omega)
              have k2 := C5.out.cell (18 + (t + 1)) (by omega)
              have k3 := C5.out.free (18 + t)
              have k4 := C5.out.free (18 + (t + 1))
              clear eA eD
              go_wp2_with fail
              go_region
              go_wp2_with fail
              go_roundw
              case rel =>
                have ef : fillS ss M ((9 + m) + 1) = (up2 T (18 + t) (u, v), (u, v), q2) := by
                  show (up2 (fillS ss M (9 + m)).1 (2 * (9 + m)) (blk (fillS ss M (9 + m)).1 (salt2 ss (fillS ss M (9 + m)).2.1 (fillS ss M (9 + m)).2.2).1.1 (salt2 ss (fillS ss M (9 + m)).2.1 (fillS ss M (9 + m)).2.2).1.2), blk (fillS ss M (9 + m)).1 (salt2 ss (fillS ss M (9 + m)).2.1 (fillS ss M (9 + m)).2.2).1.1 (salt2 ss (fillS ss M (9 + m)).2.1 (fillS ss M (9 + m)).2.2).1.2, (salt2 ss (fillS ss M (9 + m)).2.1 (fillS ss M (9 + m)).2.2).2) = _
                  rw [← HF.out]
                  have es : salt2 ss (l, r) q = ((l', r'), q2) := by
                    unfold salt2
                    rw [← HA.out]
                    simp only
                    rw [← HD.out, HL'.out, HR'.out]
                  simp only [es]
                  rw [show 2 * (9 + m) = 18 + t by have := Ht.out; omega, Hu.out, Hv2.out]
                have ef2 : fillS ss M (9 + (m + 1)) = (up2 T (18 + t) (u, v), (u, v), q2) := ef
                refine ⟨m + 1, t + 2, by have := Ht.out; omega, by omega, by go_num, by rw [ef2], by rw [ef2], ?_, ?_, ?_⟩
                · exact But.setCell (But.setCell (B5.out.drewN _) (fun _ => rfl) _) (fun _ => rfl) _
                · rw [ef2]
                  exact Ciph.set2 (C5.out.drewN _) (18 + t) (by omega) (u, v)
                · rw [ef2]
                  exact (But.setCell (But.setCell (But.refl (· = B) _) (p := ⟨B, 18 + t, none⟩) (fun _ => rfl) _) (p := ⟨B, 18 + (t + 1), none⟩) (fun _ => rfl) _).row P5.out hne2
              case measure => simp [intOf]; omega
            · obtain rfl : t = 256 := by omega
              obtain rfl : m = 128 := by have := Ht.out; omega
              have HX2 := Lib.hid (show l = (fillS ss M 137).2.1.1 by have := HF.out; exact congrArg (fun z => z.2.1.1) this)
              have HY2 := Lib.hid (show r = (fillS ss M 137).2.1.2 by have := HF.out; exact congrArg (fun z => z.2.1.2) this)
              have HB2 := Hb3
              have HCI2 := Lib.hid (show Ciph wr B (fillS ss M 137).1 by have := congrArg (fun z => z.1) HF.out; have k := Hc3.out; exact this ▸ k)
              have HR2 := Lib.hid (show wr.heap[P]? = some (.cells #[.int .i64 ((fillS ss M 137).2.2 : Int)] 3 (0, 0)) by have := congrArg (fun z => z.2.2) HF.out; have k := Hp3.out; exact this ▸ k)
              clear Hb3 Hc3 Hp3 HF Hl1 Hl2 HlW Hlq Ht
              go_wp2_with fail
              go_loopw [8, 9, 12] (fun x y i w3 => ∃ m t : Nat, 2 * m = t ∧ t ≤ 256 ∧ i = .int .i64 (t : Int) ∧ x = .int .u32 ((fillS ss M (137 + m)).2.1.1 : Int) ∧ y = .int .u32 ((fillS ss M (137 + m)).2.1.2 : Int) ∧ But (· = B) w w3 ∧ Ciph w3 B (fillS ss M (137 + m)).1 ∧ w3.heap[P]? = some (.cells #[.int .i64 ((fillS ss M (137 + m)).2.2 : Int)] 3 (0, 0))) (fun _ _ i _ => 256 - (intOf i).toNat)
              case atStart => exact ⟨0, 0, rfl, by omega, rfl, by rw [HX2.out], by rw [HY2.out], HB2.out, HCI2.out, HR2.out⟩
              case round =>
                obtain ⟨m, t, ht, hm9, rfl, rfl, rfl, hb3, hc3, hp3⟩ := hrel
                have lim := fillS_lt Gb.out (by rw [← Hn2.out]; exact g0) HW.out (137 + m)
                obtain ⟨F, hF⟩ : ∃ F, F = (fillS ss M (137 + m)) := ⟨_, rfl⟩
                rw [← hF] at hc3 hp3 lim
                simp only [← hF]
                obtain ⟨T, ⟨l, r⟩, q⟩ := F
                obtain ⟨lW, l1, l2, lq⟩ := lim
                simp only at lW l1 l2 lq hc3 hp3 ⊢
                have HF := Lib.hid hF; clear hF
                have Hb3 := Lib.hid hb3; clear hb3
                have Hc3 := Lib.hid hc3; clear hc3
                have Hp3 := Lib.hid hp3; clear hp3
                have HlW := Lib.hid lW; clear lW
                have Hl1 := Lib.hid l1; clear l1
                have Hl2 := Lib.hid l2; clear l2
                have Hlq := Lib.hid lq; clear lq
                have Ht := Lib.hid ht; clear ht
                by_cases hlt9 : t < 256
                · have tl1 : t + 1 < 256 := by have := Ht.out; omega
                  have cA : Calls Tryz.prog 91 #[.slice (some ⟨b2, o2, none⟩) n2 c2, .pointer (some ⟨P, 0, none⟩)] wr (NwPost ss q P wr) := by
                    have := nextWord ss b2 o2 c2 P q wr (by rw [← Hn2.out]; exact g0) (by rw [← Hn2.out]; exact gm) Hlq.out Gb.out (fun i hi => Hb3.out.cell (Gc.out i hi) gne) Hp3.out
                    rw [← Hn2.out] at this
                    exact this
                  have CA := Lib.hid cA; clear cA
                  go_wp2_with fail
                  refine CA.out.mono ?_
                  rintro e w4 ⟨rfl, hb4, hp4⟩
                  obtain ⟨A, hA⟩ : ∃ A, A = cycs ss 4 (0, q) := ⟨_, rfl⟩
                  have lA := cycs_lt Gb.out (by rw [← Hn2.out]; exact g0) Hlq.out 4
                  rw [← hA] at hp4 lA
                  simp only [← hA]
                  obtain ⟨a1, q1⟩ := A
                  simp only at hp4 lA ⊢
                  have b4 : But (· = B) w w4 := But.trans Hb3.out hb4 (fun _ _ h => h) (fun i hi h => absurd h (by have := HP.out; omega))
                  have c4 := Ciph.but Hc3.out hb4 (fun e => hne2 e.symm)
                  have cB : Calls Tryz.prog 91 #[.slice (some ⟨b2, o2, none⟩) n2 c2, .pointer (some ⟨P, 0, none⟩)] w4 (NwPost ss q1 P w4) := by
                    have := nextWord ss b2 o2 c2 P q1 w4 (by rw [← Hn2.out]; exact g0) (by rw [← Hn2.out]; exact gm) lA.2 Gb.out (fun i hi => b4.cell (Gc.out i hi) gne) hp4
                    rw [← Hn2.out] at this
                    exact this
                  have CB := Lib.hid cB; clear cB
                  have eA : bits .xor .u32 (l : Int) (a1 : Int) = ((l ^^^ a1 : Nat) : Int) := u32_xor_nat _ _ Hl1.out lA.1
                  obtain ⟨l', hl'⟩ : ∃ l', l' = l ^^^ a1 := ⟨_, rfl⟩
                  rw [← hl'] at eA
                  have ll' : l' < 4294967296 := by rw [hl']; exact xor_lt32 Hl1.out lA.1
                  have LL := Lib.hid ll'; clear ll'
                  have HL' := Lib.hid hl'; clear hl'
                  have HA := Lib.hid hA; clear hA
                  have LA := Lib.hid lA; clear lA
                  have B4 := Lib.hid b4; clear b4
                  have C4 := Lib.hid c4; clear c4
                  clear hb4 hp4
                  go_wp2_with fail
                  refine CB.out.mono ?_
                  rintro e w5 ⟨rfl, hb5, hp5⟩
                  obtain ⟨D, hD⟩ : ∃ D, D = cycs ss 4 (0, q1) := ⟨_, rfl⟩
                  have lD := cycs_lt Gb.out (by rw [← Hn2.out]; exact g0) LA.out.2 4
                  rw [← hD] at hp5 lD
                  simp only [← hD]
                  obtain ⟨a2, q2⟩ := D
                  simp only at hp5 lD ⊢
                  have b5 : But (· = B) w w5 := But.trans B4.out hb5 (fun _ _ h => h) (fun i hi h => absurd h (by have := HP.out; omega))
                  have c5 := Ciph.but C4.out hb5 (fun e => hne2 e.symm)
                  have eD : bits .xor .u32 (r : Int) (a2 : Int) = ((r ^^^ a2 : Nat) : Int) := u32_xor_nat _ _ Hl2.out lD.1
                  obtain ⟨r', hr'⟩ : ∃ r', r' = r ^^^ a2 := ⟨_, rfl⟩
                  rw [← hr'] at eD
                  have lr' : r' < 4294967296 := by rw [hr']; exact xor_lt32 Hl2.out lD.1
                  have LR := Lib.hid lr'; clear lr'
                  have HR' := Lib.hid hr'; clear hr'
                  have HD := Lib.hid hD; clear hD
                  have B5 := Lib.hid b5; clear b5
                  have C5 := Lib.hid c5; clear c5
                  have P5 := Lib.hid hp5; clear hp5
                  clear hb5
                  go_wp2_with fail
                  refine (encBlock T B _ l' r' LL.out LR.out (C5.out.words HlW.out)).mono ?_
                  rintro e w6 ⟨rfl, d, rfl⟩
                  obtain ⟨u, hu⟩ : ∃ u, u = (blk T l' r').1 := ⟨_, rfl⟩
                  obtain ⟨v, hv⟩ : ∃ v, v = (blk T l' r').2 := ⟨_, rfl⟩
                  simp only [← hu, ← hv]
                  have Hu := Lib.hid hu; clear hu
                  have Hv2 := Lib.hid hv; clear hv
                  have k1 := C5.out.cell (274 + t) (by omega)
                  have k2 := C5.out.cell (274 + (t + 1)) (by omega)
                  have k3 := C5.out.free (274 + t)
                  have k4 := C5.out.free (274 + (t + 1))
                  clear eA eD
                  go_wp2_with fail
                  go_region
                  go_wp2_with fail
                  go_roundw
                  case rel =>
                    have ef : fillS ss M ((137 + m) + 1) = (up2 T (274 + t) (u, v), (u, v), q2) := by
                      show (up2 (fillS ss M (137 + m)).1 (2 * (137 + m)) (blk (fillS ss M (137 + m)).1 (salt2 ss (fillS ss M (137 + m)).2.1 (fillS ss M (137 + m)).2.2).1.1 (salt2 ss (fillS ss M (137 + m)).2.1 (fillS ss M (137 + m)).2.2).1.2), blk (fillS ss M (137 + m)).1 (salt2 ss (fillS ss M (137 + m)).2.1 (fillS ss M (137 + m)).2.2).1.1 (salt2 ss (fillS ss M (137 + m)).2.1 (fillS ss M (137 + m)).2.2).1.2, (salt2 ss (fillS ss M (137 + m)).2.1 (fillS ss M (137 + m)).2.2).2) = _
                      rw [← HF.out]
                      have es : salt2 ss (l, r) q = ((l', r'), q2) := by
                        unfold salt2
                        rw [← HA.out]
                        simp only
                        rw [← HD.out, HL'.out, HR'.out]
                      simp only [es]
                      rw [show 2 * (137 + m) = 274 + t by have := Ht.out; omega, Hu.out, Hv2.out]
                    have ef2 : fillS ss M (137 + (m + 1)) = (up2 T (274 + t) (u, v), (u, v), q2) := ef
                    refine ⟨m + 1, t + 2, by have := Ht.out; omega, by omega, by go_num, by rw [ef2], by rw [ef2], ?_, ?_, ?_⟩
                    · exact But.setCell (But.setCell (B5.out.drewN _) (fun _ => rfl) _) (fun _ => rfl) _
                    · rw [ef2]
                      exact Ciph.set2 (C5.out.drewN _) (274 + t) (by omega) (u, v)
                    · rw [ef2]
                      exact (But.setCell (But.setCell (But.refl (· = B) _) (p := ⟨B, 274 + t, none⟩) (fun _ => rfl) _) (p := ⟨B, 274 + (t + 1), none⟩) (fun _ => rfl) _).row P5.out hne2
                  case measure => simp [intOf]; omega
                · obtain rfl : t = 256 := by omega
                  obtain rfl : m = 128 := by have := Ht.out; omega
                  have HX3 := Lib.hid (show l = (fillS ss M 265).2.1.1 by have := HF.out; exact congrArg (fun z => z.2.1.1) this)
                  have HY3 := Lib.hid (show r = (fillS ss M 265).2.1.2 by have := HF.out; exact congrArg (fun z => z.2.1.2) this)
                  have HB3 := Hb3
                  have HCI3 := Lib.hid (show Ciph wr B (fillS ss M 265).1 by have := congrArg (fun z => z.1) HF.out; have k := Hc3.out; exact this ▸ k)
                  have HR3 := Lib.hid (show wr.heap[P]? = some (.cells #[.int .i64 ((fillS ss M 265).2.2 : Int)] 3 (0, 0)) by have := congrArg (fun z => z.2.2) HF.out; have k := Hp3.out; exact this ▸ k)
                  clear Hb3 Hc3 Hp3 HF Hl1 Hl2 HlW Hlq Ht
                  go_wp2_with fail
                  go_loopw [8, 9, 13] (fun x y i w3 => ∃ m t : Nat, 2 * m = t ∧ t ≤ 256 ∧ i = .int .i64 (t : Int) ∧ x = .int .u32 ((fillS ss M (265 + m)).2.1.1 : Int) ∧ y = .int .u32 ((fillS ss M (265 + m)).2.1.2 : Int) ∧ But (· = B) w w3 ∧ Ciph w3 B (fillS ss M (265 + m)).1 ∧ w3.heap[P]? = some (.cells #[.int .i64 ((fillS ss M (265 + m)).2.2 : Int)] 3 (0, 0))) (fun _ _ i _ => 256 - (intOf i).toNat)
                  case atStart => exact ⟨0, 0, rfl, by omega, rfl, by rw [HX3.out], by rw [HY3.out], HB3.out, HCI3.out, HR3.out⟩
                  case round =>
                    obtain ⟨m, t, ht, hm9, rfl, rfl, rfl, hb3, hc3, hp3⟩ := hrel
                    have lim := fillS_lt Gb.out (by rw [← Hn2.out]; exact g0) HW.out (265 + m)
                    obtain ⟨F, hF⟩ : ∃ F, F = (fillS ss M (265 + m)) := ⟨_, rfl⟩
                    rw [← hF] at hc3 hp3 lim
                    simp only [← hF]
                    obtain ⟨T, ⟨l, r⟩, q⟩ := F
                    obtain ⟨lW, l1, l2, lq⟩ := lim
                    simp only at lW l1 l2 lq hc3 hp3 ⊢
                    have HF := Lib.hid hF; clear hF
                    have Hb3 := Lib.hid hb3; clear hb3
                    have Hc3 := Lib.hid hc3; clear hc3
                    have Hp3 := Lib.hid hp3; clear hp3
                    have HlW := Lib.hid lW; clear lW
                    have Hl1 := Lib.hid l1; clear l1
                    have Hl2 := Lib.hid l2; clear l2
                    have Hlq := Lib.hid lq; clear lq
                    have Ht := Lib.hid ht; clear ht
                    by_cases hlt9 : t < 256
                    · have tl1 : t + 1 < 256 := by have := Ht.out; omega
                      have cA : Calls Tryz.prog 91 #[.slice (some ⟨b2, o2, none⟩) n2 c2, .pointer (some ⟨P, 0, none⟩)] wr (NwPost ss q P wr) := by
                        have := nextWord ss b2 o2 c2 P q wr (by rw [← Hn2.out]; exact g0) (by rw [← Hn2.out]; exact gm) Hlq.out Gb.out (fun i hi => Hb3.out.cell (Gc.out i hi) gne) Hp3.out
                        rw [← Hn2.out] at this
                        exact this
                      have CA := Lib.hid cA; clear cA
                      go_wp2_with fail
                      refine CA.out.mono ?_
                      rintro e w4 ⟨rfl, hb4, hp4⟩
                      obtain ⟨A, hA⟩ : ∃ A, A = cycs ss 4 (0, q) := ⟨_, rfl⟩
                      have lA := cycs_lt Gb.out (by rw [← Hn2.out]; exact g0) Hlq.out 4
                      rw [← hA] at hp4 lA
                      simp only [← hA]
                      obtain ⟨a1, q1⟩ := A
                      simp only at hp4 lA ⊢
                      have b4 : But (· = B) w w4 := But.trans Hb3.out hb4 (fun _ _ h => h) (fun i hi h => absurd h (by have := HP.out; omega))
                      have c4 := Ciph.but Hc3.out hb4 (fun e => hne2 e.symm)
                      have cB : Calls Tryz.prog 91 #[.slice (some ⟨b2, o2, none⟩) n2 c2, .pointer (some ⟨P, 0, none⟩)] w4 (NwPost ss q1 P w4) := by
                        have := nextWord ss b2 o2 c2 P q1 w4 (by rw [← Hn2.out]; exact g0) (by rw [← Hn2.out]; exact gm) lA.2 Gb.out (fun i hi => b4.cell (Gc.out i hi) gne) hp4
                        rw [← Hn2.out] at this
                        exact this
                      have CB := Lib.hid cB; clear cB
                      have eA : bits .xor .u32 (l : Int) (a1 : Int) = ((l ^^^ a1 : Nat) : Int) := u32_xor_nat _ _ Hl1.out lA.1
                      obtain ⟨l', hl'⟩ : ∃ l', l' = l ^^^ a1 := ⟨_, rfl⟩
                      rw [← hl'] at eA
                      have ll' : l' < 4294967296 := by rw [hl']; exact xor_lt32 Hl1.out lA.1
                      have LL := Lib.hid ll'; clear ll'
                      have HL' := Lib.hid hl'; clear hl'
                      have HA := Lib.hid hA; clear hA
                      have LA := Lib.hid lA; clear lA
                      have B4 := Lib.hid b4; clear b4
                      have C4 := Lib.hid c4; clear c4
                      clear hb4 hp4
                      go_wp2_with fail
                      refine CB.out.mono ?_
                      rintro e w5 ⟨rfl, hb5, hp5⟩
                      obtain ⟨D, hD⟩ : ∃ D, D = cycs ss 4 (0, q1) := ⟨_, rfl⟩
                      have lD := cycs_lt Gb.out (by rw [← Hn2.out]; exact g0) LA.out.2 4
                      rw [← hD] at hp5 lD
                      simp only [← hD]
                      obtain ⟨a2, q2⟩ := D
                      simp only at hp5 lD ⊢
                      have b5 : But (· = B) w w5 := But.trans B4.out hb5 (fun _ _ h => h) (fun i hi h => absurd h (by have := HP.out; omega))
                      have c5 := Ciph.but C4.out hb5 (fun e => hne2 e.symm)
                      have eD : bits .xor .u32 (r : Int) (a2 : Int) = ((r ^^^ a2 : Nat) : Int) := u32_xor_nat _ _ Hl2.out lD.1
                      obtain ⟨r', hr'⟩ : ∃ r', r' = r ^^^ a2 := ⟨_, rfl⟩
                      rw [← hr'] at eD
                      have lr' : r' < 4294967296 := by rw [hr']; exact xor_lt32 Hl2.out lD.1
                      have LR := Lib.hid lr'; clear lr'
                      have HR' := Lib.hid hr'; clear hr'
                      have HD := Lib.hid hD; clear hD
                      have B5 := Lib.hid b5; clear b5
                      have C5 := Lib.hid c5; clear c5
                      have P5 := Lib.hid hp5; clear hp5
                      clear hb5
                      go_wp2_with fail
                      refine (encBlock T B _ l' r' LL.out LR.out (C5.out.words HlW.out)).mono ?_
                      rintro e w6 ⟨rfl, d, rfl⟩
                      obtain ⟨u, hu⟩ : ∃ u, u = (blk T l' r').1 := ⟨_, rfl⟩
                      obtain ⟨v, hv⟩ : ∃ v, v = (blk T l' r').2 := ⟨_, rfl⟩
                      simp only [← hu, ← hv]
                      have Hu := Lib.hid hu; clear hu
                      have Hv2 := Lib.hid hv; clear hv
                      have k1 := C5.out.cell (530 + t) (by omega)
                      have k2 := C5.out.cell (530 + (t + 1)) (by omega)
                      have k3 := C5.out.free (530 + t)
                      have k4 := C5.out.free (530 + (t + 1))
                      clear eA eD
                      go_wp2_with fail
                      go_region
                      go_wp2_with fail
                      go_roundw
                      case rel =>
                        have ef : fillS ss M ((265 + m) + 1) = (up2 T (530 + t) (u, v), (u, v), q2) := by
                          show (up2 (fillS ss M (265 + m)).1 (2 * (265 + m)) (blk (fillS ss M (265 + m)).1 (salt2 ss (fillS ss M (265 + m)).2.1 (fillS ss M (265 + m)).2.2).1.1 (salt2 ss (fillS ss M (265 + m)).2.1 (fillS ss M (265 + m)).2.2).1.2), blk (fillS ss M (265 + m)).1 (salt2 ss (fillS ss M (265 + m)).2.1 (fillS ss M (265 + m)).2.2).1.1 (salt2 ss (fillS ss M (265 + m)).2.1 (fillS ss M (265 + m)).2.2).1.2, (salt2 ss (fillS ss M (265 + m)).2.1 (fillS ss M (265 + m)).2.2).2) = _
                          rw [← HF.out]
                          have es : salt2 ss (l, r) q = ((l', r'), q2) := by
                            unfold salt2
                            rw [← HA.out]
                            simp only
                            rw [← HD.out, HL'.out, HR'.out]
                          simp only [es]
                          rw [show 2 * (265 + m) = 530 + t by have := Ht.out; omega, Hu.out, Hv2.out]
                        have ef2 : fillS ss M (265 + (m + 1)) = (up2 T (530 + t) (u, v), (u, v), q2) := ef
                        refine ⟨m + 1, t + 2, by have := Ht.out; omega, by omega, by go_num, by rw [ef2], by rw [ef2], ?_, ?_, ?_⟩
                        · exact But.setCell (But.setCell (B5.out.drewN _) (fun _ => rfl) _) (fun _ => rfl) _
                        · rw [ef2]
                          exact Ciph.set2 (C5.out.drewN _) (530 + t) (by omega) (u, v)
                        · rw [ef2]
                          exact (But.setCell (But.setCell (But.refl (· = B) _) (p := ⟨B, 530 + t, none⟩) (fun _ => rfl) _) (p := ⟨B, 530 + (t + 1), none⟩) (fun _ => rfl) _).row P5.out hne2
                      case measure => simp [intOf]; omega
                    · obtain rfl : t = 256 := by omega
                      obtain rfl : m = 128 := by have := Ht.out; omega
                      have HX4 := Lib.hid (show l = (fillS ss M 393).2.1.1 by have := HF.out; exact congrArg (fun z => z.2.1.1) this)
                      have HY4 := Lib.hid (show r = (fillS ss M 393).2.1.2 by have := HF.out; exact congrArg (fun z => z.2.1.2) this)
                      have HB4 := Hb3
                      have HCI4 := Lib.hid (show Ciph wr B (fillS ss M 393).1 by have := congrArg (fun z => z.1) HF.out; have k := Hc3.out; exact this ▸ k)
                      have HR4 := Lib.hid (show wr.heap[P]? = some (.cells #[.int .i64 ((fillS ss M 393).2.2 : Int)] 3 (0, 0)) by have := congrArg (fun z => z.2.2) HF.out; have k := Hp3.out; exact this ▸ k)
                      clear Hb3 Hc3 Hp3 HF Hl1 Hl2 HlW Hlq Ht
                      go_wp2_with fail
                      go_loopw [8, 9, 14] (fun x y i w3 => ∃ m t : Nat, 2 * m = t ∧ t ≤ 256 ∧ i = .int .i64 (t : Int) ∧ x = .int .u32 ((fillS ss M (393 + m)).2.1.1 : Int) ∧ y = .int .u32 ((fillS ss M (393 + m)).2.1.2 : Int) ∧ But (· = B) w w3 ∧ Ciph w3 B (fillS ss M (393 + m)).1 ∧ w3.heap[P]? = some (.cells #[.int .i64 ((fillS ss M (393 + m)).2.2 : Int)] 3 (0, 0))) (fun _ _ i _ => 256 - (intOf i).toNat)
                      case atStart => exact ⟨0, 0, rfl, by omega, rfl, by rw [HX4.out], by rw [HY4.out], HB4.out, HCI4.out, HR4.out⟩
                      case round =>
                        obtain ⟨m, t, ht, hm9, rfl, rfl, rfl, hb3, hc3, hp3⟩ := hrel
                        have lim := fillS_lt Gb.out (by rw [← Hn2.out]; exact g0) HW.out (393 + m)
                        obtain ⟨F, hF⟩ : ∃ F, F = (fillS ss M (393 + m)) := ⟨_, rfl⟩
                        rw [← hF] at hc3 hp3 lim
                        simp only [← hF]
                        obtain ⟨T, ⟨l, r⟩, q⟩ := F
                        obtain ⟨lW, l1, l2, lq⟩ := lim
                        simp only at lW l1 l2 lq hc3 hp3 ⊢
                        have HF := Lib.hid hF; clear hF
                        have Hb3 := Lib.hid hb3; clear hb3
                        have Hc3 := Lib.hid hc3; clear hc3
                        have Hp3 := Lib.hid hp3; clear hp3
                        have HlW := Lib.hid lW; clear lW
                        have Hl1 := Lib.hid l1; clear l1
                        have Hl2 := Lib.hid l2; clear l2
                        have Hlq := Lib.hid lq; clear lq
                        have Ht := Lib.hid ht; clear ht
                        by_cases hlt9 : t < 256
                        · have tl1 : t + 1 < 256 := by have := Ht.out; omega
                          have cA : Calls Tryz.prog 91 #[.slice (some ⟨b2, o2, none⟩) n2 c2, .pointer (some ⟨P, 0, none⟩)] wr (NwPost ss q P wr) := by
                            have := nextWord ss b2 o2 c2 P q wr (by rw [← Hn2.out]; exact g0) (by rw [← Hn2.out]; exact gm) Hlq.out Gb.out (fun i hi => Hb3.out.cell (Gc.out i hi) gne) Hp3.out
                            rw [← Hn2.out] at this
                            exact this
                          have CA := Lib.hid cA; clear cA
                          go_wp2_with fail
                          refine CA.out.mono ?_
                          rintro e w4 ⟨rfl, hb4, hp4⟩
                          obtain ⟨A, hA⟩ : ∃ A, A = cycs ss 4 (0, q) := ⟨_, rfl⟩
                          have lA := cycs_lt Gb.out (by rw [← Hn2.out]; exact g0) Hlq.out 4
                          rw [← hA] at hp4 lA
                          simp only [← hA]
                          obtain ⟨a1, q1⟩ := A
                          simp only at hp4 lA ⊢
                          have b4 : But (· = B) w w4 := But.trans Hb3.out hb4 (fun _ _ h => h) (fun i hi h => absurd h (by have := HP.out; omega))
                          have c4 := Ciph.but Hc3.out hb4 (fun e => hne2 e.symm)
                          have cB : Calls Tryz.prog 91 #[.slice (some ⟨b2, o2, none⟩) n2 c2, .pointer (some ⟨P, 0, none⟩)] w4 (NwPost ss q1 P w4) := by
                            have := nextWord ss b2 o2 c2 P q1 w4 (by rw [← Hn2.out]; exact g0) (by rw [← Hn2.out]; exact gm) lA.2 Gb.out (fun i hi => b4.cell (Gc.out i hi) gne) hp4
                            rw [← Hn2.out] at this
                            exact this
                          have CB := Lib.hid cB; clear cB
                          have eA : bits .xor .u32 (l : Int) (a1 : Int) = ((l ^^^ a1 : Nat) : Int) := u32_xor_nat _ _ Hl1.out lA.1
                          obtain ⟨l', hl'⟩ : ∃ l', l' = l ^^^ a1 := ⟨_, rfl⟩
                          rw [← hl'] at eA
                          have ll' : l' < 4294967296 := by rw [hl']; exact xor_lt32 Hl1.out lA.1
                          have LL := Lib.hid ll'; clear ll'
                          have HL' := Lib.hid hl'; clear hl'
                          have HA := Lib.hid hA; clear hA
                          have LA := Lib.hid lA; clear lA
                          have B4 := Lib.hid b4; clear b4
                          have C4 := Lib.hid c4; clear c4
                          clear hb4 hp4
                          go_wp2_with fail
                          refine CB.out.mono ?_
                          rintro e w5 ⟨rfl, hb5, hp5⟩
                          obtain ⟨D, hD⟩ : ∃ D, D = cycs ss 4 (0, q1) := ⟨_, rfl⟩
                          have lD := cycs_lt Gb.out (by rw [← Hn2.out]; exact g0) LA.out.2 4
                          rw [← hD] at hp5 lD
                          simp only [← hD]
                          obtain ⟨a2, q2⟩ := D
                          simp only at hp5 lD ⊢
                          have b5 : But (· = B) w w5 := But.trans B4.out hb5 (fun _ _ h => h) (fun i hi h => absurd h (by have := HP.out; omega))
                          have c5 := Ciph.but C4.out hb5 (fun e => hne2 e.symm)
                          have eD : bits .xor .u32 (r : Int) (a2 : Int) = ((r ^^^ a2 : Nat) : Int) := u32_xor_nat _ _ Hl2.out lD.1
                          obtain ⟨r', hr'⟩ : ∃ r', r' = r ^^^ a2 := ⟨_, rfl⟩
                          rw [← hr'] at eD
                          have lr' : r' < 4294967296 := by rw [hr']; exact xor_lt32 Hl2.out lD.1
                          have LR := Lib.hid lr'; clear lr'
                          have HR' := Lib.hid hr'; clear hr'
                          have HD := Lib.hid hD; clear hD
                          have B5 := Lib.hid b5; clear b5
                          have C5 := Lib.hid c5; clear c5
                          have P5 := Lib.hid hp5; clear hp5
                          clear hb5
                          go_wp2_with fail
                          refine (encBlock T B _ l' r' LL.out LR.out (C5.out.words HlW.out)).mono ?_
                          rintro e w6 ⟨rfl, d, rfl⟩
                          obtain ⟨u, hu⟩ : ∃ u, u = (blk T l' r').1 := ⟨_, rfl⟩
                          obtain ⟨v, hv⟩ : ∃ v, v = (blk T l' r').2 := ⟨_, rfl⟩
                          simp only [← hu, ← hv]
                          have Hu := Lib.hid hu; clear hu
                          have Hv2 := Lib.hid hv; clear hv
                          have k1 := C5.out.cell (786 + t) (by omega)
                          have k2 := C5.out.cell (786 + (t + 1)) (by omega)
                          have k3 := C5.out.free (786 + t)
                          have k4 := C5.out.free (786 + (t + 1))
                          clear eA eD
                          go_wp2_with fail
                          go_region
                          go_wp2_with fail
                          go_roundw
                          case rel =>
                            have ef : fillS ss M ((393 + m) + 1) = (up2 T (786 + t) (u, v), (u, v), q2) := by
                              show (up2 (fillS ss M (393 + m)).1 (2 * (393 + m)) (blk (fillS ss M (393 + m)).1 (salt2 ss (fillS ss M (393 + m)).2.1 (fillS ss M (393 + m)).2.2).1.1 (salt2 ss (fillS ss M (393 + m)).2.1 (fillS ss M (393 + m)).2.2).1.2), blk (fillS ss M (393 + m)).1 (salt2 ss (fillS ss M (393 + m)).2.1 (fillS ss M (393 + m)).2.2).1.1 (salt2 ss (fillS ss M (393 + m)).2.1 (fillS ss M (393 + m)).2.2).1.2, (salt2 ss (fillS ss M (393 + m)).2.1 (fillS ss M (393 + m)).2.2).2) = _
                              rw [← HF.out]
                              have es : salt2 ss (l, r) q = ((l', r'), q2) := by
                                unfold salt2
                                rw [← HA.out]
                                simp only
                                rw [← HD.out, HL'.out, HR'.out]
                              simp only [es]
                              rw [show 2 * (393 + m) = 786 + t by have := Ht.out; omega, Hu.out, Hv2.out]
                            have ef2 : fillS ss M (393 + (m + 1)) = (up2 T (786 + t) (u, v), (u, v), q2) := ef
                            refine ⟨m + 1, t + 2, by have := Ht.out; omega, by omega, by go_num, by rw [ef2], by rw [ef2], ?_, ?_, ?_⟩
                            · exact But.setCell (But.setCell (B5.out.drewN _) (fun _ => rfl) _) (fun _ => rfl) _
                            · rw [ef2]
                              exact Ciph.set2 (C5.out.drewN _) (786 + t) (by omega) (u, v)
                            · rw [ef2]
                              exact (But.setCell (But.setCell (But.refl (· = B) _) (p := ⟨B, 786 + t, none⟩) (fun _ => rfl) _) (p := ⟨B, 786 + (t + 1), none⟩) (fun _ => rfl) _).row P5.out hne2
                          case measure => simp [intOf]; omega
                        · obtain rfl : t = 256 := by omega
                          obtain rfl : m = 128 := by have := Ht.out; omega
                          have fin : Ciph wr B (expS bs ss S) := by
                            have this := congrArg (fun z => z.1) HF.out
                            have k := Hc3.out
                            unfold expS
                            rw [← HM.out]
                            exact this ▸ k
                          have Fin := Lib.hid fin; clear fin
                          go_wp2_with fail
                          go_end0
                          exact ⟨rfl, Hb3.out, Fin.out⟩
end Go.Proofs.YthnhdfgonpbldaaGreatDoor
