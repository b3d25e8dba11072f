/- blowfish.ExpandKey, walked: the key mixed in, then the words filled. -/
import Derived.Test.YthnhdfgonpbldaaGreatDoorCiph
import Derived.Outline
namespace Go.Proofs.YthnhdfgonpbldaaGreatDoor
open Go.RowKit Go.Lib
def ExpPost (T : Nat → Nat) (B : Nat) (w : World) (e : Ending) (w' : World) : Prop := e = .returned (.tuple #[]) ∧ But (· = B) w w' ∧ Ciph w' B T
set_option maxRecDepth 100000 in
set_option maxHeartbeats 2000000 in
theorem expandKey_any (bs : List Nat) (b o c B : Nat) (S : Nat → Nat) (w : World) (h0 : 0 < bs.length) (hm : bs.length ≤ 1000000000000) (hb : Bytes bs) (hS : W32 S) (hne : b ≠ B) (_hbl : b < w.heap.size)
    (hc : ∀ i, i < bs.length → w.cell? ⟨b, o + i, none⟩ = some (.int .u8 ((bs.getD i 0 : Nat) : Int))) (hC : Ciph w B S) :
    Calls Tryz.prog 66 #[.slice (some ⟨b, o, none⟩) bs.length c, .pointer (some ⟨B, 0, none⟩)] w (ExpPost (expK bs S) B w) := by
  have Hb := Lib.hid hb; clear hb
  have Hc := Lib.hid hc; clear hc
  have HS := Lib.hid hS; clear hS
  have HC := Lib.hid hC; clear hC
  obtain ⟨n, hn⟩ : ∃ n, n = bs.length := ⟨_, rfl⟩
  rw [← hn] at h0 hm ⊢
  have Hn := Lib.hid hn; clear hn
  have H0 := Lib.hid h0
  go_enter Tryz.func66, Tryz.ntmps66
  go_wp2_with fail
  go_loopw [4, 5] (fun p i wr => ∃ k : Nat, k ≤ 18 ∧ i = .int .i64 k ∧ p = .int .i64 ((mixK bs S k).2 : Int) ∧ But (· = B) w wr ∧ Ciph wr B (mixK bs S k).1) (fun _ i _ => 18 - (intOf i).toNat)
  case atStart => exact ⟨0, Nat.zero_le _, rfl, rfl, But.refl _ _, HC.out⟩
  case round =>
    obtain ⟨k, hk, rfl, rfl, hbut, hci⟩ := hrel
    have mk := mixK_lt Hb.out (by rw [← Hn.out]; exact h0) HS.out k
    have Hmk := Lib.hid mk; clear mk
    have Hbut := Lib.hid hbut; clear hbut
    have Hci := Lib.hid hci; clear hci
    by_cases hlt : k < 18
    · go_wp2_with fail
      obtain ⟨j, hj⟩ : ∃ j, j = (mixK bs S k).2 := ⟨_, rfl⟩
      have ljn : j < n := by rw [hj, Hn.out]; exact Hmk.out.2
      simp only [← hj]
      have Hj := Lib.hid hj; clear hj
      go_loopw [4, 6, 7] (fun p x i w3 => ∃ m : Nat, m ≤ 4 ∧ i = .int .i64 m ∧ x = .int .u32 ((cycs bs m (0, j)).1 : Int) ∧ p = .int .i64 ((cycs bs m (0, j)).2 : Int) ∧ wr = w3) (fun _ _ i _ => 4 - (intOf i).toNat)
      case atStart => exact ⟨0, Nat.zero_le _, rfl, rfl, rfl, rfl⟩
      case round =>
        obtain ⟨m, hm4, rfl, rfl, rfl, rfl⟩ := hrel
        obtain ⟨l1, l2⟩ := cycs_lt Hb.out (by rw [← Hn.out]; exact h0) (by rw [← Hn.out]; exact ljn) m
        have l3 := Hb.out _ l2
        have g := Hbut.out.cell (Hc.out _ l2) hne
        rw [← Hn.out] at l2
        obtain ⟨s, hs⟩ : ∃ s, s = cycs bs m (0, j) := ⟨_, rfl⟩
        have hnext : cycs bs (m + 1) (0, j) = (s.1 * 256 % 4294967296 + bs.getD s.2 0, if n ≤ s.2 + 1 then 0 else s.2 + 1) := by rw [hs, Hn.out]; rfl
        rw [← hs] at l1 l2 l3 g ⊢
        obtain ⟨x, p⟩ := s
        simp only at l1 l2 l3 g hnext ⊢
        obtain ⟨y, hy⟩ : ∃ y, y = bs.getD p 0 := ⟨_, rfl⟩
        rw [← hy] at g l3 hnext
        have e1 : bits .or .u32 ((x : Int) * 256 % 4294967296) (y : Int) = ((x * 256 % 4294967296 + y : Nat) : Int) := by
          have := or_join32 8 (x * 256 % 4294967296) y (by omega) (by omega) (by omega) (by omega)
          simpa using this
        have Hs := Lib.hid hs; clear hs
        have Hy := Lib.hid hy; clear hy
        have Hnext := Lib.hid hnext; clear hnext
        by_cases hlt4 : m < 4
        · by_cases hw : n ≤ p + 1
          · have tst : decide ((n : Int) ≤ (p : Int) + 1) = true := by simp; omega
            go_wp2_with fail
            go_roundw
            case rel =>
              refine ⟨m + 1, by omega, by go_num, ?_, ?_, by trivial⟩
              · rw [Hnext.out]; simp
              · rw [Hnext.out]; simp [hw]
            case measure => simp [intOf]; omega
          · have tst : decide ((n : Int) ≤ (p : Int) + 1) = false := by simp; omega
            go_wp2_with fail
            go_roundw
            case rel =>
              refine ⟨m + 1, by omega, by go_num, ?_, ?_, by trivial⟩
              · rw [Hnext.out]; simp
              · rw [Hnext.out]; simp [hw]
            case measure => simp [intOf]; omega
        · obtain rfl : m = 4 := by omega
          clear e1 g
          have k1 := Hci.out.cell k (by omega)
          have k2 := Hci.out.free k
          obtain ⟨v, hv⟩ : ∃ v, v = (mixK bs S k).1 k := ⟨_, rfl⟩
          have lv : v < 4294967296 := by rw [hv]; exact Hmk.out.1 k
          rw [← hv] at k1
          have Hv := Lib.hid hv; clear hv
          obtain ⟨z, hz⟩ : ∃ z, z = v ^^^ x := ⟨_, rfl⟩
          have e2 : bits .xor .u32 (v : Int) (x : Int) = (z : Int) := by rw [hz]; exact u32_xor_nat _ _ lv l1
          have Hz := Lib.hid hz; clear hz
          go_wp2_with fail
          go_region
          go_wp2_with fail
          go_roundw
          case rel =>
            have ek : mixK bs S (k + 1) = (fun i => if i = k then (mixK bs S k).1 i ^^^ x else (mixK bs S k).1 i, p) := by
              show (fun i => if i = k then (mixK bs S k).1 i ^^^ (cycs bs 4 (0, (mixK bs S k).2)).1 else (mixK bs S k).1 i, (cycs bs 4 (0, (mixK bs S k).2)).2) = _
              rw [← Hj.out, ← Hs.out]
            have ez : (fun i => if i = k then z else (mixK bs S k).1 i) = (mixK bs S (k + 1)).1 := by
              rw [ek]
              funext i
              show _ = if i = k then (mixK bs S k).1 i ^^^ x else (mixK bs S k).1 i
              by_cases hi : i = k
              · subst hi
                simp [Hz.out, Hv.out]
              · simp [hi]
            refine ⟨k + 1, by omega, by go_num, by rw [ek], ?_, ?_⟩
            · exact But.setCell (Hbut.out.drewN _) (fun _ => rfl) _
            · rw [← ez]
              exact Ciph.set (Hci.out.drewN _) k (by omega) z
          case measure => simp [intOf]; omega
    · obtain rfl : k = 18 := by omega
      obtain ⟨M, hM⟩ : ∃ M, M = (mixK bs S 18).1 := ⟨_, rfl⟩
      have HM := Lib.hid hM
      have HW : Lib.hid (show W32 M by rw [hM]; exact Hmk.out.1) = Lib.hid (show W32 M by rw [hM]; exact Hmk.out.1) := rfl
      clear HW
      have HW := Lib.hid (show W32 M by rw [hM]; exact Hmk.out.1)
      have HC1 := Lib.hid (show Ciph wr B M by rw [hM]; exact Hci.out)
      clear hM Hci Hmk
      go_wp2_with fail
      -- the words of p
      go_loopw [8, 9, 10] (fun x y i w3 => ∃ m t : Nat, 2 * m = t ∧ t ≤ 18 ∧ i = .int .i64 (t : Int) ∧ x = .int .u32 ((fillN M m).2.1 : Int) ∧ y = .int .u32 ((fillN M m).2.2 : Int) ∧ But (· = B) w w3 ∧ Ciph w3 B (fillN M m).1) (fun _ _ i _ => 18 - (intOf i).toNat)
      case atStart => exact ⟨0, 0, rfl, by omega, rfl, rfl, rfl, Hbut.out, HC1.out⟩
      case round =>
        obtain ⟨m, t, ht, hm9, rfl, rfl, rfl, hb3, hc3⟩ := hrel
        obtain ⟨lW, l1, l2⟩ := fillN_lt HW.out m
        obtain ⟨T, hT⟩ : ∃ T, T = (fillN M m).1 := ⟨_, rfl⟩
        obtain ⟨l, hl⟩ : ∃ l, l = (fillN M m).2.1 := ⟨_, rfl⟩
        obtain ⟨r, hr⟩ : ∃ r, r = (fillN M m).2.2 := ⟨_, rfl⟩
        rw [← hT] at lW hc3
        rw [← hl] at l1
        rw [← hr] at l2
        simp only [← hl, ← hr]
        have Hb3 := Lib.hid hb3; clear hb3
        have Hc3 := Lib.hid hc3; clear hc3
        have HlW := Lib.hid lW; clear lW
        have Hl1 := Lib.hid l1; clear l1
        have Hl2 := Lib.hid l2; clear l2
        have HT := Lib.hid hT; clear hT
        have Hl := Lib.hid hl; clear hl
        have Hr := Lib.hid hr; clear hr
        have Ht := Lib.hid ht; clear ht
        by_cases hlt9 : t < 18
        · have tl1 : t + 1 < 18 := by have := Ht.out; omega
          go_wp2_with fail
          refine (encBlock T B _ l r Hl1.out Hl2.out (Hc3.out.words HlW.out)).mono ?_
          rintro e w4 ⟨rfl, q, rfl⟩
          obtain ⟨u, hu⟩ : ∃ u, u = (blk T l r).1 := ⟨_, rfl⟩
          obtain ⟨v, hv⟩ : ∃ v, v = (blk T l r).2 := ⟨_, rfl⟩
          simp only [← hu, ← hv]
          have Hu := Lib.hid hu; clear hu
          have Hv := Lib.hid hv; clear hv
          have k1 := Hc3.out.cell (t) (by omega)
          have k2 := Hc3.out.cell (t + 1) (by omega)
          have k3 := Hc3.out.free (t)
          have k4 := Hc3.out.free (t + 1)
          go_wp2_with fail
          go_region
          go_wp2_with fail
          go_roundw
          case rel =>
            have ef : fillN M (m + 1) = (up2 T (t) (u, v), (u, v)) := by
              show (up2 (fillN M m).1 (2 * m) (blk (fillN M m).1 (fillN M m).2.1 (fillN M m).2.2), blk (fillN M m).1 (fillN M m).2.1 (fillN M m).2.2) = _
              rw [← HT.out, ← Hl.out, ← Hr.out, show 2 * m = t by have := Ht.out; omega, Hu.out, Hv.out]
            have ef2 : fillN M (m + 1) = (up2 T (t) (u, v), (u, v)) := ef
            refine ⟨m + 1, t + 2, by have := Ht.out; omega, by omega, by go_num, by rw [ef2], by rw [ef2], ?_, ?_⟩
            · exact But.setCell (But.setCell (Hb3.out.drewN _) (fun _ => rfl) _) (fun _ => rfl) _
            · rw [ef2]
              exact Ciph.set2 (Hc3.out.drewN _) (t) (by omega) (u, v)
          case measure => simp [intOf]; omega
        · obtain rfl : t = 18 := by omega
          obtain rfl : m = 9 := by have := Ht.out; omega
          have HX1 := Lib.hid (show l = (fillN M 9).2.1 from Hl.out)
          have HY1 := Lib.hid (show r = (fillN M 9).2.2 from Hr.out)
          have HB1 := Hb3
          have HCI1 := Lib.hid (show Ciph wr B (fillN M 9).1 by have := Hc3.out; rw [HT.out] at this; exact this)
          clear Hb3 Hc3 HT Hl Hr Hl1 Hl2 HlW Ht
          go_wp2_with fail
          go_loopw [8, 9, 11] (fun x y i w3 => ∃ m t : Nat, 2 * m = t ∧ t ≤ 256 ∧ i = .int .i64 (t : Int) ∧ x = .int .u32 ((fillN M (9 + m)).2.1 : Int) ∧ y = .int .u32 ((fillN M (9 + m)).2.2 : Int) ∧ But (· = B) w w3 ∧ Ciph w3 B (fillN M (9 + m)).1) (fun _ _ i _ => 256 - (intOf i).toNat)
          case atStart => exact ⟨0, 0, rfl, by omega, rfl, by rw [HX1.out], by rw [HY1.out], HB1.out, HCI1.out⟩
          case round =>
            obtain ⟨m, t, ht, hm9, rfl, rfl, rfl, hb3, hc3⟩ := hrel
            obtain ⟨lW, l1, l2⟩ := fillN_lt HW.out (9 + m)
            obtain ⟨T, hT⟩ : ∃ T, T = (fillN M (9 + m)).1 := ⟨_, rfl⟩
            obtain ⟨l, hl⟩ : ∃ l, l = (fillN M (9 + m)).2.1 := ⟨_, rfl⟩
            obtain ⟨r, hr⟩ : ∃ r, r = (fillN M (9 + m)).2.2 := ⟨_, rfl⟩
            rw [← hT] at lW hc3
            rw [← hl] at l1
            rw [← hr] at l2
            simp only [← hl, ← hr]
            have Hb3 := Lib.hid hb3; clear hb3
            have Hc3 := Lib.hid hc3; clear hc3
            have HlW := Lib.hid lW; clear lW
            have Hl1 := Lib.hid l1; clear l1
            have Hl2 := Lib.hid l2; clear l2
            have HT := Lib.hid hT; clear hT
            have Hl := Lib.hid hl; clear hl
            have Hr := Lib.hid hr; clear hr
            have Ht := Lib.hid ht; clear ht
            by_cases hlt9 : t < 256
            · have tl1 : t + 1 < 256 := by have := Ht.out; omega
              go_wp2_with fail
              refine (encBlock T B _ l r Hl1.out Hl2.out (Hc3.out.words HlW.out)).mono ?_
              rintro e w4 ⟨rfl, q, rfl⟩
              obtain ⟨u, hu⟩ : ∃ u, u = (blk T l r).1 := ⟨_, rfl⟩
              obtain ⟨v, hv⟩ : ∃ v, v = (blk T l r).2 := ⟨_, rfl⟩
              simp only [← hu, ← hv]
              have Hu := Lib.hid hu; clear hu
              have Hv := Lib.hid hv; clear hv
              have k1 := Hc3.out.cell (18 + t) (by omega)
              have k2 := Hc3.out.cell (18 + (t + 1)) (by omega)
              have k3 := Hc3.out.free (18 + t)
              have k4 := Hc3.out.free (18 + (t + 1))
              go_wp2_with fail
              go_region
              go_wp2_with fail
              go_roundw
              case rel =>
                have ef : fillN M ((9 + m) + 1) = (up2 T (18 + t) (u, v), (u, v)) := by
                  show (up2 (fillN M (9 + m)).1 (2 * (9 + m)) (blk (fillN M (9 + m)).1 (fillN M (9 + m)).2.1 (fillN M (9 + m)).2.2), blk (fillN M (9 + m)).1 (fillN M (9 + m)).2.1 (fillN M (9 + m)).2.2) = _
                  rw [← HT.out, ← Hl.out, ← Hr.out, show 2 * (9 + m) = 18 + t by have := Ht.out; omega, Hu.out, Hv.out]
                have ef2 : fillN M (9 + (m + 1)) = (up2 T (18 + t) (u, v), (u, v)) := ef
                refine ⟨m + 1, t + 2, by have := Ht.out; omega, by omega, by go_num, by rw [ef2], by rw [ef2], ?_, ?_⟩
                · exact But.setCell (But.setCell (Hb3.out.drewN _) (fun _ => rfl) _) (fun _ => rfl) _
                · rw [ef2]
                  exact Ciph.set2 (Hc3.out.drewN _) (18 + t) (by omega) (u, v)
              case measure => simp [intOf]; omega
            · obtain rfl : t = 256 := by omega
              obtain rfl : m = 128 := by have := Ht.out; omega
              have HX2 := Lib.hid (show l = (fillN M 137).2.1 from Hl.out)
              have HY2 := Lib.hid (show r = (fillN M 137).2.2 from Hr.out)
              have HB2 := Hb3
              have HCI2 := Lib.hid (show Ciph wr B (fillN M 137).1 by have := Hc3.out; rw [HT.out] at this; exact this)
              clear Hb3 Hc3 HT Hl Hr Hl1 Hl2 HlW Ht
              go_wp2_with fail
              go_loopw [8, 9, 12] (fun x y i w3 => ∃ m t : Nat, 2 * m = t ∧ t ≤ 256 ∧ i = .int .i64 (t : Int) ∧ x = .int .u32 ((fillN M (137 + m)).2.1 : Int) ∧ y = .int .u32 ((fillN M (137 + m)).2.2 : Int) ∧ But (· = B) w w3 ∧ Ciph w3 B (fillN M (137 + m)).1) (fun _ _ i _ => 256 - (intOf i).toNat)
              case atStart => exact ⟨0, 0, rfl, by omega, rfl, by rw [HX2.out], by rw [HY2.out], HB2.out, HCI2.out⟩
              case round =>
                obtain ⟨m, t, ht, hm9, rfl, rfl, rfl, hb3, hc3⟩ := hrel
                obtain ⟨lW, l1, l2⟩ := fillN_lt HW.out (137 + m)
                obtain ⟨T, hT⟩ : ∃ T, T = (fillN M (137 + m)).1 := ⟨_, rfl⟩
                obtain ⟨l, hl⟩ : ∃ l, l = (fillN M (137 + m)).2.1 := ⟨_, rfl⟩
                obtain ⟨r, hr⟩ : ∃ r, r = (fillN M (137 + m)).2.2 := ⟨_, rfl⟩
                rw [← hT] at lW hc3
                rw [← hl] at l1
                rw [← hr] at l2
                simp only [← hl, ← hr]
                have Hb3 := Lib.hid hb3; clear hb3
                have Hc3 := Lib.hid hc3; clear hc3
                have HlW := Lib.hid lW; clear lW
                have Hl1 := Lib.hid l1; clear l1
                have Hl2 := Lib.hid l2; clear l2
                have HT := Lib.hid hT; clear hT
                have Hl := Lib.hid hl; clear hl
                have Hr := Lib.hid hr; clear hr
                have Ht := Lib.hid ht; clear ht
                by_cases hlt9 : t < 256
                · have tl1 : t + 1 < 256 := by have := Ht.out; omega
                  go_wp2_with fail
                  refine (encBlock T B _ l r Hl1.out Hl2.out (Hc3.out.words HlW.out)).mono ?_
                  rintro e w4 ⟨rfl, q, rfl⟩
                  obtain ⟨u, hu⟩ : ∃ u, u = (blk T l r).1 := ⟨_, rfl⟩
                  obtain ⟨v, hv⟩ : ∃ v, v = (blk T l r).2 := ⟨_, rfl⟩
                  simp only [← hu, ← hv]
                  have Hu := Lib.hid hu; clear hu
                  have Hv := Lib.hid hv; clear hv
                  have k1 := Hc3.out.cell (274 + t) (by omega)
                  have k2 := Hc3.out.cell (274 + (t + 1)) (by omega)
                  have k3 := Hc3.out.free (274 + t)
                  have k4 := Hc3.out.free (274 + (t + 1))
                  go_wp2_with fail
                  go_region
                  go_wp2_with fail
                  go_roundw
                  case rel =>
                    have ef : fillN M ((137 + m) + 1) = (up2 T (274 + t) (u, v), (u, v)) := by
                      show (up2 (fillN M (137 + m)).1 (2 * (137 + m)) (blk (fillN M (137 + m)).1 (fillN M (137 + m)).2.1 (fillN M (137 + m)).2.2), blk (fillN M (137 + m)).1 (fillN M (137 + m)).2.1 (fillN M (137 + m)).2.2) = _
                      rw [← HT.out, ← Hl.out, ← Hr.out, show 2 * (137 + m) = 274 + t by have := Ht.out; omega, Hu.out, Hv.out]
                    have ef2 : fillN M (137 + (m + 1)) = (up2 T (274 + t) (u, v), (u, v)) := ef
                    refine ⟨m + 1, t + 2, by have := Ht.out; omega, by omega, by go_num, by rw [ef2], by rw [ef2], ?_, ?_⟩
                    · exact But.setCell (But.setCell (Hb3.out.drewN _) (fun _ => rfl) _) (fun _ => rfl) _
                    · rw [ef2]
                      exact Ciph.set2 (Hc3.out.drewN _) (274 + t) (by omega) (u, v)
                  case measure => simp [intOf]; omega
                · obtain rfl : t = 256 := by omega
                  obtain rfl : m = 128 := by have := Ht.out; omega
                  have HX3 := Lib.hid (show l = (fillN M 265).2.1 from Hl.out)
                  have HY3 := Lib.hid (show r = (fillN M 265).2.2 from Hr.out)
                  have HB3 := Hb3
                  have HCI3 := Lib.hid (show Ciph wr B (fillN M 265).1 by have := Hc3.out; rw [HT.out] at this; exact this)
                  clear Hb3 Hc3 HT Hl Hr Hl1 Hl2 HlW Ht
                  go_wp2_with fail
                  go_loopw [8, 9, 13] (fun x y i w3 => ∃ m t : Nat, 2 * m = t ∧ t ≤ 256 ∧ i = .int .i64 (t : Int) ∧ x = .int .u32 ((fillN M (265 + m)).2.1 : Int) ∧ y = .int .u32 ((fillN M (265 + m)).2.2 : Int) ∧ But (· = B) w w3 ∧ Ciph w3 B (fillN M (265 + m)).1) (fun _ _ i _ => 256 - (intOf i).toNat)
                  case atStart => exact ⟨0, 0, rfl, by omega, rfl, by rw [HX3.out], by rw [HY3.out], HB3.out, HCI3.out⟩
                  case round =>
                    obtain ⟨m, t, ht, hm9, rfl, rfl, rfl, hb3, hc3⟩ := hrel
                    obtain ⟨lW, l1, l2⟩ := fillN_lt HW.out (265 + m)
                    obtain ⟨T, hT⟩ : ∃ T, T = (fillN M (265 + m)).1 := ⟨_, rfl⟩
                    obtain ⟨l, hl⟩ : ∃ l, l = (fillN M (265 + m)).2.1 := ⟨_, rfl⟩
                    obtain ⟨r, hr⟩ : ∃ r, r = (fillN M (265 + m)).2.2 := ⟨_, rfl⟩
                    rw [← hT] at lW hc3
                    rw [← hl] at l1
                    rw [← hr] at l2
                    simp only [← hl, ← hr]
                    have Hb3 := Lib.hid hb3; clear hb3
                    have Hc3 := Lib.hid hc3; clear hc3
                    have HlW := Lib.hid lW; clear lW
                    have Hl1 := Lib.hid l1; clear l1
                    have Hl2 := Lib.hid l2; clear l2
                    have HT := Lib.hid hT; clear hT
                    have Hl := Lib.hid hl; clear hl
                    have Hr := Lib.hid hr; clear hr
                    have Ht := Lib.hid ht; clear ht
                    by_cases hlt9 : t < 256
                    · have tl1 : t + 1 < 256 := by have := Ht.out; omega
                      go_wp2_with fail
                      refine (encBlock T B _ l r Hl1.out Hl2.out (Hc3.out.words HlW.out)).mono ?_
                      rintro e w4 ⟨rfl, q, rfl⟩
                      obtain ⟨u, hu⟩ : ∃ u, u = (blk T l r).1 := ⟨_, rfl⟩
                      obtain ⟨v, hv⟩ : ∃ v, v = (blk T l r).2 := ⟨_, rfl⟩
                      simp only [← hu, ← hv]
                      have Hu := Lib.hid hu; clear hu
                      have Hv := Lib.hid hv; clear hv
                      have k1 := Hc3.out.cell (530 + t) (by omega)
                      have k2 := Hc3.out.cell (530 + (t + 1)) (by omega)
                      have k3 := Hc3.out.free (530 + t)
                      have k4 := Hc3.out.free (530 + (t + 1))
                      go_wp2_with fail
                      go_region
                      go_wp2_with fail
                      go_roundw
                      case rel =>
                        have ef : fillN M ((265 + m) + 1) = (up2 T (530 + t) (u, v), (u, v)) := by
                          show (up2 (fillN M (265 + m)).1 (2 * (265 + m)) (blk (fillN M (265 + m)).1 (fillN M (265 + m)).2.1 (fillN M (265 + m)).2.2), blk (fillN M (265 + m)).1 (fillN M (265 + m)).2.1 (fillN M (265 + m)).2.2) = _
                          rw [← HT.out, ← Hl.out, ← Hr.out, show 2 * (265 + m) = 530 + t by have := Ht.out; omega, Hu.out, Hv.out]
                        have ef2 : fillN M (265 + (m + 1)) = (up2 T (530 + t) (u, v), (u, v)) := ef
                        refine ⟨m + 1, t + 2, by have := Ht.out; omega, by omega, by go_num, by rw [ef2], by rw [ef2], ?_, ?_⟩
                        · exact But.setCell (But.setCell (Hb3.out.drewN _) (fun _ => rfl) _) (fun _ => rfl) _
                        · rw [ef2]
                          exact Ciph.set2 (Hc3.out.drewN _) (530 + t) (by omega) (u, v)
                      case measure => simp [intOf]; omega
                    · obtain rfl : t = 256 := by omega
                      obtain rfl : m = 128 := by have := Ht.out; omega
                      have HX4 := Lib.hid (show l = (fillN M 393).2.1 from Hl.out)
                      have HY4 := Lib.hid (show r = (fillN M 393).2.2 from Hr.out)
                      have HB4 := Hb3
                      have HCI4 := Lib.hid (show Ciph wr B (fillN M 393).1 by have := Hc3.out; rw [HT.out] at this; exact this)
                      clear Hb3 Hc3 HT Hl Hr Hl1 Hl2 HlW Ht
                      go_wp2_with fail
                      go_loopw [8, 9, 14] (fun x y i w3 => ∃ m t : Nat, 2 * m = t ∧ t ≤ 256 ∧ i = .int .i64 (t : Int) ∧ x = .int .u32 ((fillN M (393 + m)).2.1 : Int) ∧ y = .int .u32 ((fillN M (393 + m)).2.2 : Int) ∧ But (· = B) w w3 ∧ Ciph w3 B (fillN M (393 + m)).1) (fun _ _ i _ => 256 - (intOf i).toNat)
                      case atStart => exact ⟨0, 0, rfl, by omega, rfl, by rw [HX4.out], by rw [HY4.out], HB4.out, HCI4.out⟩
                      case round =>
                        obtain ⟨m, t, ht, hm9, rfl, rfl, rfl, hb3, hc3⟩ := hrel
                        obtain ⟨lW, l1, l2⟩ := fillN_lt HW.out (393 + m)
                        obtain ⟨T, hT⟩ : ∃ T, T = (fillN M (393 + m)).1 := ⟨_, rfl⟩
                        obtain ⟨l, hl⟩ : ∃ l, l = (fillN M (393 + m)).2.1 := ⟨_, rfl⟩
                        obtain ⟨r, hr⟩ : ∃ r, r = (fillN M (393 + m)).2.2 := ⟨_, rfl⟩
                        rw [← hT] at lW hc3
                        rw [← hl] at l1
                        rw [← hr] at l2
                        simp only [← hl, ← hr]
                        have Hb3 := Lib.hid hb3; clear hb3
                        have Hc3 := Lib.hid hc3; clear hc3
                        have HlW := Lib.hid lW; clear lW
                        have Hl1 := Lib.hid l1; clear l1
                        have Hl2 := Lib.hid l2; clear l2
                        have HT := Lib.hid hT; clear hT
                        have Hl := Lib.hid hl; clear hl
                        have Hr := Lib.hid hr; clear hr
                        have Ht := Lib.hid ht; clear ht
                        by_cases hlt9 : t < 256
                        · have tl1 : t + 1 < 256 := by have := Ht.out; omega
                          go_wp2_with fail
                          refine (encBlock T B _ l r Hl1.out Hl2.out (Hc3.out.words HlW.out)).mono ?_
                          rintro e w4 ⟨rfl, q, rfl⟩
                          obtain ⟨u, hu⟩ : ∃ u, u = (blk T l r).1 := ⟨_, rfl⟩
                          obtain ⟨v, hv⟩ : ∃ v, v = (blk T l r).2 := ⟨_, rfl⟩
                          simp only [← hu, ← hv]
                          have Hu := Lib.hid hu; clear hu
                          have Hv := Lib.hid hv; clear hv
                          have k1 := Hc3.out.cell (786 + t) (by omega)
                          have k2 := Hc3.out.cell (786 + (t + 1)) (by omega)
                          have k3 := Hc3.out.free (786 + t)
                          have k4 := Hc3.out.free (786 + (t + 1))
                          go_wp2_with fail
                          go_region
                          go_wp2_with fail
                          go_roundw
                          case rel =>
                            have ef : fillN M ((393 + m) + 1) = (up2 T (786 + t) (u, v), (u, v)) := by
                              show (up2 (fillN M (393 + m)).1 (2 * (393 + m)) (blk (fillN M (393 + m)).1 (fillN M (393 + m)).2.1 (fillN M (393 + m)).2.2), blk (fillN M (393 + m)).1 (fillN M (393 + m)).2.1 (fillN M (393 + m)).2.2) = _
                              rw [← HT.out, ← Hl.out, ← Hr.out, show 2 * (393 + m) = 786 + t by have := Ht.out; omega, Hu.out, Hv.out]
                            have ef2 : fillN M (393 + (m + 1)) = (up2 T (786 + t) (u, v), (u, v)) := ef
                            refine ⟨m + 1, t + 2, by have := Ht.out; omega, by omega, by go_num, by rw [ef2], by rw [ef2], ?_, ?_⟩
                            · exact But.setCell (But.setCell (Hb3.out.drewN _) (fun _ => rfl) _) (fun _ => rfl) _
                            · rw [ef2]
                              exact Ciph.set2 (Hc3.out.drewN _) (786 + t) (by omega) (u, v)
                          case measure => simp [intOf]; omega
                        · obtain rfl : t = 256 := by omega
                          obtain rfl : m = 128 := by have := Ht.out; omega
                          have fin : Ciph wr B (expK bs S) := by
                            have := Hc3.out
                            rw [HT.out, HM.out] at this
                            exact this
                          have Fin := Lib.hid fin; clear fin
                          go_wp2_with fail
                          go_end0
                          exact ⟨rfl, Hb3.out, Fin.out⟩
end Go.Proofs.YthnhdfgonpbldaaGreatDoor
