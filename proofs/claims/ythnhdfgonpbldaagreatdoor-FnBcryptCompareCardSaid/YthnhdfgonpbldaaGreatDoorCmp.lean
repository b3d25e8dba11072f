/- bcrypt's CompareHashAndPassword at a whole hash of a cost from 4 to 6, and the thin package's BcryptCompare there. -/
import Derived.Test.YthnhdfgonpbldaaGreatDoorBcr
import Derived.Test.YthnhdfgonpbldaaGreatDoorHasht
import Derived.Test.YthnhdfgonpbldaaGreatDoorCtEq
import Derived.Test.YthnhdfgonpbldaaGreatDoorKind
namespace Go.Proofs.YthnhdfgonpbldaaGreatDoor
open Go.RowKit Go.Lib
open Classical in
noncomputable def errOf (p : Prop) (a0 : Addr) : Value := if p then .nilIface else .iface 180 (.pointer (some a0))
theorem MagAt.lt {w : World} (h : MagAt w) : 9 ≤ w.heap.size := by
  obtain ⟨cs, t, fr, h1, _⟩ := h
  have := (Array.getElem?_eq_some_iff.1 h1).1
  omega
theorem LRow.salt {w : World} {sb : Nat} {ls vs : List Nat} (h : LRow w sb 24 ls) (hl : ls.length = 22) (he : ∀ i, i < 22 → ls.getD i 0 = alN (vs.getD i 0)) : SaltRow w sb vs := by
  obtain ⟨cur, h1, h2, h3⟩ := h
  exact ⟨cur, h1, h2, fun i hi => by rw [h3 i (by omega), he i hi]⟩
theorem SaltRow.letters {w : World} {sb : Nat} {ls vs : List Nat} (h : SaltRow w sb vs) (hl : ls.length = 22) (he : ∀ i, i < 22 → ls.getD i 0 = alN (vs.getD i 0)) : LRow w sb 24 ls := by
  obtain ⟨cur, h1, h2, h3⟩ := h
  exact ⟨cur, h1, h2, fun i hi => by rw [h3 i (by omega), he i (by omega)]⟩
theorem encL_lt (l : List Nat) (i : Nat) : (encL l).getD i 0 < 256 := by
  by_cases h : i < encLen l.length
  · have e : (encL l).getD i 0 = alN (sext l i) := by
      rw [encL, List.getD_eq_getElem?_getD, List.getElem?_map, List.getElem?_range h]
      rfl
    rw [e]
    exact (alN_facts _ (sext_lt l i)).1
  · rw [getD_past (by rw [encL_length]; omega)]
    decide
theorem hashL_lt {k : Nat} (hk : k ≤ 6) {ls lh : List Nat} (hs : ls.length = 22) (h1 : ∀ i, ls.getD i 0 < 256) (h2 : ∀ i, lh.getD i 0 < 256) (j : Nat) : (hashL k ls lh).getD j 0 < 256 := by
  by_cases h : j < 7
  · rcases (show j = 0 ∨ j = 1 ∨ j = 2 ∨ j = 3 ∨ j = 4 ∨ j = 5 ∨ j = 6 by omega) with rfl | rfl | rfl | rfl | rfl | rfl | rfl <;> (simp [hashL]; try omega)
  · by_cases h' : j < 29
    · have := hashL_salt (k := k) (lh := lh) hs (j - 7) (by omega)
      rw [show 7 + (j - 7) = j by omega] at this
      rw [this]
      exact h1 _
    · have := hashL_hash (k := k) (lh := lh) hs (j - 29)
      rw [show 29 + (j - 29) = j by omega] at this
      rw [this]
      exact h2 _
theorem hashL_inj {k : Nat} {ls a b : List Nat} (h : hashL k ls a = hashL k ls b) : a = b := by
  unfold hashL at h
  exact List.append_cancel_left (List.append_cancel_left h)
def CmpPost (p : Prop) (a0 : Addr) (w : World) (e : Ending) (w' : World) : Prop := e = .returned (errOf p a0) ∧ Below w.heap.size w w'
set_option maxRecDepth 100000 in
set_option maxHeartbeats 4000000 in
theorem compare_fine (T : Nat → Nat) (pw : List Nat) (ka : Option Addr) (kc k : Nat) (vs hl ls lh : List Nat) (b o c : Nat) (a0 a1 : Addr) (w : World) (h4 : 4 ≤ k) (h6 : k ≤ 6) (hp : ∀ x ∈ pw, x < 256) (hpl : pw.length ≤ 72) (hkc : pw.length ≤ kc) (hkc2 : kc ≤ 9223372036854775807)
    (hk : PwAt w ka kc pw) (hv : ∀ i, vs.getD i 0 < 64) (v6 : vs.getD 22 0 = 0) (v7 : vs.getD 23 0 = 0) (hT : Tabs w T) (hM : MagAt w) (s : Sen w a0 a1)
    (hc : 60 ≤ c) (hc2 : c ≤ 9223372036854775807) (hlen : hl.length = 60)
    (h : ∀ i, i < 60 → w.cell? ⟨b, o + i, none⟩ = some (.int .u8 ((hl.getD i 0 : Nat) : Int))) (e0 : hl.getD 0 0 = 36) (e1 : hl.getD 1 0 = 50) (e2 : hl.getD 2 0 = 97) (e4 : hl.getD 4 0 = 48) (e5 : hl.getD 5 0 = 48 + k)
    (hs : ls.length = 22) (hs2 : ∀ i, i < 22 → ls.getD i 0 = hl.getD (7 + i) 0) (hh : lh.length = 31) (hh2 : ∀ i, i < 31 → lh.getD i 0 = hl.getD (29 + i) 0) (hb : ∀ i, lh.getD i 0 < 256) (hle : ∀ i, i < 22 → ls.getD i 0 = alN (vs.getD i 0)) :
    Calls Tryz.prog 23 #[.slice (some ⟨b, o, none⟩) 60 c, .slice ka pw.length kc] w (CmpPost (lh = hashN T pw k vs) a0 w) := by
  have nf := nfh_fine b o c k hl ls lh w hc hc2 h4 h6 hlen h e0 e1 e2 e4 e5 hs hs2 hh hh2
  clear h e0 e1 e2 e4 e5 hs2 hh2 hc hc2
  have Nf := Lib.hid nf; clear nf
  obtain ⟨n, hn⟩ : ∃ n, n = pw.length := ⟨_, rfl⟩
  rw [← hn] at hpl hkc ⊢
  have z8 := hM.lt
  have Hn := Lib.hid hn; clear hn
  have HK := Lib.hid hk; clear hk
  have HV := Lib.hid hv; clear hv
  have HT := Lib.hid hT; clear hT
  have HP := Lib.hid hp; clear hp
  have HM := Lib.hid hM; clear hM
  have V6 := Lib.hid v6; clear v6
  have V7 := Lib.hid v7; clear v7
  have HS := Lib.hid s; clear s
  have Hs := Lib.hid hs; clear hs
  have Hh := Lib.hid hh; clear hh
  have Hb := Lib.hid hb; clear hb
  have Hle := Lib.hid hle; clear hle hlen
  go_enter Tryz.func23, Tryz.ntmps23
  go_wp2_with fail
  refine Nf.out.mono ?_
  rintro e w1 ⟨PB, SB, HB, rfl, p1, p2, p3, p4, p5, p6, hb1, r1, r2, r3⟩
  clear Nf
  have B1 := Lib.hid hb1; clear hb1
  have R1 := Lib.hid r1; clear r1
  have R2 := Lib.hid r2; clear r2
  have R3 := Lib.hid r3; clear r3
  have k1 : w1.cell? ⟨PB, 1, none⟩ = some (.slice (some ⟨SB, 0, none⟩) 22 24) := cell_row R1.out rfl
  have k2 : w1.cell? ⟨PB, 2, none⟩ = some (.int .i64 (k : Int)) := cell_row R1.out rfl
  have bF : But (fun _ => False) w w1.drew := (But.of_below B1.out).drewN 1
  have cr := bcrypt_any T pw ka kc k vs SB w1.drew h4 h6 HP.out (by rw [← Hn.out]; exact hpl) (by rw [← Hn.out]; exact hkc) hkc2 (HK.out.but bF (fun _ _ h => h)) (LRow.salt (w := w1.drew) R2.out Hs.out Hle.out) (by omega)
    (fun a e h0 => by
      have := World.block_lt_of_cell? _ _ (HK.out.2 a e 0 h0)
      have e2 : (a.add 0).block = a.block := by unfold Addr.add; split <;> rfl
      rw [e2] at this
      omega) HV.out V6.out V7.out (HT.out.but bF (fun _ _ h => h)) (HM.out.but bF (fun h => h))
  rw [← Hn.out] at cr
  have Cr := Lib.hid cr; clear cr bF
  go_upto_region 4 with fail
  go_cut [6, 7] from 17 (fun er v wx => er = .nilIface ∧ OwnC wx w1.heap.size v (hashN T pw k vs) 32 ∧ But (· = SB) w1 wx ∧ SaltRow wx SB vs)
  case first =>
    go_region_with (refine Cr.out.mono ?_; rintro e w2 ⟨v, rfl, o2, b2, s2⟩)
    all_goals
      have HO2 := Lib.hid o2
      have HB2 := Lib.hid b2
      have HS2 := Lib.hid s2
      clear o2 b2 s2
      go_wp2_with fail
      go_meet
      exact ⟨rfl, HO2.out, ((But.refl (· = SB) w1).drewN 1).then HB2.out, HS2.out⟩
  case rest =>
    obtain ⟨rfl, ho, hb2, hs2⟩ := hcut
    clear Cr k1 k2
    obtain ⟨g, cu, hv, g1, g2, g3, g4, g5, g6⟩ := ho
    rw [hashN_length] at hv g3 g6
    rw [hv]
    clear hv
    have lg : LRow wc g 32 (hashN T pw k vs) := ⟨cu, g2, g4.symm, fun i hi => g6 i (by rw [hashN_length] at hi; exact hi)⟩
    have LG := Lib.hid lg; clear lg g2 g3 g4 g5 g6
    have B2 := Lib.hid (((But.of_below (S := (· = SB)) B1.out).then hb2))
    have R12 := Lib.hid (hb2.row R1.out p4)
    have R32 := Lib.hid (R3.out.but hb2 (fun h => p6 h.symm))
    have S2 := Lib.hid (hs2.letters Hs.out Hle.out)
    have z2 := hb2.size
    clear hb2 hs2
    have k0 : wc.cell? ⟨PB, 1, none⟩ = some (.slice (some ⟨SB, 0, none⟩) 22 24) := cell_row R12.out rfl
    have k2 : wc.cell? ⟨PB, 2, none⟩ = some (.int .i64 (k : Int)) := cell_row R12.out rfl
    have k3 : wc.cell? ⟨PB, 3, none⟩ = some (.int .u8 50) := cell_row R12.out rfl
    have k4 : wc.cell? ⟨PB, 4, none⟩ = some (.int .u8 97) := cell_row R12.out rfl
    go_upto_region 7 with fail
    go_cut [8] from 33 (fun op wx => ∃ OB, op = .pointer (some ⟨OB, 0, none⟩) ∧ But (fun _ => False) wc wx ∧ HRow wx OB (.slice (some ⟨g, 0, none⟩) 31 32) (.slice (some ⟨SB, 0, none⟩) 22 24) k 50 97)
    case first =>
      go_region
      all_goals
        go_wp2_with fail
        go_meet
        refine ⟨_, rfl, ((But.refl (fun _ => False) wc).drewN 1).alloc _, heap_alloc_at _ _⟩
    case rest =>
      obtain ⟨OB, rfl, hb3, hr3⟩ := hcut
      clear k0 k2 k3 k4
      have B3 := Lib.hid hb3; clear hb3
      have R4 := Lib.hid hr3; clear hr3
      have Hlen := Lib.hid (hashN_length T pw k vs)
      have h1 := hash_any PB SB HB k 24 31 24 31 ls lh wc h4 h6 Hs.out Hh.out (by omega) (by omega) (by omega) (by omega) (B3.out.row R12.out (fun h => h)) (S2.out.but B3.out (fun h => h)) (R32.out.but B3.out (fun h => h))
      have H1 := Lib.hid h1; clear h1
      go_wp2_with fail
      refine H1.out.mono ?_
      rintro e w3 ⟨ga, rfl, ga1, ga2, ga3⟩
      clear H1
      have bA : But (fun _ => False) wc w3 := But.of_below ga2
      have h2 := hash_any OB SB g k 24 32 24 32 ls (hashN T pw k vs) w3 h4 h6 Hs.out Hlen.out (by omega) (by omega) (by omega) (by omega) (bA.row R4.out (fun h => h)) ((S2.out.but B3.out (fun h => h)).but bA (fun h => h)) ((LG.out.but B3.out (fun h => h)).but bA (fun h => h))
      have H2 := Lib.hid h2; clear h2
      have GA3 := Lib.hid ga3; clear ga3
      have BA := Lib.hid bA; clear bA ga2
      go_wp2_with fail
      refine H2.out.mono ?_
      rintro e w4 ⟨gb, rfl, gb1, gb2, gb3⟩
      clear H2
      have bB : But (fun _ => False) w3 w4 := But.of_below gb2
      have l1 := hashL_length (k := k) Hs.out Hh.out
      have l2 := hashL_length (k := k) Hs.out Hlen.out
      have la : ∀ i, ls.getD i 0 < 256 := fun i => by
        by_cases hi : i < 22
        · rw [Hle.out i hi]
          exact (alN_facts _ (HV.out i)).1
        · rw [getD_past (by rw [Hs.out]; omega)]
          decide
      have ct := ctCompare ga 0 gb 0 60 60 60 (hashL k ls lh) (hashL k ls (hashN T pw k vs)) w4 (by omega) (by omega) l1 l2 (fun j => hashL_lt h6 Hs.out la Hb.out j) (fun j => hashL_lt h6 Hs.out la (fun i => encL_lt _ i) j)
        (fun j hj => by rw [Nat.zero_add]; exact bB.cell (GA3.out.cell j (by rw [l1]; exact hj)) (fun h => h)) (fun j hj => by rw [Nat.zero_add]; exact gb3.cell j (by rw [l2]; exact hj))
      have Ct := Lib.hid ct; clear ct l1 l2 la gb3
      have BB := Lib.hid bB; clear bB gb2
      go_wp2_with fail
      refine Ct.out.mono ?_
      rintro e w5 ⟨rfl, m, rfl⟩
      clear Ct
      have bAll : Below w.heap.size w (w4.drewN m) := (((B2.out.trans B3.out (fun _ _ h => h) (fun _ _ h => h.elim) : But (· = SB) w wc).trans BA.out (fun _ _ h => h) (fun _ _ h => h.elim) : But (· = SB) w w3).trans BB.out (S'' := (· = SB)) (fun _ _ h => h) (fun _ _ h => h.elim)).drewN m |>.below (Nat.le_refl _) (fun i hi h => by omega)
      have BAll := Lib.hid bAll; clear bAll
      by_cases he : lh = hashN T pw k vs
      · rw [if_pos (by rw [he])]
        have He := Lib.hid he; clear he
        go_wp2_with fail
        go_ret
        exact ⟨by unfold errOf; rw [if_pos He.out]; rfl, BAll.out⟩
      · rw [if_neg (fun h => he (hashL_inj h))]
        have He := Lib.hid he; clear he
        have sc := (HS.out.below BAll.out).c0
        go_wp2_with fail
        go_ret
        exact ⟨by unfold errOf; rw [if_neg He.out]; rfl, BAll.out⟩
theorem bcompare_fine (v1 v2 : Value) (p : Prop) (a0 a1 : Addr) (w : World) (s : Sen w a0 a1) (h : Calls Tryz.prog 23 #[v1, v2] w (CmpPost p a0 w)) (k : Int) (hk : (p → k = 0) ∧ (¬ p → k = 1)) :
    Calls Tryz.prog 12 #[v1, v2] w (IntBelow w k) := by
  have H := Lib.hid h; clear h
  have HS := Lib.hid s; clear s
  by_cases hp : p
  · obtain rfl := hk.1 hp
    have HP := Lib.hid hp; clear hp
    clear hk
    go_enter Tryz.func12, Tryz.ntmps12
    go_wp2_with fail
    refine H.out.mono ?_
    rintro e w1 ⟨rfl, hb⟩
    have Hb := Lib.hid hb; clear hb
    unfold errOf
    rw [if_pos HP.out]
    go_wp2_with fail
    refine (kind_nil w1).mono ?_
    rintro e w2 ⟨rfl, hb2⟩
    have Hb2 := Lib.hid hb2; clear hb2
    go_wp2_with fail
    go_ret
    exact ⟨rfl, Below.trans' Hb.out Hb2.out⟩
  · obtain rfl := hk.2 hp
    have HP := Lib.hid hp; clear hp
    clear hk
    go_enter Tryz.func12, Tryz.ntmps12
    go_wp2_with fail
    refine H.out.mono ?_
    rintro e w1 ⟨rfl, hb⟩
    have Hb := Lib.hid hb; clear hb
    unfold errOf
    rw [if_neg HP.out]
    go_wp2_with fail
    refine (kind_other w1 a0 a1 (HS.out.below Hb.out)).mono ?_
    rintro e w2 ⟨rfl, hb2⟩
    have Hb2 := Lib.hid hb2; clear hb2
    go_wp2_with fail
    go_ret
    exact ⟨rfl, Below.trans' Hb.out Hb2.out⟩
end Go.Proofs.YthnhdfgonpbldaaGreatDoor
