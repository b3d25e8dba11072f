/- bcrypt's bcrypt: the 31 letters that a password, a cost and a salt make. -/
import Derived.Test.YthnhdfgonpbldaaGreatDoorSetup
import Derived.Test.YthnhdfgonpbldaaGreatDoorEncr
import Derived.Test.YthnhdfgonpbldaaGreatDoorBcap
import Derived.Deep.RegionWith
import Derived.Deep.CutRange
import Derived.IntWalk
namespace Go.Proofs.YthnhdfgonpbldaaGreatDoor
open Go.RowKit Go.Lib
/-- The text that is encrypted, in its variable. -/
def MagAt (w : World) : Prop := ∃ cs t fr, w.heap[8]? = some (.cells cs t fr) ∧ ∀ j, j < 24 → cs[j]? = some (.int .u8 ((magicB.getD j 0 : Nat) : Int))
theorem MagAt.but {w w' : World} {S : Nat → Prop} (h : MagAt w) (b : But S w w') (hs : ¬ S 8) : MagAt w' := by
  obtain ⟨cs, t, fr, h1, h2⟩ := h
  exact ⟨cs, t, fr, b.row h1 hs, h2⟩
theorem magic_part {cs : Array Value} (h : ∀ j, j < 24 → cs[j]? = some (.int .u8 ((magicB.getD j 0 : Nat) : Int))) (j : Nat) (v : Value) (hv : (bcells magicB)[j]? = some v) : cs[0 + j]? = some v := by
  obtain ⟨hj, rfl⟩ := bcells_some hv
  rw [Nat.zero_add]
  exact h j hj
theorem size96 : (Tryz.prog.info? 96).map (·.size) = some (bcells magicB).length := by rw [bcells_length]; kernel_rfl
def zero24 : Array Value := #[Value.int IntKind.u8 0, Value.int IntKind.u8 0, Value.int IntKind.u8 0, Value.int IntKind.u8 0, Value.int IntKind.u8 0, Value.int IntKind.u8 0, Value.int IntKind.u8 0, Value.int IntKind.u8 0, Value.int IntKind.u8 0, Value.int IntKind.u8 0, Value.int IntKind.u8 0, Value.int IntKind.u8 0, Value.int IntKind.u8 0, Value.int IntKind.u8 0, Value.int IntKind.u8 0, Value.int IntKind.u8 0, Value.int IntKind.u8 0, Value.int IntKind.u8 0, Value.int IntKind.u8 0, Value.int IntKind.u8 0, Value.int IntKind.u8 0, Value.int IntKind.u8 0, Value.int IntKind.u8 0, Value.int IntKind.u8 0]
theorem store_magic (W : World) : ∃ Wm, (storeCells ⟨W.heap.size, 0, none⟩ (bcells magicB)).run Tryz.prog (W.alloc (.cells #[Value.int IntKind.u8 0, Value.int IntKind.u8 0, Value.int IntKind.u8 0, Value.int IntKind.u8 0, Value.int IntKind.u8 0, Value.int IntKind.u8 0, Value.int IntKind.u8 0, Value.int IntKind.u8 0, Value.int IntKind.u8 0, Value.int IntKind.u8 0, Value.int IntKind.u8 0, Value.int IntKind.u8 0, Value.int IntKind.u8 0, Value.int IntKind.u8 0, Value.int IntKind.u8 0, Value.int IntKind.u8 0, Value.int IntKind.u8 0, Value.int IntKind.u8 0, Value.int IntKind.u8 0, Value.int IntKind.u8 0, Value.int IntKind.u8 0, Value.int IntKind.u8 0, Value.int IntKind.u8 0, Value.int IntKind.u8 0] 96)) = .ok () Wm ∧ But (fun _ => False) W Wm ∧
    ∀ j, j < 24 → Wm.cell? ⟨W.heap.size, j, none⟩ = some (.int .u8 ((magicB.getD j 0 : Nat) : Int)) := by
  have ha := heap_alloc_at W (.cells zero24 96)
  refine ⟨_, run_storeCells_part (P := Tryz.prog) W.heap.size 0 96 (bcells magicB) 0 zero24 (W.alloc (.cells zero24 96)) ha (by decide) (bcells_one _), ?_, fun j hj => ?_⟩
  · have b1 : But (fun k => k = W.heap.size) W (W.alloc (.cells zero24 96)) := (But.refl _ W).alloc _
    exact (But.setRow b1 rfl _).trans (But.refl (fun _ => False) _) (fun i hi h => by omega) (fun _ _ h => h)
  · have hr := setRow_heap (W.alloc (.cells zero24 96)) W.heap.size zero24 (putAll zero24 0 (bcells magicB)) 96 (0, 0) ha
    refine cell_row hr ?_
    have := putAll_in (bcells magicB) zero24 0 j (by decide) (by rw [bcells_length]; exact hj)
    rw [Nat.zero_add] at this
    rw [this, bcells_get magicB j hj]
def CryptPost (T : Nat → Nat) (pw : List Nat) (cost : Nat) (vs : List Nat) (sb : Nat) (w : World) (e : Ending) (w' : World) : Prop :=
  ∃ v, e = .returned (.tuple #[v, .nilIface]) ∧ OwnC w' w.heap.size v (hashN T pw cost vs) 32 ∧ But (· = sb) w w' ∧ SaltRow w' sb vs
/-- The row of the 24 bytes behind n encryptions. -/
def CRow (S : Nat → Nat) (w : World) (g n : Nat) : Prop := ∃ cur, w.heap[g]? = some (.cells cur 5 (0, 0)) ∧ cur.size = 24 ∧ ∀ i, i < 24 → cur[i]? = some (.int .u8 ((cdat S n i : Nat) : Int))
theorem word8_get (p : Nat × Nat) (i : Nat) (h : i < 8) : (word8 p)[i]? = some (.int .u8 ((by8 p i : Nat) : Int)) := by simp [word8, h]
theorem word8_length (p : Nat × Nat) : (word8 p).length = 8 := by simp [word8]
theorem CRow.next {S : Nat → Nat} {w : World} {g c k t : Nat} {cur : Array Value} (hk : k < 64) (hc : c < 3) (ht : t = 8 * c) (hs : cur.size = 24) (h : ∀ i, i < 24 → cur[i]? = some (.int .u8 ((cdat S (64 * c + k) i : Nat) : Int)))
    (hr : w.heap[g]? = some (.cells (putAll cur t (word8 (blk S (blks S k (pair c)).1 (blks S k (pair c)).2))) 5 (0, 0))) : CRow S w g (64 * c + (k + 1)) := by
  subst ht
  have l8 := word8_length (blk S (blks S k (pair c)).1 (blks S k (pair c)).2)
  refine ⟨_, hr, by rw [putAll_size, hs], fun i hi => ?_⟩
  by_cases hin : 8 * c ≤ i ∧ i < 8 * c + 8
  · have := putAll_in (word8 (blk S (blks S k (pair c)).1 (blks S k (pair c)).2)) cur (8 * c) (i - 8 * c) (by omega) (by omega)
    rw [show 8 * c + (i - 8 * c) = i by omega] at this
    rw [this, word8_get _ _ (by omega)]
    have e := cdat_in S c (k + 1) (i - 8 * c) (by omega) (by omega)
    rw [show 8 * c + (i - 8 * c) = i by omega] at e
    rw [e]
    rfl
  · rw [putAll_out _ _ _ _ (by omega), h i hi, cdat_out S c k i hk (by omega)]
theorem slice8 (g t : Nat) (h : t ≤ 16) (W : World) : (Instr.slice 22 (.slice (some ⟨g, 0, none⟩) 24 24) (some (.int .i64 (t : Int))) (some (.int .i64 ((t : Int) + 8))) none).run Tryz.prog W = .ok (.slice (some ⟨g, t, none⟩) 8 (24 - t)) W := by
  have he : Tryz.prog.elem 22 = 5 := by kernel_rfl
  have hsz : ∀ w, (sizeOf 5).run Tryz.prog w = .ok 1 w := fun w => by
    obtain ⟨i0, hi, _, hz1, _⟩ := info_parts info5
    simp [sizeOf, typeInfo, hi, hz1]
  have h := run_slice_lh (P := Tryz.prog) W 22 (some ⟨g, 0, none⟩) 24 24 (by rw [he]; exact Tryz.underlying22) .i64 .i64 (t : Int) ((t : Int) + 8) (by omega) (by omega) (by omega)
  rw [h, he, hsz]
  have e2 : ((t : Int) + 8).toNat = t + 8 := by omega
  simp only [Result.andThen, sliced, Int.toNat_natCast, e2, Nat.mul_one]
  rw [if_neg (by omega)]
  simp only [Option.map, addr_add, Nat.zero_add, show t + 8 - t = 8 by omega]
set_option maxRecDepth 100000 in
set_option maxHeartbeats 4000000 in
theorem bcrypt_any (T : Nat → Nat) (pw : List Nat) (ka : Option Addr) (kc cost : Nat) (vs : List Nat) (sb : Nat) (w : World) (h4 : 4 ≤ cost) (h6 : cost ≤ 6) (hp : ∀ x ∈ pw, x < 256) (hl : pw.length ≤ 72) (hkc : pw.length ≤ kc) (hkc2 : kc ≤ 9223372036854775807)
    (hk : PwAt w ka kc pw) (hs : SaltRow w sb vs) (hsb : 9 ≤ sb) (hksb : ∀ b, ka = some b → 0 < pw.length → b.block ≠ sb) (hv : ∀ i, vs.getD i 0 < 64) (v6 : vs.getD 22 0 = 0) (v7 : vs.getD 23 0 = 0) (hT : Tabs w T) (hM : MagAt w) :
    Calls Tryz.prog 34 #[.slice ka pw.length kc, .int .i64 (cost : Int), .slice (some ⟨sb, 0, none⟩) 22 24] w (CryptPost T pw cost vs sb w) := by
  have slt : sb < w.heap.size := by obtain ⟨cur, h, _⟩ := hs; exact (Array.getElem?_eq_some_iff.1 h).1
  obtain ⟨n, hn⟩ : ∃ n, n = pw.length := ⟨_, rfl⟩
  rw [← hn] at hl hkc ⊢
  obtain ⟨S, hS⟩ : ∃ S, S = setup T pw cost (decL vs) := ⟨_, rfl⟩
  have lS : W32 S := by rw [hS]; exact setup_lt hT.lt hp cost (bytes_dec vs) (by rw [decL_length]; omega)
  have LS := Lib.hid lS; clear lS
  have HSS := Lib.hid hS; clear hS
  have Hn := Lib.hid hn; clear hn
  have HK := Lib.hid hk; clear hk
  have HS := Lib.hid hs; clear hs
  have HV := Lib.hid hv; clear hv
  have HT := Lib.hid hT; clear hT
  have HP := Lib.hid hp; clear hp
  have HKS := Lib.hid hksb; clear hksb
  have HM := Lib.hid hM; clear hM
  have V6 := Lib.hid v6; clear v6
  have V7 := Lib.hid v7; clear v7
  have mk1 : (Instr.makeSlice 22 (.int .i64 24) (.int .i64 24)).run Tryz.prog w = .ok (.slice (some ⟨w.heap.size, 0, none⟩) 24 24) (w.alloc (.cells (made5 24) 5)) := make_cap 24 24 (by omega) (by omega) w
  go_enter Tryz.func34, Tryz.ntmps34
  go_upto_region 2 with fail
  clear mk1
  obtain ⟨g, hg⟩ : ∃ g, w.heap.size = g := ⟨_, rfl⟩
  simp only [hg]
  obtain ⟨W0, hW0⟩ : ∃ W0, W0 = w.alloc (.cells (made5 24) 5) := ⟨_, rfl⟩
  have b0 : But (fun _ => False) w W0 := by rw [hW0]; exact (But.refl _ w).alloc _
  have g0 : W0.heap[g]? = some (.cells (made5 24) 5 (0, 0)) := by rw [hW0, ← hg]; exact heap_alloc_at w _
  simp only [← hW0]
  clear hW0
  obtain ⟨mc, mt, mf, m1, m2⟩ := HM.out.but b0 (fun h => h)
  have M1 := Lib.hid m1; clear m1
  have M2 := Lib.hid (magic_part m2); clear m2
  have G0 := Lib.hid g0; clear g0
  have B0 := Lib.hid b0; clear b0
  have HG := Lib.hid hg; clear hg
  obtain ⟨Wm, hst, bm, rm⟩ := store_magic W0
  have BM := Lib.hid bm; clear bm
  have RM := Lib.hid rm; clear rm
  go_upto_region 3 with (refine wpList_load_part rfl 96 (.global 8) rfl 8 0 rfl mt mc (bcells magicB) mf _ M1.out M2.out Tryz.underlying96 rfl size96 ?_)
  clear hst M1 M2
  have gm : Wm.heap[g]? = some (.cells (made5 24) 5 (0, 0)) := BM.out.row G0.out (fun h => h)
  obtain ⟨W2, hcp, hb2, hr2⟩ := copy_bytes Wm g 0 24 24 W0.heap.size 0 24 24 24 (bcells magicB) (made5 24) rfl rfl gm (by rw [made5_size]; omega) (fun j v hv => by
    obtain ⟨hj, rfl⟩ := bcells_some hv
    rw [Nat.zero_add]
    exact RM.out j hj) (bcells_one _)
  have c0 : CRow S W2 g 0 := by
    refine ⟨_, hr2, by rw [putAll_size, made5_size], fun i hi => ?_⟩
    have := putAll_in (bcells magicB) (made5 24) 0 i (by rw [made5_size]; decide) (by rw [bcells_length]; exact hi)
    rw [Nat.zero_add] at this
    rw [this, bcells_get magicB i hi, cdat_zero S i hi]
  have b2 : But (fun _ => False) w W2 := (B0.out.then BM.out).trans hb2 (fun _ _ h => h) (fun i hi h => by have := HG.out; omega)
  clear gm hb2 hr2 G0
  have C0 := Lib.hid c0; clear c0
  have B2 := Lib.hid b2; clear b2
  have zg : g < W2.heap.size := by obtain ⟨cu, x, _⟩ := C0.out; exact (Array.getElem?_eq_some_iff.1 x).1
  have call := setup_any T pw ka kc cost vs sb W2 h4 h6 HP.out (by rw [← Hn.out]; exact hl) (by rw [← Hn.out]; exact hkc) hkc2 (HK.out.but B2.out (fun _ _ h => h)) (by obtain ⟨cu, x1, x2, x3⟩ := HS.out; exact ⟨cu, B2.out.row x1 (fun h => h), x2, x3⟩) (by omega) HKS.out HV.out V6.out V7.out (HT.out.but B2.out (fun _ _ h => h))
  rw [← Hn.out] at call
  have Call := Lib.hid call; clear call
  go_wp2_with fail
  clear hcp
  refine Call.out.mono ?_
  rintro e w3 ⟨C, rfl, s1, s2, s3, s4⟩
  clear Call
  rw [← HSS.out] at s4
  have s5 : CRow S w3 g 0 := by obtain ⟨cu, x1, x2, x3⟩ := C0.out; exact ⟨cu, s2.row x1 (by have := HG.out; omega), x2, x3⟩
  have B3 := Lib.hid (B2.out.trans s2 (fun _ _ h => h.elim) (fun _ _ h => h) : But (· = sb) w w3); clear s2
  have S3 := Lib.hid s3; clear s3
  have C3 := Lib.hid s4; clear s4
  have R3 := Lib.hid s5; clear s5
  have neC : g ≠ C := by omega
  have nes : g ≠ sb := by have := HG.out; omega
  have z3 : w.heap.size ≤ g := by have := HG.out; omega
  go_wp2_with fail
  go_loopw [12] (fun i wr => ∃ c t : Nat, t = 8 * c ∧ c ≤ 3 ∧ i = .int .i64 (t : Int) ∧ But (· = g) w3 wr ∧ CRow S wr g (64 * c)) (fun i _ => 24 - (intOf i).toNat)
  case atStart => exact ⟨0, 0, rfl, by omega, rfl, But.refl _ _, R3.out⟩
  case round =>
    obtain ⟨c, t, ht, hc3, rfl, hb, hr⟩ := hrel
    have Hb := Lib.hid hb; clear hb
    have Hr := Lib.hid hr; clear hr
    have Ht := Lib.hid ht; clear ht
    by_cases hlt : t < 24
    · have t16 : t ≤ 16 := by have := Ht.out; omega
      have tt : decide ((t : Int) < 24) = true := by simp; omega
      go_wp2_with fail
      obtain ⟨wo, hwo⟩ : ∃ wo : World, wo = wr := ⟨_, rfl⟩
      rw [← hwo]
      rw [← hwo] at Hb Hr
      clear hwo
      go_loopw [13] (fun j w4 => ∃ k : Nat, k ≤ 64 ∧ j = .int .i64 (k : Int) ∧ But (· = g) w3 w4 ∧ CRow S w4 g (64 * c + k)) (fun j _ => 64 - (intOf j).toNat)
      case atStart => exact ⟨0, by omega, rfl, Hb.out, Hr.out⟩
      case round =>
        obtain ⟨k, hk, rfl, hb4, cur, hr4, hs4, hc4⟩ := hrel
        by_cases hlk : k < 64
        · obtain ⟨pl, pr⟩ := pair_lt c
          have bl := blks_lt LS.out pl pr k
          have enc := encrypt_any S C g t 8 (24 - t) (blks S k (pair c)).1 (blks S k (pair c)).2 cur wr.drew LS.out bl.1 bl.2 (by omega) (by omega) (by omega) neC (Ciph.but (K := (· = g)) (w := w3) C3.out (hb4.drewN 1) (fun h => neC h.symm)) hr4 (fun i hi => by
            rw [hc4 (t + i) (by omega), show t + i = 8 * c + i by have := Ht.out; omega, cdat_in S c k i (by omega) hi])
          have Enc := Lib.hid enc; clear enc bl pl pr
          have Hb4 := Lib.hid hb4; clear hb4
          have Hc4 := Lib.hid hc4; clear hc4
          have Hs4 := Lib.hid hs4; clear hs4
          clear hr4
          have sl := slice8 g t t16
          have hw : IntKind.i64.wrap ((t : Int) + 8) = (t : Int) + 8 := IntWalk.i64_in _ (by omega)
          have hw0 : 0 ≤ (t : Int) + 8 := by omega
          have hwn : ((t : Int) + 8).toNat = t + 8 := by omega
          go_wp2_with fail
          go_region_with (refine Enc.out.mono ?_; rintro e w5 ⟨rfl, hb5, hr5⟩)
          all_goals
            clear hw hw0 hwn sl
            have Hb5 := Lib.hid hb5
            have Hr5 := Lib.hid hr5
            clear hb5 hr5
            go_wp2_with fail
            go_roundw
          case rel =>
            exact ⟨k + 1, by omega, by go_num, (Hb4.out.drewN 1).then Hb5.out, CRow.next hlk (by have := Ht.out; omega) Ht.out Hs4.out Hc4.out Hr5.out⟩
          case measure => simp [intOf]; omega
        · obtain rfl : k = 64 := by omega
          have r5 : CRow S wr g (64 * (c + 1)) := by rw [show 64 * (c + 1) = 64 * c + 64 by omega]; exact ⟨cur, hr4, hs4, hc4⟩
          have R5 := Lib.hid r5; clear r5
          have Hb4 := Lib.hid hb4; clear hb4
          clear hr4 hs4 hc4
          go_wp2_with fail
          go_roundw
          case rel =>
            exact ⟨c + 1, t + 8, by have := Ht.out; omega, by have := Ht.out; omega, by go_num, Hb4.out, R5.out⟩
          case measure => simp [intOf]; omega
    · obtain rfl : t = 24 := by have := Ht.out; omega
      obtain rfl : c = 3 := by have := Ht.out; omega
      obtain ⟨cur, hr4, hs4, hc4⟩ := Hr.out
      have fin := base64Encode_cap g 0 23 24 (crypt S) wr (by omega) (by omega) (by decide) (by omega) (by omega) (crypt_length S) (crypt_lt S) (fun j hj => by
        rw [Nat.zero_add, crypt_get S j hj]
        exact cell_row hr4 (hc4 j (by omega)))
      have Fin := Lib.hid fin; clear fin hr4 hs4 hc4
      go_wp2_with fail
      refine Fin.out.mono ?_
      rintro e w6 ⟨v, rfl, ho, hb6⟩
      have Ho := Lib.hid ho; clear ho
      have Hb6 := Lib.hid hb6; clear hb6
      go_wp2_with fail
      go_ret2
      have b36 : But (· = g) w3 w6 := Hb.out.then (But.of_below Hb6.out)
      refine ⟨v, rfl, ?_, ?_, ?_⟩
      · obtain ⟨g', cu, x1, x2, x3⟩ := Ho.out
        refine ⟨g', cu, ?_, ?_, ?_⟩
        · rw [x1]
          unfold hashN
          rw [← HSS.out]
        · have := Hb.out.size; have := B3.out.size; omega
        · unfold hashN
          rw [← HSS.out]
          exact x3
      · exact B3.out.trans b36 (fun _ _ h => h) (fun i hi h => by omega)
      · obtain ⟨cu, x1, x2, x3⟩ := S3.out
        exact ⟨cu, b36.row x1 (fun h => nes h.symm), x2, x3⟩
end Go.Proofs.YthnhdfgonpbldaaGreatDoor
