/- bcrypt's expensiveBlowfishSetup: the tables that a password, a cost and a salt make. -/
import Derived.Test.YthnhdfgonpbldaaGreatDoorB64d
import Derived.Test.YthnhdfgonpbldaaGreatDoorSalted
import Derived.Test.YthnhdfgonpbldaaGreatDoorExpand
import Derived.Test.YthnhdfgonpbldaaGreatDoorCrypt
import Derived.ArgAppend
import Derived.Outline
import Derived.Deep.Cut
namespace Go.Proofs.YthnhdfgonpbldaaGreatDoor
open Go.RowKit Go.Lib
/-- A password as it lies in memory: nil, or cells. -/
def PwAt (w : World) (a : Option Addr) (c : Nat) (pw : List Nat) : Prop :=
  (a = none → pw.length = 0 ∧ c = 0) ∧ ∀ b, a = some b → ∀ j, j < pw.length → w.cell? (b.add j) = some (.int .u8 ((pw.getD j 0 : Nat) : Int))
theorem PwAt.but {w w' : World} {S : Nat → Prop} {a : Option Addr} {c : Nat} {pw : List Nat} (h : PwAt w a c pw) (hb : But S w w') (hs : ∀ i, i < w.heap.size → ¬ S i) : PwAt w' a c pw :=
  ⟨h.1, fun b e j hj => by
    have := h.2 b e j hj
    exact hb.cell this (hs _ (World.block_lt_of_cell? _ _ this))⟩
def SetupPost (T : Nat → Nat) (pw : List Nat) (cost : Nat) (vs : List Nat) (sb : Nat) (w : World) (e : Ending) (w' : World) : Prop :=
  ∃ C, e = .returned (.tuple #[.pointer (some ⟨C, 0, none⟩), .nilIface]) ∧ w.heap.size ≤ C ∧ But (· = sb) w w' ∧ SaltRow w' sb vs ∧ Ciph w' C (setup T pw cost (decL vs))
theorem slice3 (a : Option Addr) (n c : Nat) (h : n ≤ c) (_hc : c ≤ 9223372036854775807) (ha : a = none → n = 0 ∧ c = 0) (w : World) :
    (Instr.slice 22 (.slice a n c) none (some (.int .i64 (n : Int))) (some (.int .i64 (n : Int)))).run Tryz.prog w = .ok (.slice a n n) w := by
  have he : Tryz.prog.elem 22 = 5 := by kernel_rfl
  have hsz : (sizeOf 5).run Tryz.prog w = .ok 1 w := by
    obtain ⟨i0, hi, _, hz1, _⟩ := info_parts info5
    simp [sizeOf, typeInfo, hi, hz1]
  have h := run_slice_hm (P := Tryz.prog) w 22 a n c (by rw [he]; exact Tryz.underlying22) .i64 .i64 (n : Int) (n : Int) (by omega) (by omega) (by omega)
  rw [h, he, hsz]
  have e : (if n = 0 then a else a.map (·.add (0 * 1))) = a := by
    split
    · rfl
    · cases a with
      | none => rfl
      | some b => simp [Addr.add]
  simp [sliced, Result.andThen] at e ⊢
  exact e
theorem owns_bytes {w : World} {base : Nat} {v : Value} {n : Nat} {xs : List Value} (h : w.ownsRow base 5 1 v n xs) (h0 : 0 < n) :
    ∃ g cap cur, v = .slice (some ⟨g, 0, none⟩) n cap ∧ base ≤ g ∧ w.heap[g]? = some (.cells cur 5 (0, 0)) ∧ n ≤ cap ∧ cap = cur.size ∧ ∀ i, i < n → cur[i]? = xs[i]? := by
  obtain ⟨hl, h | ⟨g, cap, cur, rfl, h1, h2, h3, _, h4, h5⟩⟩ := h
  · omega
  · refine ⟨g, cap, cur, rfl, h1, h2, h3, by omega, fun i hi => ?_⟩
    rw [← h5, List.getElem?_take_of_lt (by omega)]
    simp
theorem one0 : ∀ u ∈ [Value.int .u8 0], u.oneCell' = true := by
  intro u hu
  rw [List.mem_singleton.1 hu]
  rfl
set_option maxRecDepth 100000 in
set_option maxHeartbeats 4000000 in
theorem setup_any (T : Nat → Nat) (pw : List Nat) (ka : Option Addr) (kc cost : Nat) (vs : List Nat) (sb : Nat) (w : World) (h4 : 4 ≤ cost) (h6 : cost ≤ 6) (hp : ∀ x ∈ pw, x < 256) (hl : pw.length ≤ 72) (hkc : pw.length ≤ kc) (hkc2 : kc ≤ 9223372036854775807)
    (hk : PwAt w ka kc pw) (hs : SaltRow w sb vs) (hsb : 7 ≤ sb) (hksb : ∀ b, ka = some b → 0 < pw.length → b.block ≠ sb) (hv : ∀ i, vs.getD i 0 < 64) (v6 : vs.getD 22 0 = 0) (v7 : vs.getD 23 0 = 0) (hT : Tabs w T) :
    Calls Tryz.prog 50 #[.slice ka pw.length kc, .int .u32 (cost : Int), .slice (some ⟨sb, 0, none⟩) 22 24] w (SetupPost T pw cost vs sb w) := by
  obtain ⟨i0, hi, hz0, hz1, hz2⟩ := info_parts info5
  have slt : sb < w.heap.size := by obtain ⟨cur, h, _⟩ := hs; exact (Array.getElem?_eq_some_iff.1 h).1
  obtain ⟨n, hn⟩ : ∃ n, n = pw.length := ⟨_, rfl⟩
  rw [← hn] at hl hkc ⊢
  have Hi := Lib.hid hi; clear hi
  have Hz := Lib.hid (And.intro hz0 (And.intro hz1 hz2)); clear hz0 hz1 hz2
  have dec := base64Decode_any vs sb w hv v6 v7 hs
  have Dec := Lib.hid dec; clear dec
  have Hn := Lib.hid hn; clear hn
  have HK := Lib.hid hk; clear hk
  have HS := Lib.hid hs; clear hs
  have HV := Lib.hid hv; clear hv
  have HT := Lib.hid hT; clear hT
  have HP := Lib.hid hp; clear hp
  have HKS := Lib.hid hksb; clear hksb
  clear v6 v7
  go_enter Tryz.func50, Tryz.ntmps50
  go_wp2_with fail
  refine Dec.out.mono ?_
  rintro e w1 ⟨D, rfl, d1, d2, d3, d4⟩
  clear Dec
  have B1 := Lib.hid d2; clear d2
  have S1 := Lib.hid d3; clear d3
  have D4 := Lib.hid d4; clear d4
  have D1 := Lib.hid d1; clear d1
  go_upto_region 4 with fail
  have sl := slice3 ka n kc hkc hkc2 (fun e => by have := HK.out.1 e; rw [← Hn.out] at this; exact this) w1
  have z1 : w.heap.size ≤ w1.heap.size := B1.out.size
  have k1 : PwAt w1 ka kc pw := ⟨HK.out.1, fun b e j hj => B1.out.cell (HK.out.2 b e j hj) (fun h => by
    have hw := HK.out.2 b e j hj
    exact HKS.out b e (by omega) (by rw [← h]; unfold Addr.add; split <;> rfl))⟩
  have q1 : ka = none → n = 0 ∧ n = 0 := fun e => by have := HK.out.1 e; rw [← Hn.out] at this; exact ⟨this.1, this.1⟩
  have q2 : (bcells pw).length = n * 1 := by rw [bcells_length, Hn.out, Nat.mul_one]
  have q3 : ∀ b, ka = some b → ∀ j u, (bcells pw)[j]? = some u → (w1.alloc (.cells #[.int .u8 0] 5)).cell? (b.add j) = some u := fun b e j u hu => by
    obtain ⟨hj, rfl⟩ := bcells_some hu
    exact (But.alloc (But.refl (fun _ => False) w1) _).cell (k1.2 b e j hj) (fun h => h)
  have q4 : ∀ j u, [Value.int .u8 0][j]? = some u → (w1.alloc (.cells #[.int .u8 0] 5)).cell? ((⟨w1.heap.size, 0, none⟩ : Addr).add j) = some u := fun j u hu => by
    rcases (show j = 0 by have := (List.getElem?_eq_some_iff.1 hu).1; simp at this; omega) with rfl
    rw [addr_add]
    exact cell_row (heap_alloc_at w1 _) (by simpa using hu)
  have Q1 := Lib.hid q1; clear q1
  have Q2 := Lib.hid q2; clear q2
  have Q3 := Lib.hid q3; clear q3
  have Q4 := Lib.hid q4; clear q4
  go_upto_region 5 with (at_builtin; refine wpList_append_grows _ rfl _ _ 22 rfl 5 i0 (.int .u8 0) 1 1 Tryz.underlying22 Hi.out Hz.out.1 Hz.out.2.1 Hz.out.2.2 rfl (by decide) ka n n (bcells pw) rfl Q1.out Q2.out Q3.out ⟨w1.heap.size, 0, none⟩ 1 1 [.int .u8 0] rfl rfl Q4.out one0 (by omega) (by unfold maxLen; omega) (by omega) ?_; intro v2 w2 O2 G2; obtain ⟨g, cap, cur, rfl, g1, g2, g3, g4, g5⟩ := owns_bytes O2 (by omega))
  clear sl Q1 Q2 Q3 Q4
  obtain ⟨key, hkey⟩ : ∃ key, key = pw ++ [0] := ⟨_, rfl⟩
  have lk : key.length = n + 1 := by rw [hkey, Hn.out]; simp
  have bk : Bytes key := by rw [hkey]; exact bytes_snoc HP.out
  have ck : ∀ i, i < key.length → w2.cell? ⟨g, 0 + i, none⟩ = some (.int .u8 ((key.getD i 0 : Nat) : Int)) := fun i hi => by
    rw [lk] at hi
    rw [Nat.zero_add]
    refine cell_row g2 ?_
    rw [g5 i hi]
    have lb := bcells_length pw
    by_cases h : i < n
    · have hi' : i < pw.length := by rw [← Hn.out]; exact h
      rw [List.getElem?_append_left (by rw [lb]; exact hi'), bcells_get pw i hi', hkey]
      simp [List.getD, List.getElem?_append_left hi']
    · obtain rfl : i = n := by omega
      rw [List.getElem?_append_right (by rw [lb, ← Hn.out]; exact Nat.le_refl _), hkey]
      simp [List.getD, lb, ← Hn.out]
  have gW : But (fun _ => False) w1 w2 := (But.alloc (But.refl (fun _ => False) w1) _).then (But.of_grown0 G2)
  have ng : w1.heap.size ≤ g := by simp at g1; omega
  have gw2 : g < w2.heap.size := (Array.getElem?_eq_some_iff.1 g2).1
  clear g1 g3 g4 g5 O2 G2
  have LK := Lib.hid lk; clear lk
  have BK := Lib.hid bk; clear bk
  have CK := Lib.hid ck; clear ck
  have HKEY := Lib.hid hkey; clear hkey
  have B12 := Lib.hid (B1.out.trans gW (fun _ _ h => h) (fun _ _ h => h.elim) : But (· = sb) w w2)
  have ss : ∀ i, i < (decL vs).length → w2.cell? ⟨D, 0 + i, none⟩ = some (.int .u8 (((decL vs).getD i 0 : Nat) : Int)) := fun i hi => by
    rw [decL_length] at hi
    rw [Nat.zero_add, decL_get vs i hi]
    exact gW.cell (D4.out i hi) (fun h => h)
  have SS := Lib.hid ss; clear ss
  have dlt : D < w2.heap.size := by have := World.block_lt_of_cell? _ _ (SS.out 0 (by rw [decL_length]; omega)); simpa using this
  have S2 := Lib.hid (show SaltRow w2 sb vs by obtain ⟨cu, x1, x2, x3⟩ := S1.out; exact ⟨cu, gW.row x1 (fun h => h), x2, x3⟩)
  clear S1 g2 gW D4
  have T2 : Tabs w2 T := HT.out.but B12.out (fun i hi h => by omega)
  have call := newSalted key (decL vs) g 0 cur.size D 0 18 T w2 (by rw [LK.out]; omega) (by rw [LK.out]; omega) BK.out (by rw [decL_length]; omega) (by rw [decL_length]; omega) (bytes_dec vs) T2 (by omega) CK.out SS.out
  rw [LK.out, decL_length] at call
  have Call := Lib.hid call; clear call
  have T2H := Lib.hid T2; clear T2
  go_wp2_with fail
  refine Call.out.mono ?_
  rintro e w3 ⟨C, rfl, hC1, hb3, hC3⟩
  clear Call
  have B3 := Lib.hid hb3; clear hb3
  have C3 := Lib.hid hC3; clear hC3
  obtain ⟨N, hN⟩ : ∃ N : Nat, N = 2 ^ cost := ⟨_, rfl⟩
  have lN : N ≤ 64 := by
    rcases (show cost = 4 ∨ cost = 5 ∨ cost = 6 by omega) with h | h | h <;> (rw [hN, h]; decide)
  have HN := Lib.hid hN; clear hN
  go_upto_region 9 with fail
  go_cut [13] from 15 (fun r wx => r = .int .u64 (N : Int) ∧ wx = w3)
  case first =>
    rcases (show cost = 4 ∨ cost = 5 ∨ cost = 6 by omega) with rfl | rfl | rfl
    all_goals
      go_wp2_with fail
      go_meet
      exact ⟨by rw [HN.out]; rfl, rfl⟩
  case rest =>
    obtain ⟨rfl, hwc⟩ := hcut
    rw [hwc]
    clear hwc
    go_wp2_with fail
    have neC : g ≠ C := by have := hC1; omega
    have neD : D ≠ C := by have := hC1; omega
    have zC : C < w3.heap.size := by obtain ⟨cs, x, _⟩ := C3.out; exact (Array.getElem?_eq_some_iff.1 x).1
    have zw := B3.out.size
    have W0 : W32 (expS key (decL vs) T) := expS_lt BK.out (by rw [LK.out]; omega) (bytes_dec vs) (by rw [decL_length]; omega) HT.out.lt
    have lt := fun k => turns_lt BK.out (show 0 < key.length by rw [LK.out]; omega) (bytes_dec vs) (show 0 < (decL vs).length by rw [decL_length]; omega) W0 k
    have LT := Lib.hid lt; clear lt W0
    have CK3 := Lib.hid (fun i (hi : i < key.length) => (But.of_below (S := fun _ => False) B3.out).cell (CK.out i hi) (fun h => h))
    have SS3 := Lib.hid (fun i (hi : i < (decL vs).length) => (But.of_below (S := fun _ => False) B3.out).cell (SS.out i hi) (fun h => h))
    go_loopw [12] (fun i wr => ∃ k : Nat, k ≤ N ∧ i = .int .u64 (k : Int) ∧ But (· = C) w3 wr ∧ Ciph wr C (turns key (decL vs) (expS key (decL vs) T) k)) (fun i _ => N - (intOf i).toNat)
    case atStart => exact ⟨0, Nat.zero_le _, rfl, But.refl _ _, C3.out⟩
    case round =>
      obtain ⟨k, hk, rfl, hb, hc⟩ := hrel
      have Hb := Lib.hid hb; clear hb
      have Hc := Lib.hid hc; clear hc
      by_cases hlt : k < N
      · have zr := Hb.out.size
        have call := expandKey_any key g 0 cur.size C _ wr (by rw [LK.out]; omega) (by rw [LK.out]; omega) BK.out (LT.out k) neC (by omega) (fun i hi => Hb.out.cell (CK3.out i hi) neC) Hc.out
        rw [LK.out] at call
        have Call := Lib.hid call; clear call
        go_wp2_with fail
        refine Call.out.mono ?_
        rintro e w4 ⟨rfl, hb4, hc4⟩
        clear Call
        have zr4 := hb4.size
        have Hb4 := Lib.hid (Hb.out.then hb4); clear hb4
        have Hc4 := Lib.hid hc4; clear hc4
        have call := expandKey_any (decL vs) D 0 18 C _ w4 (by rw [decL_length]; omega) (by rw [decL_length]; omega) (bytes_dec vs) (expK_lt BK.out (by rw [LK.out]; omega) (LT.out k)) neD (by omega) (fun i hi => Hb4.out.cell (SS3.out i hi) neD) Hc4.out
        rw [decL_length] at call
        have Call := Lib.hid call; clear call
        go_wp2_with fail
        refine Call.out.mono ?_
        rintro e w5 ⟨rfl, hb5, hc5⟩
        clear Call
        have Hb5 := Lib.hid (Hb4.out.then hb5); clear hb5
        have Hc5 := Lib.hid hc5; clear hc5
        go_wp2_with fail
        go_roundw
        case rel => exact ⟨k + 1, by omega, by go_num, Hb5.out, Hc5.out⟩
        case measure => simp [intOf]; omega
      · obtain rfl : k = N := by omega
        go_wp2_with fail
        go_ret2
        refine ⟨C, rfl, by omega, ?_, ?_, ?_⟩
        · have b23 : But (fun i => i = C) w2 wr := (But.of_below B3.out).then Hb.out
          exact B12.out.trans b23 (fun _ _ h => h) (fun i hi h => by omega)
        · obtain ⟨cu, x1, x2, x3⟩ := S2.out
          exact ⟨cu, Hb.out.row ((But.of_below (S := fun _ => False) B3.out).row x1 (fun h => h)) (by omega), x2, x3⟩
        · have := Hc.out
          rw [HN.out, HKEY.out] at this
          exact this
end Go.Proofs.YthnhdfgonpbldaaGreatDoor
