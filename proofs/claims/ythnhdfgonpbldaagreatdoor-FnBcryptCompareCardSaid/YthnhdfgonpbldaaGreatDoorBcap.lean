/- bcrypt's base64Encode once more, with the capacity of what it hands back; no condition but those in its statement. -/
import Derived.Test.YthnhdfgonpbldaaGreatDoorEqual
namespace Go.Proofs.YthnhdfgonpbldaaGreatDoor
open Go.RowKit Go.Lib
/-- Bytes that lie in a block of the call's own, from its head on, the capacity told. -/
def OwnC (w : World) (base : Nat) (v : Value) (l : List Nat) (cap : Nat) : Prop :=
  ∃ g cur, v = .slice (some ⟨g, 0, none⟩) l.length cap ∧ base ≤ g ∧ w.heap[g]? = some (.cells cur 5 (0, 0)) ∧ l.length ≤ cap ∧ cap = cur.size ∧ cap ≤ 1000000 ∧ ∀ i, i < l.length → cur[i]? = some (.int .u8 ((l.getD i 0 : Nat) : Int))
theorem OwnC.own {w : World} {base : Nat} {v : Value} {l : List Nat} {cap : Nat} (h : OwnC w base v l cap) : OwnB w base v l := by
  obtain ⟨g, cur, h1, h2, h3, h4, h5, h6, h7⟩ := h
  exact ⟨g, cap, cur, h1, h2, h3, h4, h5, h6, h7⟩
def EncBytesC (w : World) (l : List Nat) (cap : Nat) (e : Ending) (w' : World) : Prop := ∃ v, e = .returned v ∧ OwnC w' w.heap.size v (encL l) cap ∧ Below w.heap.size w w'
set_option maxRecDepth 100000 in
set_option maxHeartbeats 400000 in
theorem base64Encode_cap (sb so n sc : Nat) (l : List Nat) (w : World) (hn : 0 < n) (hn2 : n ≤ 100000) (hm : n % 3 ≠ 0) (hsc : n ≤ sc) (hsc2 : sc ≤ 1000000) (hl : l.length = n) (hlb : ∀ x ∈ l, x < 256)
    (hs : ∀ j, j < n → w.cell? ⟨sb, so + j, none⟩ = some (.int .u8 ((l.getD j 0 : Nat) : Int))) :
    Calls Tryz.prog 37 #[.slice (some ⟨sb, so, none⟩) n sc] w (EncBytesC w l ((n + 2) / 3 * 4)) := by
  obtain ⟨dl, hdl⟩ : ∃ dl, dl = (n + 2) / 3 * 4 := ⟨_, rfl⟩
  have b1 : dl ≤ 1000000 := by omega
  have b2 : 4 ≤ dl := by omega
  have hmk := make_bytes dl b1
  have hsb : sb < w.heap.size := by have := hs 0 hn; exact World.block_lt_of_cell? _ _ this
  have Hdl := Lib.hid hdl; clear hdl
  have Hs := Lib.hid hs; clear hs
  have Hl := Lib.hid hl; clear hl
  have Hlb := Lib.hid hlb; clear hlb
  have Hm := Lib.hid hm; clear hm
  have Hmk := Lib.hid hmk; clear hmk
  go_enter Tryz.func37, Tryz.ntmps37
  go_wp2_with fail
  refine (bcEncoding_any w).mono ?_
  rintro e w1 ⟨B, rfl, h1, h2, h3⟩
  have kp : w1.cell? ⟨B, 320, none⟩ = some (.int .i32 61) := cell_row h2 (encA_pad 64 (Nat.le_refl _))
  have H2 := Lib.hid h2; clear h2
  have H3 := Lib.hid h3; clear h3
  go_wp2_with fail
  refine (encodedLen_nat B n dl w1 Hdl.out (by omega) kp).mono ?_
  rintro e w1' ⟨rfl, rfl⟩
  have hmk := Hmk.out w1
  go_wp2_with fail
  clear hmk kp
  refine (bcEncoding_any _).mono ?_
  rintro e w2 ⟨B2, rfl, h4, h5, h6⟩
  have H4 := Lib.hid h4; clear h4
  have H5 := Lib.hid h5; clear h5
  have H6 := Lib.hid h6; clear h6
  go_wp2_with fail
  have z1 : w1.heap.size < B2 := by have := H4.out; simp at this; omega
  have r1 : w2.heap[w1.heap.size]? = some (.cells (made5 dl) 5 (0, 0)) := by rw [H6.out.block _ (by simp)]; exact heap_alloc_at _ _
  have g3 := H3.out.size
  refine (encode_any B2 w1.heap.size 0 sb so n dl dl sc (made5 dl) l w2 hn (by omega) Hdl.out Hm.out (Nat.le_refl _) hsc hsc2 b1 Hl.out Hlb.out ?hs H5.out r1 (by rw [made5_size]; omega) (by omega) (by omega)).mono ?_
  case hs =>
    intro j hj
    rw [H6.out.cell (by simp; omega), World.cell?_alloc_lt _ _ _ (by show sb < _; omega), H3.out.cell hsb]
    exact Hs.out j hj
  rintro e w3 ⟨rfl, cur', q1, q2, q3, q4⟩
  rw [made5_size] at q2
  have Q1 := Lib.hid q1; clear q1
  have Q2 := Lib.hid q2; clear q2
  have Q3 := Lib.hid q3; clear q3
  have Q4 := Lib.hid q4; clear q4
  have R1 := Lib.hid r1; clear r1
  obtain ⟨m, hm⟩ : ∃ m, m = encLen n := ⟨_, rfl⟩
  have b3 : 1 ≤ m := by rw [hm]; unfold encLen; omega
  have b4 : m ≤ dl := by have := Hdl.out; have := Hm.out; rw [hm]; unfold encLen; omega
  have HM := Lib.hid hm; clear hm
  have HT := Lib.hid z1; clear z1
  go_wp2_with fail
  go_loopw [3] (fun v wr => ∃ j : Nat, v = .int .i64 j ∧ m ≤ j ∧ j ≤ dl ∧ w3 = wr) (fun v _ => (intOf v).toNat)
  case atStart => exact ⟨dl, rfl, b4, Nat.le_refl _, rfl⟩
  case round =>
    obtain ⟨j, rfl, j1, j2, rfl⟩ := hrel
    have c : w3.cell? ⟨w1.heap.size, j - 1, none⟩ = some (.int .u8 (encCh l (j - 1) : Int)) := by
      have := Q3.out (j - 1) (by omega)
      rw [Nat.zero_add] at this
      exact cell_row Q1.out this
    rcases Nat.lt_or_ge m j with hj | hj
    · have e : encCh l (j - 1) = 61 := by rw [encCh, if_neg (by have := HM.out; have := Hl.out; rw [this]; omega)]
      rw [e] at c
      clear e
      go_wp2_with fail
      go_roundw
      case rel => exact ⟨j - 1, by rw [show ((j - 1 : Nat) : Int) = (j : Int) - 1 by omega], by omega, by omega, trivial⟩
      case measure => simp [intOf]; omega
    · obtain rfl : j = m := by omega
      have ex : encCh l (j - 1) = alN (sext l (j - 1)) := by rw [encCh, if_pos (by have := HM.out; have := Hl.out; rw [this]; omega)]
      rw [ex] at c
      have ne := alN_ne61 (sext l (j - 1)) (sext_lt _ _)
      obtain ⟨x, hx⟩ : ∃ x, x = alN (sext l (j - 1)) := ⟨_, rfl⟩
      rw [← hx] at c ne
      have tst : ((x : Int) == 61) = false := by simp; omega
      clear ex hx ne
      go_wp2_with fail
      go_ret
      have eL : (encL l).length = j := by rw [encL_length, Hl.out, HM.out]
      have zs : w.heap.size ≤ w1.heap.size := g3
      refine ⟨.slice (some ⟨w1.heap.size, 0, none⟩) j dl, rfl, ⟨w1.heap.size, cur', by rw [eL, ← Hdl.out], zs, Q1.out, by rw [eL, ← Hdl.out]; exact b4, by rw [← Hdl.out]; exact Q2.out.symm, by rw [← Hdl.out]; exact b1, fun i hi => ?_⟩, ?_⟩
      · have h := Q3.out i (by rw [eL] at hi; omega)
        rw [Nat.zero_add] at h
        have hi' : i < encLen l.length := by rw [← encL_length]; exact hi
        rw [h, encCh, if_pos hi', encL, List.getD_eq_getElem?_getD, List.getElem?_map, List.getElem?_range hi']
        rfl
      · refine (H3.out.trans ?_).trans (Q4.out.below (by have := H6.out.size; simp at this; omega) (fun k hk => by omega))
        exact Below.mono (Below.trans (Below.alloc (Below.refl w1.heap.size w1) (Nat.le_refl _) _) (H6.out.mono (B' := w1.heap.size) (by simp))) zs
theorem doorEncode_cap (sb so n sc : Nat) (l : List Nat) (w : World) (hn : 0 < n) (hn2 : n ≤ 100000) (hm : n % 3 ≠ 0) (hsc : n ≤ sc) (hsc2 : sc ≤ 1000000) (hl : l.length = n) (hlb : ∀ x ∈ l, x < 256)
    (hs : ∀ j, j < n → w.cell? ⟨sb, so + j, none⟩ = some (.int .u8 ((l.getD j 0 : Nat) : Int))) :
    Calls Tryz.prog 26 #[.slice (some ⟨sb, so, none⟩) n sc] w (EncBytesC w l ((n + 2) / 3 * 4)) := by
  have h := base64Encode_cap sb so n sc l w hn hn2 hm hsc hsc2 hl hlb hs
  clear hn hn2 hm hsc hsc2 hl hlb hs
  go_enter Tryz.func26, Tryz.ntmps26
  go_wp2_with fail
  refine h.mono ?_
  rintro e w1 ⟨v, rfl, h1, h2⟩
  go_wp2_with fail
  go_ret
  exact ⟨v, rfl, h1, h2⟩
theorem bcryptEncode_cap (sb so n sc : Nat) (l : List Nat) (w : World) (hn : 0 < n) (hn2 : n ≤ 100000) (hm : n % 3 ≠ 0) (hsc : n ≤ sc) (hsc2 : sc ≤ 1000000) (hl : l.length = n) (hlb : ∀ x ∈ l, x < 256)
    (hs : ∀ j, j < n → w.cell? ⟨sb, so + j, none⟩ = some (.int .u8 ((l.getD j 0 : Nat) : Int))) :
    Calls Tryz.prog 19 #[.slice (some ⟨sb, so, none⟩) n sc] w (EncBytesC w l ((n + 2) / 3 * 4)) := by
  have h := doorEncode_cap sb so n sc l w hn hn2 hm hsc hsc2 hl hlb hs
  clear hn hn2 hm hsc hsc2 hl hlb hs
  go_enter Tryz.func19, Tryz.ntmps19
  go_wp2_with fail
  refine h.mono ?_
  rintro e w1 ⟨v, rfl, h1, h2⟩
  go_wp2_with fail
  go_ret
  exact ⟨v, rfl, h1, h2⟩
end Go.Proofs.YthnhdfgonpbldaaGreatDoor
