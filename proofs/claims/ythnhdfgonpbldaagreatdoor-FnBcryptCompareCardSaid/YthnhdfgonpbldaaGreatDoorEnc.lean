/- (*encoding/base64.Encoding).Encode at the alphabet of bcrypt: the letters that it writes. -/
import Derived.Test.YthnhdfgonpbldaaGreatDoorNewEnc
namespace Go.Proofs.YthnhdfgonpbldaaGreatDoor
open Go.RowKit Go.Lib
theorem enc2_low (i : Nat) (h : i < 64) : enc2[i]? = some (.int .u8 (alN i : Int)) := by
  have : enc2.toList[i]? = some (Value.int .u8 (alN i : Int)) := by
    unfold enc2
    have e : byteCells alphaS.data.toList = (List.range 64).map fun i => Value.int .u8 (alN i : Int) := by kernel_rfl
    rw [e, List.append_assoc, List.getElem?_append_left (by simpa using h), List.getElem?_map, List.getElem?_range h]
    rfl
  simpa using this
theorem encA_low (i : Nat) (h : i < 64) : ∀ k, (encA k)[i]? = some (.int .u8 (alN i : Int))
  | 0 => enc2_low i h
  | k + 1 => by rw [encA, Array.getElem?_setIfInBounds_ne (by omega)]; exact encA_low i h k
theorem encA_pad : ∀ k, k ≤ 64 → (encA k)[320]? = some (.int .i32 61)
  | 0, _ => by
    show enc2[320]? = _
    have : enc2.toList[320]? = some (Value.int .i32 61) := by
      unfold enc2
      have e : (byteCells alphaS.data.toList ++ byteCells inv256.data.toList).length = 320 := by kernel_rfl
      rw [List.getElem?_append_right (by omega), e]
      rfl
    simpa using this
  | k + 1, h => by rw [encA, Array.getElem?_setIfInBounds_ne (by have := (alN_facts k (by omega)).1; omega)]; exact encA_pad k (by omega)
def alCells : List Value := (List.range 64).map fun i => Value.int .u8 (alN i : Int)
theorem enc_head (j : Nat) (v : Value) (h : alCells[j]? = some v) : (encA 64)[0 + j]? = some v := by
  rcases Nat.lt_or_ge j 64 with hj | hj
  · rw [Nat.zero_add, encA_low j hj, ← h, alCells, List.getElem?_map, List.getElem?_range hj]
    rfl
  · rw [alCells, List.getElem?_eq_none (by simpa using hj)] at h; cases h
theorem getD_lt {l : List Nat} (h : ∀ x ∈ l, x < 256) (i : Nat) : l.getD i 0 < 256 := by
  rw [List.getD_eq_getElem?_getD]
  cases e : l[i]? with
  | none => simp
  | some x => exact h x (List.mem_of_getElem? e)
/-- The i-th group of six bits of bytes. -/
def sext (l : List Nat) (i : Nat) : Nat := (l.getD (i / 4 * 3) 0 * 65536 + l.getD (i / 4 * 3 + 1) 0 * 256 + l.getD (i / 4 * 3 + 2) 0) / 64 ^ (3 - i % 4) % 64
/-- How many letters bytes have (where their number is no multiple of three). -/
def encLen (n : Nat) : Nat := n / 3 * 4 + (n % 3 + 1)
/-- The i-th letter, padded. -/
def encCh (l : List Nat) (i : Nat) : Nat := if i < encLen l.length then alN (sext l i) else 61
theorem getD_past {l : List Nat} {i : Nat} (h : l.length ≤ i) : l.getD i 0 = 0 := by
  rw [List.getD_eq_getElem?_getD, List.getElem?_eq_none h]; rfl
def EncRel (w : World) (g o n dl dc sb so sc : Nat) (cur : Array Value) (l : List Nat) (v1 v2 : Value) (wr : World) : Prop :=
  ∃ k cur', 3 * k < n ∧ v1 = .slice (some ⟨g, o + 4 * k, none⟩) (dl - 4 * k) (dc - 4 * k) ∧ v2 = .slice (some ⟨sb, so + 3 * k, none⟩) (n - 3 * k) (sc - 3 * k) ∧
    wr.heap[g]? = some (.cells cur' 5 (0, 0)) ∧ cur'.size = cur.size ∧ (∀ i, i < 4 * k → cur'[o + i]? = some (.int .u8 (alN (sext l i) : Int))) ∧ But (· = g) w wr
def EncDone (w : World) (g o dl : Nat) (cur : Array Value) (l : List Nat) (e : Ending) (w' : World) : Prop :=
  e = .returned (.tuple #[]) ∧ ∃ cur', w'.heap[g]? = some (.cells cur' 5 (0, 0)) ∧ cur'.size = cur.size ∧ (∀ i, i < dl → cur'[o + i]? = some (.int .u8 (encCh l i : Int))) ∧ But (· = g) w w'
theorem four_cells {w wr : World} {g p : Nat} {c : Array Value} {nq : Nat} (v0 v1 v2 v3 : Value) (h : wr.heap[g]? = some (.cells c 5 (0, 0))) (hb : But (· = g) w wr) (hp : p + 3 < c.size) :
    ∃ c', (((((wr.drewN nq).setCell ⟨g, p, none⟩ v0).setCell ⟨g, p + 1, none⟩ v1).setCell ⟨g, p + 2, none⟩ v2).setCell ⟨g, p + 3, none⟩ v3).heap[g]? = some (.cells c' 5 (0, 0)) ∧ c'.size = c.size ∧
      c'[p]? = some v0 ∧ c'[p + 1]? = some v1 ∧ c'[p + 2]? = some v2 ∧ c'[p + 3]? = some v3 ∧ (∀ j, j < p → c'[j]? = c[j]?) ∧
      But (· = g) w (((((wr.drewN nq).setCell ⟨g, p, none⟩ v0).setCell ⟨g, p + 1, none⟩ v1).setCell ⟨g, p + 2, none⟩ v2).setCell ⟨g, p + 3, none⟩ v3) := by
  refine ⟨((((c.setIfInBounds p v0).setIfInBounds (p + 1) v1).setIfInBounds (p + 2) v2).setIfInBounds (p + 3) v3), ?_, by simp, ?_, ?_, ?_, ?_, ?_, ?_⟩
  · exact setCell_row _ _ _ _ _ _ _ (setCell_row _ _ _ _ _ _ _ (setCell_row _ _ _ _ _ _ _ (setCell_row _ _ _ _ _ _ _ h)))
  · rw [Array.getElem?_setIfInBounds_ne (by omega), Array.getElem?_setIfInBounds_ne (by omega), Array.getElem?_setIfInBounds_ne (by omega), Array.getElem?_setIfInBounds_self_of_lt (by omega)]
  · rw [Array.getElem?_setIfInBounds_ne (by omega), Array.getElem?_setIfInBounds_ne (by omega), Array.getElem?_setIfInBounds_self_of_lt (by simp; omega)]
  · rw [Array.getElem?_setIfInBounds_ne (by omega), Array.getElem?_setIfInBounds_self_of_lt (by simp; omega)]
  · rw [Array.getElem?_setIfInBounds_self_of_lt (by simp; omega)]
  · intro j hj
    rw [Array.getElem?_setIfInBounds_ne (by omega), Array.getElem?_setIfInBounds_ne (by omega), Array.getElem?_setIfInBounds_ne (by omega), Array.getElem?_setIfInBounds_ne (by omega)]
  · exact ((((hb.drewN nq).setCell (fun _ => rfl) _).setCell (fun _ => rfl) _).setCell (fun _ => rfl) _).setCell (fun _ => rfl) _
theorem sext_at (l : List Nat) (k v : Nat) (hv : v = l.getD (3 * k + 0) 0 * 65536 + l.getD (3 * k + 1) 0 * 256 + l.getD (3 * k + 2) 0) :
    sext l (4 * k) = v / 262144 % 64 ∧ sext l (4 * k + 1) = v / 4096 % 64 ∧ sext l (4 * k + 2) = v / 64 % 64 ∧ sext l (4 * k + 3) = v % 64 := by
  unfold sext
  rw [show 4 * k / 4 * 3 = 3 * k + 0 by omega, show (4 * k + 1) / 4 * 3 = 3 * k + 0 by omega, show (4 * k + 2) / 4 * 3 = 3 * k + 0 by omega, show (4 * k + 3) / 4 * 3 = 3 * k + 0 by omega,
    show 4 * k % 4 = 0 by omega, show (4 * k + 1) % 4 = 1 by omega, show (4 * k + 2) % 4 = 2 by omega, show (4 * k + 3) % 4 = 3 by omega, hv]
  simp
theorem enc_fin {w W : World} {g o n dl k p : Nat} {cur cur' c' : Array Value} {l : List Nat} (ch : Nat → Nat) (hl : l.length = n) (hdl : dl = (n + 2) / 3 * 4) (_hm : n % 3 ≠ 0) (hk : 3 * k < n) (hr : n - 3 * k < 3) (hp : p = o + 4 * k)
    (row : W.heap[g]? = some (.cells c' 5 (0, 0))) (hs : c'.size = cur'.size) (hs' : cur'.size = cur.size) (q : ∀ i, i < 4 → c'[p + i]? = some (.int .u8 (ch i : Int))) (q7 : ∀ j, j < p → c'[j]? = cur'[j]?)
    (pre : ∀ i, i < 4 * k → cur'[o + i]? = some (.int .u8 (alN (sext l i) : Int))) (hb : But (· = g) w W) (hch : ∀ i, i < 4 → ch i = encCh l (4 * k + i)) : EncDone w g o dl cur l (.returned (.tuple #[])) W := by
  refine ⟨rfl, c', row, by omega, fun i hi => ?_, hb⟩
  rcases Nat.lt_or_ge i (4 * k) with h | h
  · rw [q7 (o + i) (by omega), pre i h, encCh, if_pos (by unfold encLen; omega)]
  · have e := q (i - 4 * k) (by omega)
    rw [hch _ (by omega), show p + (i - 4 * k) = o + i by omega, show 4 * k + (i - 4 * k) = i by omega] at e
    exact e
theorem lt4 {P : Nat → Prop} (h0 : P 0) (h1 : P 1) (h2 : P 2) (h3 : P 3) : ∀ i, i < 4 → P i := fun i hi => match i, hi with
  | 0, _ => h0
  | 1, _ => h1
  | 2, _ => h2
  | 3, _ => h3
set_option maxRecDepth 100000 in
set_option maxHeartbeats 400000 in
theorem encode_any (B g o sb so n dl dc sc : Nat) (cur : Array Value) (l : List Nat) (w : World) (hn : 0 < n) (hn2 : n ≤ 1000000) (hdl : dl = (n + 2) / 3 * 4) (hm : n % 3 ≠ 0) (hdc : dl ≤ dc) (hsc : n ≤ sc) (hsc2 : sc ≤ 1000000) (hdc2 : dc ≤ 1000000)
   (hl : l.length = n) (hlb : ∀ x ∈ l, x < 256) (hs : ∀ j, j < n → w.cell? ⟨sb, so + j, none⟩ = some (.int .u8 ((l.getD j 0 : Nat) : Int))) (hB : w.heap[B]? = some (.cells (encA 64) 138 (0, 0))) (hg : w.heap[g]? = some (.cells cur 5 (0, 0))) (hcur : o + dl ≤ cur.size) (h1 : B ≠ g) (h2 : sb ≠ g) :
    Calls Tryz.prog 56 #[.pointer (some ⟨B, 0, none⟩), .slice (some ⟨g, o, none⟩) dl dc, .slice (some ⟨sb, so, none⟩) n sc] w (EncDone w g o dl cur l) := by
  have hn0 : ((n : Int) == 0) = false := by simp; omega
  have Hs := Lib.hid hs; clear hs
  have Hl := Lib.hid hl; clear hl
  have Hlb := Lib.hid hlb; clear hlb
  have Hdl := Lib.hid hdl; clear hdl
  have Hm := Lib.hid hm; clear hm
  go_enter Tryz.func56, Tryz.ntmps56
  go_wp2_with (refine wpList_load_part rfl 135 (.tmp 14) rfl B 0 rfl 138 (encA 64) alCells (0, 0) _ hB enc_head Tryz.underlying135 rfl (by kernel_rfl) ?_)
  go_frame
  have HB := Lib.hid hB; clear hB
  have Hg := Lib.hid hg; clear hg
  go_loopw [1, 2] (fun v1 v2 wr => EncRel w g o n dl dc sb so sc cur l v1 v2 wr) (fun _ v2 _ => match v2 with | .slice _ r _ => r | _ => 0)
  case atStart => exact ⟨0, cur, by omega, rfl, rfl, Hg.out, rfl, fun i hi => by omega, But.refl _ _⟩
  case round =>
    obtain ⟨k, cur', hk, rfl, rfl, hg', hsz, hpre, hbut⟩ := hrel
    have d := Hdl.out
    have m := Hm.out
    obtain ⟨p, hp⟩ : ∃ p, p = o + 4 * k := ⟨_, rfl⟩
    obtain ⟨q, hq⟩ : ∃ q, q = so + 3 * k := ⟨_, rfl⟩
    obtain ⟨r, hr⟩ : ∃ r, r = n - 3 * k := ⟨_, rfl⟩
    obtain ⟨rc, hrc⟩ : ∃ rc, rc = sc - 3 * k := ⟨_, rfl⟩
    obtain ⟨dr, hdr⟩ : ∃ dr, dr = dl - 4 * k := ⟨_, rfl⟩
    obtain ⟨dcr, hdcr⟩ : ∃ dcr, dcr = dc - 4 * k := ⟨_, rfl⟩
    rw [← hp, ← hq, ← hr, ← hrc, ← hdr, ← hdcr]
    have hpd : p + dr ≤ cur'.size := by omega
    have i1 : r ≤ rc := by omega
    have i2 : dr ≤ dcr := by omega
    have i3 : 0 < r := by omega
    have i4 : r ≤ 1000000 := by omega
    have i5 : dr ≤ 1000000 := by omega
    have i6 : rc ≤ 1000000 := by omega
    have i7 : dcr ≤ 1000000 := by omega
    have cb : ∀ j, j < r → wr.cell? ⟨sb, q + j, none⟩ = some (.int .u8 ((l.getD (3 * k + j) 0 : Nat) : Int)) := fun j hj => hbut.cell (by rw [hq, Nat.add_assoc]; exact Hs.out _ (by omega)) h2
    by_cases hlt : 3 ≤ r
    · have i8 : 8 ≤ dr := by omega
      have i9 : 3 < r := by omega
      have c0 := cb 0 (by omega)
      have c1 := cb 1 (by omega)
      have c2 := cb 2 (by omega)
      rw [Nat.add_zero] at c0
      obtain ⟨a0, ha0⟩ : ∃ a0, a0 = l.getD (3 * k + 0) 0 := ⟨_, rfl⟩
      obtain ⟨a1, ha1⟩ : ∃ a1, a1 = l.getD (3 * k + 1) 0 := ⟨_, rfl⟩
      obtain ⟨a2, ha2⟩ : ∃ a2, a2 = l.getD (3 * k + 2) 0 := ⟨_, rfl⟩
      rw [← ha0] at c0
      rw [← ha1] at c1
      rw [← ha2] at c2
      have b0 : a0 < 256 := by rw [ha0]; exact getD_lt Hlb.out _
      have b1 : a1 < 256 := by rw [ha1]; exact getD_lt Hlb.out _
      have b2 : a2 < 256 := by rw [ha2]; exact getD_lt Hlb.out _
      obtain ⟨v1, hv1⟩ : ∃ v1, v1 = a0 * 65536 + a1 * 256 := ⟨_, rfl⟩
      obtain ⟨v, hv⟩ : ∃ v, v = v1 + a2 := ⟨_, rfl⟩
      have e1 : bits .or .u64 ((a0 : Int) * 65536) ((a1 : Int) * 256) = (v1 : Int) := by
        have := or_join64 16 (a0 * 65536) (a1 * 256) (by omega) (by omega) (by omega) (by omega)
        rw [← hv1] at this
        simpa using this
      have e2 : bits .or .u64 (v1 : Int) (a2 : Int) = (v : Int) := by
        have := or_join64 8 v1 a2 (by omega) (by omega) (by omega) (by omega)
        rw [← hv] at this
        exact this
      have b3 : v < 16777216 := by omega
      obtain ⟨i0, hi0⟩ : ∃ i, i = v / 262144 % 64 := ⟨_, rfl⟩
      obtain ⟨j1, hi1⟩ : ∃ i, i = v / 4096 % 64 := ⟨_, rfl⟩
      obtain ⟨j2, hi2⟩ : ∃ i, i = v / 64 % 64 := ⟨_, rfl⟩
      obtain ⟨j3, hi3⟩ : ∃ i, i = v % 64 := ⟨_, rfl⟩
      have e4 : bits .and .u64 ((v : Int) / 262144) 63 = (i0 : Int) := by rw [hi0]; exact and63 (v / 262144) (by omega)
      have e5 : bits .and .u64 ((v : Int) / 4096) 63 = (j1 : Int) := by rw [hi1]; exact and63 (v / 4096) (by omega)
      have e6 : bits .and .u64 ((v : Int) / 64) 63 = (j2 : Int) := by rw [hi2]; exact and63 (v / 64) (by omega)
      have e7 : bits .and .u64 (v : Int) 63 = (j3 : Int) := by rw [hi3]; exact and63 v (by omega)
      have l0 : i0 < 64 := by omega
      have l1 : j1 < 64 := by omega
      have l2 : j2 < 64 := by omega
      have l3 : j3 < 64 := by omega
      have k0 : wr.cell? ⟨B, i0, none⟩ = some (.int .u8 (alN i0 : Int)) := hbut.cell (cell_row HB.out (encA_low _ l0 _)) h1
      have k1 : wr.cell? ⟨B, j1, none⟩ = some (.int .u8 (alN j1 : Int)) := hbut.cell (cell_row HB.out (encA_low _ l1 _)) h1
      have k2 : wr.cell? ⟨B, j2, none⟩ = some (.int .u8 (alN j2 : Int)) := hbut.cell (cell_row HB.out (encA_low _ l2 _)) h1
      have k3 : wr.cell? ⟨B, j3, none⟩ = some (.int .u8 (alN j3 : Int)) := hbut.cell (cell_row HB.out (encA_low _ l3 _)) h1
      have Hi0 := Lib.hid hi0; clear hi0
      have Hi1 := Lib.hid hi1; clear hi1
      have Hi2 := Lib.hid hi2; clear hi2
      have Hi3 := Lib.hid hi3; clear hi3
      have Ha0 := Lib.hid ha0; clear ha0
      have Ha1 := Lib.hid ha1; clear ha1
      have Ha2 := Lib.hid ha2; clear ha2
      have Hv1 := Lib.hid hv1; clear hv1
      have Hv := Lib.hid hv; clear hv
      obtain ⟨x0, hx0⟩ := cell_row_ex hg' (show p < cur'.size by omega)
      obtain ⟨x1, hx1⟩ := cell_row_ex hg' (show p + 1 < cur'.size by omega)
      obtain ⟨x2, hx2⟩ := cell_row_ex hg' (show p + 2 < cur'.size by omega)
      obtain ⟨x3, hx3⟩ := cell_row_ex hg' (show p + 3 < cur'.size by omega)
      have f0 := frozen_row hg' p
      have f1 := frozen_row hg' (p + 1)
      have f2 := frozen_row hg' (p + 2)
      have f3 := frozen_row hg' (p + 3)
      have Hp := Lib.hid hp; clear hp
      have Hq := Lib.hid hq; clear hq
      have Hr := Lib.hid hr; clear hr
      have Hrc := Lib.hid hrc; clear hrc
      have Hdr := Lib.hid hdr; clear hdr
      have Hdcr := Lib.hid hdcr; clear hdcr
      have Hcb := Lib.hid cb; clear cb
      have Hd := Lib.hid d; clear d
      have Hm2 := Lib.hid m; clear m
      have Hsz := Lib.hid hsz; clear hsz
      have Hg' := Lib.hid hg'; clear hg'
      have Hbut := Lib.hid hbut; clear hbut
      have Hpre := Lib.hid hpre; clear hpre
      go_wp2_with fail
      go_quiet (fail)
      go_wp2_with fail
      refine ⟨?_, by show r - 3 < r; omega⟩
      obtain ⟨c', q1, q2, q3, q4, q5, q6, q7, q8⟩ := four_cells (nq := nq) (p := p) (.int .u8 (alN i0 : Int)) (.int .u8 (alN j1 : Int)) (.int .u8 (alN j2 : Int)) (.int .u8 (alN j3 : Int)) Hg'.out Hbut.out (by omega)
      have hvv : v = l.getD (3 * k + 0) 0 * 65536 + l.getD (3 * k + 1) 0 * 256 + l.getD (3 * k + 2) 0 := by rw [Hv.out, Hv1.out, Ha0.out, Ha1.out, Ha2.out]
      obtain ⟨s0, s1, s2, s3⟩ := sext_at l k v hvv
      have p' := Hp.out
      have q' := Hq.out
      have r' := Hr.out
      have rc' := Hrc.out
      have dr' := Hdr.out
      have dcr' := Hdcr.out
      have z := Hsz.out
      refine ⟨k + 1, c', by omega, by rw [show p + 4 = o + 4 * (k + 1) by omega, show dr - 4 = dl - 4 * (k + 1) by omega, show dcr - 4 = dc - 4 * (k + 1) by omega],
        by rw [show q + 3 = so + 3 * (k + 1) by omega, show r - 3 = n - 3 * (k + 1) by omega, show rc - 3 = sc - 3 * (k + 1) by omega], q1, by omega, ?_, q8⟩
      intro i hi
      rcases Nat.lt_or_ge i (4 * k) with h | h
      · rw [q7 (o + i) (by omega)]; exact Hpre.out i h
      · obtain rfl | rfl | rfl | rfl : i = 4 * k ∨ i = 4 * k + 1 ∨ i = 4 * k + 2 ∨ i = 4 * k + 3 := by omega
        · rw [← p', q3, s0, ← Hi0.out]
        · rw [← Nat.add_assoc, ← p', q4, s1, ← Hi1.out]
        · rw [← Nat.add_assoc, ← p', q5, s2, ← Hi2.out]
        · rw [← Nat.add_assoc, ← p', q6, s3, ← Hi3.out]
    · rcases (show r = 1 ∨ r = 2 by omega) with h | h
      · have t1 : ((r : Int) == 1) = true := by simp; omega
        have t3 : r < 3 := by omega
        have Hr1 := Lib.hid h; clear h
        have hL := Hl.out
        have i8 : 4 ≤ dr := by have := Hr1.out; omega
        have c0 := cb 0 (by have := Hr1.out; omega)
        rw [Nat.add_zero] at c0
        obtain ⟨x0, hx0⟩ := cell_row_ex hg' (show p < cur'.size by have := Hr1.out; omega)
        obtain ⟨x1, hx1⟩ := cell_row_ex hg' (show p + 1 < cur'.size by have := Hr1.out; omega)
        obtain ⟨x2, hx2⟩ := cell_row_ex hg' (show p + 2 < cur'.size by have := Hr1.out; omega)
        obtain ⟨x3, hx3⟩ := cell_row_ex hg' (show p + 3 < cur'.size by have := Hr1.out; omega)
        have f0 := frozen_row hg' p
        have f1 := frozen_row hg' (p + 1)
        have f2 := frozen_row hg' (p + 2)
        have f3 := frozen_row hg' (p + 3)
        have kp : wr.cell? ⟨B, 320, none⟩ = some (.int .i32 61) := hbut.cell (cell_row HB.out (encA_pad 64 (Nat.le_refl _))) h1
        obtain ⟨a0, ha0⟩ : ∃ a0, a0 = l.getD (3 * k + 0) 0 := ⟨_, rfl⟩
        rw [← ha0] at c0
        have b0 : a0 < 256 := by rw [ha0]; exact getD_lt Hlb.out _
        have t0 : ((r : Int) == 0) = false := by simp; omega
        obtain ⟨v, hv⟩ : ∃ v, v = a0 * 65536 := ⟨_, rfl⟩
        have e1 : (a0 : Int) * 65536 = (v : Int) := by rw [hv]; simp
        have b3 : v < 16777216 := by omega
        obtain ⟨i0, hi0⟩ : ∃ i, i = v / 262144 % 64 := ⟨_, rfl⟩
        obtain ⟨j1, hi1⟩ : ∃ i, i = v / 4096 % 64 := ⟨_, rfl⟩
        have e4 : bits .and .u64 ((v : Int) / 262144) 63 = (i0 : Int) := by rw [hi0]; exact and63 (v / 262144) (by omega)
        have e5 : bits .and .u64 ((v : Int) / 4096) 63 = (j1 : Int) := by rw [hi1]; exact and63 (v / 4096) (by omega)
        have l0 : i0 < 64 := by omega
        have l1 : j1 < 64 := by omega
        have k0 : wr.cell? ⟨B, i0, none⟩ = some (.int .u8 (alN i0 : Int)) := hbut.cell (cell_row HB.out (encA_low _ l0 _)) h1
        have k1 : wr.cell? ⟨B, j1, none⟩ = some (.int .u8 (alN j1 : Int)) := hbut.cell (cell_row HB.out (encA_low _ l1 _)) h1
        have Ha0 := Lib.hid ha0; clear ha0
        have Hv := Lib.hid hv; clear hv
        have Hi0 := Lib.hid hi0; clear hi0
        have Hi1 := Lib.hid hi1; clear hi1
        clear hL
        have Hp := Lib.hid hp; clear hp
        have Hq := Lib.hid hq; clear hq
        have Hr := Lib.hid hr; clear hr
        have Hrc := Lib.hid hrc; clear hrc
        have Hdr := Lib.hid hdr; clear hdr
        have Hdcr := Lib.hid hdcr; clear hdcr
        have Hcb := Lib.hid cb; clear cb
        have Hd := Lib.hid d; clear d
        have Hm2 := Lib.hid m; clear m
        have Hsz := Lib.hid hsz; clear hsz
        have Hg' := Lib.hid hg'; clear hg'
        have Hbut := Lib.hid hbut; clear hbut
        have Hpre := Lib.hid hpre; clear hpre
        go_wp2_with fail
        go_end0
        obtain ⟨c', q1, q2, q3, q4, q5, q6, q7, q8⟩ := four_cells (nq := 0) (p := p) (.int .u8 (alN i0 : Int)) (.int .u8 (alN j1 : Int)) (.int .u8 61) (.int .u8 61) Hg'.out Hbut.out (by omega)
        have z0 : l.getD (3 * k + 1) 0 = 0 := getD_past (by have := Hl.out; have := Hr.out; have := Hr1.out; omega)
        have z1 : l.getD (3 * k + 2) 0 = 0 := getD_past (by have := Hl.out; have := Hr.out; have := Hr1.out; omega)
        obtain ⟨s0, s1, s2, s3⟩ := sext_at l k v (by rw [Hv.out, Ha0.out, z0, z1]; omega)
        have eL : encLen l.length = 4 * k + 2 := by have := Hl.out; have := Hr.out; have := Hr1.out; unfold encLen; omega
        refine enc_fin (k := k) (p := p) (cur' := cur') (c' := c') (fun i => match i with | 0 => alN i0 | 1 => alN j1 | _ => 61) Hl.out Hdl.out Hm.out hk (by have := Hr.out; omega) Hp.out q1 q2 Hsz.out (lt4 q3 q4 q5 q6) q7 Hpre.out q8 (lt4 ?_ ?_ ?_ ?_)
        · show alN i0 = _; rw [encCh, if_pos (by omega), Nat.add_zero, s0, ← Hi0.out]
        · show alN j1 = _; rw [encCh, if_pos (by omega), s1, ← Hi1.out]
        · show 61 = _; rw [encCh, if_neg (by omega)]
        · show 61 = _; rw [encCh, if_neg (by omega)]
      · have t1 : ((r : Int) == 1) = false := by simp; omega
        have t2 : ((r : Int) == 2) = true := by simp; omega
        have t4 : 1 < r := by omega
        have t3 : r < 3 := by omega
        have Hr1 := Lib.hid h; clear h
        have hL := Hl.out
        have i8 : 4 ≤ dr := by have := Hr1.out; omega
        have c0 := cb 0 (by have := Hr1.out; omega)
        rw [Nat.add_zero] at c0
        obtain ⟨x0, hx0⟩ := cell_row_ex hg' (show p < cur'.size by have := Hr1.out; omega)
        obtain ⟨x1, hx1⟩ := cell_row_ex hg' (show p + 1 < cur'.size by have := Hr1.out; omega)
        obtain ⟨x2, hx2⟩ := cell_row_ex hg' (show p + 2 < cur'.size by have := Hr1.out; omega)
        obtain ⟨x3, hx3⟩ := cell_row_ex hg' (show p + 3 < cur'.size by have := Hr1.out; omega)
        have f0 := frozen_row hg' p
        have f1 := frozen_row hg' (p + 1)
        have f2 := frozen_row hg' (p + 2)
        have f3 := frozen_row hg' (p + 3)
        have kp : wr.cell? ⟨B, 320, none⟩ = some (.int .i32 61) := hbut.cell (cell_row HB.out (encA_pad 64 (Nat.le_refl _))) h1
        obtain ⟨a0, ha0⟩ : ∃ a0, a0 = l.getD (3 * k + 0) 0 := ⟨_, rfl⟩
        rw [← ha0] at c0
        have b0 : a0 < 256 := by rw [ha0]; exact getD_lt Hlb.out _
        have t0 : ((r : Int) == 0) = false := by simp; omega
        have c1 := cb 1 (by have := Hr1.out; omega)
        obtain ⟨a1, ha1⟩ : ∃ a1, a1 = l.getD (3 * k + 1) 0 := ⟨_, rfl⟩
        rw [← ha1] at c1
        have b1 : a1 < 256 := by rw [ha1]; exact getD_lt Hlb.out _
        obtain ⟨v, hv⟩ : ∃ v, v = a0 * 65536 + a1 * 256 := ⟨_, rfl⟩
        have e1 : bits .or .u64 ((a0 : Int) * 65536) ((a1 : Int) * 256) = (v : Int) := by
          have := or_join64 16 (a0 * 65536) (a1 * 256) (by omega) (by omega) (by omega) (by omega)
          rw [← hv] at this
          simpa using this
        have b3 : v < 16777216 := by omega
        obtain ⟨i0, hi0⟩ : ∃ i, i = v / 262144 % 64 := ⟨_, rfl⟩
        obtain ⟨j1, hi1⟩ : ∃ i, i = v / 4096 % 64 := ⟨_, rfl⟩
        have e4 : bits .and .u64 ((v : Int) / 262144) 63 = (i0 : Int) := by rw [hi0]; exact and63 (v / 262144) (by omega)
        have e5 : bits .and .u64 ((v : Int) / 4096) 63 = (j1 : Int) := by rw [hi1]; exact and63 (v / 4096) (by omega)
        obtain ⟨j2, hi2⟩ : ∃ i, i = v / 64 % 64 := ⟨_, rfl⟩
        have e6 : bits .and .u64 ((v : Int) / 64) 63 = (j2 : Int) := by rw [hi2]; exact and63 (v / 64) (by omega)
        have l2 : j2 < 64 := by omega
        have k2 : wr.cell? ⟨B, j2, none⟩ = some (.int .u8 (alN j2 : Int)) := hbut.cell (cell_row HB.out (encA_low _ l2 _)) h1
        have l0 : i0 < 64 := by omega
        have l1 : j1 < 64 := by omega
        have k0 : wr.cell? ⟨B, i0, none⟩ = some (.int .u8 (alN i0 : Int)) := hbut.cell (cell_row HB.out (encA_low _ l0 _)) h1
        have k1 : wr.cell? ⟨B, j1, none⟩ = some (.int .u8 (alN j1 : Int)) := hbut.cell (cell_row HB.out (encA_low _ l1 _)) h1
        have Ha0 := Lib.hid ha0; clear ha0
        have Hv := Lib.hid hv; clear hv
        have Hi0 := Lib.hid hi0; clear hi0
        have Hi1 := Lib.hid hi1; clear hi1
        have Hi2 := Lib.hid hi2; clear hi2
        have Ha1 := Lib.hid ha1; clear ha1
        clear hL
        have Hp := Lib.hid hp; clear hp
        have Hq := Lib.hid hq; clear hq
        have Hr := Lib.hid hr; clear hr
        have Hrc := Lib.hid hrc; clear hrc
        have Hdr := Lib.hid hdr; clear hdr
        have Hdcr := Lib.hid hdcr; clear hdcr
        have Hcb := Lib.hid cb; clear cb
        have Hd := Lib.hid d; clear d
        have Hm2 := Lib.hid m; clear m
        have Hsz := Lib.hid hsz; clear hsz
        have Hg' := Lib.hid hg'; clear hg'
        have Hbut := Lib.hid hbut; clear hbut
        have Hpre := Lib.hid hpre; clear hpre
        go_wp2_with fail
        go_quiet (fail)
        go_wp2_with fail
        go_end0
        obtain ⟨c', q1, q2, q3, q4, q5, q6, q7, q8⟩ := four_cells (nq := nq) (p := p) (.int .u8 (alN i0 : Int)) (.int .u8 (alN j1 : Int)) (.int .u8 (alN j2 : Int)) (.int .u8 61) Hg'.out Hbut.out (by omega)
        have z1 : l.getD (3 * k + 2) 0 = 0 := getD_past (by have := Hl.out; have := Hr.out; have := Hr1.out; omega)
        obtain ⟨s0, s1, s2, s3⟩ := sext_at l k v (by rw [Hv.out, Ha0.out, Ha1.out, z1]; omega)
        have eL : encLen l.length = 4 * k + 3 := by have := Hl.out; have := Hr.out; have := Hr1.out; unfold encLen; omega
        refine enc_fin (k := k) (p := p) (cur' := cur') (c' := c') (fun i => match i with | 0 => alN i0 | 1 => alN j1 | 2 => alN j2 | _ => 61) Hl.out Hdl.out Hm.out hk (by have := Hr.out; omega) Hp.out q1 q2 Hsz.out (lt4 q3 q4 q5 q6) q7 Hpre.out q8 (lt4 ?_ ?_ ?_ ?_)
        · show alN i0 = _; rw [encCh, if_pos (by omega), Nat.add_zero, s0, ← Hi0.out]
        · show alN j1 = _; rw [encCh, if_pos (by omega), s1, ← Hi1.out]
        · show alN j2 = _; rw [encCh, if_pos (by omega), s2, ← Hi2.out]
        · show 61 = _; rw [encCh, if_neg (by omega)]
end Go.Proofs.YthnhdfgonpbldaaGreatDoor
