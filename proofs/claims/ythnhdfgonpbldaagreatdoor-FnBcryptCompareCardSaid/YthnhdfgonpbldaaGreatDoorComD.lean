/- The specification's BcryptCost and BcryptCompare, and what the implementation answers where they are sure. -/
import Derived.Test.YthnhdfgonpbldaaGreatDoorBase
import Derived.Lib.ConvBytes
import Derived.Test.YthnhdfgonpbldaaGreatDoorComC
import Derived.Test.YthnhdfgonpbldaaGreatDoorCmp
import Derived.Test.YthnhdfgonpbldaaGreatDoorRefuse
import Derived.Test.YthnhdfgonpbldaaGreatDoorMid
/- Bytes as a text: the conversion, and when two texts are the same. -/
namespace Go.Proofs.YthnhdfgonpbldaaGreatDoor
open Go.RowKit Go.Lib
def textOf (l : List Nat) : ByteArray := ⟨(l.map UInt8.ofNat).toArray⟩
theorem u8_back {x : Nat} (h : x < 256) : (UInt8.ofNat x).toNat = x := by
  rw [UInt8.toNat_ofNat']
  omega
theorem conv_text (b o c : Nat) (l : List Nat) (w : World) (hl : ∀ i, l.getD i 0 < 256) (hc : ∀ i, i < l.length → w.cell? ⟨b, o + i, none⟩ = some (.int .u8 ((l.getD i 0 : Nat) : Int))) :
    (convert 22 9 (.slice (some ⟨b, o, none⟩) l.length c)).run Tryz.prog w = .ok (.string (textOf l)) w := by
  have h := run_convert_bytes_back (P := Tryz.prog) w 22 9 5 ⟨b, o, none⟩ c (l.map UInt8.ofNat) (by kernel_rfl) (by kernel_rfl) (by kernel_rfl) (fun j hj => by
    have hj' : j < l.length := by simpa using hj
    rw [addr_add, hc j hj']
    have e : l.getD j 0 = l[j] := by simp [List.getD, hj']
    have e2 := hl j
    simp only [List.getElem_map]
    rw [← e, u8_back e2])
  rw [List.length_map] at h
  exact h
theorem text_list (l : List Nat) : (textOf l).toList = l.map UInt8.ofNat := by
  rw [ByteArray.toList_eq]
  simp [textOf]
theorem text_inj {a b : List Nat} (ha : ∀ i, a.getD i 0 < 256) (hb : ∀ i, b.getD i 0 < 256) (h : textOf a = textOf b) : a = b := by
  unfold textOf at h
  have h1 : a.map UInt8.ofNat = b.map UInt8.ofNat := by
    have := congrArg (fun x : ByteArray => x.data.toList) h
    simpa using this
  have hl : a.length = b.length := by simpa using congrArg List.length h1
  apply List.ext_getElem hl
  intro i h2 h3
  have e := congrArg (fun l : List UInt8 => (l.getD i 0).toNat) h1
  simp only [List.getD_eq_getElem?_getD, List.getElem?_map, List.getElem?_eq_getElem h2, List.getElem?_eq_getElem h3, Option.map_some, Option.getD_some] at e
  have ea : a.getD i 0 = a[i] := by simp [List.getD, h2]
  have eb : b.getD i 0 = b[i] := by simp [List.getD, h3]
  rw [u8_back (by rw [← ea]; exact ha i), u8_back (by rw [← eb]; exact hb i)] at e
  exact e
end Go.Proofs.YthnhdfgonpbldaaGreatDoor
/- The specification's BcryptCost: what it says where it is sure. -/
namespace Go.Proofs.YthnhdfgonpbldaaGreatDoor
open Go.RowKit Go.Lib
/-- The published form of a hash of 60 bytes: the signs and two digits. -/
structure Form (hl : List Nat) : Prop where
  h0 : hl.getD 0 0 = 36
  h1 : hl.getD 1 0 = 50
  h2 : hl.getD 2 0 = 97
  h3 : hl.getD 3 0 = 36
  a4 : 48 ≤ hl.getD 4 0
  b4 : hl.getD 4 0 ≤ 57
  a5 : 48 ≤ hl.getD 5 0
  b5 : hl.getD 5 0 ≤ 57
  h6 : hl.getD 6 0 = 36
def told (hl : List Nat) : Nat := 10 * (hl.getD 4 0 - 48) + (hl.getD 5 0 - 48)
/-- What the cost and the kind may be, of n bytes, where BcryptCost is sure. -/
def CostSays (hl : List Nat) (n : Nat) (m kd : Int) : Prop :=
  (n ≤ 28 ∧ m = 0 ∧ kd = 2) ∨ (n = 60 ∧ hl.getD 0 0 ≠ 36 ∧ m = 0 ∧ kd = 3) ∨ (n = 60 ∧ hl.getD 0 0 = 36 ∧ 50 < hl.getD 1 0 ∧ m = 0 ∧ kd = 4) ∨
    (n = 60 ∧ Form hl ∧ (told hl < 4 ∨ 31 < told hl) ∧ m = 0 ∧ kd = 5) ∨ (n = 60 ∧ Form hl ∧ 4 ≤ told hl ∧ told hl ≤ 31 ∧ m = (told hl : Int) ∧ kd = 0)
theorem CostSays.short {hl : List Nat} {n : Nat} (h : n ≤ 28) : CostSays hl n 0 2 := Or.inl ⟨h, rfl, rfl⟩
theorem CostSays.sign {hl : List Nat} {n : Nat} (h : n = 60) (h0 : hl.getD 0 0 ≠ 36) : CostSays hl n 0 3 := Or.inr (Or.inl ⟨h, h0, rfl, rfl⟩)
theorem CostSays.newer {hl : List Nat} {n : Nat} (h : n = 60) (h0 : hl.getD 0 0 = 36) (h1 : 50 < hl.getD 1 0) : CostSays hl n 0 4 := Or.inr (Or.inr (Or.inl ⟨h, h0, h1, rfl, rfl⟩))
theorem CostSays.beyond {hl : List Nat} {n : Nat} (h : n = 60) (f : Form hl) (hb : told hl < 4 ∨ 31 < told hl) : CostSays hl n 0 5 := Or.inr (Or.inr (Or.inr (Or.inl ⟨h, f, hb, rfl, rfl⟩)))
theorem CostSays.fine {hl : List Nat} {n : Nat} (h : n = 60) (f : Form hl) (h4 : 4 ≤ told hl) (h31 : told hl ≤ 31) : CostSays hl n (told hl : Int) 0 := Or.inr (Or.inr (Or.inr (Or.inr ⟨h, f, h4, h31, rfl, rfl⟩)))
theorem CostSays.zero {hl : List Nat} {n : Nat} {m : Int} (h : CostSays hl n m 0) : n = 60 ∧ Form hl ∧ 4 ≤ told hl ∧ told hl ≤ 31 ∧ m = (told hl : Int) := by
  rcases h with ⟨_, _, h⟩ | ⟨_, _, _, h⟩ | ⟨_, _, _, _, h⟩ | ⟨_, _, _, _, h⟩ | ⟨h1, h2, h3, h4, h5, _⟩
  · exact absurd h (by decide)
  · exact absurd h (by decide)
  · exact absurd h (by decide)
  · exact absurd h (by decide)
  · exact ⟨h1, h2, h3, h4, h5⟩
def CostSPost (hl : List Nat) (n : Nat) (w : World) (e : Ending) (w' : World) : Prop :=
  ∃ (m kd : Int) (s : Bool), e = .returned (.tuple #[.int .i64 m, .int .i64 kd, .bool s]) ∧ w' = w ∧ (s = true → CostSays hl n m kd)
theorem costS_short (hl : List Nat) (a : Option Addr) (n c : Nat) (w : World) (hn : n ≤ 28) : Calls Tryz.prog 9 #[.slice a n c] w (CostSPost hl n w) := by
  have t : decide ((n : Int) ≤ 28) = true := by simp; omega
  go_enter Tryz.func9, Tryz.ntmps9
  go_wp2_with fail
  go_ret3
  exact ⟨0, 2, true, rfl, rfl, fun _ => .short hn⟩
theorem costS_len (hl : List Nat) (a : Option Addr) (n c : Nat) (w : World) (hn : 28 < n) (h : n ≠ 60) : Calls Tryz.prog 9 #[.slice a n c] w (CostSPost hl n w) := by
  have t : decide ((n : Int) ≤ 28) = false := by simp; omega
  have t2 : ((n : Int) != 60) = true := by simp; omega
  go_enter Tryz.func9, Tryz.ntmps9
  go_wp2_with fail
  go_ret3
  exact ⟨0, 0, false, rfl, rfl, fun h => by cases h⟩
theorem costS_sign (hl : List Nat) (b o c : Nat) (w : World) (x : Nat) (hx : hl.getD 0 0 = x) (c0 : w.cell? ⟨b, o, none⟩ = some (.int .u8 (x : Int))) (h : x ≠ 36) : Calls Tryz.prog 9 #[.slice (some ⟨b, o, none⟩) 60 c] w (CostSPost hl 60 w) := by
  have t : ((x : Int) != 36) = true := by simp; omega
  have Hx := Lib.hid hx; clear hx
  go_enter Tryz.func9, Tryz.ntmps9
  go_wp2_with fail
  go_ret3
  exact ⟨0, 3, true, rfl, rfl, fun _ => .sign rfl (by rw [Hx.out]; exact h)⟩
theorem costS_newer (hl : List Nat) (b o c : Nat) (w : World) (y : Nat) (hx : hl.getD 0 0 = 36) (hy : hl.getD 1 0 = y) (c0 : w.cell? ⟨b, o, none⟩ = some (.int .u8 36)) (c1 : w.cell? ⟨b, o + 1, none⟩ = some (.int .u8 (y : Int))) (h : 50 < y) (h2 : y ≤ 57) :
    Calls Tryz.prog 9 #[.slice (some ⟨b, o, none⟩) 60 c] w (CostSPost hl 60 w) := by
  have t1 : decide ((50 : Int) < (y : Int)) = true := by simp; omega
  have t2 : decide ((y : Int) ≤ 57) = true := by simp; omega
  have Hx := Lib.hid hx; clear hx
  have Hy := Lib.hid hy; clear hy
  go_enter Tryz.func9, Tryz.ntmps9
  go_wp2_with fail
  go_ret3
  exact ⟨0, 4, true, rfl, rfl, fun _ => .newer rfl Hx.out (by rw [Hy.out]; exact h)⟩
theorem notform {p q : Prop} [Decidable p] [Decidable q] (h : ¬ (p ∧ q)) : decide p = false ∨ decide p = true ∧ decide q = false := by
  by_cases hp : p
  · exact Or.inr ⟨by simpa using hp, by simpa using fun hq => h ⟨hp, hq⟩⟩
  · exact Or.inl (by simpa using hp)
set_option maxRecDepth 100000 in
theorem costS_other (hl : List Nat) (b o c : Nat) (w : World) (hc : 60 ≤ c) (y : Nat) (c0 : w.cell? ⟨b, o, none⟩ = some (.int .u8 36)) (c1 : w.cell? ⟨b, o + 1, none⟩ = some (.int .u8 (y : Int))) (h : ¬ (50 < y ∧ y ≤ 57))
    (s : ByteArray) (hs : (convert 22 9 (.slice (some ⟨b, o + 1, none⟩) 3 (c - 1))).run Tryz.prog w = .ok (.string s) w) (ne : (s.toList == [50, 97, 36]) = false) :
    Calls Tryz.prog 9 #[.slice (some ⟨b, o, none⟩) 60 c] w (CostSPost hl 60 w) := by
  have key : decide ((50 : Int) < (y : Int)) = false ∨ decide ((50 : Int) < (y : Int)) = true ∧ decide ((y : Int) ≤ 57) = false := notform (fun h' => h ⟨by omega, by omega⟩)
  have l : 4 ≤ c := by omega
  clear h
  rcases key with t1 | ⟨t1, t2⟩
  · go_enter Tryz.func9, Tryz.ntmps9
    go_wp2_with fail
    go_ret3
    exact ⟨0, 0, false, rfl, rfl, fun h => by cases h⟩
  · go_enter Tryz.func9, Tryz.ntmps9
    go_wp2_with fail
    go_ret3
    exact ⟨0, 0, false, rfl, rfl, fun h => by cases h⟩
set_option maxRecDepth 100000 in
theorem costS_six (hl : List Nat) (b o c : Nat) (w : World) (hc : 60 ≤ c) (x6 : Nat) (c0 : w.cell? ⟨b, o, none⟩ = some (.int .u8 36)) (c1 : w.cell? ⟨b, o + 1, none⟩ = some (.int .u8 50)) (c6 : w.cell? ⟨b, o + 6, none⟩ = some (.int .u8 (x6 : Int))) (h6 : x6 ≠ 36)
    (s : ByteArray) (hs : (convert 22 9 (.slice (some ⟨b, o + 1, none⟩) 3 (c - 1))).run Tryz.prog w = .ok (.string s) w) (ne : (s.toList == [50, 97, 36]) = true) :
    Calls Tryz.prog 9 #[.slice (some ⟨b, o, none⟩) 60 c] w (CostSPost hl 60 w) := by
  have t : ((x6 : Int) != 36) = true := by simp; omega
  have l : 4 ≤ c := by omega
  go_enter Tryz.func9, Tryz.ntmps9
  go_wp2_with fail
  go_ret3
  exact ⟨0, 0, false, rfl, rfl, fun h => by cases h⟩
set_option maxRecDepth 100000 in
set_option maxHeartbeats 1000000 in
theorem costS_form (hl : List Nat) (b o c : Nat) (w : World) (hc : 60 ≤ c) (c0 : w.cell? ⟨b, o, none⟩ = some (.int .u8 36)) (c1 : w.cell? ⟨b, o + 1, none⟩ = some (.int .u8 50)) (c6 : w.cell? ⟨b, o + 6, none⟩ = some (.int .u8 36))
    (c4 : ∀ i, i < 2 → w.cell? ⟨b, o + 4 + i, none⟩ = some (.int .u8 ((hl.getD (4 + i) 0 : Nat) : Int))) (h256 : ∀ i, hl.getD i 0 < 256) (e0 : hl.getD 0 0 = 36) (e1 : hl.getD 1 0 = 50) (e2 : hl.getD 2 0 = 97) (e3 : hl.getD 3 0 = 36) (e6 : hl.getD 6 0 = 36)
    (s : ByteArray) (hs : (convert 22 9 (.slice (some ⟨b, o + 1, none⟩) 3 (c - 1))).run Tryz.prog w = .ok (.string s) w) (ne : (s.toList == [50, 97, 36]) = true) :
    Calls Tryz.prog 9 #[.slice (some ⟨b, o, none⟩) 60 c] w (CostSPost hl 60 w) := by
  have l : 4 ≤ c := by omega
  have l6 : 6 ≤ c := by omega
  have C4 := Lib.hid c4; clear c4
  have Hb := Lib.hid h256; clear h256
  have E := Lib.hid (And.intro e0 (And.intro e1 (And.intro e2 (And.intro e3 e6)))); clear e0 e1 e2 e3 e6
  go_enter Tryz.func9, Tryz.ntmps9
  go_wp2_with fail
  go_loop [5, 44] (fun v i => ∃ k : Nat, k ≤ 2 ∧ i = .int .i64 k ∧ v = .int .i64 ((if k = 0 then 0 else if k = 1 then hl.getD 4 0 - 48 else told hl : Nat) : Int) ∧ (0 < k → 48 ≤ hl.getD 4 0 ∧ hl.getD 4 0 ≤ 57) ∧ (1 < k → 48 ≤ hl.getD 5 0 ∧ hl.getD 5 0 ≤ 57)) (fun _ i => 2 - (RowKit.intOf i).toNat)
  case atStart => exact ⟨0, by omega, rfl, rfl, fun h => by omega, fun h => by omega⟩
  case round =>
    obtain ⟨k, hk, rfl, rfl, hd4, hd5⟩ := hrel
    obtain ⟨v, hv⟩ : ∃ v, v = (if k = 0 then 0 else if k = 1 then hl.getD 4 0 - 48 else told hl : Nat) := ⟨_, rfl⟩
    rw [← hv]
    by_cases hlt : k < 2
    · have c := C4.out k hlt
      obtain ⟨x, hx⟩ : ∃ x, x = hl.getD (4 + k) 0 := ⟨_, rfl⟩
      rw [← hx] at c
      have x8 : x < 256 := by rw [hx]; exact Hb.out _
      have v9 : v ≤ 9 := by
        rcases (show k = 0 ∨ k = 1 by omega) with rfl | rfl
        · rw [hv]; simp
        · rw [hv]; have := hd4 (by omega); show hl.getD 4 0 - 48 ≤ 9; omega
      have Hd4 := Lib.hid hd4; clear hd4
      have Hd5 := Lib.hid hd5; clear hd5
      have Hv := Lib.hid hv; clear hv
      have Hx := Lib.hid hx; clear hx
      by_cases a1 : x < 48
      · have f1 : decide ((x : Int) < 48) = true := by simp; omega
        go_wp2_with fail
        go_ret3
        exact ⟨0, 0, false, rfl, rfl, fun h => by cases h⟩
      · have f1 : decide ((x : Int) < 48) = false := by simp; omega
        by_cases a2 : 57 < x
        · have f2 : decide ((57 : Int) < (x : Int)) = true := by simp; omega
          go_wp2_with fail
          go_ret3
          exact ⟨0, 0, false, rfl, rfl, fun h => by cases h⟩
        · have f2 : decide ((57 : Int) < (x : Int)) = false := by simp; omega
          obtain ⟨d, hd⟩ : ∃ d, x = 48 + d := ⟨x - 48, by omega⟩
          have s1 : ((x : Int) - 48) % 256 = (d : Int) := by omega
          have s2 : (x : Int) - 48 = (d : Int) := by omega
          have d9 : d ≤ 9 := by omega
          have Hd := Lib.hid hd; clear hd
          go_wp2_with fail
          go_round
          case rel =>
            have hx := Hx.out
            have hd := Hd.out
            have hv := Hv.out
            rcases (show k = 0 ∨ k = 1 by omega) with rfl | rfl
            · refine ⟨1, by omega, rfl, ?_, fun _ => ?_, fun h => by omega⟩
              · simp at hv
                subst hv
                have e : hl.getD 4 0 - 48 = d := by rw [← show x = hl.getD 4 0 from hx]; omega
                simp only [Nat.one_ne_zero, if_false, if_true]
                rw [e]
                go_num
              · rw [← show x = hl.getD 4 0 from hx]; omega
            · have h4 := Hd4.out (by omega)
              have e5 : hl.getD 5 0 = x := hx.symm
              simp at hv
              refine ⟨2, by omega, rfl, ?_, fun _ => h4, fun _ => by rw [e5]; omega⟩
              have e : told hl = 10 * v + d := by unfold told; rw [e5, hd]; simp; omega
              simp only [show ¬ (2 = 0) by decide, show ¬ (2 = 1) by decide, if_false]
              rw [e]
              go_num
          case measure => simp [RowKit.intOf]; omega
    · obtain rfl : k = 2 := by omega
      have ev : v = told hl := by rw [hv]; rfl
      have g4 := hd4 (by omega)
      have g5 := hd5 (by omega)
      clear hd4 hd5 hv
      have form : Form hl := ⟨E.out.1, E.out.2.1, E.out.2.2.1, E.out.2.2.2.1, g4.1, g4.2, g5.1, g5.2, E.out.2.2.2.2⟩
      have HF := Lib.hid form; clear form g4 g5
      have Ev := Lib.hid ev; clear ev
      by_cases a1 : v < 4
      · have f1 : decide ((v : Int) < 4) = true := by simp; omega
        go_wp2_with fail
        go_ret3
        exact ⟨0, 5, true, rfl, rfl, fun _ => .beyond rfl HF.out (Or.inl (by rw [← Ev.out]; exact a1))⟩
      · have f1 : decide ((v : Int) < 4) = false := by simp; omega
        by_cases a2 : 31 < v
        · have f2 : decide ((31 : Int) < (v : Int)) = true := by simp; omega
          go_wp2_with fail
          go_ret3
          exact ⟨0, 5, true, rfl, rfl, fun _ => .beyond rfl HF.out (Or.inr (by rw [← Ev.out]; exact a2))⟩
        · have f2 : decide ((31 : Int) < (v : Int)) = false := by simp; omega
          go_wp2_with fail
          go_ret3
          refine ⟨(v : Int), 0, true, rfl, rfl, fun _ => ?_⟩
          rw [Ev.out]
          exact .fine rfl HF.out (by rw [← Ev.out]; omega) (by rw [← Ev.out]; omega)
/-- All ways. -/
theorem costS_any (hl : List Nat) (a : Option Addr) (n c : Nat) (w : World) (hc : n ≤ c) (h256 : ∀ i, hl.getD i 0 < 256) (h : 0 < n → ∃ b o, a = some ⟨b, o, none⟩ ∧ ∀ i, i < n → w.cell? ⟨b, o + i, none⟩ = some (.int .u8 ((hl.getD i 0 : Nat) : Int))) :
    Calls Tryz.prog 9 #[.slice a n c] w (CostSPost hl n w) := by
  by_cases h1 : n ≤ 28
  · exact costS_short hl a n c w h1
  · by_cases h2 : n = 60
    · subst h2
      obtain ⟨b, o, rfl, hcell⟩ := h (by omega)
      have c0 := hcell 0 (by omega)
      have c1 := hcell 1 (by omega)
      have c6 := hcell 6 (by omega)
      rw [Nat.add_zero] at c0
      by_cases q0 : hl.getD 0 0 = 36
      · have conv := conv_text b (o + 1) (c - 1) [hl.getD 1 0, hl.getD 2 0, hl.getD 3 0] w (fun i => by
          rcases (show i = 0 ∨ i = 1 ∨ i = 2 ∨ 3 ≤ i by omega) with rfl | rfl | rfl | h
          · exact h256 1
          · exact h256 2
          · exact h256 3
          · rw [List.getD_eq_getElem?_getD, List.getElem?_eq_none (by simpa using h)]; decide) (fun i hi => by
          have hi' : i < 3 := hi
          rw [Nat.add_assoc]
          rcases (show i = 0 ∨ i = 1 ∨ i = 2 by omega) with rfl | rfl | rfl
          · exact hcell 1 (by omega)
          · exact hcell 2 (by omega)
          · exact hcell 3 (by omega))
        have tl := text_list [hl.getD 1 0, hl.getD 2 0, hl.getD 3 0]
        obtain ⟨s, hs⟩ : ∃ s, s = textOf [hl.getD 1 0, hl.getD 2 0, hl.getD 3 0] := ⟨_, rfl⟩
        rw [← hs] at conv tl
        rw [q0] at c0
        by_cases q1 : 50 < hl.getD 1 0 ∧ hl.getD 1 0 ≤ 57
        · exact costS_newer hl b o c w _ q0 rfl c0 c1 q1.1 q1.2
        · by_cases q2 : (s.toList == [50, 97, 36]) = true
          · have e : [hl.getD 1 0, hl.getD 2 0, hl.getD 3 0] = [50, 97, 36] := by
              refine text_inj (fun i => ?_) (fun i => ?_) ?_
              · rcases (show i = 0 ∨ i = 1 ∨ i = 2 ∨ 3 ≤ i by omega) with rfl | rfl | rfl | h
                · exact h256 1
                · exact h256 2
                · exact h256 3
                · rw [List.getD_eq_getElem?_getD, List.getElem?_eq_none (by simpa using h)]; decide
              · rcases (show i = 0 ∨ i = 1 ∨ i = 2 ∨ 3 ≤ i by omega) with rfl | rfl | rfl | h
                · decide
                · decide
                · decide
                · rw [List.getD_eq_getElem?_getD, List.getElem?_eq_none (by simpa using h)]; decide
              · have q2' : s.toList = [50, 97, 36] := by simpa using q2
                rw [tl] at q2'
                have e3 : (textOf [hl.getD 1 0, hl.getD 2 0, hl.getD 3 0]).data.toList = (textOf [50, 97, 36]).data.toList := by
                  simp only [textOf]
                  rw [q2']
                  rfl
                exact congrArg ByteArray.mk (Array.toList_inj.1 e3)
            have e1 : hl.getD 1 0 = 50 := congrArg (·.getD 0 0) e
            have e2 : hl.getD 2 0 = 97 := congrArg (·.getD 1 0) e
            have e3 : hl.getD 3 0 = 36 := congrArg (·.getD 2 0) e
            rw [e1] at c1
            by_cases q6 : hl.getD 6 0 = 36
            · rw [q6] at c6
              exact costS_form hl b o c w hc c0 c1 c6 (fun i hi => by rw [Nat.add_assoc]; exact hcell (4 + i) (by omega)) h256 q0 e1 e2 e3 q6 s conv q2
            · exact costS_six hl b o c w hc _ c0 c1 c6 q6 s conv q2
          · exact costS_other hl b o c w hc _ c0 c1 q1 s conv (by simpa using q2)
      · exact costS_sign hl b o c w _ rfl c0 q0
    · exact costS_len hl a n c w (by omega) h2
end Go.Proofs.YthnhdfgonpbldaaGreatDoor
/- The specification's BcryptCompare: what it says where it is sure. -/
namespace Go.Proofs.YthnhdfgonpbldaaGreatDoor
open Go.RowKit Go.Lib
/-- The letters of the salt, and of the hash behind it. -/
def saltOf (hl : List Nat) : List Nat := (List.range 22).map fun i => hl.getD (7 + i) 0
def tailOf (hl : List Nat) : List Nat := (List.range 31).map fun i => hl.getD (29 + i) 0
theorem saltOf_get (hl : List Nat) (i : Nat) (h : i < 22) : (saltOf hl).getD i 0 = hl.getD (7 + i) 0 := by simp [saltOf, List.getD, h]
theorem tailOf_get (hl : List Nat) (i : Nat) (h : i < 31) : (tailOf hl).getD i 0 = hl.getD (29 + i) 0 := by simp [tailOf, List.getD, h]
/-- What kind BcryptCompare may answer, of n bytes, where it is sure. -/
def CmpSays (T : Nat → Nat) (pw : List Nat) (hl : List Nat) (n : Nat) (k : Int) : Prop :=
  (∃ m, CostSays hl n m k ∧ k ≠ 0) ∨ (n = 60 ∧ Form hl ∧ 4 ≤ told hl ∧ told hl ≤ 6 ∧ (∀ i, i < 22 → 0 ≤ idx alN ((saltOf hl).getD i 0) 64) ∧
    ((tailOf hl = hashN T pw (told hl) (vals (saltOf hl)) ∧ k = 0) ∨ (¬ tailOf hl = hashN T pw (told hl) (vals (saltOf hl)) ∧ k = 1)))
theorem CmpSays.no {T : Nat → Nat} {pw hl : List Nat} {n : Nat} (m k : Int) (h : CostSays hl n m k) (hk : k ≠ 0) : CmpSays T pw hl n k := Or.inl ⟨m, h, hk⟩
theorem CmpSays.same {T : Nat → Nat} {pw hl : List Nat} {n : Nat} (h : n = 60) (f : Form hl) (h4 : 4 ≤ told hl) (h6 : told hl ≤ 6) (ho : ∀ i, i < 22 → 0 ≤ idx alN ((saltOf hl).getD i 0) 64) (e : tailOf hl = hashN T pw (told hl) (vals (saltOf hl))) : CmpSays T pw hl n 0 :=
  Or.inr ⟨h, f, h4, h6, ho, Or.inl ⟨e, rfl⟩⟩
theorem CmpSays.other {T : Nat → Nat} {pw hl : List Nat} {n : Nat} (h : n = 60) (f : Form hl) (h4 : 4 ≤ told hl) (h6 : told hl ≤ 6) (ho : ∀ i, i < 22 → 0 ≤ idx alN ((saltOf hl).getD i 0) 64) (e : ¬ tailOf hl = hashN T pw (told hl) (vals (saltOf hl))) : CmpSays T pw hl n 1 :=
  Or.inr ⟨h, f, h4, h6, ho, Or.inr ⟨e, rfl⟩⟩
def CmpSPost (T : Nat → Nat) (pw : List Nat) (hl : List Nat) (n : Nat) (w : World) (e : Ending) (w' : World) : Prop :=
  ∃ (k : Int) (s : Bool), e = .returned (.tuple #[.int .i64 k, .bool s]) ∧ Below w.heap.size w w' ∧ (s = true → CmpSays T pw hl n k)
theorem step_wanted {c : Bool} {p q : Prop} (h : c = true) (hp : p) : if c = true then p else q := by
  rw [if_pos h]
  exact hp
theorem wp_load_lv {P : Program} {o : Oper} {a : Act} {w : World} {K : Act → World → Prop} {Q : Exit → Act → World → Prop} (ty : TypeId) (x : Operand) (ho : o.op = .load ty x)
    (g : Nat) (hx : a.eval x = .pointer (some ⟨g, 0, none⟩)) (v : Value) (lv : (loadVar ty ⟨g, 0, none⟩).run P w = .ok v w) (h : K (a.put o.dst v) w) : o.wp P a w K Q := by
  unfold Oper.wp execOp
  simp only [ho, hx, Instr.loadAt, Instr.sureAddr, Sem.run_bind, Sem.run_pure, Result.andThen_ok, lv]
  exact h
set_option maxRecDepth 100000 in
set_option maxHeartbeats 2000000 in
theorem cmpS_any (T : Nat → Nat) (pw : List Nat) (ka : Option Addr) (kc : Nat) (hl : List Nat) (a : Option Addr) (n c : Nat) (w : World) (hn : n ≤ c) (h256 : ∀ i, hl.getD i 0 < 256)
    (h : 0 < n → ∃ b o, a = some ⟨b, o, none⟩ ∧ ∀ i, i < n → w.cell? ⟨b, o + i, none⟩ = some (.int .u8 ((hl.getD i 0 : Nat) : Int))) (hp : ∀ x ∈ pw, x < 256) (hpl : pw.length ≤ 72) (hk : PwAt w ka kc pw) (hT : W32 T)
    (h6 : n = 60 → Form hl → 4 ≤ told hl → told hl ≤ 31 → told hl ≤ 6) :
    Calls Tryz.prog 10 #[.agg (fishA T), .slice a n c, .slice ka pw.length kc] w (CmpSPost T pw hl n w) := by
  obtain ⟨pl, hpl'⟩ : ∃ pl, pl = pw.length := ⟨_, rfl⟩
  rw [← hpl'] at hpl ⊢
  obtain ⟨A, hA⟩ : ∃ A, A = fishA T := ⟨_, rfl⟩
  rw [← hA]
  have is : (Tryz.prog.info? 34).map (·.size) = some A.size := by rw [hA, fishA_size]; kernel_rfl
  have IS := Lib.hid is; clear is
  have HA := Lib.hid hA; clear hA
  have Hpl := Lib.hid hpl'; clear hpl'
  have Hb := Lib.hid h256; clear h256
  have Hc := Lib.hid h; clear h
  have HP := Lib.hid hp; clear hp
  have HK := Lib.hid hk; clear hk
  have HT := Lib.hid hT; clear hT
  have H6 := Lib.hid h6; clear h6
  go_enter Tryz.func10, Tryz.ntmps10
  go_wp2_with fail
  obtain ⟨tB, htB⟩ : ∃ B, B = w.heap.size := ⟨_, rfl⟩
  obtain ⟨W0, hW0⟩ : ∃ W0, W0 = w.alloc (.cells A 34) := ⟨_, rfl⟩
  have b0 : But (fun _ => False) w W0 := by rw [hW0]; exact (But.refl _ w).alloc _
  have t0 : W0.heap[tB]? = some (.cells A 34 (0, 0)) := by rw [hW0, htB]; exact heap_alloc_at w _
  simp only [← htB]
  rw [← hW0]
  clear hW0 htB
  have B0 := Lib.hid b0; clear b0
  have T0 := Lib.hid t0; clear t0
  refine (costS_any hl a n c W0 hn Hb.out (fun h0 => by
    obtain ⟨b, o, e, hcell⟩ := Hc.out h0
    exact ⟨b, o, e, fun i hi => B0.out.cell (hcell i hi) (fun h => h)⟩)).mono ?_
  rintro e w1 ⟨m, kd, s, rfl, hw1, hs⟩
  rw [hw1]
  clear hw1
  have bw := B0.out.below (Nat.le_refl _) (fun _ _ h => h)
  have Bw := Lib.hid bw; clear bw
  cases s with
  | false =>
    clear hs
    go_wp2_with fail
    go_ret2
    exact ⟨kd, false, rfl, Bw.out, fun h => by cases h⟩
  | true =>
    have says := hs rfl
    clear hs
    by_cases hkd : kd = 0
    · subst hkd
      obtain ⟨e60, form, f4, f31, hm⟩ := says.zero
      subst hm
      clear says
      subst e60
      have f6 := H6.out rfl form f4 f31
      clear H6
      obtain ⟨b, o, rfl, hcell⟩ := Hc.out (by omega)
      clear Hc
      have HCell := Lib.hid hcell; clear hcell
      have HF := Lib.hid form; clear form
      obtain ⟨cost, hcost⟩ : ∃ cost, cost = told hl := ⟨_, rfl⟩
      rw [← hcost] at f4 f6 f31 ⊢
      have Hcost := Lib.hid hcost; clear hcost
      have call := bcS_any T pw ka kc cost (saltOf hl) b (o + 7) (c - 7) W0.drew f4 f6 HP.out (by rw [← Hpl.out]; exact hpl) (HK.out.but B0.out.drew (fun _ _ h => h)) (by simp [saltOf]) (fun i => by
        by_cases hi : i < 22
        · rw [saltOf_get hl i hi]; exact Hb.out _
        · rw [getD_past (by simp [saltOf]; omega)]; decide) (fun i hi => by
        rw [saltOf_get hl i hi, Nat.add_assoc]
        exact B0.out.drew.cell (HCell.out (7 + i) (by omega)) (fun h => h)) HT.out
      rw [← Hpl.out, ← HA.out] at call
      have Call := Lib.hid call; clear call
      have l29 : 29 ≤ c := by omega
      have lv : (loadVar 34 ⟨tB, 0, none⟩).run Tryz.prog W0.drew = .ok (.agg A) W0.drew := by
        have h0 : W0.drew.heap[tB]? = some (.cells A 34 (0, 0)) := T0.out
        have h1 := run_loadVar_part (P := Tryz.prog) W0.drew tB 0 34 34 A A.toList (0, 0) _ h0 (fun j v hv => by rw [Nat.zero_add]; simpa using hv) Tryz.underlying34 rfl (by rw [IS.out]; simp)
        simpa using h1
      have bwd := B0.out.drew
      have Bwd := Lib.hid bwd; clear bwd
      go_wp2_with fail
      go_cut [11, 12] from 27 (fun v ok wx => ∃ okb, ok = .bool okb ∧ Below w.heap.size w wx ∧ (okb = true → (∀ i, i < 22 → 0 ≤ idx alN ((saltOf hl).getD i 0) 64) ∧
        ∃ g cap, v = .slice (some ⟨g, 0, none⟩) 31 cap ∧ ∀ i, i < 31 → wx.cell? ⟨g, 0 + i, none⟩ = some (.int .u8 (((hashN T pw cost (vals (saltOf hl))).getD i 0 : Nat) : Int))))
      case first =>
        have c29 : (29 : Int) ≤ (c : Int) := by omega
        have c7 : ¬ c = 7 := by omega
        refine wp_region_any (by kernel_rfl) ?_
        change wpAny _ _ _ _ _ _ _ (World.drew _)
        refine wpAny_take (i := 1) (v := .slice ka pl kc) rfl (by kernel_rfl) (by kernel_rfl) (by kernel_rfl) (fun _ _ _ h => h) (Or.inl ⟨by rfl, by intro w; go_simp⟩) ?_
        refine wpAny_take (i := 2) (v := .int .i64 (cost : Int)) rfl (by kernel_rfl) (by kernel_rfl) (by kernel_rfl) (fun _ _ _ h => h) (Or.inl ⟨by rfl, by intro w; go_simp⟩) ?_
        refine wpAny_take (i := 3) (v := .slice (some ⟨b, o, none⟩) 60 c) rfl (by kernel_rfl) (by kernel_rfl) (by kernel_rfl) (fun _ _ _ h => h) (Or.inl ⟨by rfl, by intro w; go_simp⟩) ?_
        refine wpAny_take (i := 4) (v := .slice (some ⟨b, o + 7, none⟩) 22 (c - 7)) rfl (by kernel_rfl) (by kernel_rfl) (by kernel_rfl) (fun _ _ _ h => h) (Or.inl ⟨by rfl, by intro w; go_simp⟩) ?_
        refine wpAny_ready (rs := [0]) (by kernel_rfl) (by simp) ?_
        refine AllReady.cons rfl (fun K hK => ?_) AllReady.nil
        refine step_wanted rfl ?_
        refine wp_load_lv 34 (.tmp 3) rfl tB rfl _ lv ?_
        refine hK _ _ ?_
        clear hK K lv
        refine wpAny_ready (rs := [5]) (by kernel_rfl) (by simp) ?_
        refine AllReady.cons rfl (fun K hK => ?_) AllReady.nil
        refine step_wanted rfl ?_
        go_simp
        refine Call.out.mono ?_
        rintro e w2 ⟨v, ok, rfl, b2, h2⟩
        refine hK _ _ ?_
        clear hK K
        have bx := (Bwd.out.then (But.of_below b2)).below (Nat.le_refl _) (fun _ _ h => h)
        have Bx := Lib.hid bx
        have Hx := Lib.hid h2
        clear bx b2 h2
        refine wpAny_take (i := 6) (v := .tuple #[v, .bool ok]) rfl (by kernel_rfl) (by kernel_rfl) (by kernel_rfl) (fun _ _ _ h => h) (Or.inl ⟨by rfl, by intro w; go_simp⟩) ?_
        refine wpAny_take (i := 7) (v := v) rfl (by kernel_rfl) (by kernel_rfl) (by kernel_rfl) (fun _ _ _ h => h) (Or.inl ⟨by rfl, by intro w; go_simp⟩) ?_
        refine wpAny_take (i := 8) (v := .bool ok) rfl (by kernel_rfl) (by kernel_rfl) (by kernel_rfl) (fun _ _ _ h => h) (Or.inl ⟨by rfl, by intro w; go_simp⟩) ?_
        refine wpAny_take (i := 9) (v := v) rfl (by kernel_rfl) (by kernel_rfl) (by kernel_rfl) (fun _ _ _ h => h) (Or.inl ⟨by rfl, by intro w; go_simp⟩) ?_
        refine wpAny_take (i := 10) (v := .bool ok) rfl (by kernel_rfl) (by kernel_rfl) (by kernel_rfl) (fun _ _ _ h => h) (Or.inl ⟨by rfl, by intro w; go_simp⟩) ?_
        refine wpAny_done (by kernel_rfl) ?_ _
        go_wp2_with fail
        go_meet
        exact ⟨ok, rfl, Bx.out, Hx.out⟩
      case rest =>
        clear lv Call
        obtain ⟨ok, rfl, bx, hx⟩ := hcut
        have Bx := Lib.hid bx; clear bx
        have Hx := Lib.hid hx; clear hx
        cases ok with
        | false =>
          go_wp2_with fail
          go_ret2
          exact ⟨0, false, rfl, Bx.out, fun h => by cases h⟩
        | true =>
          obtain ⟨hok, g, cap, rfl, gcell⟩ := Hx.out rfl
          clear Hx
          have l1 : (hashN T pw cost (vals (saltOf hl))).length = 31 := hashN_length _ _ _ _
          have l2 : (tailOf hl).length = 31 := by simp [tailOf]
          have b1 : ∀ i, (hashN T pw cost (vals (saltOf hl))).getD i 0 < 256 := fun i => encL_lt _ i
          have b2 : ∀ i, (tailOf hl).getD i 0 < 256 := fun i => by
            by_cases hi : i < 31
            · rw [tailOf_get hl i hi]; exact Hb.out _
            · rw [getD_past (by omega)]; decide
          have k1 : ∀ q, (convert 22 9 (.slice (some ⟨g, 0, none⟩) 31 cap)).run Tryz.prog (wc.drewN q) = .ok (.string (textOf (hashN T pw cost (vals (saltOf hl))))) (wc.drewN q) := fun q => by
            have := conv_text g 0 cap (hashN T pw cost (vals (saltOf hl))) (wc.drewN q) b1 (fun i hi => by simpa using gcell i (by omega))
            rw [l1] at this
            exact this
          have k2 : ∀ q, (convert 22 9 (.slice (some ⟨b, o + 29, none⟩) 31 (c - 29))).run Tryz.prog (wc.drewN q) = .ok (.string (textOf (tailOf hl))) (wc.drewN q) := fun q => by
            have := conv_text b (o + 29) (c - 29) (tailOf hl) (wc.drewN q) b2 (fun i hi => by
              rw [tailOf_get hl i (by omega), Nat.add_assoc]
              have := (But.of_below (S := fun _ => False) Bx.out).cell (HCell.out (29 + i) (by omega)) (fun h => h)
              simpa using this)
            rw [l2] at this
            exact this
          have tl1 := text_list (hashN T pw cost (vals (saltOf hl)))
          have tl2 := text_list (tailOf hl)
          have inj : textOf (tailOf hl) = textOf (hashN T pw cost (vals (saltOf hl))) → tailOf hl = hashN T pw cost (vals (saltOf hl)) := text_inj b2 b1
          obtain ⟨H, hH⟩ : ∃ H, H = hashN T pw cost (vals (saltOf hl)) := ⟨_, rfl⟩
          rw [← hH] at k1 tl1 inj
          clear gcell b1 b2 l1 l2
          obtain ⟨s1, hs1⟩ : ∃ s, s = textOf H := ⟨_, rfl⟩
          obtain ⟨s2, hs2⟩ : ∃ s, s = textOf (tailOf hl) := ⟨_, rfl⟩
          have HH := Lib.hid hH; clear hH
          rw [← hs1] at k1 tl1
          rw [← hs2] at k2 tl2
          have k10 := k1 0
          have k20 := k2 0
          have c29 : (29 : Int) ≤ (c : Int) := by omega
          have c7 : ¬ c = 29 := by omega
          have Hok := Lib.hid hok; clear hok
          by_cases he : tailOf hl = H
          · have eq : (s1.toList == s2.toList) = true := by rw [hs1, hs2, he]; simp
            have He := Lib.hid he; clear he
            clear hs1 hs2 tl1 tl2 inj
            go_wp2_with fail
            go_quiet (fail)
            go_wp2_with fail
            go_ret2
            exact ⟨0, true, rfl, Below.trans' Bx.out (below_drewN _ _), fun _ => .same rfl HF.out (by rw [← Hcost.out]; exact f4) (by rw [← Hcost.out]; exact f6) Hok.out (by rw [He.out, HH.out, Hcost.out])⟩
          · have eq : (s1.toList == s2.toList) = false := by
              rw [tl1, tl2]
              refine beq_false_of_ne fun h => he (inj ?_)
              unfold textOf
              rw [h]
            have He := Lib.hid he; clear he
            clear hs1 hs2 tl1 tl2 inj
            go_wp2_with fail
            go_quiet (fail)
            go_wp2_with fail
            go_ret2
            exact ⟨1, true, rfl, Below.trans' Bx.out (below_drewN _ _), fun _ => .other rfl HF.out (by rw [← Hcost.out]; exact f4) (by rw [← Hcost.out]; exact f6) Hok.out (fun h => He.out (by rw [h, HH.out, Hcost.out]))⟩
    · have t1 : (kd != 0) = true := by simpa using hkd
      have Says := Lib.hid says; clear says
      have Hkd := Lib.hid hkd; clear hkd
      go_wp2_with fail
      go_ret2
      exact ⟨kd, true, rfl, Bw.out, fun _ => .no m kd Says.out Hkd.out⟩
end Go.Proofs.YthnhdfgonpbldaaGreatDoor
/- What the implementation answers wherever the specification's BcryptCompare is sure. -/
namespace Go.Proofs.YthnhdfgonpbldaaGreatDoor
open Go.RowKit Go.Lib
set_option maxRecDepth 100000 in
theorem nfh_low (b o c k : Nat) (w : World) (hc : 60 ≤ c) (hc2 : c ≤ 9223372036854775807) (h4 : k < 4) (c0 : w.cell? ⟨b, o, none⟩ = some (.int .u8 36)) (c1 : w.cell? ⟨b, o + 1, none⟩ = some (.int .u8 50)) (c2 : w.cell? ⟨b, o + 2, none⟩ = some (.int .u8 97))
    (c4 : w.cell? ⟨b, o + 4, none⟩ = some (.int .u8 48)) (c5 : w.cell? ⟨b, o + 4 + 1, none⟩ = some (.int .u8 ((48 + k : Nat) : Int))) : Refused w (.slice (some ⟨b, o, none⟩) 60 c) (.iface 64 (.int .i64 (k : Int))) := by
  unfold Refused
  have blt : b < w.heap.size := World.block_lt_of_cell? _ _ c0
  have Q0 := Lib.hid c0; clear c0
  have Q1 := Lib.hid c1; clear c1
  have Q2 := Lib.hid c2; clear c2
  have Q4 := Lib.hid c4; clear c4
  have Q5 := Lib.hid c5; clear c5
  go_enter Tryz.func33, Tryz.ntmps33
  go_wp2_with fail
  obtain ⟨PB, hPB⟩ : ∃ PB, w.heap.size = PB := ⟨_, rfl⟩
  have b0 : But (fun _ => False) w (w.alloc (.cells #[.slice none 0 0, .slice none 0 0, .int .i64 0, .int .u8 0, .int .u8 0] 74)) := (But.refl _ w).alloc _
  have r0 : HRow (w.alloc (.cells #[.slice none 0 0, .slice none 0 0, .int .i64 0, .int .u8 0, .int .u8 0] 74)) PB (.slice none 0 0) (.slice none 0 0) 0 0 0 := by rw [← hPB]; exact heap_alloc_at w _
  simp only [hPB]
  obtain ⟨W0, hW0⟩ : ∃ W0, w.alloc (.cells #[.slice none 0 0, .slice none 0 0, .int .i64 0, .int .u8 0, .int .u8 0] 74) = W0 := ⟨_, rfl⟩
  rw [hW0] at b0 r0 ⊢
  clear hW0
  have ne1 : b ≠ PB := by omega
  have HPB := Lib.hid hPB; clear hPB
  have B0 := Lib.hid b0; clear b0
  have R0 := Lib.hid r0; clear r0
  refine (ver_fine PB b o 60 c _ _ W0 (by omega) (by omega) R0.out ne1 (B0.out.cell Q0.out (fun h => h)) (B0.out.cell Q1.out (fun h => h)) (B0.out.cell Q2.out (fun h => h))).mono ?_
  rintro e w1 ⟨rfl, hb1, r1⟩
  have B1 := Lib.hid ((B0.out.trans hb1 (fun _ _ h => h.elim) (fun _ _ h => h)) : But (· = PB) w w1)
  clear hb1 r1
  go_wp2_with fail
  refine (cost_low _ b (o + 4) 56 (c - 4) k w1 (by omega) (by omega) (by omega) h4 (B1.out.cell Q4.out ne1) (B1.out.cell Q5.out ne1)).mono ?_
  rintro e w2 ⟨rfl, hb2⟩
  have bw : Below w.heap.size w w2 := (B1.out.then (But.of_below hb2)).below (Nat.le_refl _) (fun i hi h => by have h' : i = PB := h; have := HPB.out; omega)
  have Bw := Lib.hid bw; clear bw hb2
  go_wp2_with fail
  go_ret2
  exact ⟨rfl, Bw.out⟩
/-- A hash in memory: its bytes. -/
structure HashAt (w : World) (a : Option Addr) (c : Nat) (hl : List Nat) : Prop where
  at' : 0 < hl.length → ∃ b o, a = some ⟨b, o, none⟩ ∧ ∀ i, i < hl.length → w.cell? ⟨b, o + i, none⟩ = some (.int .u8 ((hl.getD i 0 : Nat) : Int))
  lt : ∀ i, hl.getD i 0 < 256
  cap : hl.length ≤ c
  cap2 : c ≤ 9223372036854775807
theorem HashAt.below {w w' : World} {a : Option Addr} {c : Nat} {hl : List Nat} (h : HashAt w a c hl) (b : Below w.heap.size w w') : HashAt w' a c hl :=
  ⟨fun h0 => by
    obtain ⟨g, o, e, hc⟩ := h.at' h0
    exact ⟨g, o, e, fun i hi => (But.of_below (S := fun _ => False) b).cell (hc i hi) (fun h => h)⟩, h.lt, h.cap, h.cap2⟩
def Cheap (hl : List Nat) : Prop := hl.length = 60 → 48 ≤ hl.getD 4 0 → hl.getD 4 0 ≤ 57 → 48 ≤ hl.getD 5 0 → hl.getD 5 0 ≤ 57 → hl.getD 4 0 = 48 ∧ hl.getD 5 0 ≤ 54
theorem Cheap.told {hl : List Nat} (h : Cheap hl) (e : hl.length = 60) (f : Form hl) : hl.getD 4 0 = 48 ∧ hl.getD 5 0 = 48 + told hl ∧ told hl ≤ 6 := by
  obtain ⟨h4, h5⟩ := h e f.a4 f.b4 f.a5 f.b5
  have a5 := f.a5
  unfold Go.Proofs.YthnhdfgonpbldaaGreatDoor.told
  rw [h4]
  refine ⟨rfl, ?_, ?_⟩ <;> omega
theorem impl_fine (T : Nat → Nat) (pw : List Nat) (ka : Option Addr) (kc : Nat) (hl : List Nat) (a : Option Addr) (c : Nat) (a0 a1 : Addr) (w : World) (d : Data w T a0 a1) (p : Pass w ka kc pw) (hpl : pw.length ≤ 72) (h : HashAt w a c hl) (ch : Cheap hl)
    (e60 : hl.length = 60) (f : Form hl) (f4 : 4 ≤ told hl) (hok : ∀ i, i < 22 → 0 ≤ idx alN ((saltOf hl).getD i 0) 64) (r : Int)
    (hr : (tailOf hl = hashN T pw (told hl) (vals (saltOf hl)) → r = 0) ∧ (¬ tailOf hl = hashN T pw (told hl) (vals (saltOf hl)) → r = 1)) :
    Calls Tryz.prog 12 #[.slice a hl.length c, .slice ka pw.length kc] w (IntBelow w r) := by
  obtain ⟨b, o, rfl, hcell⟩ := h.at' (by omega)
  have t := ch.told e60 f
  have hc := h.cap
  have ls22 : (saltOf hl).length = 22 := by simp [saltOf]
  have lh31 : (tailOf hl).length = 31 := by simp [tailOf]
  rw [e60] at hcell hc ⊢
  refine bcompare_fine _ _ _ a0 a1 w d.s ?_ r hr
  exact compare_fine T pw ka kc (told hl) (vals (saltOf hl)) hl (saltOf hl) (tailOf hl) b o c a0 a1 w f4 t.2.2 p.lt hpl p.cap p.cap2 p.at' (vals_lt _) (vals_past _ 22 (by omega)) (vals_past _ 23 (by omega)) d.t d.m d.s hc h.cap2
    e60 hcell f.h0 f.h1 f.h2 t.1 t.2.1 ls22 (fun i hi => saltOf_get hl i hi) lh31 (fun i hi => tailOf_get hl i hi)
    (fun i => by
      by_cases hi : i < 31
      · rw [tailOf_get hl i hi]; exact h.lt _
      · rw [getD_past (by omega)]; decide)
    (fun i hi => vals_back (saltOf hl) i (by omega) (hok i hi))
theorem impl_says (T : Nat → Nat) (pw : List Nat) (ka : Option Addr) (kc : Nat) (hl : List Nat) (a : Option Addr) (c : Nat) (a0 a1 : Addr) (k : Int) (w : World) (d : Data w T a0 a1) (p : Pass w ka kc pw) (hpl : pw.length ≤ 72) (h : HashAt w a c hl) (ch : Cheap hl)
    (says : CmpSays T pw hl hl.length k) : Calls Tryz.prog 12 #[.slice a hl.length c, .slice ka pw.length kc] w (IntBelow w k) := by
  rcases says with ⟨m, hs, hk⟩ | ⟨e60, f, f4, f6, hok, ⟨he, rfl⟩ | ⟨he, rfl⟩⟩
  · rcases hs with ⟨hn, _, rfl⟩ | ⟨e60, h0, _, rfl⟩ | ⟨e60, h0, h1, _, rfl⟩ | ⟨e60, f, hb, _, rfl⟩ | ⟨_, _, _, _, _, rfl⟩
    · exact bcompare_ref _ _ _ _ 2 a0 a1 w d.s (nfh_short a hl.length c a0 a1 w d.s (by omega)) (fun W S => kind_short W a0 a1 S)
    · obtain ⟨b, o, rfl, hcell⟩ := h.at' (by omega)
      have hx := hcell 0 (by omega)
      rw [Nat.add_zero] at hx
      have blt : b < w.heap.size := World.block_lt_of_cell? _ _ hx
      exact bcompare_ref _ _ _ _ 3 a0 a1 w d.s (nfh_ver b o hl.length c 62 _ w (by omega) (fun W' hW' p => ver_prefix p b o hl.length c _ W' (by omega) (by rw [hW'.cell blt]; exact hx) h0)) (fun W S => kind_prefix _ W a0 a1 S)
    · obtain ⟨b, o, rfl, hcell⟩ := h.at' (by omega)
      have hx := hcell 0 (by omega)
      have hy := hcell 1 (by omega)
      rw [Nat.add_zero, h0] at hx
      have blt : b < w.heap.size := World.block_lt_of_cell? _ _ hx
      exact bcompare_ref _ _ _ _ 4 a0 a1 w d.s (nfh_ver b o hl.length c 63 _ w (by omega) (fun W' hW' p => ver_new p b o hl.length c _ W' (by omega) (by rw [hW'.cell blt]; exact hx) (by rw [hW'.cell blt]; exact hy) h1)) (fun W S => kind_version _ W a0 a1 S)
    · obtain ⟨b, o, rfl, hcell⟩ := h.at' (by omega)
      have t := ch.told e60 f
      have hc := h.cap
      have q0 := hcell 0 (by omega)
      have q1 := hcell 1 (by omega)
      have q2 := hcell 2 (by omega)
      have q4 := hcell 4 (by omega)
      have q5 := hcell 5 (by omega)
      rw [Nat.add_zero, f.h0] at q0
      rw [f.h1] at q1
      rw [f.h2] at q2
      rw [t.1] at q4
      rw [t.2.1] at q5
      rw [e60] at hc ⊢
      exact bcompare_ref _ _ _ _ 5 a0 a1 w d.s (nfh_low b o c (told hl) w hc h.cap2 (by omega) q0 q1 q2 q4 (by rw [Nat.add_assoc]; exact q5)) (fun W S => kind_cost _ W a0 a1 S)
    · exact absurd rfl hk
  · exact impl_fine T pw ka kc hl a c a0 a1 w d p hpl h ch e60 f f4 hok 0 ⟨fun _ => rfl, fun h => absurd he h⟩
  · exact impl_fine T pw ka kc hl a c a0 a1 w d p hpl h ch e60 f f4 hok 1 ⟨fun h => absurd h he, fun _ => rfl⟩
end Go.Proofs.YthnhdfgonpbldaaGreatDoor
