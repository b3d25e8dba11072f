/- blowfish.getNextWord: four bytes of a key that is gone through in a circle. -/
import Derived.Test.YthnhdfgonpbldaaGreatDoorBase
namespace Go.Proofs.YthnhdfgonpbldaaGreatDoor
open Go.RowKit Go.Lib
/-- One byte more: the word so far, and the place. -/
def cyc (bs : List Nat) (s : Nat × Nat) : Nat × Nat := (s.1 * 256 % 4294967296 + bs.getD s.2 0, if bs.length ≤ s.2 + 1 then 0 else s.2 + 1)
def cycs (bs : List Nat) : Nat → Nat × Nat → Nat × Nat
  | 0, s => s
  | n + 1, s => cyc bs (cycs bs n s)
theorem cycs_lt {bs : List Nat} (hb : ∀ i, i < bs.length → bs.getD i 0 < 256) (h0 : 0 < bs.length) {j : Nat} (hj : j < bs.length) : ∀ k, (cycs bs k (0, j)).1 < 4294967296 ∧ (cycs bs k (0, j)).2 < bs.length
  | 0 => ⟨by simp [cycs], by simpa [cycs] using hj⟩
  | k + 1 => by
    obtain ⟨h1, h2⟩ := cycs_lt hb h0 hj k
    have h3 := hb _ h2
    refine ⟨?_, ?_⟩
    · show (cycs bs k (0, j)).1 * 256 % 4294967296 + bs.getD (cycs bs k (0, j)).2 0 < 4294967296
      omega
    · show (if bs.length ≤ (cycs bs k (0, j)).2 + 1 then 0 else (cycs bs k (0, j)).2 + 1) < bs.length
      split <;> omega
def NwPost (bs : List Nat) (j pb : Nat) (w : World) (e : Ending) (w' : World) : Prop :=
  e = .returned (.int .u32 ((cycs bs 4 (0, j)).1 : Int)) ∧ But (· = pb) w w' ∧ w'.heap[pb]? = some (.cells #[.int .i64 ((cycs bs 4 (0, j)).2 : Int)] 3 (0, 0))
theorem nextWord (bs : List Nat) (b o c pb j : Nat) (w : World) (h0 : 0 < bs.length) (hm : bs.length ≤ 1000000000000) (hj : j < bs.length) (hb : ∀ i, i < bs.length → bs.getD i 0 < 256)
    (hc : ∀ i, i < bs.length → w.cell? ⟨b, o + i, none⟩ = some (.int .u8 ((bs.getD i 0 : Nat) : Int))) (hp : w.heap[pb]? = some (.cells #[.int .i64 (j : Int)] 3 (0, 0))) :
    Calls Tryz.prog 91 #[.slice (some ⟨b, o, none⟩) bs.length c, .pointer (some ⟨pb, 0, none⟩)] w (NwPost bs j pb w) := by
  obtain ⟨n, hn⟩ : ∃ n, n = bs.length := ⟨_, rfl⟩
  rw [← hn] at h0 hm hj ⊢
  have Hn := Lib.hid hn; clear hn
  have Hb := Lib.hid hb; clear hb
  have Hc := Lib.hid hc; clear hc
  have cp : w.cell? ⟨pb, 0, none⟩ = some (.int .i64 (j : Int)) := cell_row hp (by simp)
  have fp : w.frozen? ⟨pb, 0, none⟩ = false := frozen_row hp 0
  have Hp := Lib.hid hp; clear hp
  go_enter Tryz.func91, Tryz.ntmps91
  go_wp2_with fail
  go_loopw [5, 6, 7] (fun x p i wr => ∃ k : Nat, k ≤ 4 ∧ i = .int .i64 k ∧ x = .int .u32 ((cycs bs k (0, j)).1 : Int) ∧ p = .int .i64 ((cycs bs k (0, j)).2 : Int) ∧ w = wr) (fun _ _ i _ => 4 - (intOf i).toNat)
  case atStart => exact ⟨0, Nat.zero_le _, rfl, rfl, rfl, rfl⟩
  case round =>
    obtain ⟨k, hk, rfl, rfl, rfl, rfl⟩ := hrel
    obtain ⟨l1, l2⟩ := cycs_lt Hb.out (by rw [← Hn.out]; exact h0) (by rw [← Hn.out]; exact hj) k
    have l3 := Hb.out _ l2
    have g := Hc.out _ l2
    rw [← Hn.out] at l2
    obtain ⟨s, hs⟩ : ∃ s, s = cycs bs k (0, j) := ⟨_, rfl⟩
    have hnext : cycs bs (k + 1) (0, j) = (s.1 * 256 % 4294967296 + bs.getD s.2 0, if n ≤ s.2 + 1 then 0 else s.2 + 1) := by rw [hs, Hn.out]; rfl
    rw [← hs] at l1 l2 l3 g ⊢
    obtain ⟨x, p⟩ := s
    simp only at l1 l2 l3 g hnext ⊢
    obtain ⟨y, hy⟩ : ∃ y, y = bs.getD p 0 := ⟨_, rfl⟩
    rw [← hy] at g l3 hnext
    have e1 : bits .or .u32 ((x : Int) * 256 % 4294967296) (y : Int) = ((x * 256 % 4294967296 + y : Nat) : Int) := by
      have := or_join32 8 (x * 256 % 4294967296) y (by omega) (by omega) (by omega) (by omega)
      simpa using this
    have Hs := Lib.hid hs; clear hs
    have Hy := Lib.hid hy; clear hy
    have Hnext := Lib.hid hnext; clear hnext
    by_cases hlt : k < 4
    · by_cases hw : n ≤ p + 1
      · have tst : decide ((n : Int) ≤ (p : Int) + 1) = true := by simp; omega
        go_wp2_with fail
        go_roundw
        case rel =>
          refine ⟨k + 1, by omega, by go_num, ?_, ?_, by trivial⟩
          · rw [Hnext.out]; simp
          · rw [Hnext.out]; simp [hw]
        case measure => simp [intOf]; omega
      · have tst : decide ((n : Int) ≤ (p : Int) + 1) = false := by simp; omega
        go_wp2_with fail
        go_roundw
        case rel =>
          refine ⟨k + 1, by omega, by go_num, ?_, ?_, by trivial⟩
          · rw [Hnext.out]; simp
          · rw [Hnext.out]; simp [hw]
        case measure => simp [intOf]; omega
    · obtain rfl : k = 4 := by omega
      go_wp2_with fail
      go_ret
      refine ⟨by rw [← Hs.out]; rfl, ?_, ?_⟩
      · exact But.setCell (But.refl (· = pb) w) (fun _ => rfl) _
      · rw [← Hs.out]
        have := setCell_row w pb 0 _ 3 (0, 0) (.int .i64 (p : Int)) Hp.out
        simpa using this
end Go.Proofs.YthnhdfgonpbldaaGreatDoor
