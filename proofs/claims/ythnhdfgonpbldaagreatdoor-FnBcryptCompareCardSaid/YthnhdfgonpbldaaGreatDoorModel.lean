/- The keyed tables of blowfish as plain functions: a key mixed into the first 18 words, then all 1042 words filled two by two; with a salt or without. -/
import Derived.Test.YthnhdfgonpbldaaGreatDoorFish
import Derived.Test.YthnhdfgonpbldaaGreatDoorWord
namespace Go.Proofs.YthnhdfgonpbldaaGreatDoor
/-- The key mixed into the words below n, and the place in the key. -/
def mixK (bs : List Nat) (S : Nat → Nat) : Nat → (Nat → Nat) × Nat
  | 0 => (S, 0)
  | n + 1 => (fun j => if j = n then (mixK bs S n).1 j ^^^ (cycs bs 4 (0, (mixK bs S n).2)).1 else (mixK bs S n).1 j, (cycs bs 4 (0, (mixK bs S n).2)).2)
def up2 (S : Nat → Nat) (i : Nat) (p : Nat × Nat) : Nat → Nat := fun j => if j = i then p.1 else if j = i + 1 then p.2 else S j
/-- The words below 2 n filled, and the last two words. -/
def fillN (S : Nat → Nat) : Nat → (Nat → Nat) × (Nat × Nat)
  | 0 => (S, (0, 0))
  | n + 1 => (up2 (fillN S n).1 (2 * n) (blk (fillN S n).1 (fillN S n).2.1 (fillN S n).2.2), blk (fillN S n).1 (fillN S n).2.1 (fillN S n).2.2)
/-- What a round of the filling with a salt encrypts: the last two words, each exclusive or the salt's next word; and the place in the salt. -/
def salt2 (ss : List Nat) (p : Nat × Nat) (j : Nat) : (Nat × Nat) × Nat :=
  ((p.1 ^^^ (cycs ss 4 (0, j)).1, p.2 ^^^ (cycs ss 4 (0, (cycs ss 4 (0, j)).2)).1), (cycs ss 4 (0, (cycs ss 4 (0, j)).2)).2)
def fillS (ss : List Nat) (S : Nat → Nat) : Nat → (Nat → Nat) × (Nat × Nat) × Nat
  | 0 => (S, (0, 0), 0)
  | n + 1 =>
    (up2 (fillS ss S n).1 (2 * n) (blk (fillS ss S n).1 (salt2 ss (fillS ss S n).2.1 (fillS ss S n).2.2).1.1 (salt2 ss (fillS ss S n).2.1 (fillS ss S n).2.2).1.2),
      blk (fillS ss S n).1 (salt2 ss (fillS ss S n).2.1 (fillS ss S n).2.2).1.1 (salt2 ss (fillS ss S n).2.1 (fillS ss S n).2.2).1.2, (salt2 ss (fillS ss S n).2.1 (fillS ss S n).2.2).2)
def expK (bs : List Nat) (S : Nat → Nat) : Nat → Nat := (fillN (mixK bs S 18).1 521).1
def expS (bs ss : List Nat) (S : Nat → Nat) : Nat → Nat := (fillS ss (mixK bs S 18).1 521).1
def Bytes (bs : List Nat) : Prop := ∀ i, i < bs.length → bs.getD i 0 < 256
def W32 (S : Nat → Nat) : Prop := ∀ j, S j < 4294967296
theorem rnds_lt {S : Nat → Nat} (h : W32 S) {p : Nat × Nat} (h1 : p.1 < 4294967296) (h2 : p.2 < 4294967296) : ∀ n, (rnds S n p).1 < 4294967296 ∧ (rnds S n p).2 < 4294967296
  | 0 => ⟨h1, h2⟩
  | n + 1 => by
    obtain ⟨a, b⟩ := rnds_lt h h1 h2 n
    exact ⟨xor_lt32 b (xor_lt32 (fF_lt _ _) (h _)), a⟩
theorem blk_lt {S : Nat → Nat} (h : W32 S) {l r : Nat} (h1 : l < 4294967296) (h2 : r < 4294967296) : (blk S l r).1 < 4294967296 ∧ (blk S l r).2 < 4294967296 := by
  obtain ⟨a, b⟩ := rnds_lt h (p := (l ^^^ S 0, r)) (xor_lt32 h1 (h 0)) h2 16
  exact ⟨xor_lt32 b (h 17), a⟩
theorem up2_lt {S : Nat → Nat} (h : W32 S) (i : Nat) {p : Nat × Nat} (h1 : p.1 < 4294967296) (h2 : p.2 < 4294967296) : W32 (up2 S i p) := fun j => by
  unfold up2
  split
  · exact h1
  · split
    · exact h2
    · exact h j
theorem mixK_lt {bs : List Nat} (hb : Bytes bs) (h0 : 0 < bs.length) {S : Nat → Nat} (h : W32 S) : ∀ n, W32 (mixK bs S n).1 ∧ (mixK bs S n).2 < bs.length
  | 0 => ⟨h, h0⟩
  | n + 1 => by
    obtain ⟨a, b⟩ := mixK_lt hb h0 h n
    have c := cycs_lt hb h0 b 4
    refine ⟨fun j => ?_, c.2⟩
    show (if j = n then (mixK bs S n).1 j ^^^ (cycs bs 4 (0, (mixK bs S n).2)).1 else (mixK bs S n).1 j) < 4294967296
    split
    · exact xor_lt32 (a j) c.1
    · exact a j
theorem fillN_lt {S : Nat → Nat} (h : W32 S) : ∀ n, W32 (fillN S n).1 ∧ (fillN S n).2.1 < 4294967296 ∧ (fillN S n).2.2 < 4294967296
  | 0 => ⟨h, by show (0 : Nat) < _; decide, by show (0 : Nat) < _; decide⟩
  | n + 1 => by
    obtain ⟨a, b, c⟩ := fillN_lt h n
    have k := blk_lt a b c
    exact ⟨up2_lt a _ k.1 k.2, k.1, k.2⟩
theorem salt2_lt {ss : List Nat} (hb : Bytes ss) (h0 : 0 < ss.length) {p : Nat × Nat} (h1 : p.1 < 4294967296) (h2 : p.2 < 4294967296) {j : Nat} (hj : j < ss.length) :
    (salt2 ss p j).1.1 < 4294967296 ∧ (salt2 ss p j).1.2 < 4294967296 ∧ (salt2 ss p j).2 < ss.length := by
  have c := cycs_lt hb h0 hj 4
  have d := cycs_lt hb h0 c.2 4
  exact ⟨xor_lt32 h1 c.1, xor_lt32 h2 d.1, d.2⟩
theorem fillS_lt {ss : List Nat} (hb : Bytes ss) (h0 : 0 < ss.length) {S : Nat → Nat} (h : W32 S) : ∀ n, W32 (fillS ss S n).1 ∧ (fillS ss S n).2.1.1 < 4294967296 ∧ (fillS ss S n).2.1.2 < 4294967296 ∧ (fillS ss S n).2.2 < ss.length
  | 0 => ⟨h, by show (0 : Nat) < _; decide, by show (0 : Nat) < _; decide, h0⟩
  | n + 1 => by
    obtain ⟨a, b, c, d⟩ := fillS_lt hb h0 h n
    have s := salt2_lt hb h0 b c d
    have k := blk_lt a s.1 s.2.1
    exact ⟨up2_lt a _ k.1 k.2, k.1, k.2, s.2.2⟩
theorem expK_lt {bs : List Nat} (hb : Bytes bs) (h0 : 0 < bs.length) {S : Nat → Nat} (h : W32 S) : W32 (expK bs S) := (fillN_lt (mixK_lt hb h0 h 18).1 521).1
theorem expS_lt {bs ss : List Nat} (hb : Bytes bs) (h0 : 0 < bs.length) (hs : Bytes ss) (h1 : 0 < ss.length) {S : Nat → Nat} (h : W32 S) : W32 (expS bs ss S) := (fillS_lt hs h1 (mixK_lt hb h0 h 18).1 521).1
end Go.Proofs.YthnhdfgonpbldaaGreatDoor
