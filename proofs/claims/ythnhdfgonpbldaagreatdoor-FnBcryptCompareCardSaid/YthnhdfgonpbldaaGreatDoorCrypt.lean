/- bcrypt as plain functions of tables, a password, a cost and a salt; no program in sight. -/
import Derived.Test.YthnhdfgonpbldaaGreatDoorModel
import Derived.Test.YthnhdfgonpbldaaGreatDoorDeco
import Derived.Test.YthnhdfgonpbldaaGreatDoorBenc
namespace Go.Proofs.YthnhdfgonpbldaaGreatDoor
/-- The dear rounds: the key and the salt mixed in, again and again. -/
def turns (key salt : List Nat) (S : Nat → Nat) : Nat → (Nat → Nat)
  | 0 => S
  | n + 1 => expK salt (expK key (turns key salt S n))
theorem turns_lt {key salt : List Nat} (hk : Bytes key) (k0 : 0 < key.length) (hs : Bytes salt) (s0 : 0 < salt.length) {S : Nat → Nat} (h : W32 S) : ∀ n, W32 (turns key salt S n)
  | 0 => h
  | n + 1 => expK_lt hs s0 (expK_lt hk k0 (turns_lt hk k0 hs s0 h n))
/-- The tables that a password, a cost and a salt make. -/
def setup (T : Nat → Nat) (pw : List Nat) (cost : Nat) (salt : List Nat) : Nat → Nat := turns (pw ++ [0]) salt (expS (pw ++ [0]) salt T) (2 ^ cost)
theorem bytes_snoc {pw : List Nat} (h : ∀ x ∈ pw, x < 256) : Bytes (pw ++ [0]) := fun i hi => by
  have hm : (pw ++ [0]).getD i 0 ∈ pw ++ [0] := by
    rw [List.getD, List.getElem?_eq_getElem hi]
    exact List.getElem_mem _
  rcases List.mem_append.1 hm with h1 | h1
  · exact h _ h1
  · rw [List.mem_singleton.1 h1]; decide
theorem bytes_dec (vs : List Nat) : Bytes (decL vs) := fun i hi => decL_lt vs i hi
theorem setup_lt {T : Nat → Nat} (hT : W32 T) {pw : List Nat} (hp : ∀ x ∈ pw, x < 256) (cost : Nat) {salt : List Nat} (hs : Bytes salt) (s0 : 0 < salt.length) : W32 (setup T pw cost salt) :=
  turns_lt (bytes_snoc hp) (by simp) hs s0 (expS_lt (bytes_snoc hp) (by simp) hs s0 hT) _
/-- Two words, encrypted so often. -/
def blks (S : Nat → Nat) : Nat → Nat × Nat → Nat × Nat
  | 0, p => p
  | n + 1, p => blk S (blks S n p).1 (blks S n p).2
theorem blks_lt {S : Nat → Nat} (h : W32 S) {p : Nat × Nat} (h1 : p.1 < 4294967296) (h2 : p.2 < 4294967296) : ∀ n, (blks S n p).1 < 4294967296 ∧ (blks S n p).2 < 4294967296
  | 0 => ⟨h1, h2⟩
  | n + 1 => blk_lt h (blks_lt h h1 h2 n).1 (blks_lt h h1 h2 n).2
/-- The six words of the text that is encrypted. -/
def magicW : List Nat := [1332899944, 1700884034, 1701343084, 1684370003, 1668446532, 1869963892]
def magicB : List Nat := [79, 114, 112, 104, 101, 97, 110, 66, 101, 104, 111, 108, 100, 101, 114, 83, 99, 114, 121, 68, 111, 117, 98, 116]
def pair (c : Nat) : Nat × Nat := (magicW.getD (2 * c) 0, magicW.getD (2 * c + 1) 0)
theorem pair_lt (c : Nat) : (pair c).1 < 4294967296 ∧ (pair c).2 < 4294967296 := by
  rcases (show c = 0 ∨ c = 1 ∨ c = 2 ∨ 3 ≤ c by omega) with rfl | rfl | rfl | h
  · decide
  · decide
  · decide
  · have e1 : magicW.getD (2 * c) 0 = 0 := by rw [List.getD, List.getElem?_eq_none (by simp [magicW]; omega)]; rfl
    have e2 : magicW.getD (2 * c + 1) 0 = 0 := by rw [List.getD, List.getElem?_eq_none (by simp [magicW]; omega)]; rfl
    unfold pair
    rw [e1, e2]
    decide
/-- The k-th byte of a word, the highest first. -/
def by4 (x k : Nat) : Nat := x / 256 ^ (3 - k) % 256
def by8 (p : Nat × Nat) (k : Nat) : Nat := if k < 4 then by4 p.1 k else by4 p.2 (k - 4)
theorem by8_lt (p : Nat × Nat) (k : Nat) : by8 p k < 256 := by
  unfold by8 by4
  split <;> exact Nat.mod_lt _ (by decide)
theorem by4_join {x : Nat} (h : x < 4294967296) : by4 x 0 * 16777216 + by4 x 1 * 65536 + by4 x 2 * 256 + by4 x 3 = x := by
  unfold by4
  simp only [Nat.sub_zero, Nat.reduceSub, Nat.reducePow]
  omega
/-- The bytes behind n rounds, counted through all three blocks. -/
def cdat (S : Nat → Nat) (n j : Nat) : Nat := by8 (blks S (min 64 (n - 64 * (j / 8))) (pair (j / 8))) (j % 8)
theorem cdat_zero (S : Nat → Nat) (j : Nat) (h : j < 24) : cdat S 0 j = magicB.getD j 0 := by
  unfold cdat
  have e : min 64 (0 - 64 * (j / 8)) = 0 := by omega
  rw [e]
  show by8 (pair (j / 8)) (j % 8) = _
  have := (by decide : ∀ i : Fin 24, by8 (pair (i.1 / 8)) (i.1 % 8) = magicB.getD i.1 0) ⟨j, h⟩
  exact this
theorem cdat_in (S : Nat → Nat) (c k i : Nat) (hk : k ≤ 64) (hi : i < 8) : cdat S (64 * c + k) (8 * c + i) = by8 (blks S k (pair c)) i := by
  unfold cdat
  rw [show (8 * c + i) / 8 = c by omega, show (8 * c + i) % 8 = i by omega, show min 64 (64 * c + k - 64 * c) = k by omega]
theorem cdat_out (S : Nat → Nat) (c k j : Nat) (hk : k < 64) (hj : j / 8 ≠ c) : cdat S (64 * c + (k + 1)) j = cdat S (64 * c + k) j := by
  unfold cdat
  rcases Nat.lt_or_ge (j / 8) c with h | h
  · rw [show min 64 (64 * c + (k + 1) - 64 * (j / 8)) = 64 by omega, show min 64 (64 * c + k - 64 * (j / 8)) = 64 by omega]
  · rw [show min 64 (64 * c + (k + 1) - 64 * (j / 8)) = 0 by omega, show min 64 (64 * c + k - 64 * (j / 8)) = 0 by omega]
theorem cdat_lt (S : Nat → Nat) (n j : Nat) : cdat S n j < 256 := by8_lt _ _
/-- The 23 bytes, and the 31 letters. -/
def crypt (S : Nat → Nat) : List Nat := (List.range 23).map (cdat S 192)
theorem crypt_length (S : Nat → Nat) : (crypt S).length = 23 := by simp [crypt]
theorem crypt_get (S : Nat → Nat) (i : Nat) (h : i < 23) : (crypt S).getD i 0 = cdat S 192 i := by simp [crypt, List.getD, h]
theorem crypt_lt (S : Nat → Nat) : ∀ x ∈ crypt S, x < 256 := by
  intro x hx
  obtain ⟨i, _, rfl⟩ := List.mem_map.1 hx
  exact cdat_lt S 192 i
def hashN (T : Nat → Nat) (pw : List Nat) (cost : Nat) (vs : List Nat) : List Nat := encL (crypt (setup T pw cost (decL vs)))
theorem hashN_length (T : Nat → Nat) (pw : List Nat) (cost : Nat) (vs : List Nat) : (hashN T pw cost vs).length = 31 := by
  unfold hashN
  rw [encL_length, crypt_length]
  rfl
end Go.Proofs.YthnhdfgonpbldaaGreatDoor
