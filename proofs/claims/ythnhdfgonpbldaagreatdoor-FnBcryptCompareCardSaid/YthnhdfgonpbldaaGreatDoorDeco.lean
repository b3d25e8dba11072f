/- The bytes that letters read as, in plain numbers; no program in sight. -/
namespace Go.Proofs.YthnhdfgonpbldaaGreatDoor
/-- The i-th byte of letters' values. -/
def decB (vs : List Nat) (i : Nat) : Nat := (vs.getD (i / 3 * 4) 0 * 262144 + vs.getD (i / 3 * 4 + 1) 0 * 4096 + vs.getD (i / 3 * 4 + 2) 0 * 64 + vs.getD (i / 3 * 4 + 3) 0) / 256 ^ (2 - i % 3) % 256
def decL (vs : List Nat) : List Nat := (List.range 16).map (decB vs)
theorem decL_length (vs : List Nat) : (decL vs).length = 16 := by simp [decL]
theorem decL_get (vs : List Nat) (i : Nat) (h : i < 16) : (decL vs).getD i 0 = decB vs i := by simp [decL, List.getD, h]
theorem decB_lt (vs : List Nat) (i : Nat) : decB vs i < 256 := Nat.mod_lt _ (by omega)
theorem decL_lt (vs : List Nat) (i : Nat) (h : i < (decL vs).length) : (decL vs).getD i 0 < 256 := by
  rw [decL_length] at h
  rw [decL_get vs i h]
  exact decB_lt vs i
/-- Four letters' values as one number. -/
def q4 (a b c d : Nat) : Nat := a * 262144 + b * 4096 + c * 64 + d
theorem q4_lt {a b c d : Nat} (ha : a < 64) (hb : b < 64) (hc : c < 64) (hd : d < 64) : q4 a b c d < 16777216 := by unfold q4; omega
theorem decB_at (vs : List Nat) (k : Nat) (q : Nat) (hq : q = q4 (vs.getD (4 * k) 0) (vs.getD (4 * k + 1) 0) (vs.getD (4 * k + 2) 0) (vs.getD (4 * k + 3) 0)) :
    decB vs (3 * k) = q / 65536 % 256 ∧ decB vs (3 * k + 1) = q / 256 % 256 ∧ decB vs (3 * k + 2) = q % 256 := by
  unfold decB
  rw [show 3 * k / 3 * 4 = 4 * k by omega, show (3 * k + 1) / 3 * 4 = 4 * k by omega, show (3 * k + 2) / 3 * 4 = 4 * k by omega,
    show 3 * k % 3 = 0 by omega, show (3 * k + 1) % 3 = 1 by omega, show (3 * k + 2) % 3 = 2 by omega, hq]
  unfold q4
  simp
/-- Eight letters' values as one word. -/
def v64 (p q : Nat) : Nat := p * 1099511627776 + q * 65536
theorem v64_bytes (p q : Nat) (hp : p < 16777216) (hq : q < 16777216) :
    v64 p q / 72057594037927936 % 256 = p / 65536 % 256 ∧ v64 p q / 281474976710656 % 256 = p / 256 % 256 ∧ v64 p q / 1099511627776 % 256 = p % 256 ∧
    v64 p q / 4294967296 % 256 = q / 65536 % 256 ∧ v64 p q / 16777216 % 256 = q / 256 % 256 ∧ v64 p q / 65536 % 256 = q % 256 ∧ v64 p q / 256 % 256 = 0 ∧ v64 p q % 256 = 0 ∧ v64 p q < 18446744073709551616 := by
  unfold v64
  omega
theorem v64_sum (a b c d e f g h : Nat) : v64 (q4 a b c d) (q4 e f g h) =
    a * 288230376151711744 + b * 4503599627370496 + c * 70368744177664 + d * 1099511627776 + e * 17179869184 + f * 268435456 + g * 4194304 + h * 65536 := by
  unfold v64 q4
  omega
/-- Four letters' values as a half word. -/
def w32 (q : Nat) : Nat := q * 256
theorem w32_lt {q : Nat} (h : q < 16777216) : w32 q < 4294967296 := by unfold w32; omega
theorem w32_bytes (q : Nat) (hq : q < 16777216) : q * 256 / 16777216 % 256 = q / 65536 % 256 ∧ q * 256 / 65536 % 256 = q / 256 % 256 ∧ q * 256 / 256 % 256 = q % 256 ∧ q * 256 % 256 = 0 ∧ q * 256 < 4294967296 := by
  omega
theorem or8_lt {a b : Nat} (ha : a < 64) (hb : b < 64) : a ||| b < 64 := Nat.or_lt_two_pow (n := 6) ha hb
end Go.Proofs.YthnhdfgonpbldaaGreatDoor
