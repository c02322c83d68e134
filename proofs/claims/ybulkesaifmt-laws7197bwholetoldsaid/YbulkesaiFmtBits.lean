/- THE PLAIN MATHEMATICS: bits of a row of bytes, the most significant first; a field of n bits as a number. No Go in sight. -/
import Derived.KernelRfl
namespace Go.Proofs.YbulkesaiFmt

/-- Bit p of the row Z of bytes. -/
def bit (Z : Nat → Nat) (p : Nat) : Nat := Z (p / 8) / 2 ^ (7 - p % 8) % 2
/-- The n bits from p on, as a number. -/
def fld (Z : Nat → Nat) (p : Nat) : Nat → Nat
  | 0 => 0
  | n + 1 => 2 * fld Z p n + bit Z (p + n)
theorem bit_lt (Z : Nat → Nat) (p : Nat) : bit Z p < 2 := by unfold bit; omega
theorem fld_lt (Z : Nat → Nat) (p n : Nat) : fld Z p n < 2 ^ n := by
  induction n with
  | zero => simp [fld]
  | succ n ih => have := bit_lt Z (p + n); simp only [fld, Nat.pow_succ]; omega
theorem fld_add (Z : Nat → Nat) (p a b : Nat) : fld Z p (a + b) = fld Z p a * 2 ^ b + fld Z (p + a) b := by
  induction b with
  | zero => simp [fld]
  | succ b ih =>
    rw [← Nat.add_assoc]
    simp only [fld, ih, Nat.pow_succ]
    rw [Nat.add_assoc p a b, Nat.mul_add, ← Nat.mul_assoc (fld Z p a), Nat.mul_comm (fld Z p a * 2 ^ b) 2]
    omega
theorem fld_one (Z : Nat → Nat) (p : Nat) : fld Z p 1 = bit Z p := by simp [fld]
theorem bit_at (Z : Nat → Nat) (i j : Nat) (hj : j < 8) : bit Z (8 * i + j) = Z i / 2 ^ (7 - j) % 2 := by
  unfold bit
  rw [show (8 * i + j) / 8 = i from by omega, show (8 * i + j) % 8 = j from by omega]
theorem fld_byte (Z : Nat → Nat) (i : Nat) (h : Z i < 256) : fld Z (8 * i) 8 = Z i := by
  simp only [fld, bit_at Z i 0 (by omega), bit_at Z i 1 (by omega), bit_at Z i 2 (by omega), bit_at Z i 3 (by omega), bit_at Z i 4 (by omega), bit_at Z i 5 (by omega), bit_at Z i 6 (by omega), bit_at Z i 7 (by omega)]
  simp only [Nat.reduceSub, Nat.reducePow]
  omega
theorem fld_next (Z : Nat → Nat) (i k : Nat) (h : Z (i + k) < 256) : fld Z (8 * i) (8 * (k + 1)) = fld Z (8 * i) (8 * k) * 256 + Z (i + k) := by
  rw [Nat.mul_succ, fld_add, show 8 * i + 8 * k = 8 * (i + k) from by omega, fld_byte Z (i + k) h]
theorem fld_64 (Z : Nat → Nat) (i : Nat) (h : ∀ j, Z j < 256) :
    fld Z (8 * i) 64 = Z (i + 7) + Z (i + 6) * 256 + Z (i + 5) * 65536 + Z (i + 4) * 16777216 + Z (i + 3) * 4294967296 + Z (i + 2) * 1099511627776 + Z (i + 1) * 281474976710656 + Z i * 72057594037927936 := by
  have e0 : fld Z (8 * i) 8 = Z i := fld_byte Z i (h _)
  have e1 : fld Z (8 * i) 16 = fld Z (8 * i) 8 * 256 + Z (i + 1) := fld_next Z i 1 (h _)
  have e2 : fld Z (8 * i) 24 = fld Z (8 * i) 16 * 256 + Z (i + 2) := fld_next Z i 2 (h _)
  have e3 : fld Z (8 * i) 32 = fld Z (8 * i) 24 * 256 + Z (i + 3) := fld_next Z i 3 (h _)
  have e4 : fld Z (8 * i) 40 = fld Z (8 * i) 32 * 256 + Z (i + 4) := fld_next Z i 4 (h _)
  have e5 : fld Z (8 * i) 48 = fld Z (8 * i) 40 * 256 + Z (i + 5) := fld_next Z i 5 (h _)
  have e6 : fld Z (8 * i) 56 = fld Z (8 * i) 48 * 256 + Z (i + 6) := fld_next Z i 6 (h _)
  have e7 : fld Z (8 * i) 64 = fld Z (8 * i) 56 * 256 + Z (i + 7) := fld_next Z i 7 (h _)
  rw [e7, e6, e5, e4, e3, e2, e1, e0]
  clear e0 e1 e2 e3 e4 e5 e6 e7 h
  omega
/-- OUT OF A WORD: s bits ahead of the field, r behind it. -/
theorem fld_cut (Z : Nat → Nat) (q s n r : Nat) : fld Z q (s + n + r) / 2 ^ r % 2 ^ n = fld Z (q + s) n := by
  rw [fld_add, fld_add]
  have h1 := fld_lt Z (q + (s + n)) r
  have h2 := fld_lt Z (q + s) n
  have hp : 0 < 2 ^ r := Nat.pos_of_ne_zero (by simp)
  rw [Nat.mul_comm _ (2 ^ r), Nat.mul_add_div hp, Nat.div_eq_of_lt h1, Nat.add_zero, Nat.mul_comm, Nat.mul_add_mod, Nat.mod_eq_of_lt h2]
/-- THE SAME BY TWO SHIFTS in a word of 64 bits. -/
theorem fld_shifts (Z : Nat → Nat) (q s n : Nat) (h : s + n ≤ 64) : fld Z q 64 * 2 ^ s % 2 ^ 64 / 2 ^ (64 - n) = fld Z (q + s) n := by
  obtain ⟨r, hr⟩ : ∃ r, 64 = s + n + r := ⟨64 - (s + n), by omega⟩
  have e0 : fld Z q 64 = (fld Z q s * 2 ^ n + fld Z (q + s) n) * 2 ^ r + fld Z (q + (s + n)) r := by
    rw [show fld Z q 64 = fld Z q (s + n + r) from by rw [← hr], fld_add, fld_add]
  have h1 := fld_lt Z (q + (s + n)) r
  have h2 := fld_lt Z (q + s) n
  generalize fld Z q s = A at *
  generalize fld Z (q + s) n = F at *
  generalize fld Z (q + (s + n)) r = C at *
  rw [e0]
  have e1 : ((A * 2 ^ n + F) * 2 ^ r + C) * 2 ^ s = A * 2 ^ 64 + (F * 2 ^ r + C) * 2 ^ s := by
    have e2 : A * 2 ^ n * 2 ^ r * 2 ^ s = A * 2 ^ 64 := by
      rw [Nat.mul_assoc, Nat.mul_assoc, ← Nat.pow_add, ← Nat.pow_add, show n + (r + s) = 64 from by omega]
    rw [Nat.add_mul, Nat.add_mul, Nat.add_mul, Nat.add_mul, e2]
    omega
  have h3 : F * 2 ^ r + C < 2 ^ (n + r) := by
    rw [Nat.pow_add]
    have : F * 2 ^ r + 2 ^ r ≤ 2 ^ n * 2 ^ r := by
      have := Nat.mul_le_mul_right (2 ^ r) (show F + 1 ≤ 2 ^ n from h2)
      rw [Nat.add_mul, Nat.one_mul] at this
      exact this
    omega
  have hs : 0 < 2 ^ s := Nat.pos_of_ne_zero (by simp)
  have hrp : 0 < 2 ^ r := Nat.pos_of_ne_zero (by simp)
  have h4 : (F * 2 ^ r + C) * 2 ^ s < 2 ^ 64 := by
    rw [show (64 : Nat) = n + r + s from by omega, Nat.pow_add 2 (n + r) s]
    exact Nat.mul_lt_mul_of_pos_right h3 hs
  rw [e1, Nat.add_comm, Nat.add_mul_mod_self_right, Nat.mod_eq_of_lt h4, show 64 - n = s + r from by omega, Nat.pow_add, ← Nat.div_div_eq_div_mul, Nat.mul_div_cancel _ hs, Nat.mul_comm F, Nat.mul_add_div hrp, Nat.div_eq_of_lt h1, Nat.add_zero]
/-- One bit out of a field. -/
theorem fld_bit (Z : Nat → Nat) (p n i : Nat) (h : i < n) : fld Z p n / 2 ^ (n - 1 - i) % 2 = bit Z (p + i) := by
  have := fld_cut Z p i 1 (n - 1 - i)
  rw [show i + 1 + (n - 1 - i) = n from by omega, fld_one] at this
  simpa using this
theorem fld_head (Z : Nat → Nat) (p n : Nat) : fld Z p (1 + n) / 2 ^ n = bit Z p ∧ fld Z p (1 + n) % 2 ^ n = fld Z (p + 1) n := by
  rw [fld_add, fld_one]
  have h2 := fld_lt Z (p + 1) n
  have hp : 0 < 2 ^ n := Nat.pos_of_ne_zero (by simp)
  constructor
  · rw [Nat.mul_comm, Nat.mul_add_div hp, Nat.div_eq_of_lt h2, Nat.add_zero]
  · rw [Nat.mul_comm, Nat.mul_add_mod, Nat.mod_eq_of_lt h2]
end Go.Proofs.YbulkesaiFmt
