/- Numbers with their bits turned round. No condition. -/
import Derived.Test.YtjkpfliaflmppaaTb
namespace Go.Proofs.Ytjkpfliaflmppaa.Rev

/-- The lowest n bits of v, the first one last. -/
def T : Nat → Nat → Nat
  | 0, _ => 0
  | n + 1, v => 2 * T n v + v / 2 ^ n % 2

theorem T_lt : ∀ (n v : Nat), T n v < 2 ^ n
  | 0, v => by simp [T]
  | n + 1, v => by
    have := T_lt n v
    have h : v / 2 ^ n % 2 < 2 := Nat.mod_lt _ (by omega)
    simp only [T, Nat.pow_succ]; omega

theorem T_mod : ∀ (n m v : Nat), n ≤ m → T n (v % 2 ^ m) = T n v
  | 0, _, _, _ => rfl
  | n + 1, m, v, h => by
    simp only [T, T_mod n m v (by omega)]
    congr 1
    have h1 : v % 2 ^ m / 2 ^ n % 2 = v / 2 ^ n % 2 := by
      have h2 : 2 ^ m = 2 ^ n * (2 * 2 ^ (m - n - 1)) := by rw [← Nat.pow_succ', ← Nat.pow_add]; congr 1; omega
      rw [h2, Nat.mod_mul_right_div_self, Nat.mod_mul_right_mod]
    exact h1

/-- A number of m bits with b above it. -/
theorem T_add : ∀ (n m a b : Nat), a < 2 ^ m → T (m + n) (a + 2 ^ m * b) = T m a * 2 ^ n + T n b
  | 0, m, a, b, h => by
    have : T m (a + 2 ^ m * b) = T m a := by
      rw [← T_mod m m (a + 2 ^ m * b) (Nat.le_refl _)]
      rw [Nat.add_mul_mod_self_left, T_mod _ _ _ (Nat.le_refl _)]
    simp [T, this]
  | n + 1, m, a, b, h => by
    have h1 := T_add n m a b h
    have h2 : (a + 2 ^ m * b) / 2 ^ (m + n) % 2 = b / 2 ^ n % 2 := by
      rw [Nat.pow_add, ← Nat.div_div_eq_div_mul, Nat.add_mul_div_left _ _ (Nat.two_pow_pos m), Nat.div_eq_of_lt h, Nat.zero_add]
    rw [← Nat.add_assoc]
    simp only [T, h1, h2, Nat.pow_succ]
    rw [Nat.mul_add, ← Nat.mul_assoc, Nat.mul_comm 2 (T m a), Nat.mul_assoc, Nat.mul_comm 2 (2 ^ n), Nat.add_assoc]

theorem T_zero : ∀ n, T n 0 = 0
  | 0 => rfl
  | n + 1 => by simp [T, T_zero n]

/-- Moved up, a number is turned as a longer one. -/
theorem T_shift (n k v : Nat) : T (k + n) (v * 2 ^ k) = T n v := by
  have := T_add n k 0 v (Nat.two_pow_pos k)
  rw [T_zero, Nat.zero_mul, Nat.zero_add, Nat.zero_add, Nat.mul_comm] at this
  exact this

/-- Four bytes, each turned, in the other order. -/
theorem T_bytes (x : Nat) (h : x < 2 ^ 32) : T 32 x = T 8 (x % 256) * 2 ^ 24 + T 8 (x / 256 % 256) * 2 ^ 16 + T 8 (x / 65536 % 256) * 2 ^ 8 + T 8 (x / 16777216 % 256) := by
  have e1 : x = x % 256 + 2 ^ 8 * (x / 256) := by omega
  have e2 : x / 256 = x / 256 % 256 + 2 ^ 8 * (x / 65536) := by omega
  have e3 : x / 65536 = x / 65536 % 256 + 2 ^ 8 * (x / 16777216) := by omega
  have e4 : x / 16777216 = x / 16777216 % 256 := by omega
  have a1 := T_add 24 8 (x % 256) (x / 256) (by omega)
  have a2 := T_add 16 8 (x / 256 % 256) (x / 65536) (by omega)
  have a3 := T_add 8 8 (x / 65536 % 256) (x / 16777216) (by omega)
  rw [← e1] at a1
  rw [← e2] at a2
  rw [← e3] at a3
  rw [a1, a2, a3, ← e4]
  omega

theorem or_add (a b i : Nat) (h : b < 2 ^ i) : a * 2 ^ i ||| b = a * 2 ^ i + b := by
  rw [Nat.mul_comm, ← Nat.two_pow_add_eq_or_of_lt h]

theorem or4 (a b c d : Nat) (ha : a < 256) (hb : b < 256) (hc : c < 256) (hd : d < 256) :
    (((0 ||| a * 2 ^ 24 % 2 ^ 32) ||| b * 2 ^ 16 % 2 ^ 32) ||| c * 2 ^ 8 % 2 ^ 32) ||| d * 2 ^ 0 % 2 ^ 32 = a * 2 ^ 24 + b * 2 ^ 16 + c * 2 ^ 8 + d := by
  have h1 : a * 2 ^ 24 % 2 ^ 32 = a * 2 ^ 24 := Nat.mod_eq_of_lt (by omega)
  have h2 : b * 2 ^ 16 % 2 ^ 32 = b * 2 ^ 16 := Nat.mod_eq_of_lt (by omega)
  have h3 : c * 2 ^ 8 % 2 ^ 32 = c * 2 ^ 8 := Nat.mod_eq_of_lt (by omega)
  have h4 : d * 2 ^ 0 % 2 ^ 32 = d := by rw [Nat.pow_zero, Nat.mul_one]; exact Nat.mod_eq_of_lt (by omega)
  have g1 : a * 2 ^ 24 ||| b * 2 ^ 16 = (a * 2 ^ 8 + b) * 2 ^ 16 := (or_add a (b * 2 ^ 16) 24 (by omega)).trans (by omega)
  have g2 : (a * 2 ^ 8 + b) * 2 ^ 16 ||| c * 2 ^ 8 = ((a * 2 ^ 8 + b) * 2 ^ 8 + c) * 2 ^ 8 := (or_add _ (c * 2 ^ 8) 16 (by omega)).trans (by omega)
  have g3 : ((a * 2 ^ 8 + b) * 2 ^ 8 + c) * 2 ^ 8 ||| d = a * 2 ^ 24 + b * 2 ^ 16 + c * 2 ^ 8 + d := (or_add _ d 8 (by omega)).trans (by omega)
  rw [h1, h2, h3, h4, Nat.zero_or, g1, g2, g3]
end Go.Proofs.Ytjkpfliaflmppaa.Rev
