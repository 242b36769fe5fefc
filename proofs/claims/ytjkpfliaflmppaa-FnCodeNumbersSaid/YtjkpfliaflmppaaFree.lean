/- Canonical codes: no code is ahead of a longer one. No condition. -/
import Derived.Test.YtjkpfliaflmppaaEn
import Derived.Test.YtjkpfliaflmppaaLi
namespace Go.Proofs.Ytjkpfliaflmppaa.Pc
open Go Go.Proofs.Ytjkpfliaflmppaa.Vm Go.Proofs.Ytjkpfliaflmppaa.Rev

theorem T_low (L d a : Nat) : T (d + L) a % 2 ^ L = T L (a / 2 ^ d) := by
  have e : a = a % 2 ^ d + 2 ^ d * (a / 2 ^ d) := (Nat.mod_add_div a (2 ^ d)).symm
  have h := T_add L d (a % 2 ^ d) (a / 2 ^ d) (Nat.mod_lt _ (Nat.two_pow_pos d))
  rw [← e] at h
  rw [h, Nat.add_comm, Nat.add_mul_mod_self_right]
  exact Nat.mod_eq_of_lt (T_lt L _)
theorem T_inj : ∀ (n a b : Nat), a < 2 ^ n → b < 2 ^ n → T n a = T n b → a = b
  | 0, a, b, h1, h2, _ => by simp at h1 h2; omega
  | n + 1, a, b, h1, h2, h => by
    have key : ∀ a, T (1 + n) a = (a % 2) * 2 ^ n + T n (a / 2) := by
      intro a
      have e : a = a % 2 ^ 1 + 2 ^ 1 * (a / 2 ^ 1) := (Nat.mod_add_div a (2 ^ 1)).symm
      have h := T_add n 1 (a % 2 ^ 1) (a / 2 ^ 1) (Nat.mod_lt _ (Nat.two_pow_pos 1))
      rw [← e] at h
      rw [h]
      simp [T]
    rw [Nat.add_comm n 1, key, key] at h
    have ta := T_lt n (a / 2)
    have tb := T_lt n (b / 2)
    have hp : 2 ^ (n + 1) = 2 * 2 ^ n := by rw [Nat.pow_succ, Nat.mul_comm]
    have ha : a % 2 < 2 := Nat.mod_lt _ (by omega)
    have hb : b % 2 < 2 := Nat.mod_lt _ (by omega)
    have hm : a % 2 = b % 2 ∧ T n (a / 2) = T n (b / 2) := by
      rcases Nat.lt_or_ge (a % 2) 1 with h3 | h3 <;> rcases Nat.lt_or_ge (b % 2) 1 with h4 | h4
      · rw [show a % 2 = 0 by omega, show b % 2 = 0 by omega] at h ⊢; omega
      · rw [show a % 2 = 0 by omega, show b % 2 = 1 by omega] at h; omega
      · rw [show a % 2 = 1 by omega, show b % 2 = 0 by omega] at h; omega
      · rw [show a % 2 = 1 by omega, show b % 2 = 1 by omega] at h ⊢; omega
    have := T_inj n (a / 2) (b / 2) (by omega) (by omega) hm.2
    omega

theorem st_up (l : List Cd) (n k : Nat) : 2 ^ (k + 1) * kr l n ≤ st l (n + k + 1) := by
  have h1 := kr_mono2 l n k
  have h2 := st_kr l (n + k)
  simp only [st]
  rw [h2, Nat.pow_succ, Nat.mul_comm (2 ^ k) 2, Nat.mul_assoc]
  omega

theorem val_bound (l : List Cd) (hw : whole l) (hlen : ∀ c ∈ l, 1 ≤ c.len ∧ c.len ≤ 20) (i : Nat) (hi : i < l.length) :
    st l (l.getD i Cd.zero).len + cntL (l.take i) (l.getD i Cd.zero).len < kr l (l.getD i Cd.zero).len ∧ kr l (l.getD i Cd.zero).len ≤ 2 ^ (l.getD i Cd.zero).len := by
  have h1 := cntL_take_lt l i hi
  have h2 := st_kr l (l.getD i Cd.zero).len
  have h3 := whole_fits l hw (l.getD i Cd.zero).len (hlen _ (getD_mem l i hi)).2
  omega

theorem canon_free (l : List Cd) (hw : whole l) (hlen : ∀ c ∈ l, 1 ≤ c.len ∧ c.len ≤ 20) (i j : Nat) (hi : i < l.length) (hj : j < l.length) (hij : (l.getD i Cd.zero).len < (l.getD j Cd.zero).len) :
    valAt l j % 2 ^ (l.getD i Cd.zero).len ≠ valAt l i := by
  obtain ⟨a1, a2⟩ := val_bound l hw hlen i hi
  obtain ⟨b1, b2⟩ := val_bound l hw hlen j hj
  intro h
  unfold valAt at h
  generalize (l.getD i Cd.zero).len = L at *
  generalize hLj : (l.getD j Cd.zero).len = L' at *
  generalize cntL (l.take i) L = ri at *
  generalize cntL (l.take j) L' = rj at *
  obtain ⟨d, rfl⟩ : ∃ d, L' = L + d + 1 := ⟨L' - L - 1, by omega⟩
  have hu := st_up l L d
  rw [show L + d + 1 = (d + 1) + L by omega, T_low] at h
  have hpow : 2 ^ (L + d + 1) = 2 ^ (d + 1) * 2 ^ L := by rw [← Nat.pow_add]; congr 1; omega
  have hge : kr l L ≤ (st l (L + d + 1) + rj) / 2 ^ (d + 1) := by
    rw [Nat.le_div_iff_mul_le (Nat.two_pow_pos _), Nat.mul_comm]
    omega
  have hlt : (st l (L + d + 1) + rj) / 2 ^ (d + 1) < 2 ^ L := by
    rw [Nat.div_lt_iff_lt_mul (Nat.two_pow_pos _), Nat.mul_comm (2 ^ L), ← hpow]
    omega
  have := T_inj L _ _ (by rw [show (d + 1) + L = L + d + 1 by omega] ; exact hlt) (by omega) h
  rw [show (d + 1) + L = L + d + 1 by omega] at this
  omega

theorem symAt0 : ∀ i, symAt 0 [] i = i
  | 0 => rfl
  | i + 1 => by simp [symAt, symAt0 i]
theorem pow_le20 {n : Nat} (h : n ≤ 20) : 2 ^ n ≤ 1048576 := Nat.pow_le_pow_right (n := 2) (by omega) h

/-- Canonical codes of handed lengths. -/
theorem canon_numbered (ls : List Nat) (hok : OkL ls) : Numbered (canon (linedL 0 [] ls)) ∧ (canon (linedL 0 [] ls)).length = ls.length ∧ ∀ i, i < ls.length → ((canon (linedL 0 [] ls)).getD i Cd.zero).len = ls.getD i 0 ∧
    ((canon (linedL 0 [] ls)).getD i Cd.zero).val < 2 ^ ls.getD i 0 := by
  have hL := linedL_length 0 [] ls
  have hlen : (canon (linedL 0 [] ls)).length = ls.length := by rw [canon_length, hL]
  have hget : ∀ i, i < ls.length → (canon (linedL 0 [] ls)).getD i Cd.zero = ⟨i, 0, ls.getD i 0, valAt (linedL 0 [] ls) i⟩ := by
    intro i hi
    rw [canon_get _ i (by rw [hL]; exact hi), linedL_get 0 [] ls i hi, symAt0]
  have hv : ∀ i, i < ls.length → valAt (linedL 0 [] ls) i < 2 ^ ls.getD i 0 := by
    intro i hi
    unfold valAt
    rw [linedL_get 0 [] ls i hi]
    exact T_lt _ _
  obtain ⟨o1, o2, o3⟩ := hok
  refine ⟨⟨by rw [hlen]; exact o1, by rw [hlen]; exact o2, ?_, ?_, ?_⟩, hlen, ?_⟩
  · intro i hi; rw [hlen] at hi; rw [hget i hi]
  · intro i hi; rw [hlen] at hi; rw [hget i hi]; exact o3 i hi
  · intro i hi
    rw [hlen] at hi
    rw [hget i hi]
    have := hv i hi
    have := pow_le20 (o3 i hi).2
    simp only
    omega
  · intro i hi; rw [hget i hi]; exact ⟨rfl, hv i hi⟩
theorem canon_free' (ls : List Nat) (hok : OkL ls) (hw : whole (linedL 0 [] ls)) (i j : Nat) (hi : i < ls.length) (hj : j < ls.length) (hij : ls.getD i 0 < ls.getD j 0) :
    ((canon (linedL 0 [] ls)).getD j Cd.zero).val % 2 ^ ls.getD i 0 ≠ ((canon (linedL 0 [] ls)).getD i Cd.zero).val := by
  have hL := linedL_length 0 [] ls
  have hG := lined_good 0 [] ls (by omega) (by simp) hok
  have h := canon_free (linedL 0 [] ls) hw hG.len i j (by rw [hL]; exact hi) (by rw [hL]; exact hj)
  rw [canon_get _ i (by rw [hL]; exact hi), canon_get _ j (by rw [hL]; exact hj)]
  rw [linedL_get 0 [] ls i hi, linedL_get 0 [] ls j hj] at h ⊢
  exact h hij
end Go.Proofs.Ytjkpfliaflmppaa.Pc
