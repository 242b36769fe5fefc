/- Numbers of lengths counted, and given back from behind. No condition. Numbers with their bits turned round. No condition. The functions that turn bits round, walked: for every byte; for every number of 32 bits; for every number of n bits, n from 1 to 32. Codes by their lengths: how many there are of each, where the values of each length begin, what it is to leave nothing over. No condition. -/
import Derived.Test.YtjkpfliaflmppaaW9x12
import Derived.Test.YtjkpfliaflmppaaW9x04
import Derived.Test.YtjkpfliaflmppaaW9x03
import Derived.Test.YtjkpfliaflmppaaW9x10

namespace Go.Proofs.Ytjkpfliaflmppaa.Hu
open Go Go.RowKit Go.Proofs.Ytjkpfliaflmppaa.Vm Go.Proofs.Ytjkpfliaflmppaa.Pc

theorem smZ_le {g : Nat → Int} {m : Nat} : ∀ {m' : Nat}, (∀ j, j < m' → 0 ≤ g j) → m ≤ m' → smZ g m ≤ smZ g m'
  | 0, _, h => by rw [show m = 0 by omega]; exact Int.le_refl _
  | m' + 1, h0, h => by
    by_cases e : m = m' + 1
    · rw [e]; exact Int.le_refl _
    · have h1 := smZ_le (m := m) (m' := m') (fun j hj => h0 j (by omega)) (by omega)
      have h2 := h0 m' (by omega)
      simp only [smZ]
      omega
/-- How many of the first x have length j. -/
def cntT (l : Nat → Nat) : Nat → Nat → Int
  | 0, _ => 0
  | x + 1, j => cntT l x j + if j = l x then 1 else 0
theorem cntT_zero {l : Nat → Nat} {j : Nat} : ∀ x, (∀ y, y < x → l y ≠ j) → cntT l x j = 0
  | 0, _ => rfl
  | x + 1, h => by
    show cntT l x j + _ = 0
    rw [cntT_zero x fun y hy => h y (by omega), if_neg fun e => h x (by omega) e.symm]; rfl
theorem cntT_pos (l : Nat → Nat) (j : Nat) : ∀ x, 0 ≤ cntT l x j ∧ cntT l x j ≤ x
  | 0 => ⟨Int.le_refl _, Int.le_refl _⟩
  | x + 1 => by
    have := cntT_pos l j x
    show 0 ≤ cntT l x j + _ ∧ cntT l x j + _ ≤ _
    split <;> omega
theorem cntT_sum (l : Nat → Nat) (w : Nat → Int) (L : Nat) : ∀ x, (∀ y, y < x → l y < L) → smZ (fun j => cntT l x j * w j) L = smZ (fun y => w (l y)) x
  | 0, _ => smZ_zero L fun j _ => Int.zero_mul _
  | x + 1, h => by
    have ih := cntT_sum l w L x fun y hy => h y (by omega)
    have e : ∀ j, j < L → cntT l (x + 1) j * w j = cntT l x j * w j + (if j = l x then w (l x) else 0) := by
      intro j _
      show (cntT l x j + _) * w j = _
      by_cases ej : j = l x
      · rw [if_pos ej, if_pos ej, Int.add_mul, Int.one_mul, ← ej]
      · rw [if_neg ej, if_neg ej, Int.add_zero, Int.add_zero]
    rw [smZ_congr L e, smZ_add, ih, smZ_one, if_pos (h x (by omega))]
    rfl
theorem sm_smZ (g : Nat → Nat) : ∀ n, ((sm g 0 n : Nat) : Int) = smZ (fun x => (g x : Int)) n
  | 0 => rfl
  | n + 1 => by rw [sm_last (Nat.zero_le n), Int.natCast_add, sm_smZ g n]; rfl
/-- Counted so far. -/
structure Cnted (l : Nat → Nat) (x : Nat) (h : List Int) : Prop where
  val : ∀ j, j < h.length → h.getD j 0 = cntT l x j
  lt : ∀ y, y < x → l y < h.length
theorem Cnted.more {l : Nat → Nat} {x : Nat} {h : List Int} (hc : Cnted l x h) : Cnted l x (h ++ [0]) := by
  refine ⟨fun j hj => ?_, fun y hy => by rw [List.length_append]; have := hc.lt y hy; omega⟩
  rw [List.length_append, List.length_singleton] at hj
  rw [List.getD_eq_getElem?_getD]
  by_cases e : j < h.length
  · rw [List.getElem?_append_left e, ← List.getD_eq_getElem?_getD]; exact hc.val j e
  · obtain rfl : j = h.length := by omega
    rw [List.getElem?_append_right (Nat.le_refl _), Nat.sub_self, cntT_zero x fun y hy e => by have := hc.lt y hy; omega]
    rfl
theorem Cnted.add {l : Nat → Nat} {x : Nat} {h : List Int} (hc : Cnted l x h) (hx : l x < h.length) : Cnted l (x + 1) (h.set (l x) (h.getD (l x) 0 + 1)) := by
  refine ⟨fun j hj => ?_, fun y hy => ?_⟩
  · rw [List.length_set] at hj
    rw [set_getD]
    show _ = cntT l x j + _
    by_cases e : l x = j
    · rw [if_pos ⟨e, hx⟩, if_pos e.symm, e, hc.val j hj]
    · rw [if_neg (fun h => e h.1), if_neg (fun h => e h.symm), hc.val j hj, Int.add_zero]
  · rw [List.length_set]
    by_cases e : y = x
    · subst e; exact hx
    · exact hc.lt y (by omega)
theorem Cnted.done {l : Nat → Nat} {n L : Nat} {h : List Int} (hc : Cnted l n h) (hL : h.length = L) (hl : ∀ x, x < n → 1 ≤ l x) (hk : sm (fun x => 2 ^ (64 - l x)) 0 n = 2 ^ 64) (hL0 : 0 < L) : Hs L n (L - 1) h := by
  have hlt : ∀ y, y < n → l y < L := fun y hy => by rw [← hL]; exact hc.lt y hy
  refine ⟨hL, fun j hj => by rw [hc.val j (by omega)]; exact (cntT_pos l j n).1, ?_, fun j h1 h2 => by omega, ?_, ?_⟩
  · rw [hc.val 0 (by omega)]
    exact cntT_zero n fun y hy e => by have := hl y hy; omega
  · rw [smZ_congr L (g' := fun j => cntT l n j * 1) fun j hj => by rw [hc.val j (by omega), Int.mul_one], cntT_sum l (fun _ => 1) L n hlt]
    have : ∀ m : Nat, smZ (fun _ => 1) m = m := fun m => by
      induction m with
      | zero => rfl
      | succ m ih => simp only [smZ]; rw [ih]; rfl
    exact this n
  · rw [smZ_congr L (g' := fun j => cntT l n j * 2 ^ (64 - j)) fun j hj => by rw [hc.val j (by omega)], cntT_sum l (fun j => 2 ^ (64 - j)) L n hlt]
    have := sm_smZ (fun x => 2 ^ (64 - l x)) n
    rw [hk] at this
    rw [smZ_congr n (g' := fun x => ((2 ^ (64 - l x) : Nat) : Int)) fun x _ => by simp, ← this]
    simp

/-! ### Lengths given from behind -/
/-- Given so far: codes from p on have lengths below nb, as many as told. -/
structure Gave (h : List Int) (n nb p : Nat) (l : Nat → Nat) : Prop where
  pn : p ≤ n
  num : (n : Int) - p = smZ (fun j => h.getD j 0) nb
  lt : ∀ x, p ≤ x → x < n → 1 ≤ l x ∧ l x < nb
  mono : ∀ x y, p ≤ x → x ≤ y → y < n → l y ≤ l x
  sum : smZ (fun x => if p ≤ x then 2 ^ (64 - l x) else 0) n = smZ (fun j => h.getD j 0 * 2 ^ (64 - j)) nb
theorem Gave.start (h : List Int) (n : Nat) (l : Nat → Nat) : Gave h n 0 n l :=
  ⟨Nat.le_refl _, by simp [smZ], fun x h1 h2 => by omega, fun x y h1 h2 h3 => by omega, by rw [smZ_zero n fun x hx => if_neg (by omega)]; rfl⟩
theorem smZ_part (l : Nat → Nat) (nb : Nat) {p q : Nat} (hpq : p ≤ q) (hl : ∀ x, p ≤ x → x < q → l x = nb) : ∀ m, q ≤ m → smZ (fun x => if p ≤ x then (2 : Int) ^ (64 - l x) else 0) m = smZ (fun x => if q ≤ x then (2 : Int) ^ (64 - l x) else 0) m + (q - p : Int) * 2 ^ (64 - nb) := by
  have hq : ∀ m, m ≤ q → smZ (fun x => if p ≤ x then (2 : Int) ^ (64 - l x) else 0) m = (if p ≤ m then (m - p : Int) * 2 ^ (64 - nb) else 0) := by
    intro m
    induction m with
    | zero =>
      intro _
      by_cases e : p ≤ 0
      · rw [if_pos e, show p = 0 by omega]; simp [smZ]
      · rw [if_neg e]; rfl
    | succ m ih =>
      intro hm
      simp only [smZ]
      rw [ih (by omega)]
      by_cases e : p ≤ m
      · rw [if_pos e, if_pos e, if_pos (by omega), hl m e (by omega), show ((m + 1 : Nat) : Int) - p = (m - p) + 1 by omega, Int.add_mul, Int.one_mul]
      · rw [if_neg e, if_neg e]
        by_cases e2 : p ≤ m + 1
        · rw [if_pos e2, show ((m + 1 : Nat) : Int) - p = 0 by omega, Int.zero_mul]; rfl
        · rw [if_neg e2]; rfl
  intro m
  induction m with
  | zero => intro h; rw [hq 0 (by omega), if_pos (by omega), show q = 0 by omega]; simp [smZ]
  | succ m ih =>
    intro h
    by_cases e : q = m + 1
    · rw [hq (m + 1) (by omega), if_pos (by omega), smZ_zero (m + 1) fun x hx => if_neg (by omega), e]; simp
    · have := ih (by omega)
      simp only [smZ]
      rw [this, if_pos (by omega), if_pos (by omega)]
      omega
theorem Gave.next {h : List Int} {n nb p c : Nat} {l l' : Nat → Nat} (hg : Gave h n nb p l) (hz : nb = 0 → c = 0) (hc : h.getD nb 0 = c) (hcp : c ≤ p) (h1 : ∀ x, p - c ≤ x → x < p → l' x = nb) (h2 : ∀ x, p ≤ x → x < n → l' x = l x) : Gave h n (nb + 1) (p - c) l' := by
  obtain ⟨g1, g2, g3, g4, g5⟩ := hg
  refine ⟨by omega, ?_, fun x q1 q2 => ?_, fun x y q1 q2 q3 => ?_, ?_⟩
  · simp only [smZ]
    rw [← g2, hc]
    omega
  · by_cases e : x < p
    · rw [h1 x q1 e]; omega
    · rw [h2 x (by omega) q2]; have := g3 x (by omega) q2; omega
  · by_cases ey : y < p
    · rw [h1 y (by omega) ey, h1 x q1 (by omega)]; exact Nat.le_refl _
    · by_cases ex : x < p
      · rw [h1 x q1 ex, h2 y (by omega) q3]; have := g3 y (by omega) q3; omega
      · rw [h2 x (by omega) (by omega), h2 y (by omega) q3]; exact g4 x y (by omega) q2 q3
  · rw [smZ_part l' nb (show p - c ≤ p by omega) h1 n g1]
    simp only [smZ]
    rw [← g5, hc, smZ_congr n (g := fun x => if p ≤ x then (2 : Int) ^ (64 - l' x) else 0) (g' := fun x => if p ≤ x then (2 : Int) ^ (64 - l x) else 0) fun x hx => by
      by_cases e : p ≤ x
      · rw [if_pos e, if_pos e, h2 x e hx]
      · rw [if_neg e, if_neg e], show ((p : Int) - (p - c : Nat)) = c by omega]
/-- All are given. -/
theorem Gave.done {L n mb : Nat} {h : List Int} {p : Nat} {l : Nat → Nat} (hg : Gave h n L p l) (hs : Hs L n mb h) : p = 0 ∧ sm (fun x => 2 ^ (64 - l x)) 0 n = 2 ^ 64 := by
  have h1 := hg.num
  rw [hs.cnt] at h1
  have hp : p = 0 := by have := hg.pn; omega
  refine ⟨hp, ?_⟩
  have h2 := hg.sum
  rw [hs.kra, smZ_congr n (g' := fun x => ((2 ^ (64 - l x) : Nat) : Int)) fun x _ => by rw [if_pos (by omega)]; simp, ← sm_smZ (fun x => 2 ^ (64 - l x)) n] at h2
  have : ((2 ^ 64 : Nat) : Int) = 2 ^ 64 := by simp
  omega
end Go.Proofs.Ytjkpfliaflmppaa.Hu

namespace Go.Proofs.Ytjkpfliaflmppaa.Rev

/-- The lowest n bits of v, the first one last. -/
def T : Nat → Nat → Nat
  | 0, _ => 0
  | n + 1, v => 2 * T n v + v / 2 ^ n % 2

theorem T_lt : ∀ (n v : Nat), T n v < 2 ^ n
  | 0, v => by simp [T]
  | n + 1, v => by
    have := T_lt n v
    have h : v / 2 ^ n % 2 < 2 := Nat.mod_lt _ (by omega)
    simp only [T, Nat.pow_succ]; omega

theorem T_mod : ∀ (n m v : Nat), n ≤ m → T n (v % 2 ^ m) = T n v
  | 0, _, _, _ => rfl
  | n + 1, m, v, h => by
    simp only [T, T_mod n m v (by omega)]
    congr 1
    have h1 : v % 2 ^ m / 2 ^ n % 2 = v / 2 ^ n % 2 := by
      have h2 : 2 ^ m = 2 ^ n * (2 * 2 ^ (m - n - 1)) := by rw [← Nat.pow_succ', ← Nat.pow_add]; congr 1; omega
      rw [h2, Nat.mod_mul_right_div_self, Nat.mod_mul_right_mod]
    exact h1

/-- A number of m bits with b above it. -/
theorem T_add : ∀ (n m a b : Nat), a < 2 ^ m → T (m + n) (a + 2 ^ m * b) = T m a * 2 ^ n + T n b
  | 0, m, a, b, h => by
    have : T m (a + 2 ^ m * b) = T m a := by
      rw [← T_mod m m (a + 2 ^ m * b) (Nat.le_refl _)]
      rw [Nat.add_mul_mod_self_left, T_mod _ _ _ (Nat.le_refl _)]
    simp [T, this]
  | n + 1, m, a, b, h => by
    have h1 := T_add n m a b h
    have h2 : (a + 2 ^ m * b) / 2 ^ (m + n) % 2 = b / 2 ^ n % 2 := by
      rw [Nat.pow_add, ← Nat.div_div_eq_div_mul, Nat.add_mul_div_left _ _ (Nat.two_pow_pos m), Nat.div_eq_of_lt h, Nat.zero_add]
    rw [← Nat.add_assoc]
    simp only [T, h1, h2, Nat.pow_succ]
    rw [Nat.mul_add, ← Nat.mul_assoc, Nat.mul_comm 2 (T m a), Nat.mul_assoc, Nat.mul_comm 2 (2 ^ n), Nat.add_assoc]

theorem T_zero : ∀ n, T n 0 = 0
  | 0 => rfl
  | n + 1 => by simp [T, T_zero n]

/-- Moved up, a number is turned as a longer one. -/
theorem T_shift (n k v : Nat) : T (k + n) (v * 2 ^ k) = T n v := by
  have := T_add n k 0 v (Nat.two_pow_pos k)
  rw [T_zero, Nat.zero_mul, Nat.zero_add, Nat.zero_add, Nat.mul_comm] at this
  exact this

/-- Four bytes, each turned, in the other order. -/
theorem T_bytes (x : Nat) (h : x < 2 ^ 32) : T 32 x = T 8 (x % 256) * 2 ^ 24 + T 8 (x / 256 % 256) * 2 ^ 16 + T 8 (x / 65536 % 256) * 2 ^ 8 + T 8 (x / 16777216 % 256) := by
  have e1 : x = x % 256 + 2 ^ 8 * (x / 256) := by omega
  have e2 : x / 256 = x / 256 % 256 + 2 ^ 8 * (x / 65536) := by omega
  have e3 : x / 65536 = x / 65536 % 256 + 2 ^ 8 * (x / 16777216) := by omega
  have e4 : x / 16777216 = x / 16777216 % 256 := by omega
  have a1 := T_add 24 8 (x % 256) (x / 256) (by omega)
  have a2 := T_add 16 8 (x / 256 % 256) (x / 65536) (by omega)
  have a3 := T_add 8 8 (x / 65536 % 256) (x / 16777216) (by omega)
  rw [← e1] at a1
  rw [← e2] at a2
  rw [← e3] at a3
  rw [a1, a2, a3, ← e4]
  omega

theorem or_add (a b i : Nat) (h : b < 2 ^ i) : a * 2 ^ i ||| b = a * 2 ^ i + b := by
  rw [Nat.mul_comm, ← Nat.two_pow_add_eq_or_of_lt h]

theorem or4 (a b c d : Nat) (ha : a < 256) (hb : b < 256) (hc : c < 256) (hd : d < 256) :
    (((0 ||| a * 2 ^ 24 % 2 ^ 32) ||| b * 2 ^ 16 % 2 ^ 32) ||| c * 2 ^ 8 % 2 ^ 32) ||| d * 2 ^ 0 % 2 ^ 32 = a * 2 ^ 24 + b * 2 ^ 16 + c * 2 ^ 8 + d := by
  have h1 : a * 2 ^ 24 % 2 ^ 32 = a * 2 ^ 24 := Nat.mod_eq_of_lt (by omega)
  have h2 : b * 2 ^ 16 % 2 ^ 32 = b * 2 ^ 16 := Nat.mod_eq_of_lt (by omega)
  have h3 : c * 2 ^ 8 % 2 ^ 32 = c * 2 ^ 8 := Nat.mod_eq_of_lt (by omega)
  have h4 : d * 2 ^ 0 % 2 ^ 32 = d := by rw [Nat.pow_zero, Nat.mul_one]; exact Nat.mod_eq_of_lt (by omega)
  have g1 : a * 2 ^ 24 ||| b * 2 ^ 16 = (a * 2 ^ 8 + b) * 2 ^ 16 := (or_add a (b * 2 ^ 16) 24 (by omega)).trans (by omega)
  have g2 : (a * 2 ^ 8 + b) * 2 ^ 16 ||| c * 2 ^ 8 = ((a * 2 ^ 8 + b) * 2 ^ 8 + c) * 2 ^ 8 := (or_add _ (c * 2 ^ 8) 16 (by omega)).trans (by omega)
  have g3 : ((a * 2 ^ 8 + b) * 2 ^ 8 + c) * 2 ^ 8 ||| d = a * 2 ^ 24 + b * 2 ^ 16 + c * 2 ^ 8 + d := (or_add _ d 8 (by omega)).trans (by omega)
  rw [h1, h2, h3, h4, Nat.zero_or, g1, g2, g3]
end Go.Proofs.Ytjkpfliaflmppaa.Rev

namespace Go.Proofs.Ytjkpfliaflmppaa.Rv
open Go Go.RowKit Go.Proofs.Ytjkpfliaflmppaa.Vm Go.Proofs.Ytjkpfliaflmppaa.Rev

theorem lut_c (b : Nat) (hb : b < 256) (M : Mem) : HP Try.prog 109 #[.int .u8 b] M (.int .u8 (T 8 b : Nat)) := by
  refine HP.of (HC_of_W (fn := Try.f109) Try.func109 rfl rfl rfl rfl ?_)
  repeat' (first | (refine isO ?_; first | refine oo (Pc rfl) ?_ | refine oo (Pa rfl (by omega) (by omega)) ?_ | (refine ob rfl ?_ ?_ <;> intro hq <;> try (exfalso; omega)) | refine oo (Pi rfl (by omega)) ?_ | refine oo (Pl rfl) ?_ | refine oo (Px rfl rfl) ?_ | refine oo (Pj rfl (by omega) (by omega)) ?_ | refine oo (Pk rfl (by omega) (by omega)) ?_ | refine oo (Pf rfl) ?_ | refine oo (Pv rfl (by omega) (by omega)) ?_ | refine oo (Pn rfl) ?_ | refine oo (Pm rfl) ?_ | refine os rfl rfl ?_ | refine ot rfl (by omega) ?_ | refine O_nil ?_) | refine wo rfl ?_ | refine wc rfl ?_ | refine wg rfl ?_ | refine go rfl ?_ | refine gc rfl ?_ | refine gg rfl ?_)
  refine O_pure (P_bits rfl rfl rfl) trivial rfl ?_
  refine O_pure (P_shr rfl rfl (by decide)) trivial rfl ?_
  repeat' (first | (refine isO ?_; first | refine oo (Pc rfl) ?_ | refine oo (Pa rfl (by omega) (by omega)) ?_ | (refine ob rfl ?_ ?_ <;> intro hq <;> try (exfalso; omega)) | refine oo (Pi rfl (by omega)) ?_ | refine oo (Pl rfl) ?_ | refine oo (Px rfl rfl) ?_ | refine oo (Pj rfl (by omega) (by omega)) ?_ | refine oo (Pk rfl (by omega) (by omega)) ?_ | refine oo (Pf rfl) ?_ | refine oo (Pv rfl (by omega) (by omega)) ?_ | refine oo (Pn rfl) ?_ | refine oo (Pm rfl) ?_ | refine os rfl rfl ?_ | refine ot rfl (by omega) ?_ | refine O_nil ?_) | refine wo rfl ?_ | refine wc rfl ?_ | refine wg rfl ?_ | refine go rfl ?_ | refine gc rfl ?_ | refine gg rfl ?_)
  refine O_pure (P_bits rfl rfl rfl) trivial rfl ?_
  refine O_pure (P_shl rfl rfl (by decide)) trivial rfl ?_
  refine O_pure (P_bits rfl rfl rfl) trivial rfl ?_
  repeat' (first | (refine isO ?_; first | refine oo (Pc rfl) ?_ | refine oo (Pa rfl (by omega) (by omega)) ?_ | (refine ob rfl ?_ ?_ <;> intro hq <;> try (exfalso; omega)) | refine oo (Pi rfl (by omega)) ?_ | refine oo (Pl rfl) ?_ | refine oo (Px rfl rfl) ?_ | refine oo (Pj rfl (by omega) (by omega)) ?_ | refine oo (Pk rfl (by omega) (by omega)) ?_ | refine oo (Pf rfl) ?_ | refine oo (Pv rfl (by omega) (by omega)) ?_ | refine oo (Pn rfl) ?_ | refine oo (Pm rfl) ?_ | refine os rfl rfl ?_ | refine ot rfl (by omega) ?_ | refine O_nil ?_) | refine wo rfl ?_ | refine wc rfl ?_ | refine wg rfl ?_ | refine go rfl ?_ | refine gc rfl ?_ | refine gg rfl ?_)
  refine O_pure (P_bits rfl rfl rfl) trivial rfl ?_
  refine O_pure (P_shr rfl rfl (by decide)) trivial rfl ?_
  repeat' (first | (refine isO ?_; first | refine oo (Pc rfl) ?_ | refine oo (Pa rfl (by omega) (by omega)) ?_ | (refine ob rfl ?_ ?_ <;> intro hq <;> try (exfalso; omega)) | refine oo (Pi rfl (by omega)) ?_ | refine oo (Pl rfl) ?_ | refine oo (Px rfl rfl) ?_ | refine oo (Pj rfl (by omega) (by omega)) ?_ | refine oo (Pk rfl (by omega) (by omega)) ?_ | refine oo (Pf rfl) ?_ | refine oo (Pv rfl (by omega) (by omega)) ?_ | refine oo (Pn rfl) ?_ | refine oo (Pm rfl) ?_ | refine os rfl rfl ?_ | refine ot rfl (by omega) ?_ | refine O_nil ?_) | refine wo rfl ?_ | refine wc rfl ?_ | refine wg rfl ?_ | refine go rfl ?_ | refine gc rfl ?_ | refine gg rfl ?_)
  refine O_pure (P_bits rfl rfl rfl) trivial rfl ?_
  refine O_pure (P_shl rfl rfl (by decide)) trivial rfl ?_
  refine O_pure (P_bits rfl rfl rfl) trivial rfl ?_
  repeat' (first | (refine isO ?_; first | refine oo (Pc rfl) ?_ | refine oo (Pa rfl (by omega) (by omega)) ?_ | (refine ob rfl ?_ ?_ <;> intro hq <;> try (exfalso; omega)) | refine oo (Pi rfl (by omega)) ?_ | refine oo (Pl rfl) ?_ | refine oo (Px rfl rfl) ?_ | refine oo (Pj rfl (by omega) (by omega)) ?_ | refine oo (Pk rfl (by omega) (by omega)) ?_ | refine oo (Pf rfl) ?_ | refine oo (Pv rfl (by omega) (by omega)) ?_ | refine oo (Pn rfl) ?_ | refine oo (Pm rfl) ?_ | refine os rfl rfl ?_ | refine ot rfl (by omega) ?_ | refine O_nil ?_) | refine wo rfl ?_ | refine wc rfl ?_ | refine wg rfl ?_ | refine go rfl ?_ | refine gc rfl ?_ | refine gg rfl ?_)
  refine O_pure (P_bits rfl rfl rfl) trivial rfl ?_
  refine O_pure (P_shr rfl rfl (by decide)) trivial rfl ?_
  repeat' (first | (refine isO ?_; first | refine oo (Pc rfl) ?_ | refine oo (Pa rfl (by omega) (by omega)) ?_ | (refine ob rfl ?_ ?_ <;> intro hq <;> try (exfalso; omega)) | refine oo (Pi rfl (by omega)) ?_ | refine oo (Pl rfl) ?_ | refine oo (Px rfl rfl) ?_ | refine oo (Pj rfl (by omega) (by omega)) ?_ | refine oo (Pk rfl (by omega) (by omega)) ?_ | refine oo (Pf rfl) ?_ | refine oo (Pv rfl (by omega) (by omega)) ?_ | refine oo (Pn rfl) ?_ | refine oo (Pm rfl) ?_ | refine os rfl rfl ?_ | refine ot rfl (by omega) ?_ | refine O_nil ?_) | refine wo rfl ?_ | refine wc rfl ?_ | refine wg rfl ?_ | refine go rfl ?_ | refine gc rfl ?_ | refine gg rfl ?_)
  refine O_pure (P_bits rfl rfl rfl) trivial rfl ?_
  refine O_pure (P_shl rfl rfl (by decide)) trivial rfl ?_
  refine O_pure (P_bits rfl rfl rfl) trivial rfl ?_
  repeat' (first | (refine isO ?_; first | refine oo (Pc rfl) ?_ | refine oo (Pa rfl (by omega) (by omega)) ?_ | (refine ob rfl ?_ ?_ <;> intro hq <;> try (exfalso; omega)) | refine oo (Pi rfl (by omega)) ?_ | refine oo (Pl rfl) ?_ | refine oo (Px rfl rfl) ?_ | refine oo (Pj rfl (by omega) (by omega)) ?_ | refine oo (Pk rfl (by omega) (by omega)) ?_ | refine oo (Pf rfl) ?_ | refine oo (Pv rfl (by omega) (by omega)) ?_ | refine oo (Pn rfl) ?_ | refine oo (Pm rfl) ?_ | refine os rfl rfl ?_ | refine ot rfl (by omega) ?_ | refine O_nil ?_) | refine wo rfl ?_ | refine wc rfl ?_ | refine wg rfl ?_ | refine go rfl ?_ | refine gc rfl ?_ | refine gg rfl ?_)
  refine G_fin ⟨_, rfl, congrArg (Value.int .u8) ?_⟩
  revert b
  decide +kernel

theorem T8_in (y : Nat) : inK .u32 ((T 8 y : Nat) : Int) := by
  have := T_lt 8 y
  exact inK_u32 (by omega) (by omega)

theorem rev32_c (x : Nat) (hx : x < 2 ^ 32) (M : Mem) : HP Try.prog 105 #[.int .u32 x] M (.int .u32 (T 32 x : Nat)) := by
  refine HP.of (HC_of_W (fn := Try.f105) Try.func105 rfl rfl rfl rfl ?_)
  repeat' (first | (refine isO ?_; first | refine oo (Pc rfl) ?_ | refine oo (Pa rfl (by omega) (by omega)) ?_ | (refine ob rfl ?_ ?_ <;> intro hq <;> try (exfalso; omega)) | refine oo (Pi rfl (by omega)) ?_ | refine oo (Pl rfl) ?_ | refine oo (Px rfl rfl) ?_ | refine oo (Pj rfl (by omega) (by omega)) ?_ | refine oo (Pk rfl (by omega) (by omega)) ?_ | refine oo (Pf rfl) ?_ | refine oo (Pv rfl (by omega) (by omega)) ?_ | refine oo (Pn rfl) ?_ | refine oo (Pm rfl) ?_ | refine os rfl rfl ?_ | refine ot rfl (by omega) ?_ | refine O_nil ?_) | refine wo rfl ?_ | refine wc rfl ?_ | refine wg rfl ?_ | refine go rfl ?_ | refine gc rfl ?_ | refine gg rfl ?_)
  refine O_pure (P_shrN (p := x) (q := 0) rfl rfl hx) trivial rfl ?_
  refine O_pure (P_convN Tb.u40 Tb.u5 rfl rfl) trivial rfl ?_
  refine O_callP rfl rfl Tb.k109 trivial rfl (lut_c _ (Nat.mod_lt _ (by decide)) _) ?_
  refine O_pure (P_convk Tb.u5 Tb.u40 rfl (T8_in _)) trivial rfl ?_
  refine O_pure (P_shlN (q := 24) rfl rfl rfl) trivial rfl ?_
  refine O_pure (P_bitN (p := 0) rfl rfl rfl rfl (by decide) (Nat.mod_lt _ (by decide))) trivial rfl ?_
  repeat' (first | (refine isO ?_; first | refine oo (Pc rfl) ?_ | refine oo (Pa rfl (by omega) (by omega)) ?_ | (refine ob rfl ?_ ?_ <;> intro hq <;> try (exfalso; omega)) | refine oo (Pi rfl (by omega)) ?_ | refine oo (Pl rfl) ?_ | refine oo (Px rfl rfl) ?_ | refine oo (Pj rfl (by omega) (by omega)) ?_ | refine oo (Pk rfl (by omega) (by omega)) ?_ | refine oo (Pf rfl) ?_ | refine oo (Pv rfl (by omega) (by omega)) ?_ | refine oo (Pn rfl) ?_ | refine oo (Pm rfl) ?_ | refine os rfl rfl ?_ | refine ot rfl (by omega) ?_ | refine O_nil ?_) | refine wo rfl ?_ | refine wc rfl ?_ | refine wg rfl ?_ | refine go rfl ?_ | refine gc rfl ?_ | refine gg rfl ?_)
  refine O_pure (P_shrN (p := x) (q := 8) rfl rfl hx) trivial rfl ?_
  refine O_pure (P_convN Tb.u40 Tb.u5 rfl rfl) trivial rfl ?_
  refine O_callP rfl rfl Tb.k109 trivial rfl (lut_c _ (Nat.mod_lt _ (by decide)) _) ?_
  refine O_pure (P_convk Tb.u5 Tb.u40 rfl (T8_in _)) trivial rfl ?_
  refine O_pure (P_shlN (q := 16) rfl rfl rfl) trivial rfl ?_
  refine O_pure (P_bitN rfl rfl rfl rfl (by first | exact Nat.or_lt_two_pow (by decide) (Nat.mod_lt _ (by decide)) | exact Nat.or_lt_two_pow (Nat.or_lt_two_pow (by decide) (Nat.mod_lt _ (by decide))) (Nat.mod_lt _ (by decide)) | exact Nat.or_lt_two_pow (Nat.or_lt_two_pow (Nat.or_lt_two_pow (by decide) (Nat.mod_lt _ (by decide))) (Nat.mod_lt _ (by decide))) (Nat.mod_lt _ (by decide))) (Nat.mod_lt _ (by decide))) trivial rfl ?_
  repeat' (first | (refine isO ?_; first | refine oo (Pc rfl) ?_ | refine oo (Pa rfl (by omega) (by omega)) ?_ | (refine ob rfl ?_ ?_ <;> intro hq <;> try (exfalso; omega)) | refine oo (Pi rfl (by omega)) ?_ | refine oo (Pl rfl) ?_ | refine oo (Px rfl rfl) ?_ | refine oo (Pj rfl (by omega) (by omega)) ?_ | refine oo (Pk rfl (by omega) (by omega)) ?_ | refine oo (Pf rfl) ?_ | refine oo (Pv rfl (by omega) (by omega)) ?_ | refine oo (Pn rfl) ?_ | refine oo (Pm rfl) ?_ | refine os rfl rfl ?_ | refine ot rfl (by omega) ?_ | refine O_nil ?_) | refine wo rfl ?_ | refine wc rfl ?_ | refine wg rfl ?_ | refine go rfl ?_ | refine gc rfl ?_ | refine gg rfl ?_)
  refine O_pure (P_shrN (p := x) (q := 16) rfl rfl hx) trivial rfl ?_
  refine O_pure (P_convN Tb.u40 Tb.u5 rfl rfl) trivial rfl ?_
  refine O_callP rfl rfl Tb.k109 trivial rfl (lut_c _ (Nat.mod_lt _ (by decide)) _) ?_
  refine O_pure (P_convk Tb.u5 Tb.u40 rfl (T8_in _)) trivial rfl ?_
  refine O_pure (P_shlN (q := 8) rfl rfl rfl) trivial rfl ?_
  refine O_pure (P_bitN rfl rfl rfl rfl (by first | exact Nat.or_lt_two_pow (by decide) (Nat.mod_lt _ (by decide)) | exact Nat.or_lt_two_pow (Nat.or_lt_two_pow (by decide) (Nat.mod_lt _ (by decide))) (Nat.mod_lt _ (by decide)) | exact Nat.or_lt_two_pow (Nat.or_lt_two_pow (Nat.or_lt_two_pow (by decide) (Nat.mod_lt _ (by decide))) (Nat.mod_lt _ (by decide))) (Nat.mod_lt _ (by decide))) (Nat.mod_lt _ (by decide))) trivial rfl ?_
  repeat' (first | (refine isO ?_; first | refine oo (Pc rfl) ?_ | refine oo (Pa rfl (by omega) (by omega)) ?_ | (refine ob rfl ?_ ?_ <;> intro hq <;> try (exfalso; omega)) | refine oo (Pi rfl (by omega)) ?_ | refine oo (Pl rfl) ?_ | refine oo (Px rfl rfl) ?_ | refine oo (Pj rfl (by omega) (by omega)) ?_ | refine oo (Pk rfl (by omega) (by omega)) ?_ | refine oo (Pf rfl) ?_ | refine oo (Pv rfl (by omega) (by omega)) ?_ | refine oo (Pn rfl) ?_ | refine oo (Pm rfl) ?_ | refine os rfl rfl ?_ | refine ot rfl (by omega) ?_ | refine O_nil ?_) | refine wo rfl ?_ | refine wc rfl ?_ | refine wg rfl ?_ | refine go rfl ?_ | refine gc rfl ?_ | refine gg rfl ?_)
  refine O_pure (P_shrN (p := x) (q := 24) rfl rfl hx) trivial rfl ?_
  refine O_pure (P_convN Tb.u40 Tb.u5 rfl rfl) trivial rfl ?_
  refine O_callP rfl rfl Tb.k109 trivial rfl (lut_c _ (Nat.mod_lt _ (by decide)) _) ?_
  refine O_pure (P_convk Tb.u5 Tb.u40 rfl (T8_in _)) trivial rfl ?_
  refine O_pure (P_shlN (q := 0) rfl rfl rfl) trivial rfl ?_
  refine O_pure (P_bitN rfl rfl rfl rfl (by first | exact Nat.or_lt_two_pow (by decide) (Nat.mod_lt _ (by decide)) | exact Nat.or_lt_two_pow (Nat.or_lt_two_pow (by decide) (Nat.mod_lt _ (by decide))) (Nat.mod_lt _ (by decide)) | exact Nat.or_lt_two_pow (Nat.or_lt_two_pow (Nat.or_lt_two_pow (by decide) (Nat.mod_lt _ (by decide))) (Nat.mod_lt _ (by decide))) (Nat.mod_lt _ (by decide))) (Nat.mod_lt _ (by decide))) trivial rfl ?_
  repeat' (first | (refine isO ?_; first | refine oo (Pc rfl) ?_ | refine oo (Pa rfl (by omega) (by omega)) ?_ | (refine ob rfl ?_ ?_ <;> intro hq <;> try (exfalso; omega)) | refine oo (Pi rfl (by omega)) ?_ | refine oo (Pl rfl) ?_ | refine oo (Px rfl rfl) ?_ | refine oo (Pj rfl (by omega) (by omega)) ?_ | refine oo (Pk rfl (by omega) (by omega)) ?_ | refine oo (Pf rfl) ?_ | refine oo (Pv rfl (by omega) (by omega)) ?_ | refine oo (Pn rfl) ?_ | refine oo (Pm rfl) ?_ | refine os rfl rfl ?_ | refine ot rfl (by omega) ?_ | refine O_nil ?_) | refine wo rfl ?_ | refine wc rfl ?_ | refine wg rfl ?_ | refine go rfl ?_ | refine gc rfl ?_ | refine gg rfl ?_)
  refine G_fin ⟨_, rfl, congrArg (Value.int .u32) (congrArg Nat.cast ?_)⟩
  refine (or4 _ _ _ _ (T_lt 8 _) (T_lt 8 _) (T_lt 8 _) (T_lt 8 _)).trans ?_
  rw [T_bytes x hx, Nat.pow_zero, Nat.div_one]

theorem rev32N_c (v n : Nat) (hn : 1 ≤ n) (hn2 : n ≤ 32) (hv : v < 2 ^ n) (M : Mem) : HP Try.prog 91 #[.int .u32 v, .int .u64 n] M (.int .u32 (T n v : Nat)) := by
  refine HP.of (HC_of_W (fn := Try.f91) Try.func91 rfl rfl rfl rfl ?_)
  repeat' (first | (refine isO ?_; first | refine oo (Pc rfl) ?_ | refine oo (Pa rfl (by omega) (by omega)) ?_ | (refine ob rfl ?_ ?_ <;> intro hq <;> try (exfalso; omega)) | refine oo (Pi rfl (by omega)) ?_ | refine oo (Pl rfl) ?_ | refine oo (Px rfl rfl) ?_ | refine oo (Pj rfl (by omega) (by omega)) ?_ | refine oo (Pk rfl (by omega) (by omega)) ?_ | refine oo (Pf rfl) ?_ | refine oo (Pv rfl (by omega) (by omega)) ?_ | refine oo (Pn rfl) ?_ | refine oo (Pm rfl) ?_ | refine os rfl rfl ?_ | refine ot rfl (by omega) ?_ | refine O_nil ?_) | refine wo rfl ?_ | refine wc rfl ?_ | refine wg rfl ?_ | refine go rfl ?_ | refine gc rfl ?_ | refine gg rfl ?_)
  refine O_pure (P_shlN (q := 32 - n) rfl (by simp only [ev, Env.get?]; rw [show (32 : Int) - n = ((32 - n : Nat) : Int) by omega]; rfl) rfl) trivial rfl ?_
  have hlt : v * 2 ^ (32 - n) < 2 ^ 32 := by
    have h1 : v * 2 ^ (32 - n) < 2 ^ n * 2 ^ (32 - n) := Nat.mul_lt_mul_of_pos_right hv (Nat.two_pow_pos _)
    rw [← Nat.pow_add, show n + (32 - n) = 32 by omega] at h1
    exact h1
  refine O_callP rfl rfl Tb.k105 trivial rfl (rev32_c _ (Nat.mod_lt _ (by decide)) _) ?_
  repeat' (first | (refine isO ?_; first | refine oo (Pc rfl) ?_ | refine oo (Pa rfl (by omega) (by omega)) ?_ | (refine ob rfl ?_ ?_ <;> intro hq <;> try (exfalso; omega)) | refine oo (Pi rfl (by omega)) ?_ | refine oo (Pl rfl) ?_ | refine oo (Px rfl rfl) ?_ | refine oo (Pj rfl (by omega) (by omega)) ?_ | refine oo (Pk rfl (by omega) (by omega)) ?_ | refine oo (Pf rfl) ?_ | refine oo (Pv rfl (by omega) (by omega)) ?_ | refine oo (Pn rfl) ?_ | refine oo (Pm rfl) ?_ | refine os rfl rfl ?_ | refine ot rfl (by omega) ?_ | refine O_nil ?_) | refine wo rfl ?_ | refine wc rfl ?_ | refine wg rfl ?_ | refine go rfl ?_ | refine gc rfl ?_ | refine gg rfl ?_)
  refine G_fin ⟨_, rfl, congrArg (Value.int .u32) (congrArg Nat.cast ?_)⟩
  show T 32 (v * 2 ^ (32 - n) % 2 ^ 32) = T n v
  rw [Nat.mod_eq_of_lt hlt]
  have := T_shift n (32 - n) v
  rw [show 32 - n + n = 32 by omega] at this
  exact this
end Go.Proofs.Ytjkpfliaflmppaa.Rv

namespace Go.Proofs.Ytjkpfliaflmppaa.Pc
open Go Go.Proofs.Ytjkpfliaflmppaa.Rev Go.Proofs.Ytjkpfliaflmppaa.Vm

/-- How many codes have length n. -/
def cntL (l : List Cd) (n : Nat) : Nat := (l.filter fun c => c.len == n).length
/-- How many have at most length n, each counted by 2^(n - its length). -/
def kr (l : List Cd) (n : Nat) : Nat := (l.map fun c => if c.len ≤ n then 2 ^ (n - c.len) else 0).sum
/-- The first value of length n, by the published way. -/
def st (l : List Cd) : Nat → Nat
  | 0 => 0
  | n + 1 => 2 * (st l n + cntL l n)

theorem cntL_nil (n : Nat) : cntL [] n = 0 := rfl
theorem cntL_cons (c : Cd) (l : List Cd) (n : Nat) : cntL (c :: l) n = (if c.len = n then 1 else 0) + cntL l n := by
  unfold cntL
  by_cases h : c.len = n <;> simp [h]; omega
theorem cntL_append (l m : List Cd) (n : Nat) : cntL (l ++ m) n = cntL l n + cntL m n := by simp [cntL]
theorem cntL_le (l : List Cd) (n : Nat) : cntL l n ≤ l.length := List.length_filter_le _ _

theorem kr_cons (c : Cd) (l : List Cd) (n : Nat) : kr (c :: l) n = (if c.len ≤ n then 2 ^ (n - c.len) else 0) + kr l n := by simp [kr]

theorem kr_succ (l : List Cd) (n : Nat) : kr l (n + 1) = 2 * kr l n + cntL l (n + 1) := by
  induction l with
  | nil => rfl
  | cons c l ih =>
    rw [kr_cons, kr_cons, cntL_cons, ih]
    by_cases h1 : c.len ≤ n
    · rw [if_pos (by omega), if_pos h1, if_neg (by omega), show n + 1 - c.len = (n - c.len) + 1 by omega, Nat.pow_succ]; omega
    · by_cases h2 : c.len = n + 1
      · rw [if_pos (by omega), if_neg h1, if_pos h2, h2]; simp; omega
      · rw [if_neg (by omega), if_neg h1, if_neg h2]; omega

theorem kr_zero (l : List Cd) : kr l 0 = cntL l 0 := by
  induction l with
  | nil => rfl
  | cons c l ih =>
    rw [kr_cons, cntL_cons, ih]
    by_cases h : c.len = 0 <;> simp [h]

theorem st_kr (l : List Cd) (n : Nat) : st l n + cntL l n = kr l n := by
  induction n with
  | zero => simp [st, kr_zero]
  | succ n ih => rw [kr_succ, st, ih]

theorem kr_le (l : List Cd) (n : Nat) : kr l n ≤ l.length * 2 ^ n := by
  induction l with
  | nil => simp [kr]
  | cons c l ih =>
    rw [kr_cons, List.length_cons, Nat.add_mul]
    have : (if c.len ≤ n then 2 ^ (n - c.len) else 0) ≤ 2 ^ n := by
      split
      · exact Nat.pow_le_pow_right (by omega) (by omega)
      · exact Nat.zero_le _
    omega

/-- Behind the greatest length only doubling goes on. -/
theorem kr_up (l : List Cd) (m : Nat) (h : ∀ c ∈ l, c.len ≤ m) (k : Nat) : kr l (m + k) = 2 ^ k * kr l m := by
  induction k with
  | zero => simp
  | succ k ih =>
    rw [← Nat.add_assoc, kr_succ, ih]
    have : cntL l (m + k + 1) = 0 := by
      unfold cntL
      rw [List.length_eq_zero_iff, List.filter_eq_nil_iff]
      intro c hc
      have := h c hc
      simp; omega
    rw [this, Nat.pow_succ, Nat.add_zero, ← Nat.mul_assoc, Nat.mul_comm 2 (2 ^ k)]

/-- Nothing is left over (up to 20 bits). -/
def whole (l : List Cd) : Prop := kr l 20 = 2 ^ 20

theorem whole_iff (l : List Cd) (m : Nat) (h : ∀ c ∈ l, c.len ≤ m) (hm : m ≤ 20) : whole l ↔ kr l m = 2 ^ m := by
  have h1 := kr_up l m h (20 - m)
  have h2 : (2 : Nat) ^ 20 = 2 ^ (20 - m) * 2 ^ m := by rw [← Nat.pow_add]; congr 1; omega
  unfold whole
  rw [show m + (20 - m) = 20 by omega] at h1
  rw [h1, h2]
  exact ⟨fun h => Nat.eq_of_mul_eq_mul_left (Nat.two_pow_pos _) h, fun h => by rw [h]⟩

theorem kr_mono2 (l : List Cd) (n k : Nat) : 2 ^ k * kr l n ≤ kr l (n + k) := by
  induction k with
  | zero => simp
  | succ k ih =>
    rw [← Nat.add_assoc, kr_succ, Nat.pow_succ]
    have e : 2 ^ k * 2 * kr l n = 2 * (2 ^ k * kr l n) := by rw [Nat.mul_comm (2 ^ k) 2, Nat.mul_assoc]
    omega

/-- Of whole codes the values of each length fit into it. -/
theorem whole_fits (l : List Cd) (hw : whole l) (n : Nat) (hn : n ≤ 20) : st l n + cntL l n ≤ 2 ^ n := by
  rw [st_kr]
  have h1 := kr_mono2 l n (20 - n)
  rw [show n + (20 - n) = 20 by omega] at h1
  unfold whole at hw
  rw [hw] at h1
  have h2 : (2 : Nat) ^ 20 = 2 ^ (20 - n) * 2 ^ n := by rw [← Nat.pow_add]; congr 1; omega
  rw [h2] at h1
  exact Nat.le_of_mul_le_mul_left h1 (Nat.two_pow_pos _)

/-- The value of the code at place i. -/
def valAt (l : List Cd) (i : Nat) : Nat := T (l.getD i Cd.zero).len (st l (l.getD i Cd.zero).len + cntL (l.take i) (l.getD i Cd.zero).len)
/-- The codes with their canonical values. -/
def canon (l : List Cd) : List Cd := (List.range l.length).map fun i => { l.getD i Cd.zero with val := valAt l i }

theorem canon_length (l : List Cd) : (canon l).length = l.length := by simp [canon]
theorem canon_get (l : List Cd) (i : Nat) (h : i < l.length) : (canon l).getD i Cd.zero = { l.getD i Cd.zero with val := valAt l i } := by
  simp [canon, h]

theorem cntL_take_lt (l : List Cd) (i : Nat) (h : i < l.length) : cntL (l.take i) (l.getD i Cd.zero).len + 1 ≤ cntL l (l.getD i Cd.zero).len := by
  have h1 : l.getD i Cd.zero = l[i] := by simp [h]
  have e : l = l.take i ++ l[i] :: l.drop (i + 1) := by simp
  rw [h1]
  have h2 : cntL l l[i].len = cntL (l.take i ++ l[i] :: l.drop (i + 1)) l[i].len := by rw [← e]
  rw [h2, cntL_append, cntL_cons, if_pos rfl]
  omega

/-! ### Rows of 28 numbers -/

def row28 (f : Nat → Nat) : List Int := (List.range 28).map fun j => (f j : Int)
theorem row28_length (f : Nat → Nat) : (row28 f).length = 28 := by simp [row28]
theorem row28_rd (f : Nat → Nat) (j : Nat) (h : j < 28) : rd (row28 f) (j : Int) = (f j : Int) := by
  simp [rd, row28, h]
theorem row28_ext {f g : Nat → Nat} (h : ∀ j, j < 28 → f j = g j) : row28 f = row28 g := by
  unfold row28
  apply List.map_congr_left
  intro j hj
  rw [h j (List.mem_range.1 hj)]
theorem row28_wr (f : Nat → Nat) (j v : Nat) (h : j < 28) : wr (row28 f) (j : Int) (v : Int) = row28 (fun i => if i = j then v else f i) := by
  apply List.ext_getElem?
  intro i
  simp only [wr, row28, Int.toNat_natCast, List.getElem?_set, List.length_map, List.length_range, List.getElem?_map]
  by_cases hi : i < 28
  · by_cases hj : j = i
    · subst hj; simp [hi]
    · have hj' : ¬ i = j := fun h => hj h.symm
      simp [hi, hj, hj']
  · have hj : ¬ j = i := by omega
    have hn : (List.range 28)[i]? = none := by simp; omega
    simp [hj, hn]
theorem row28_zero : row28 (fun _ => 0) = List.replicate 28 0 := by decide

attribute [irreducible] row28

theorem hist_snoc (l : List Cd) (c : Cd) (h : c.len < 28) : wr (row28 (cntL l)) (c.len : Int) ((cntL l c.len + 1 : Nat) : Int) = row28 (cntL (l ++ [c])) := by
  rw [row28_wr _ _ _ h]
  refine row28_ext fun j _ => ?_
  rw [cntL_append, cntL_cons, cntL_nil]
  by_cases hj : j = c.len
  · subst hj; simp
  · have : ¬ c.len = j := fun h => hj h.symm
    simp [hj, this]
theorem take_one (l : List Cd) (h : 0 < l.length) : l.take 1 = [l.getD 0 Cd.zero] := by
  cases l with
  | nil => simp at h
  | cons c l => rfl

/-- The values of each length, where those up to i are told. -/
def nxt (l : List Cd) (mn i : Nat) (j : Nat) : Nat := if mn ≤ j ∧ j < i then st l j else 0
theorem nxt_set (l : List Cd) (mn i : Nat) (h : mn ≤ i) (hi : i < 28) : wr (row28 (nxt l mn i)) (i : Int) ((st l i : Nat) : Int) = row28 (nxt l mn (i + 1)) := by
  rw [row28_wr _ _ _ hi]
  refine row28_ext fun j _ => ?_
  unfold nxt
  by_cases hj : j = i
  · subst hj; simp [h]
  · by_cases h1 : mn ≤ j ∧ j < i
    · rw [if_neg hj, if_pos h1, if_pos (by omega)]
    · rw [if_neg hj, if_neg h1, if_neg (by omega)]
theorem st_zero (l : List Cd) (mn : Nat) (h : ∀ c ∈ l, mn ≤ c.len) : ∀ n, n ≤ mn → st l n = 0
  | 0, _ => rfl
  | n + 1, hn => by
    have h1 := st_zero l mn h n (by omega)
    have h2 : cntL l n = 0 := by
      unfold cntL
      rw [List.length_eq_zero_iff, List.filter_eq_nil_iff]
      intro c hc
      have := h c hc
      simp; omega
    simp [st, h1, h2]
theorem kr_below (l : List Cd) (mn n : Nat) (h : ∀ c ∈ l, mn ≤ c.len) (hn : n < mn) : kr l n = 0 := by
  have h1 := st_kr l n
  have h2 := st_zero l mn h (n + 1) (by omega)
  simp only [st] at h2
  omega
/-- What the third loop counts on. -/
def nx3 (l : List Cd) (mn mx i : Nat) (j : Nat) : Nat := if mn ≤ j ∧ j < mx + 1 then st l j + cntL (l.take i) j else 0
theorem nx3_zero (l : List Cd) (mn mx : Nat) : row28 (nxt l mn (mx + 1)) = row28 (nx3 l mn mx 0) := by
  refine row28_ext fun j _ => ?_
  simp [nxt, nx3, cntL]
theorem nx3_set (l : List Cd) (mn mx i : Nat) (h : i < l.length) (h1 : mn ≤ (l.getD i Cd.zero).len) (h2 : (l.getD i Cd.zero).len ≤ mx) (h3 : mx < 28) :
    wr (row28 (nx3 l mn mx i)) ((l.getD i Cd.zero).len : Int) ((nx3 l mn mx i (l.getD i Cd.zero).len + 1 : Nat) : Int) = row28 (nx3 l mn mx (i + 1)) := by
  rw [row28_wr _ _ _ (by omega)]
  refine row28_ext fun j _ => ?_
  unfold nx3
  rw [take_succ_getD l i h]
  by_cases hj : j = (l.getD i Cd.zero).len
  · subst hj
    rw [if_pos rfl, if_pos (by omega), if_pos (by omega), cntL_append, cntL_cons, cntL_nil, if_pos rfl]
    omega
  · rw [if_neg hj]
    by_cases h4 : mn ≤ j ∧ j < mx + 1
    · rw [if_pos h4, if_pos h4, cntL_append, cntL_cons, cntL_nil, if_neg (fun h => hj h.symm)]; omega
    · rw [if_neg h4, if_neg h4]

/-- The values up to place k. -/
def canonTo (l : List Cd) (k : Nat) : List Cd := (canon l).take k ++ l.drop k
theorem canonTo_zero (l : List Cd) : canonTo l 0 = l := by simp [canonTo]
theorem canonTo_all (l : List Cd) : canonTo l l.length = canon l := by simp [canonTo, ← canon_length l]
theorem canonTo_length (l : List Cd) (k : Nat) (h : k ≤ l.length) : (canonTo l k).length = l.length := by simp [canonTo, canon_length]; omega
theorem canonTo_get (l : List Cd) (k : Nat) (h : k < l.length) : (canonTo l k).getD k Cd.zero = l.getD k Cd.zero := by
  simp [canonTo, List.getElem?_append, canon_length, Nat.min_eq_left (Nat.le_of_lt h)]
theorem canonTo_set (l : List Cd) (k : Nat) (h : k < l.length) : (canonTo l k).set k { (canonTo l k).getD k Cd.zero with val := valAt l k } = canonTo l (k + 1) := by
  rw [canonTo_get l k h]
  unfold canonTo
  have hlen : ((canon l).take k).length = k := by simp [canon_length]; omega
  have hc : k < (canon l).length := by rw [canon_length]; exact h
  have hd : l.drop k = l.getD k Cd.zero :: l.drop (k + 1) := by
    have : l.getD k Cd.zero = l[k] := by simp [h]
    rw [this, List.drop_eq_getElem_cons h]
  rw [List.set_append_right _ _ (by omega), hlen, Nat.sub_self, hd, List.set_cons_zero, take_succ_getD _ _ hc, canon_get l k h]
  simp
end Go.Proofs.Ytjkpfliaflmppaa.Pc
