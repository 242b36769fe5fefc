/- Codes by their lengths: how many there are of each, where the values of each length begin, what it is to leave nothing over. No condition. -/
import Derived.Test.YtjkpfliaflmppaaCd
import Derived.Test.YtjkpfliaflmppaaRev
namespace Go.Proofs.Ytjkpfliaflmppaa.Pc
open Go Go.Proofs.Ytjkpfliaflmppaa.Rev Go.Proofs.Ytjkpfliaflmppaa.Vm

/-- How many codes have length n. -/
def cntL (l : List Cd) (n : Nat) : Nat := (l.filter fun c => c.len == n).length
/-- How many have at most length n, each counted by 2^(n - its length). -/
def kr (l : List Cd) (n : Nat) : Nat := (l.map fun c => if c.len ≤ n then 2 ^ (n - c.len) else 0).sum
/-- The first value of length n, by the published way. -/
def st (l : List Cd) : Nat → Nat
  | 0 => 0
  | n + 1 => 2 * (st l n + cntL l n)

theorem cntL_nil (n : Nat) : cntL [] n = 0 := rfl
theorem cntL_cons (c : Cd) (l : List Cd) (n : Nat) : cntL (c :: l) n = (if c.len = n then 1 else 0) + cntL l n := by
  unfold cntL
  by_cases h : c.len = n <;> simp [h]; omega
theorem cntL_append (l m : List Cd) (n : Nat) : cntL (l ++ m) n = cntL l n + cntL m n := by simp [cntL]
theorem cntL_le (l : List Cd) (n : Nat) : cntL l n ≤ l.length := List.length_filter_le _ _

theorem kr_cons (c : Cd) (l : List Cd) (n : Nat) : kr (c :: l) n = (if c.len ≤ n then 2 ^ (n - c.len) else 0) + kr l n := by simp [kr]

theorem kr_succ (l : List Cd) (n : Nat) : kr l (n + 1) = 2 * kr l n + cntL l (n + 1) := by
  induction l with
  | nil => rfl
  | cons c l ih =>
    rw [kr_cons, kr_cons, cntL_cons, ih]
    by_cases h1 : c.len ≤ n
    · rw [if_pos (by omega), if_pos h1, if_neg (by omega), show n + 1 - c.len = (n - c.len) + 1 by omega, Nat.pow_succ]; omega
    · by_cases h2 : c.len = n + 1
      · rw [if_pos (by omega), if_neg h1, if_pos h2, h2]; simp; omega
      · rw [if_neg (by omega), if_neg h1, if_neg h2]; omega

theorem kr_zero (l : List Cd) : kr l 0 = cntL l 0 := by
  induction l with
  | nil => rfl
  | cons c l ih =>
    rw [kr_cons, cntL_cons, ih]
    by_cases h : c.len = 0 <;> simp [h]

theorem st_kr (l : List Cd) (n : Nat) : st l n + cntL l n = kr l n := by
  induction n with
  | zero => simp [st, kr_zero]
  | succ n ih => rw [kr_succ, st, ih]

theorem kr_le (l : List Cd) (n : Nat) : kr l n ≤ l.length * 2 ^ n := by
  induction l with
  | nil => simp [kr]
  | cons c l ih =>
    rw [kr_cons, List.length_cons, Nat.add_mul]
    have : (if c.len ≤ n then 2 ^ (n - c.len) else 0) ≤ 2 ^ n := by
      split
      · exact Nat.pow_le_pow_right (by omega) (by omega)
      · exact Nat.zero_le _
    omega

/-- Behind the greatest length only doubling goes on. -/
theorem kr_up (l : List Cd) (m : Nat) (h : ∀ c ∈ l, c.len ≤ m) (k : Nat) : kr l (m + k) = 2 ^ k * kr l m := by
  induction k with
  | zero => simp
  | succ k ih =>
    rw [← Nat.add_assoc, kr_succ, ih]
    have : cntL l (m + k + 1) = 0 := by
      unfold cntL
      rw [List.length_eq_zero_iff, List.filter_eq_nil_iff]
      intro c hc
      have := h c hc
      simp; omega
    rw [this, Nat.pow_succ, Nat.add_zero, ← Nat.mul_assoc, Nat.mul_comm 2 (2 ^ k)]

/-- Nothing is left over (up to 20 bits). -/
def whole (l : List Cd) : Prop := kr l 20 = 2 ^ 20

theorem whole_iff (l : List Cd) (m : Nat) (h : ∀ c ∈ l, c.len ≤ m) (hm : m ≤ 20) : whole l ↔ kr l m = 2 ^ m := by
  have h1 := kr_up l m h (20 - m)
  have h2 : (2 : Nat) ^ 20 = 2 ^ (20 - m) * 2 ^ m := by rw [← Nat.pow_add]; congr 1; omega
  unfold whole
  rw [show m + (20 - m) = 20 by omega] at h1
  rw [h1, h2]
  exact ⟨fun h => Nat.eq_of_mul_eq_mul_left (Nat.two_pow_pos _) h, fun h => by rw [h]⟩

theorem kr_mono2 (l : List Cd) (n k : Nat) : 2 ^ k * kr l n ≤ kr l (n + k) := by
  induction k with
  | zero => simp
  | succ k ih =>
    rw [← Nat.add_assoc, kr_succ, Nat.pow_succ]
    have e : 2 ^ k * 2 * kr l n = 2 * (2 ^ k * kr l n) := by rw [Nat.mul_comm (2 ^ k) 2, Nat.mul_assoc]
    omega

/-- Of whole codes the values of each length fit into it. -/
theorem whole_fits (l : List Cd) (hw : whole l) (n : Nat) (hn : n ≤ 20) : st l n + cntL l n ≤ 2 ^ n := by
  rw [st_kr]
  have h1 := kr_mono2 l n (20 - n)
  rw [show n + (20 - n) = 20 by omega] at h1
  unfold whole at hw
  rw [hw] at h1
  have h2 : (2 : Nat) ^ 20 = 2 ^ (20 - n) * 2 ^ n := by rw [← Nat.pow_add]; congr 1; omega
  rw [h2] at h1
  exact Nat.le_of_mul_le_mul_left h1 (Nat.two_pow_pos _)

/-- The value of the code at place i. -/
def valAt (l : List Cd) (i : Nat) : Nat := T (l.getD i Cd.zero).len (st l (l.getD i Cd.zero).len + cntL (l.take i) (l.getD i Cd.zero).len)
/-- The codes with their canonical values. -/
def canon (l : List Cd) : List Cd := (List.range l.length).map fun i => { l.getD i Cd.zero with val := valAt l i }

theorem canon_length (l : List Cd) : (canon l).length = l.length := by simp [canon]
theorem canon_get (l : List Cd) (i : Nat) (h : i < l.length) : (canon l).getD i Cd.zero = { l.getD i Cd.zero with val := valAt l i } := by
  simp [canon, h]

theorem cntL_take_lt (l : List Cd) (i : Nat) (h : i < l.length) : cntL (l.take i) (l.getD i Cd.zero).len + 1 ≤ cntL l (l.getD i Cd.zero).len := by
  have h1 : l.getD i Cd.zero = l[i] := by simp [h]
  have e : l = l.take i ++ l[i] :: l.drop (i + 1) := by simp
  rw [h1]
  have h2 : cntL l l[i].len = cntL (l.take i ++ l[i] :: l.drop (i + 1)) l[i].len := by rw [← e]
  rw [h2, cntL_append, cntL_cons, if_pos rfl]
  omega

/-! ### Rows of 28 numbers -/

def row28 (f : Nat → Nat) : List Int := (List.range 28).map fun j => (f j : Int)
theorem row28_length (f : Nat → Nat) : (row28 f).length = 28 := by simp [row28]
theorem row28_rd (f : Nat → Nat) (j : Nat) (h : j < 28) : rd (row28 f) (j : Int) = (f j : Int) := by
  simp [rd, row28, h]
theorem row28_ext {f g : Nat → Nat} (h : ∀ j, j < 28 → f j = g j) : row28 f = row28 g := by
  unfold row28
  apply List.map_congr_left
  intro j hj
  rw [h j (List.mem_range.1 hj)]
theorem row28_wr (f : Nat → Nat) (j v : Nat) (h : j < 28) : wr (row28 f) (j : Int) (v : Int) = row28 (fun i => if i = j then v else f i) := by
  apply List.ext_getElem?
  intro i
  simp only [wr, row28, Int.toNat_natCast, List.getElem?_set, List.length_map, List.length_range, List.getElem?_map]
  by_cases hi : i < 28
  · by_cases hj : j = i
    · subst hj; simp [hi]
    · have hj' : ¬ i = j := fun h => hj h.symm
      simp [hi, hj, hj']
  · have hj : ¬ j = i := by omega
    have hn : (List.range 28)[i]? = none := by simp; omega
    simp [hj, hn]
theorem row28_zero : row28 (fun _ => 0) = List.replicate 28 0 := by decide

attribute [irreducible] row28

theorem hist_snoc (l : List Cd) (c : Cd) (h : c.len < 28) : wr (row28 (cntL l)) (c.len : Int) ((cntL l c.len + 1 : Nat) : Int) = row28 (cntL (l ++ [c])) := by
  rw [row28_wr _ _ _ h]
  refine row28_ext fun j _ => ?_
  rw [cntL_append, cntL_cons, cntL_nil]
  by_cases hj : j = c.len
  · subst hj; simp
  · have : ¬ c.len = j := fun h => hj h.symm
    simp [hj, this]
theorem take_one (l : List Cd) (h : 0 < l.length) : l.take 1 = [l.getD 0 Cd.zero] := by
  cases l with
  | nil => simp at h
  | cons c l => rfl

/-- The values of each length, where those up to i are told. -/
def nxt (l : List Cd) (mn i : Nat) (j : Nat) : Nat := if mn ≤ j ∧ j < i then st l j else 0
theorem nxt_set (l : List Cd) (mn i : Nat) (h : mn ≤ i) (hi : i < 28) : wr (row28 (nxt l mn i)) (i : Int) ((st l i : Nat) : Int) = row28 (nxt l mn (i + 1)) := by
  rw [row28_wr _ _ _ hi]
  refine row28_ext fun j _ => ?_
  unfold nxt
  by_cases hj : j = i
  · subst hj; simp [h]
  · by_cases h1 : mn ≤ j ∧ j < i
    · rw [if_neg hj, if_pos h1, if_pos (by omega)]
    · rw [if_neg hj, if_neg h1, if_neg (by omega)]
theorem st_zero (l : List Cd) (mn : Nat) (h : ∀ c ∈ l, mn ≤ c.len) : ∀ n, n ≤ mn → st l n = 0
  | 0, _ => rfl
  | n + 1, hn => by
    have h1 := st_zero l mn h n (by omega)
    have h2 : cntL l n = 0 := by
      unfold cntL
      rw [List.length_eq_zero_iff, List.filter_eq_nil_iff]
      intro c hc
      have := h c hc
      simp; omega
    simp [st, h1, h2]
theorem kr_below (l : List Cd) (mn n : Nat) (h : ∀ c ∈ l, mn ≤ c.len) (hn : n < mn) : kr l n = 0 := by
  have h1 := st_kr l n
  have h2 := st_zero l mn h (n + 1) (by omega)
  simp only [st] at h2
  omega
/-- What the third loop counts on. -/
def nx3 (l : List Cd) (mn mx i : Nat) (j : Nat) : Nat := if mn ≤ j ∧ j < mx + 1 then st l j + cntL (l.take i) j else 0
theorem nx3_zero (l : List Cd) (mn mx : Nat) : row28 (nxt l mn (mx + 1)) = row28 (nx3 l mn mx 0) := by
  refine row28_ext fun j _ => ?_
  simp [nxt, nx3, cntL]
theorem nx3_set (l : List Cd) (mn mx i : Nat) (h : i < l.length) (h1 : mn ≤ (l.getD i Cd.zero).len) (h2 : (l.getD i Cd.zero).len ≤ mx) (h3 : mx < 28) :
    wr (row28 (nx3 l mn mx i)) ((l.getD i Cd.zero).len : Int) ((nx3 l mn mx i (l.getD i Cd.zero).len + 1 : Nat) : Int) = row28 (nx3 l mn mx (i + 1)) := by
  rw [row28_wr _ _ _ (by omega)]
  refine row28_ext fun j _ => ?_
  unfold nx3
  rw [take_succ_getD l i h]
  by_cases hj : j = (l.getD i Cd.zero).len
  · subst hj
    rw [if_pos rfl, if_pos (by omega), if_pos (by omega), cntL_append, cntL_cons, cntL_nil, if_pos rfl]
    omega
  · rw [if_neg hj]
    by_cases h4 : mn ≤ j ∧ j < mx + 1
    · rw [if_pos h4, if_pos h4, cntL_append, cntL_cons, cntL_nil, if_neg (fun h => hj h.symm)]; omega
    · rw [if_neg h4, if_neg h4]

/-- The values up to place k. -/
def canonTo (l : List Cd) (k : Nat) : List Cd := (canon l).take k ++ l.drop k
theorem canonTo_zero (l : List Cd) : canonTo l 0 = l := by simp [canonTo]
theorem canonTo_all (l : List Cd) : canonTo l l.length = canon l := by simp [canonTo, ← canon_length l]
theorem canonTo_length (l : List Cd) (k : Nat) (h : k ≤ l.length) : (canonTo l k).length = l.length := by simp [canonTo, canon_length]; omega
theorem canonTo_get (l : List Cd) (k : Nat) (h : k < l.length) : (canonTo l k).getD k Cd.zero = l.getD k Cd.zero := by
  simp [canonTo, List.getElem?_append, canon_length, Nat.min_eq_left (Nat.le_of_lt h)]
theorem canonTo_set (l : List Cd) (k : Nat) (h : k < l.length) : (canonTo l k).set k { (canonTo l k).getD k Cd.zero with val := valAt l k } = canonTo l (k + 1) := by
  rw [canonTo_get l k h]
  unfold canonTo
  have hlen : ((canon l).take k).length = k := by simp [canon_length]; omega
  have hc : k < (canon l).length := by rw [canon_length]; exact h
  have hd : l.drop k = l.getD k Cd.zero :: l.drop (k + 1) := by
    have : l.getD k Cd.zero = l[k] := by simp [h]
    rw [this, List.drop_eq_getElem_cons h]
  rw [List.set_append_right _ _ (by omega), hlen, Nat.sub_self, hd, List.set_cons_zero, take_succ_getD _ _ hc, canon_get l k h]
  simp
end Go.Proofs.Ytjkpfliaflmppaa.Pc
