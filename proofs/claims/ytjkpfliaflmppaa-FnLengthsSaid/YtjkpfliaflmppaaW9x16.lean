/- By packages and merging: what comes first is no more than what any lengths cost. No condition. The depth of the tree of the two least ones: no code lies deeper. No condition. impl.codes and impl.uncodes copy a row of codes: for every row of at most 100 codes. The cost of codes, walked: spec.Cost, (PrefixCodes).Length, impl.TotalLength. -/
import Derived.Test.YtjkpfliaflmppaaW9x04
import Derived.Test.YtjkpfliaflmppaaW9x10
import Derived.Test.YtjkpfliaflmppaaW9x14

namespace Go.Proofs.Ytjkpfliaflmppaa.Hu

def pre (l : List Nat) (k : Nat) : Nat := (l.take k).sum
/-- Two and two together. -/
def pk : List Nat → List Nat
  | a :: b :: r => (a + b) :: pk r
  | _ => []
/-- In order, what stands alone first. -/
def mg : List Nat → List Nat → List Nat
  | [], B => B
  | c :: C, [] => c :: C
  | c :: C, b :: B => if b < c then b :: mg (c :: C) B else c :: mg C (b :: B)
termination_by C B => C.length + B.length
def rws (C : List Nat) : Nat → List Nat
  | 0 => []
  | k + 1 => mg C (pk (rws C k))

theorem mg_nil (B : List Nat) : mg [] B = B := by unfold mg; rfl
theorem mg_nilr (C : List Nat) : mg C [] = C := by cases C <;> (unfold mg; rfl)
theorem mg_lt {c b : Nat} (C B : List Nat) (h : b < c) : mg (c :: C) (b :: B) = b :: mg (c :: C) B := by
  rw [mg]; simp [h]
theorem mg_ge {c b : Nat} (C B : List Nat) (h : ¬ b < c) : mg (c :: C) (b :: B) = c :: mg C (b :: B) := by
  rw [mg]; simp [h]
theorem mg_length (C B : List Nat) : (mg C B).length = C.length + B.length := by
  fun_induction mg C B with
  | case1 B => simp
  | case2 c C => simp
  | case3 c C b B h ih => simp only [List.length_cons] at ih ⊢; omega
  | case4 c C b B h ih => simp only [List.length_cons] at ih ⊢; omega
theorem mg_mem (C B : List Nat) : ∀ x ∈ mg C B, x ∈ C ∨ x ∈ B := by
  fun_induction mg C B with
  | case1 B => exact fun x h => .inr h
  | case2 c C => exact fun x h => .inl h
  | case3 c C b B h ih =>
    intro x hx
    rcases List.mem_cons.1 hx with rfl | hx
    · exact .inr (by simp)
    · exact (ih x hx).imp id fun h => by simp [h]
  | case4 c C b B h ih =>
    intro x hx
    rcases List.mem_cons.1 hx with rfl | hx
    · exact .inl (by simp)
    · exact (ih x hx).imp (fun h => by simp [h]) id
abbrev Up (l : List Nat) : Prop := l.Pairwise (· ≤ ·)
theorem mg_up (C B : List Nat) (hC : Up C) (hB : Up B) : Up (mg C B) := by
  fun_induction mg C B with
  | case1 B => exact hB
  | case2 c C => exact hC
  | case3 c C b B h ih =>
    refine List.Pairwise.cons ?_ (ih hC hB.tail)
    intro x hx
    rcases mg_mem _ _ x hx with h1 | h1
    · rcases List.mem_cons.1 h1 with rfl | h1
      · omega
      · have := (List.pairwise_cons.1 hC).1 x h1; omega
    · exact (List.pairwise_cons.1 hB).1 x h1
  | case4 c C b B h ih =>
    refine List.Pairwise.cons ?_ (ih hC.tail hB)
    intro x hx
    rcases mg_mem _ _ x hx with h1 | h1
    · exact (List.pairwise_cons.1 hC).1 x h1
    · rcases List.mem_cons.1 h1 with rfl | h1
      · omega
      · have := (List.pairwise_cons.1 hB).1 x h1; omega
theorem pk_length (l : List Nat) : (pk l).length = l.length / 2 := by
  fun_induction pk l with
  | case1 a b r ih => simp only [List.length_cons]; omega
  | case2 l h =>
    match l, h with
    | [], _ => rfl
    | [_], _ => simp
    | a :: b :: r, h => exact absurd rfl (h a b r)
theorem pk_head (l : List Nat) (i : Nat) (h : i + 1 < l.length) : pk (l.drop i) = (l.getD i 0 + l.getD (i + 1) 0) :: pk (l.drop (i + 2)) := by
  rw [List.drop_eq_getElem_cons (show i < l.length by omega), List.drop_eq_getElem_cons (show i + 1 < l.length by omega)]
  show (l[i] + l[i + 1]) :: pk (l.drop (i + 1 + 1)) = _
  simp [h, show i < l.length by omega]
theorem pk_end (l : List Nat) (i : Nat) (h : l.length ≤ i + 1) : pk (l.drop i) = [] := by
  apply List.eq_nil_of_length_eq_zero
  rw [pk_length, List.length_drop]
  omega
theorem pk_mem (l : List Nat) (m : Nat) (h : ∀ x ∈ l, x ≤ m) : ∀ x ∈ pk l, x ≤ 2 * m := by
  fun_induction pk l with
  | case1 a b r ih =>
    intro x hx
    have h1 := h a (by simp)
    have h2 := h b (by simp)
    rcases List.mem_cons.1 hx with rfl | hx
    · omega
    · exact ih (fun y hy => h y (by simp [hy])) x hx
  | case2 l h1 => intro x hx; simp at hx
theorem pk_low (l : List Nat) (m : Nat) (h : ∀ x ∈ l, m ≤ x) : ∀ x ∈ pk l, 2 * m ≤ x := by
  fun_induction pk l with
  | case1 a b r ih =>
    intro x hx
    have h1 := h a (by simp)
    have h2 := h b (by simp)
    rcases List.mem_cons.1 hx with rfl | hx
    · omega
    · exact ih (fun y hy => h y (by simp [hy])) x hx
  | case2 l h1 => intro x hx; simp at hx
theorem pk_up (l : List Nat) (h : Up l) : Up (pk l) := by
  fun_induction pk l with
  | case1 a b r ih =>
    have h1 := List.pairwise_cons.1 h
    have h2 := List.pairwise_cons.1 h1.2
    refine List.Pairwise.cons ?_ (ih h2.2)
    intro x hx
    have h3 := pk_low r b h2.1 x hx
    have h4 := h1.1 b (by simp)
    omega
  | case2 l h1 => exact List.Pairwise.nil

theorem pre_cons (x : Nat) (l : List Nat) (k : Nat) : pre (x :: l) (k + 1) = x + pre l k := by simp [pre]
theorem pre_zero (l : List Nat) : pre l 0 = 0 := by simp [pre]
theorem pre_cons_le (k : Nat) : ∀ (x : Nat) (l : List Nat), Up (x :: l) → k ≤ l.length → pre (x :: l) k ≤ pre l k := by
  induction k with
  | zero => intro x l _ _; simp [pre]
  | succ k ih =>
    intro x l h hk
    cases l with
    | nil => simp at hk
    | cons y l =>
      rw [pre_cons, pre_cons]
      have h1 := List.pairwise_cons.1 h
      have h2 := ih y l h1.2 (by simpa using hk)
      have h3 := h1.1 y (by simp)
      omega
theorem pre_mono (l : List Nat) : ∀ {k m : Nat}, k ≤ m → pre l k ≤ pre l m := by
  induction l with
  | nil => intro k m _; simp [pre]
  | cons x l ih =>
    intro k m h
    cases k with
    | zero => rw [pre_zero]; omega
    | succ k =>
      cases m with
      | zero => omega
      | succ m => rw [pre_cons, pre_cons]; have := ih (show k ≤ m by omega); omega
theorem pre_pk (l : List Nat) : ∀ p, pre (pk l) p ≤ pre l (2 * p) := by
  fun_induction pk l with
  | case1 a b r ih =>
    intro p
    cases p with
    | zero => simp [pre]
    | succ p =>
      rw [pre_cons, show 2 * (p + 1) = 2 * p + 1 + 1 by omega, pre_cons, pre_cons]
      have := ih p
      omega
  | case2 l h => intro p; simp [pre]
theorem pre_mg (C B : List Nat) (hC : Up C) (hB : Up B) : ∀ a b, a ≤ C.length → b ≤ B.length → pre (mg C B) (a + b) ≤ pre C a + pre B b := by
  fun_induction mg C B with
  | case1 B =>
    intro a b ha hb
    simp only [List.length_nil] at ha
    obtain rfl : a = 0 := by omega
    rw [Nat.zero_add, pre_zero]; omega
  | case2 c C =>
    intro a b ha hb
    simp only [List.length_nil] at hb
    obtain rfl : b = 0 := by omega
    rw [Nat.add_zero, pre_zero]; omega
  | case3 c C b0 B h ih =>
    intro a b ha hb
    have hs : Up (b0 :: c :: C) := List.Pairwise.cons (fun x hx => by
      rcases List.mem_cons.1 hx with rfl | hx
      · omega
      · have := (List.pairwise_cons.1 hC).1 x hx; omega) hC
    cases b with
    | succ b =>
      rw [← Nat.add_assoc, pre_cons, pre_cons]
      have := ih hC hB.tail a b ha (by simpa using hb)
      omega
    | zero =>
      cases a with
      | zero => simp [pre]
      | succ a =>
        have h1 := ih hC hB.tail a 0 (by omega) (by omega)
        have h2 := pre_cons_le (a + 1) b0 (c :: C) hs ha
        rw [pre_cons] at h2
        rw [Nat.add_zero, pre_cons]
        rw [Nat.add_zero, pre_zero] at h1
        omega
  | case4 c C b0 B h ih =>
    intro a b ha hb
    have hs : Up (c :: b0 :: B) := List.Pairwise.cons (fun x hx => by
      rcases List.mem_cons.1 hx with rfl | hx
      · omega
      · have := (List.pairwise_cons.1 hB).1 x hx; omega) hB
    cases a with
    | succ a =>
      rw [Nat.add_right_comm, pre_cons, pre_cons]
      have := ih hC.tail hB a b (by simpa using ha) hb
      omega
    | zero =>
      cases b with
      | zero => simp [pre]
      | succ b =>
        have h1 := ih hC.tail hB 0 b (by omega) (by omega)
        have h2 := pre_cons_le (b + 1) c (b0 :: B) hs hb
        rw [pre_cons] at h2
        rw [Nat.zero_add, pre_cons]
        rw [Nat.zero_add, pre_zero] at h1
        omega

/-! ### Lengths -/
theorem rws_up (C : List Nat) (h : Up C) : ∀ k, Up (rws C k)
  | 0 => List.Pairwise.nil
  | k + 1 => mg_up C _ h (pk_up _ (rws_up C h k))
theorem rws_length (C : List Nat) : ∀ k, (rws C k).length ≤ 2 * C.length
  | 0 => Nat.zero_le _
  | k + 1 => by
    show (mg C (pk (rws C k))).length ≤ _
    have := rws_length C k
    rw [mg_length, pk_length]; omega
theorem rws_mem (C : List Nat) (m : Nat) (h : ∀ x ∈ C, x ≤ m) : ∀ k, ∀ x ∈ rws C k, x ≤ 2 ^ k * m
  | 0, x, hx => by simp [rws] at hx
  | k + 1, x, hx => by
    have h1 : m ≤ 2 ^ k * m := Nat.le_mul_of_pos_left _ (Nat.two_pow_pos _)
    rw [Nat.pow_succ, show 2 ^ k * 2 * m = 2 * (2 ^ k * m) by rw [Nat.mul_comm (2 ^ k) 2, Nat.mul_assoc]]
    rcases mg_mem _ _ x hx with h2 | h2
    · have := h x h2; omega
    · exact pk_mem _ _ (rws_mem C m h k) x h2

/-- How many have such a length, what they cost, what they fill. -/
def Nk (Z : List (Nat × Nat)) (L k : Nat) : Nat := (Z.filter fun z => decide (L ≤ z.2 + k)).length
def Wk (Z : List (Nat × Nat)) (L k : Nat) : Nat := (Z.map fun z => z.1 * (z.2 + k - L)).sum
def Xk (Z : List (Nat × Nat)) (L k : Nat) : Nat := (Z.map fun z => 2 ^ k - 2 ^ (L - z.2)).sum
theorem pre_filter (p : Nat × Nat → Bool) (Z : List (Nat × Nat)) (h : Up (Z.map Prod.fst)) : pre (Z.map Prod.fst) (Z.filter p).length ≤ ((Z.filter p).map Prod.fst).sum := by
  induction Z with
  | nil => simp [pre]
  | cons z Z ih =>
    have h1 := ih h.tail
    cases hp : p z with
    | true =>
      rw [List.filter_cons_of_pos hp, List.map_cons, List.length_cons, pre_cons, List.map_cons, List.sum_cons]
      omega
    | false =>
      rw [List.filter_cons_of_neg (by simp [hp])]
      have h2 := pre_cons_le (Z.filter p).length z.1 (Z.map Prod.fst) h (by rw [List.length_map]; exact List.length_filter_le _ _)
      exact Nat.le_trans h2 h1
theorem Wk_succ (L k : Nat) (Z : List (Nat × Nat)) : Wk Z L (k + 1) = Wk Z L k + ((Z.filter fun z => decide (L ≤ z.2 + k)).map Prod.fst).sum := by
  induction Z with
  | nil => rfl
  | cons z Z ih =>
    have h1 : ∀ k, Wk (z :: Z) L k = z.1 * (z.2 + k - L) + Wk Z L k := fun k => by simp [Wk]
    rw [h1, h1, ih]
    by_cases h : L ≤ z.2 + k
    · rw [List.filter_cons_of_pos (by simpa using h), List.map_cons, List.sum_cons, show z.2 + (k + 1) - L = (z.2 + k - L) + 1 by omega, Nat.mul_succ]
      omega
    · rw [List.filter_cons_of_neg (by simpa using h), show z.2 + (k + 1) - L = 0 by omega, show z.2 + k - L = 0 by omega, Nat.add_assoc]
theorem Xk_succ (L k : Nat) (Z : List (Nat × Nat)) : Xk Z L (k + 1) = Xk Z L k + Nk Z L k * 2 ^ k := by
  induction Z with
  | nil => simp [Xk, Nk]
  | cons z Z ih =>
    have h1 : ∀ k, Xk (z :: Z) L k = (2 ^ k - 2 ^ (L - z.2)) + Xk Z L k := fun k => by simp [Xk]
    rw [h1, h1, ih]
    have h2 : (2 : Nat) ^ (k + 1) = 2 ^ k + 2 ^ k := by rw [Nat.pow_succ]; omega
    by_cases h : L ≤ z.2 + k
    · have h3 : Nk (z :: Z) L k = Nk Z L k + 1 := by
        unfold Nk
        rw [List.filter_cons_of_pos (by simpa using h), List.length_cons]
      have h4 : (2 : Nat) ^ (L - z.2) ≤ 2 ^ k := Nat.pow_le_pow_right (by omega) (by omega)
      rw [h3, Nat.succ_mul]
      generalize Nk Z L k * 2 ^ k = D
      generalize 2 ^ (L - z.2) = C at *
      generalize 2 ^ (k + 1) = B at *
      generalize 2 ^ k = A at *
      omega
    · have h3 : Nk (z :: Z) L k = Nk Z L k := by
        unfold Nk
        rw [List.filter_cons_of_neg (by simpa using h)]
      have h4 : (2 : Nat) ^ (k + 1) ≤ 2 ^ (L - z.2) := Nat.pow_le_pow_right (by omega) (by omega)
      rw [h3]
      generalize Nk Z L k * 2 ^ k = D
      generalize 2 ^ (L - z.2) = C at *
      generalize 2 ^ (k + 1) = B at *
      generalize 2 ^ k = A at *
      omega
/-- What is taken of each row. -/
def mk (Z : List (Nat × Nat)) (L : Nat) : Nat → Nat
  | 0 => 0
  | k + 1 => mk Z L k / 2 + Nk Z L k
theorem mk_X (Z : List (Nat × Nat)) (L : Nat) : ∀ k, mk Z L (k + 1) = Xk Z L (k + 1) / 2 ^ k
  | 0 => by
    have h0 : Xk Z L 0 = 0 := by
      unfold Xk
      induction Z with
      | nil => rfl
      | cons z Z ih =>
        have := Nat.one_le_two_pow (n := L - z.2)
        rw [List.map_cons, List.sum_cons, ih]
        omega
    rw [Xk_succ, h0]
    simp [mk]
  | k + 1 => by
    show mk Z L (k + 1) / 2 + Nk Z L (k + 1) = _
    rw [mk_X Z L k, Xk_succ L (k + 1), Nat.div_div_eq_div_mul, ← Nat.pow_succ, Nat.add_mul_div_right _ _ (Nat.two_pow_pos _)]
theorem rows_le (Z : List (Nat × Nat)) (L : Nat) (h : Up (Z.map Prod.fst)) : ∀ k, mk Z L k ≤ (rws (Z.map Prod.fst) k).length ∧ pre (rws (Z.map Prod.fst) k) (mk Z L k) ≤ Wk Z L k
  | 0 => ⟨Nat.zero_le _, by simp [pre, rws]⟩
  | k + 1 => by
    obtain ⟨h1, h2⟩ := rows_le Z L h k
    have h3 : Nk Z L k ≤ (Z.map Prod.fst).length := by rw [List.length_map]; exact List.length_filter_le _ _
    have h4 : mk Z L k / 2 ≤ (pk (rws (Z.map Prod.fst) k)).length := by rw [pk_length]; omega
    refine ⟨?_, ?_⟩
    · show mk Z L k / 2 + Nk Z L k ≤ (mg _ _).length
      rw [mg_length]; omega
    · show pre (mg _ _) (mk Z L k / 2 + Nk Z L k) ≤ _
      rw [Nat.add_comm, Wk_succ]
      have h5 := pre_mg _ _ h (pk_up _ (rws_up _ h k)) _ _ h3 h4
      have h6 := pre_pk (rws (Z.map Prod.fst) k) (mk Z L k / 2)
      have h7 := pre_mono (rws (Z.map Prod.fst) k) (show 2 * (mk Z L k / 2) ≤ mk Z L k by omega)
      have h8 := pre_filter (fun z => decide (L ≤ z.2 + k)) Z h
      unfold Nk at h5 ⊢
      omega
/-- The least cost by packages and merging is no more than what lengths up to the limit cost that fill all. -/
theorem least_le (Z : List (Nat × Nat)) (L : Nat) (h : Up (Z.map Prod.fst)) (hL : 1 ≤ L) (h1 : ∀ z ∈ Z, 1 ≤ z.2 ∧ z.2 ≤ L) (hn : 1 ≤ Z.length) (hk : (Z.map fun z => 2 ^ (L - z.2)).sum = 2 ^ L) :
    pre (rws (Z.map Prod.fst) L) (2 * Z.length - 2) ≤ (Z.map fun z => z.1 * z.2).sum := by
  obtain ⟨k, rfl⟩ : ∃ k, L = k + 1 := ⟨L - 1, by omega⟩
  have h2 := (rows_le Z (k + 1) h (k + 1)).2
  have h3 : Wk Z (k + 1) (k + 1) = (Z.map fun z => z.1 * z.2).sum := by
    unfold Wk
    congr 1
    apply List.map_congr_left
    intro z hz
    rw [Nat.add_sub_cancel]
  have h4 : ∀ Y : List (Nat × Nat), (∀ z ∈ Y, 1 ≤ z.2 ∧ z.2 ≤ k + 1) → Xk Y (k + 1) (k + 1) + (Y.map fun z => 2 ^ (k + 1 - z.2)).sum = Y.length * 2 ^ (k + 1) := by
    intro Y
    induction Y with
    | nil => intro _; simp [Xk]
    | cons z Y ih =>
      intro hY
      have e1 := ih fun y hy => hY y (by simp [hy])
      have e2 : Xk (z :: Y) (k + 1) (k + 1) = (2 ^ (k + 1) - 2 ^ (k + 1 - z.2)) + Xk Y (k + 1) (k + 1) := by simp [Xk]
      have e3 : (2 : Nat) ^ (k + 1 - z.2) ≤ 2 ^ (k + 1) := Nat.pow_le_pow_right (by omega) (by omega)
      rw [e2, List.map_cons, List.sum_cons, List.length_cons, Nat.succ_mul]
      omega
  have h5 := h4 Z h1
  rw [hk] at h5
  have h6 : mk Z (k + 1) (k + 1) = 2 * Z.length - 2 := by
    rw [mk_X]
    obtain ⟨n, e⟩ : ∃ n, Z.length = n + 1 := ⟨Z.length - 1, by omega⟩
    rw [e, Nat.succ_mul] at h5
    rw [show Xk Z (k + 1) (k + 1) = n * 2 * 2 ^ k by rw [Nat.mul_assoc, Nat.mul_comm 2, show 2 ^ k * 2 = 2 ^ (k + 1) from rfl]; omega, Nat.mul_div_cancel _ (Nat.two_pow_pos k), e]
    omega
  rw [h6, h3] at h2
  exact h2
end Go.Proofs.Ytjkpfliaflmppaa.Hu

namespace Go.Proofs.Ytjkpfliaflmppaa.Hu

/-- How deep what is made is. -/
def dps (c : List Nat) : Nat → List Nat
  | 0 => []
  | k + 1 => dps c k ++ [max (if (nd c k).la then 0 else (dps c k).getD (nd c k).a 0) (if (nd c k).lb then 0 else (dps c k).getD (nd c k).b 0) + 1]
theorem dps_len (c : List Nat) : ∀ k, (dps c k).length = k
  | 0 => rfl
  | k + 1 => by show (dps c k ++ [_]).length = _; rw [List.length_append, dps_len c k]; rfl
def dp (c : List Nat) (k : Nat) : Nat := max (if (nd c k).la then 0 else (dps c k).getD (nd c k).a 0) (if (nd c k).lb then 0 else (dps c k).getD (nd c k).b 0) + 1
theorem dps_get (c : List Nat) : ∀ k j, j < k → (dps c k).getD j 0 = dp c j
  | k + 1, j, h => by
    show (dps c k ++ [dp c k]).getD j 0 = _
    rw [List.getD_eq_getElem?_getD]
    by_cases hj : j < k
    · rw [List.getElem?_append_left (by rw [dps_len]; exact hj), ← List.getD_eq_getElem?_getD]
      exact dps_get c k j hj
    · obtain rfl : j = k := by omega
      rw [List.getElem?_append_right (by rw [dps_len]; omega), dps_len]
      simp
theorem srch_first {p : Nat → Bool} {k : Nat} (m : Nat) (hk : k < m) (h : p k = true) : srch p m 0 ≤ k := by
  have h2 : srch p m 0 ≤ srch (fun j => decide (k = j)) m 0 := srch_mono (fun j hj => by
    have := of_decide_eq_true hj
    subst this
    exact h) _ _
  have h3 : srch (fun j => decide (k = j)) m 0 = k := srch_eq _ _ (fun j _ hj => decide_eq_false (by omega)) (decide_eq_true rfl) (Nat.zero_le _) (by omega)
  omega
/-- The step that takes what was made at j is one of which it is a part. -/
theorem pq_part {c : List Nat} {j : Nat} (hj : j + 1 < c.length) (hk : pq c j < c.length - 1) :
    ((nd c (pq c j)).la = false ∧ (nd c (pq c j)).a = j) ∨ ((nd c (pq c j)).lb = false ∧ (nd c (pq c j)).b = j) := by
  have h1 : j < (bld c (pq c j + 1)).q := by
    rcases srch_spec (p := fun k => decide (j < (bld c (k + 1)).q)) (c.length - 1) 0 with e | ⟨e1, e2⟩
    · unfold pq at hk; omega
    · exact of_decide_eq_true e1
  have h2 : (bld c (pq c j)).q ≤ j := by
    refine Nat.le_of_not_lt fun hlt => ?_
    cases hp : pq c j with
    | zero => rw [hp] at hlt; exact absurd hlt (Nat.not_lt_zero _)
    | succ k =>
      rw [hp] at hlt hk
      have := srch_first (p := fun k => decide (j < (bld c (k + 1)).q)) (k := k) (c.length - 1) (by omega) (decide_eq_true hlt)
      unfold pq at hp
      omega
  obtain ⟨ha, hb, _, hq, _⟩ := took c (k := pq c j) (by omega)
  rw [hq] at h1
  generalize pq c j = k at *
  rcases ha with ⟨e1, e2, e3⟩ | ⟨e1, e2, e3⟩ <;> rcases hb with ⟨g1, g2, g3⟩ | ⟨g1, g2, g3⟩ <;> rw [e1] at g3 h1 <;> rw [g1] at h1 <;> simp only [if_true, if_false, Bool.false_eq_true, Nat.add_zero] at g3 h1
  · omega
  · exact .inr ⟨g1, by omega⟩
  · exact .inl ⟨e1, by omega⟩
  · by_cases hjq : j = (bld c k).q
    · exact .inl ⟨e1, by omega⟩
    · exact .inr ⟨g1, by omega⟩
theorem dp_part {c : List Nat} {j : Nat} (hj : j + 1 < c.length) (hk : pq c j < c.length - 1) : dp c j + 1 ≤ dp c (pq c j) := by
  have hg := pq_gt (c := c) (j := j) hj
  have h1 := dps_get c (pq c j) j hg
  rcases pq_part hj hk with ⟨e1, e2⟩ | ⟨e1, e2⟩
  · have : dp c (pq c j) = max ((dps c (pq c j)).getD j 0) (if (nd c (pq c j)).lb then 0 else (dps c (pq c j)).getD (nd c (pq c j)).b 0) + 1 := by
      unfold dp
      rw [e1, e2]; rfl
    rw [this, h1]; omega
  · have : dp c (pq c j) = max (if (nd c (pq c j)).la then 0 else (dps c (pq c j)).getD (nd c (pq c j)).a 0) ((dps c (pq c j)).getD j 0) + 1 := by
      unfold dp
      rw [e1, e2]; rfl
    rw [this, h1]; omega
theorem Lq_dp (c : List Nat) : ∀ (m j : Nat), c.length - j ≤ m → j + 1 < c.length → Lq c j + dp c j ≤ dp c (c.length - 2) + 1
  | 0, j, h1, h2 => by omega
  | m + 1, j, h1, h2 => by
    have hg := pq_gt (c := c) (j := j) h2
    unfold Lq
    split
    · rename_i h
      have h3 := Lq_dp c m (pq c j) (by omega) (by omega)
      have h4 := dp_part h2 h.2
      omega
    · rename_i h
      by_cases hj : j = c.length - 2
      · subst hj; omega
      · exfalso
        have he := (bld_end c (by omega)).2
        have := srch_first (p := fun k => decide (j < (bld c (k + 1)).q)) (k := c.length - 2) (c.length - 1) (by omega) (decide_eq_true (by rw [show c.length - 2 + 1 = c.length - 1 by omega, he]; omega))
        unfold pq at h hg
        omega
/-- No code lies deeper than the tree is deep. -/
theorem Lf_dp (c : List Nat) (hn : 2 ≤ c.length) {x : Nat} (hx : x < c.length) : Lf c x ≤ dp c (c.length - 2) := by
  have h1 := pf_lt hn hx
  have h2 := Lq_dp c _ (pf c x) (Nat.le_refl _) (by omega)
  have h3 : 1 ≤ dp c (pf c x) := by unfold dp; omega
  unfold Lf
  omega
end Go.Proofs.Ytjkpfliaflmppaa.Hu

namespace Go.Proofs.Ytjkpfliaflmppaa.Pc
open Go Go.RowKit Go.Proofs.Ytjkpfliaflmppaa.Vm

theorem codes_c (cs : List Cd) (own : Bool) (b cap : Nat) (sp : List Value) (F : Mem) (hn : cs.length ≤ 100) :
    HC Try.prog 41 #[.slice (some ⟨b, 0, none⟩) cs.length cap] (⟨own, b, 0, codesV cs ++ sp⟩ :: F)
      (fun v M' => ∃ b' cap' sp', v = .slice (some ⟨b', 0, none⟩) cs.length cap' ∧ (codesV cs ++ sp').length = cap' * 4 ∧ M' = ⟨true, b', 0, codesV cs ++ sp'⟩ :: ⟨own, b, 0, codesV cs ++ sp⟩ :: F) := by
  obtain ⟨I, hI, hI1, hI2, hI3⟩ := of_info info146
  refine HC_of_W (fn := Try.f41) Try.func41 rfl rfl rfl rfl ?_
  repeat' (first | (refine isO ?_; first | refine oo (Pc rfl) ?_ | refine oo (Pa rfl (by omega) (by omega)) ?_ | (refine ob rfl ?_ ?_ <;> intro hq <;> try (exfalso; omega)) | refine oo (Pi rfl (by omega)) ?_ | refine oo (Pl rfl) ?_ | refine oo (Px rfl rfl) ?_ | refine oo (Pj rfl (by omega) (by omega)) ?_ | refine oo (Pk rfl (by omega) (by omega)) ?_ | refine oo (Pf rfl) ?_ | refine oo (Pv rfl (by omega) (by omega)) ?_ | refine oo (Pn rfl) ?_ | refine oo (Pm rfl) ?_ | refine os rfl rfl ?_ | refine ot rfl (by omega) ?_ | refine O_nil ?_) | refine wo rfl ?_ | refine wc rfl ?_ | refine wg rfl ?_ | refine go rfl ?_ | refine gc rfl ?_ | refine gg rfl ?_)
  refine O_buildSlice rfl row79_0 trivial rfl fun b0 => ?_
  repeat' (first | (refine isO ?_; first | refine oo (Pc rfl) ?_ | refine oo (Pa rfl (by omega) (by omega)) ?_ | (refine ob rfl ?_ ?_ <;> intro hq <;> try (exfalso; omega)) | refine oo (Pi rfl (by omega)) ?_ | refine oo (Pl rfl) ?_ | refine oo (Px rfl rfl) ?_ | refine oo (Pj rfl (by omega) (by omega)) ?_ | refine oo (Pk rfl (by omega) (by omega)) ?_ | refine oo (Pf rfl) ?_ | refine oo (Pv rfl (by omega) (by omega)) ?_ | refine oo (Pn rfl) ?_ | refine oo (Pm rfl) ?_ | refine os rfl rfl ?_ | refine ot rfl (by omega) ?_ | refine O_nil ?_) | refine wo rfl ?_ | refine wc rfl ?_ | refine wg rfl ?_ | refine go rfl ?_ | refine gc rfl ?_ | refine gg rfl ?_)
  refine W_loop (α := Nat × Nat × Nat × List Value) (fun x => [(0, .slice (some ⟨b, 0, none⟩) cs.length cap), (3, .slice (some ⟨x.2.1, 0, none⟩) x.1 x.2.2.1), (7, .slice (some ⟨b, 0, none⟩) cs.length cap), (8, .int .i64 cs.length), (9, .int .i64 x.1)])
    (fun x => ⟨true, x.2.1, 0, codesV (cs.take x.1) ++ x.2.2.2⟩ :: ⟨own, b, 0, codesV cs ++ sp⟩ :: F) (fun x => x.1 ≤ cs.length ∧ (codesV (cs.take x.1) ++ x.2.2.2).length = x.2.2.1 * 4) (fun x => cs.length - x.1)
    (0, b0, 0, []) ⟨by omega, by simp [codesV]⟩ ⟨rfl, rfl, rfl, rfl, rfl, trivial⟩ (by simp only [List.take_zero, codesV_nil, List.nil_append]; repeat (first | exact .rfl | exact .nil | (apply Rk.cons; (· exact TakeI.out)) | refine .drop ?_)) ?_
  rintro ⟨i, b1, c1, s1⟩ ⟨hi, hc1⟩
  dsimp only at hi hc1 ⊢
  repeat' (first | (refine isO ?_; first | refine oo (Pc rfl) ?_ | refine oo (Pa rfl (by omega) (by omega)) ?_ | (refine ob rfl ?_ ?_ <;> intro hq <;> try (exfalso; omega)) | refine oo (Pi rfl (by omega)) ?_ | refine oo (Pl rfl) ?_ | refine oo (Px rfl rfl) ?_ | refine oo (Pj rfl (by omega) (by omega)) ?_ | refine oo (Pk rfl (by omega) (by omega)) ?_ | refine oo (Pf rfl) ?_ | refine oo (Pv rfl (by omega) (by omega)) ?_ | refine oo (Pn rfl) ?_ | refine oo (Pm rfl) ?_ | refine os rfl rfl ?_ | refine ot rfl (by omega) ?_ | refine O_nil ?_) | refine wo rfl ?_ | refine wc rfl ?_ | refine wg rfl ?_ | refine go rfl ?_ | refine gc rfl ?_ | refine gg rfl ?_)
  · have hil : i < cs.length := by omega
    refine O_pure (P_loadAgg (i := i * 4) (cs := (cs.getD i Cd.zero).cells) Tb.a42 Tb.c42 (by decide) (by simp only [Int.toNat_natCast]; rfl) (by exact TakeI.out.mem) (by rw [List.length_append, codesV_length]; omega) (codesV_block _ _ _ hil)) trivial rfl ?_
    refine O_alloc zero42 trivial rfl fun bx => ?_
    refine O_storeAgg0 Tb.c42 (by decide) rfl rfl rfl (Cd.cells_one _) trivial (by exact TakeI.out) rfl ?_
    repeat' (first | (refine isO ?_; first | refine oo (Pc rfl) ?_ | refine oo (Pa rfl (by omega) (by omega)) ?_ | (refine ob rfl ?_ ?_ <;> intro hq <;> try (exfalso; omega)) | refine oo (Pi rfl (by omega)) ?_ | refine oo (Pl rfl) ?_ | refine oo (Px rfl rfl) ?_ | refine oo (Pj rfl (by omega) (by omega)) ?_ | refine oo (Pk rfl (by omega) (by omega)) ?_ | refine oo (Pf rfl) ?_ | refine oo (Pv rfl (by omega) (by omega)) ?_ | refine oo (Pn rfl) ?_ | refine oo (Pm rfl) ?_ | refine os rfl rfl ?_ | refine ot rfl (by omega) ?_ | refine O_nil ?_) | refine wo rfl ?_ | refine wc rfl ?_ | refine wg rfl ?_ | refine go rfl ?_ | refine gc rfl ?_ | refine gg rfl ?_)
    refine O_pure (P_build rfl (build146 _ _ _ _)) trivial rfl ?_
    refine O_buildSlice rfl (row79_1 _ _ _ _) trivial rfl fun by1 => ?_
    refine O_append (len := i) (m := [⟨true, b1, 0, codesV (cs.take i) ++ s1⟩]) (xs := codesV (cs.take i)) Tb.u79 Tb.u79 hI hI1 (by decide) (by omega) hI3 rfl rfl rfl (.inr ⟨b1, i, c1, s1, rfl, rfl, by rw [codesV_length]; simp; omega, hc1⟩)
      (.cons (by exact TakeI.out) .rfl) (by rw [codesV_length]; simp; omega) (.head _) (by simp [Cd.cells]) (Cd.cells_one (cs.getD i Cd.zero)) (.inl (by omega)) (by rw [hI2]; omega) trivial rfl fun b2 c2 s2 h2 => ?_
    repeat' (first | (refine isO ?_; first | refine oo (Pc rfl) ?_ | refine oo (Pa rfl (by omega) (by omega)) ?_ | (refine ob rfl ?_ ?_ <;> intro hq <;> try (exfalso; omega)) | refine oo (Pi rfl (by omega)) ?_ | refine oo (Pl rfl) ?_ | refine oo (Px rfl rfl) ?_ | refine oo (Pj rfl (by omega) (by omega)) ?_ | refine oo (Pk rfl (by omega) (by omega)) ?_ | refine oo (Pf rfl) ?_ | refine oo (Pv rfl (by omega) (by omega)) ?_ | refine oo (Pn rfl) ?_ | refine oo (Pm rfl) ?_ | refine os rfl rfl ?_ | refine ot rfl (by omega) ?_ | refine O_nil ?_) | refine wo rfl ?_ | refine wc rfl ?_ | refine wg rfl ?_ | refine go rfl ?_ | refine gc rfl ?_ | refine gg rfl ?_)
    refine G_stop ⟨(i + 1, b2, c2, s2), ⟨by omega, ?_⟩, by dsimp only; omega, ⟨rfl, rfl, rfl, rfl, rfl, trivial⟩, ?_⟩
    · rw [codesV_take _ _ hil] at h2; exact h2
    · dsimp only
      rw [codesV_take _ _ hil]
      repeat (first | exact .rfl | exact .nil | (apply Rk.cons; (· exact TakeI.out)) | refine .drop ?_)
  · obtain rfl : i = cs.length := by omega
    refine G_fin ⟨_, rfl, b1, c1, s1, rfl, ?_, ?_⟩
    · rw [List.take_length] at hc1; exact hc1
    · rw [List.take_length]

theorem uncodes_c (cs : List Cd) (own : Bool) (b cap : Nat) (sp : List Value) (F : Mem) (hn : cs.length ≤ 100) :
    HC Try.prog 43 #[.slice (some ⟨b, 0, none⟩) cs.length cap] (⟨own, b, 0, codesV cs ++ sp⟩ :: F)
      (fun v M' => ∃ m, Own v 4 (codesV cs) m ∧ Rk M' (⟨own, b, 0, codesV cs ++ sp⟩ :: (m ++ F))) := by
  obtain ⟨I, hI, hI1, hI2, hI3⟩ := of_info info42
  refine HC_of_W (fn := Try.f43) Try.func43 rfl rfl rfl rfl ?_
  repeat' (first | (refine isO ?_; first | refine oo (Pc rfl) ?_ | refine oo (Pa rfl (by omega) (by omega)) ?_ | (refine ob rfl ?_ ?_ <;> intro hq <;> try (exfalso; omega)) | refine oo (Pi rfl (by omega)) ?_ | refine oo (Pl rfl) ?_ | refine oo (Px rfl rfl) ?_ | refine oo (Pj rfl (by omega) (by omega)) ?_ | refine oo (Pk rfl (by omega) (by omega)) ?_ | refine oo (Pf rfl) ?_ | refine oo (Pv rfl (by omega) (by omega)) ?_ | refine oo (Pn rfl) ?_ | refine oo (Pm rfl) ?_ | refine os rfl rfl ?_ | refine ot rfl (by omega) ?_ | refine O_nil ?_) | refine wo rfl ?_ | refine wc rfl ?_ | refine wg rfl ?_ | refine go rfl ?_ | refine gc rfl ?_ | refine gg rfl ?_)
  refine W_loop (α := Nat × Value × Mem) (fun x => [(0, .slice (some ⟨b, 0, none⟩) cs.length cap), (3, x.2.1), (6, .slice (some ⟨b, 0, none⟩) cs.length cap), (7, .int .i64 cs.length), (8, .int .i64 x.1)])
    (fun x => ⟨own, b, 0, codesV cs ++ sp⟩ :: (x.2.2 ++ F)) (fun x => x.1 ≤ cs.length ∧ Own x.2.1 4 (codesV (cs.take x.1)) x.2.2) (fun x => cs.length - x.1)
    (0, .slice none 0 0, []) ⟨by omega, .inl ⟨rfl, by simp [codesV], rfl⟩⟩ ⟨rfl, rfl, rfl, rfl, rfl, trivial⟩ (by repeat (first | exact .rfl | exact .nil | (apply Rk.cons; (· exact TakeI.out)) | refine .drop ?_)) ?_
  rintro ⟨i, v, m⟩ ⟨hi, hown⟩
  dsimp only at hi hown ⊢
  repeat' (first | (refine isO ?_; first | refine oo (Pc rfl) ?_ | refine oo (Pa rfl (by omega) (by omega)) ?_ | (refine ob rfl ?_ ?_ <;> intro hq <;> try (exfalso; omega)) | refine oo (Pi rfl (by omega)) ?_ | refine oo (Pl rfl) ?_ | refine oo (Px rfl rfl) ?_ | refine oo (Pj rfl (by omega) (by omega)) ?_ | refine oo (Pk rfl (by omega) (by omega)) ?_ | refine oo (Pf rfl) ?_ | refine oo (Pv rfl (by omega) (by omega)) ?_ | refine oo (Pn rfl) ?_ | refine oo (Pm rfl) ?_ | refine os rfl rfl ?_ | refine ot rfl (by omega) ?_ | refine O_nil ?_) | refine wo rfl ?_ | refine wc rfl ?_ | refine wg rfl ?_ | refine go rfl ?_ | refine gc rfl ?_ | refine gg rfl ?_)
  · have hil : i < cs.length := by omega
    refine O_pure (P_loadAgg (i := i * 4) (cs := (cs.getD i Cd.zero).cells) Tb.a146 Tb.c146 (by decide) (by simp only [Int.toNat_natCast]; rfl) (by exact TakeI.out.mem) (by rw [List.length_append, codesV_length]; omega) (codesV_block _ _ _ hil)) trivial rfl ?_
    refine O_alloc zero146 trivial rfl fun bx => ?_
    refine O_storeAgg0 Tb.c146 (by decide) rfl rfl rfl (Cd.cells_one _) trivial (by exact TakeI.out) rfl ?_
    repeat' (first | (refine isO ?_; first | refine oo (Pc rfl) ?_ | refine oo (Pa rfl (by omega) (by omega)) ?_ | (refine ob rfl ?_ ?_ <;> intro hq <;> try (exfalso; omega)) | refine oo (Pi rfl (by omega)) ?_ | refine oo (Pl rfl) ?_ | refine oo (Px rfl rfl) ?_ | refine oo (Pj rfl (by omega) (by omega)) ?_ | refine oo (Pk rfl (by omega) (by omega)) ?_ | refine oo (Pf rfl) ?_ | refine oo (Pv rfl (by omega) (by omega)) ?_ | refine oo (Pn rfl) ?_ | refine oo (Pm rfl) ?_ | refine os rfl rfl ?_ | refine ot rfl (by omega) ?_ | refine O_nil ?_) | refine wo rfl ?_ | refine wc rfl ?_ | refine wg rfl ?_ | refine go rfl ?_ | refine gc rfl ?_ | refine gg rfl ?_)
    refine O_pure (P_build rfl (build42 _ _ _ _)) trivial rfl ?_
    refine O_buildSlice rfl (row23_1 _ _ _ _) trivial rfl fun by1 => ?_
    refine O_append (len := i) (m := m) (M0 := [⟨true, by1, 0, (cs.getD i Cd.zero).cells⟩, ⟨own, b, 0, codesV cs ++ sp⟩] ++ F) (xs := codesV (cs.take i)) Tb.u23 Tb.u23 hI hI1 (by decide) (by omega) hI3 rfl rfl rfl hown
      ?_ (by rw [codesV_length]; simp; omega) (.head _) (by simp [Cd.cells]) (Cd.cells_one (cs.getD i Cd.zero)) (.inl (by omega)) (by rw [hI2]; omega) trivial rfl fun b2 c2 s2 h2 => ?_
    · refine .trans (L := ⟨true, by1, 0, (cs.getD i Cd.zero).cells⟩ :: ⟨own, b, 0, codesV cs ++ sp⟩ :: (m ++ F)) (by repeat (first | exact .rfl | exact .nil | (apply Rk.cons; (· exact TakeI.out)) | refine .drop ?_)) (.perm (List.perm_append_comm_assoc [_, _] m F))
    repeat' (first | (refine isO ?_; first | refine oo (Pc rfl) ?_ | refine oo (Pa rfl (by omega) (by omega)) ?_ | (refine ob rfl ?_ ?_ <;> intro hq <;> try (exfalso; omega)) | refine oo (Pi rfl (by omega)) ?_ | refine oo (Pl rfl) ?_ | refine oo (Px rfl rfl) ?_ | refine oo (Pj rfl (by omega) (by omega)) ?_ | refine oo (Pk rfl (by omega) (by omega)) ?_ | refine oo (Pf rfl) ?_ | refine oo (Pv rfl (by omega) (by omega)) ?_ | refine oo (Pn rfl) ?_ | refine oo (Pm rfl) ?_ | refine os rfl rfl ?_ | refine ot rfl (by omega) ?_ | refine O_nil ?_) | refine wo rfl ?_ | refine wc rfl ?_ | refine wg rfl ?_ | refine go rfl ?_ | refine gc rfl ?_ | refine gg rfl ?_)
    refine G_stop ⟨(i + 1, .slice (some ⟨b2, 0, none⟩) (i + 1) c2, [⟨true, b2, 0, codesV (cs.take (i + 1)) ++ s2⟩]), ⟨by omega, ?_⟩, by dsimp only; omega, ⟨rfl, rfl, rfl, rfl, rfl, trivial⟩, ?_⟩
    · rw [codesV_take _ _ hil] at h2; exact .inr ⟨b2, i + 1, c2, s2, rfl, rfl, by rw [codesV_length]; simp; omega, h2⟩
    · dsimp only
      rw [codesV_take _ _ hil]
      refine .cons (by exact TakeI.out) ?_
      exact .cons .head (.drop .rfl)
  · obtain rfl : i = cs.length := by omega
    rw [List.take_length] at hown
    exact G_fin ⟨_, rfl, m, hown, .rfl⟩
end Go.Proofs.Ytjkpfliaflmppaa.Pc

namespace Go.Proofs.Ytjkpfliaflmppaa.Hu
open Go Go.RowKit Go.Proofs.Ytjkpfliaflmppaa.Vm Go.Proofs.Ytjkpfliaflmppaa.Pc

/-- What codes cost. -/
def co (l : List Cd) : Nat := (l.map fun c => c.cnt * c.len).sum
theorem co_take (l : List Cd) (i : Nat) (h : i < l.length) : co (l.take (i + 1)) = co (l.take i) + (l.getD i Cd.zero).cnt * (l.getD i Cd.zero).len := by
  rw [take_succ_getD l i h]; simp [co]
theorem co_le (l : List Cd) (h : ∀ c ∈ l, c.cnt < 16777216 ∧ c.len ≤ 20) : co l ≤ l.length * 335544320 := by
  induction l with
  | nil => simp [co]
  | cons c l ih =>
    have h1 : co (c :: l) = c.cnt * c.len + co l := by simp [co]
    have h2 := h c (by simp)
    have h3 := ih fun d hd => h d (by simp [hd])
    have h4 : c.cnt * c.len ≤ 16777216 * 20 := Nat.mul_le_mul (by omega) h2.2
    simp only [List.length_cons]
    omega

theorem cost_c (l : List Cd) (b cap : Nat) (own : Bool) (sp : List Value) (M : Mem) (hm : (⟨own, b, 0, codesV l ++ sp⟩ : Sg) ∈ M) (hlen : ∀ c ∈ l, c.cnt < 16777216 ∧ c.len ≤ 20) (h60 : l.length ≤ 60) :
    HC Try.prog 32 #[.slice (some ⟨b, 0, none⟩) l.length cap] M (fun v M' => v = .int .u64 (co l : Nat) ∧ Rk M' M) := by
  refine HC_of_W (fn := Try.f32) Try.func32 rfl rfl rfl rfl ?_
  repeat' (first | (refine isO ?_; first | refine oo (Pc rfl) ?_ | refine oo (Pa rfl (by omega) (by omega)) ?_ | (refine ob rfl ?_ ?_ <;> intro hq <;> try (exfalso; omega)) | refine oo (Pi rfl (by omega)) ?_ | refine oo (Pl rfl) ?_ | refine oo (Px rfl rfl) ?_ | refine oo (Pj rfl (by omega) (by omega)) ?_ | refine oo (Pk rfl (by omega) (by omega)) ?_ | refine oo (Pf rfl) ?_ | refine oo (Pv rfl (by omega) (by omega)) ?_ | refine oo (Pn rfl) ?_ | refine oo (Pm rfl) ?_ | refine os rfl rfl ?_ | refine ot rfl (by omega) ?_ | refine O_nil ?_) | refine wo rfl ?_ | refine wc rfl ?_ | refine wg rfl ?_ | refine go rfl ?_ | refine gc rfl ?_ | refine gg rfl ?_)
  refine W_loop (α := Nat) (fun i => [(0, .slice (some ⟨b, 0, none⟩) l.length cap), (3, .int .u64 (co (l.take i) : Nat)), (4, .int .i64 i)]) (fun _ => M) (fun i => i ≤ l.length) (fun i => l.length - i) 0 (by omega) ⟨rfl, rfl, rfl, trivial⟩ .rfl ?_
  intro i hi
  try dsimp only
  repeat' (first | (refine isO ?_; first | refine oo (Pc rfl) ?_ | refine oo (Pa rfl (by omega) (by omega)) ?_ | (refine ob rfl ?_ ?_ <;> intro hq <;> try (exfalso; omega)) | refine oo (Pi rfl (by omega)) ?_ | refine oo (Pl rfl) ?_ | refine oo (Px rfl rfl) ?_ | refine oo (Pj rfl (by omega) (by omega)) ?_ | refine oo (Pk rfl (by omega) (by omega)) ?_ | refine oo (Pf rfl) ?_ | refine oo (Pv rfl (by omega) (by omega)) ?_ | refine oo (Pn rfl) ?_ | refine oo (Pm rfl) ?_ | refine os rfl rfl ?_ | refine ot rfl (by omega) ?_ | refine O_nil ?_) | refine wo rfl ?_ | refine wc rfl ?_ | refine wg rfl ?_ | refine go rfl ?_ | refine gc rfl ?_ | refine gg rfl ?_)
  · have hil : i < l.length := by omega
    have hks := co_take l i hil
    have hle := co_le (l.take i) fun c hc => hlen c (List.mem_of_mem_take hc)
    have hlt : (l.take i).length ≤ 60 := by simp; omega
    have hmem : l.getD i Cd.zero ∈ l := by
      rw [show l.getD i Cd.zero = l[i] by simp [hil]]
      exact List.getElem_mem _
    have hl := hlen _ hmem
    have hg1 : (codesV l ++ sp)[i * 4 + 1]? = some (.int .u32 (l.getD i Cd.zero).cnt) := codesV_get l sp i 1 hil (by omega)
    have hg2 : (codesV l ++ sp)[i * 4 + 2]? = some (.int .u32 (l.getD i Cd.zero).len) := codesV_get l sp i 2 hil (by omega)
    generalize (l.getD i Cd.zero).len = n at *
    generalize (l.getD i Cd.zero).cnt = c at *
    have hp : c * n ≤ 16777216 * 20 := Nat.mul_le_mul (by omega) hl.2
    have hpi : (c : Int) * (n : Int) = ((c * n : Nat) : Int) := rfl
    refine W_region_tail 14 Tb.mixed (by kernel_rfl) ?_
    simp only [List.take_succ_cons, List.take_zero, List.drop_succ_cons, List.drop_zero]
    repeat' (first | (refine isS ?_; first | refine ss (Pc rfl) ?_ | refine ss (Pa rfl (by omega) (by omega)) ?_ | (refine sb rfl ?_ ?_ <;> intro hq <;> try (exfalso; omega)) | refine ss (Pi rfl (by omega)) ?_ | refine ss (Pl rfl) ?_ | refine ss (Px rfl rfl) ?_ | refine ss (Pj rfl (by omega) (by omega)) ?_ | refine ss (Pk rfl (by omega) (by omega)) ?_ | refine ss (Pf rfl) ?_ | refine ss (Pv rfl (by omega) (by omega)) ?_ | refine ss (Pn rfl) ?_ | refine ss (Pm rfl) ?_ | refine OS_nil ?_))
    refine OS_pure (P_loadAt (o := 0) (n := i * 4 + 1) Tb.p40 rfl (by omega) hm hg1) trivial rfl ?_
    repeat' (first | (refine isS ?_; first | refine ss (Pc rfl) ?_ | refine ss (Pa rfl (by omega) (by omega)) ?_ | (refine sb rfl ?_ ?_ <;> intro hq <;> try (exfalso; omega)) | refine ss (Pi rfl (by omega)) ?_ | refine ss (Pl rfl) ?_ | refine ss (Px rfl rfl) ?_ | refine ss (Pj rfl (by omega) (by omega)) ?_ | refine ss (Pk rfl (by omega) (by omega)) ?_ | refine ss (Pf rfl) ?_ | refine ss (Pv rfl (by omega) (by omega)) ?_ | refine ss (Pn rfl) ?_ | refine ss (Pm rfl) ?_ | refine OS_nil ?_))
    refine OS_pure (P_loadAt (o := 0) (n := i * 4 + 2) Tb.p40 rfl (by omega) hm hg2) trivial rfl ?_
    repeat' (first | (refine isS ?_; first | refine ss (Pc rfl) ?_ | refine ss (Pa rfl (by omega) (by omega)) ?_ | (refine sb rfl ?_ ?_ <;> intro hq <;> try (exfalso; omega)) | refine ss (Pi rfl (by omega)) ?_ | refine ss (Pl rfl) ?_ | refine ss (Px rfl rfl) ?_ | refine ss (Pj rfl (by omega) (by omega)) ?_ | refine ss (Pk rfl (by omega) (by omega)) ?_ | refine ss (Pf rfl) ?_ | refine ss (Pv rfl (by omega) (by omega)) ?_ | refine ss (Pn rfl) ?_ | refine ss (Pm rfl) ?_ | refine OS_nil ?_))
    refine O_pure (P_addE (p := co (l.take i)) (q := c * n) (r := co (l.take (i + 1))) rfl rfl rfl (by rw [hks]; exact Nat.mod_eq_of_lt (by simp only [IntKind.bits]; omega))) trivial rfl ?_
    repeat' (first | (refine isO ?_; first | refine oo (Pc rfl) ?_ | refine oo (Pa rfl (by omega) (by omega)) ?_ | (refine ob rfl ?_ ?_ <;> intro hq <;> try (exfalso; omega)) | refine oo (Pi rfl (by omega)) ?_ | refine oo (Pl rfl) ?_ | refine oo (Px rfl rfl) ?_ | refine oo (Pj rfl (by omega) (by omega)) ?_ | refine oo (Pk rfl (by omega) (by omega)) ?_ | refine oo (Pf rfl) ?_ | refine oo (Pv rfl (by omega) (by omega)) ?_ | refine oo (Pn rfl) ?_ | refine oo (Pm rfl) ?_ | refine os rfl rfl ?_ | refine ot rfl (by omega) ?_ | refine O_nil ?_) | refine wo rfl ?_ | refine wc rfl ?_ | refine wg rfl ?_ | refine go rfl ?_ | refine gc rfl ?_ | refine gg rfl ?_)
    exact G_stop ⟨i + 1, by omega, by omega, ⟨rfl, rfl, rfl, trivial⟩, .rfl⟩
  · obtain rfl : i = l.length := by omega
    rw [List.take_length]
    exact G_fin ⟨_, rfl, rfl, .rfl⟩

theorem length_c (l : List Cd) (b cap : Nat) (own : Bool) (sp : List Value) (M : Mem) (hm : (⟨own, b, 0, codesV l ++ sp⟩ : Sg) ∈ M) (hlen : ∀ c ∈ l, c.cnt < 16777216 ∧ c.len ≤ 20) (h60 : l.length ≤ 60) :
    HC Try.prog 79 #[.slice (some ⟨b, 0, none⟩) l.length cap] M (fun v M' => v = .int .u64 (co l : Nat) ∧ Rk M' M) := by
  refine HC_of_W (fn := Try.f79) Try.func79 rfl rfl rfl rfl ?_
  repeat' (first | (refine isO ?_; first | refine oo (Pc rfl) ?_ | refine oo (Pa rfl (by omega) (by omega)) ?_ | (refine ob rfl ?_ ?_ <;> intro hq <;> try (exfalso; omega)) | refine oo (Pi rfl (by omega)) ?_ | refine oo (Pl rfl) ?_ | refine oo (Px rfl rfl) ?_ | refine oo (Pj rfl (by omega) (by omega)) ?_ | refine oo (Pk rfl (by omega) (by omega)) ?_ | refine oo (Pf rfl) ?_ | refine oo (Pv rfl (by omega) (by omega)) ?_ | refine oo (Pn rfl) ?_ | refine oo (Pm rfl) ?_ | refine os rfl rfl ?_ | refine ot rfl (by omega) ?_ | refine O_nil ?_) | refine wo rfl ?_ | refine wc rfl ?_ | refine wg rfl ?_ | refine go rfl ?_ | refine gc rfl ?_ | refine gg rfl ?_)
  refine W_loop (α := Nat) (fun i => [(5, .slice (some ⟨b, 0, none⟩) l.length cap), (2, .int .u64 (co (l.take i) : Nat)), (6, .int .i64 l.length), (7, .int .i64 i)]) (fun _ => M) (fun i => i ≤ l.length) (fun i => l.length - i) 0 (by omega) ⟨rfl, rfl, rfl, rfl, trivial⟩ .rfl ?_
  intro i hi
  try dsimp only
  repeat' (first | (refine isO ?_; first | refine oo (Pc rfl) ?_ | refine oo (Pa rfl (by omega) (by omega)) ?_ | (refine ob rfl ?_ ?_ <;> intro hq <;> try (exfalso; omega)) | refine oo (Pi rfl (by omega)) ?_ | refine oo (Pl rfl) ?_ | refine oo (Px rfl rfl) ?_ | refine oo (Pj rfl (by omega) (by omega)) ?_ | refine oo (Pk rfl (by omega) (by omega)) ?_ | refine oo (Pf rfl) ?_ | refine oo (Pv rfl (by omega) (by omega)) ?_ | refine oo (Pn rfl) ?_ | refine oo (Pm rfl) ?_ | refine os rfl rfl ?_ | refine ot rfl (by omega) ?_ | refine O_nil ?_) | refine wo rfl ?_ | refine wc rfl ?_ | refine wg rfl ?_ | refine go rfl ?_ | refine gc rfl ?_ | refine gg rfl ?_)
  · have hil : i < l.length := by omega
    have hks := co_take l i hil
    have hle := co_le (l.take i) fun c hc => hlen c (List.mem_of_mem_take hc)
    have hlt : (l.take i).length ≤ 60 := by simp; omega
    have hmem : l.getD i Cd.zero ∈ l := by
      rw [show l.getD i Cd.zero = l[i] by simp [hil]]
      exact List.getElem_mem _
    have hl := hlen _ hmem
    have hb := codesV_block l sp i hil
    generalize l.getD i Cd.zero = e at *
    obtain ⟨y, c, n, z⟩ := e
    have hl : c < 16777216 ∧ n ≤ 20 := hl
    have hp : c * n ≤ 16777216 * 20 := Nat.mul_le_mul (by omega) hl.2
    have hpi : (c : Int) * (n : Int) = ((c * n : Nat) : Int) := rfl
    have hpj : (n : Int) * (c : Int) = ((c * n : Nat) : Int) := by rw [Int.mul_comm]; rfl
    have hb : List.take 4 (List.drop (i * 4) (codesV l ++ sp)) = [.int .u32 y, .int .u32 c, .int .u32 n, .int .u32 z] := hb
    refine O_pure (P_loadAgg (i := i * 4) (cs := [.int .u32 y, .int .u32 c, .int .u32 n, .int .u32 z]) Tb.a146 Tb.c146 (by decide) (by simp only [Int.toNat_natCast]; rfl) hm (by rw [List.length_append, codesV_length]; omega) hb) trivial rfl ?_
    refine O_alloc zero146 trivial rfl fun bx => ?_
    refine O_storeAgg0 Tb.c146 (by decide) rfl rfl rfl (lit_one _ _ _ _) trivial .head rfl ?_
    repeat' (first | (refine isO ?_; first | refine oo (Pc rfl) ?_ | refine oo (Pa rfl (by omega) (by omega)) ?_ | (refine ob rfl ?_ ?_ <;> intro hq <;> try (exfalso; omega)) | refine oo (Pi rfl (by omega)) ?_ | refine oo (Pl rfl) ?_ | refine oo (Px rfl rfl) ?_ | refine oo (Pj rfl (by omega) (by omega)) ?_ | refine oo (Pk rfl (by omega) (by omega)) ?_ | refine oo (Pf rfl) ?_ | refine oo (Pv rfl (by omega) (by omega)) ?_ | refine oo (Pn rfl) ?_ | refine oo (Pm rfl) ?_ | refine os rfl rfl ?_ | refine ot rfl (by omega) ?_ | refine O_nil ?_) | refine wo rfl ?_ | refine wc rfl ?_ | refine wg rfl ?_ | refine go rfl ?_ | refine gc rfl ?_ | refine gg rfl ?_)
    have hsum : ((co (l.take i) : Nat) : Int) + (n : Int) * (c : Int) = ((co (l.take (i + 1)) : Nat) : Int) := by rw [hpj, hks]; rfl
    exact G_stop ⟨i + 1, by omega, by omega, ⟨rfl, congrArg (fun z => some (Value.int .u64 z)) hsum, rfl, rfl, trivial⟩, .drop .rfl⟩
  · obtain rfl : i = l.length := by omega
    rw [List.take_length]
    exact G_fin ⟨_, rfl, rfl, .rfl⟩

theorem total_c (l : List Cd) (b cap : Nat) (own : Bool) (sp : List Value) (F : Mem) (hlen : ∀ c ∈ l, c.cnt < 16777216 ∧ c.len ≤ 20) (h60 : l.length ≤ 60) :
    HC Try.prog 31 #[.slice (some ⟨b, 0, none⟩) l.length cap] (⟨own, b, 0, codesV l ++ sp⟩ :: F) (fun v M' => v = .int .u64 (co l : Nat) ∧ Rk M' (⟨own, b, 0, codesV l ++ sp⟩ :: F)) := by
  refine HC_of_W (fn := Try.f31) Try.func31 rfl rfl rfl rfl ?_
  repeat' (first | (refine isO ?_; first | refine oo (Pc rfl) ?_ | refine oo (Pa rfl (by omega) (by omega)) ?_ | (refine ob rfl ?_ ?_ <;> intro hq <;> try (exfalso; omega)) | refine oo (Pi rfl (by omega)) ?_ | refine oo (Pl rfl) ?_ | refine oo (Px rfl rfl) ?_ | refine oo (Pj rfl (by omega) (by omega)) ?_ | refine oo (Pk rfl (by omega) (by omega)) ?_ | refine oo (Pf rfl) ?_ | refine oo (Pv rfl (by omega) (by omega)) ?_ | refine oo (Pn rfl) ?_ | refine oo (Pm rfl) ?_ | refine os rfl rfl ?_ | refine ot rfl (by omega) ?_ | refine O_nil ?_) | refine wo rfl ?_ | refine wc rfl ?_ | refine wg rfl ?_ | refine go rfl ?_ | refine gc rfl ?_ | refine gg rfl ?_)
  refine O_call rfl rfl Tb.k41 trivial rfl (codes_c l own b cap sp F (by omega)) ?_
  rintro _ _ ⟨b', cap', sp', rfl, _, rfl⟩
  refine O_call rfl rfl Tb.k79 trivial rfl (length_c l b' cap' true sp' _ (.head _) hlen h60) ?_
  rintro _ M' ⟨rfl, hrk⟩
  refine O_weak hrk ?_
  clear hrk
  repeat' (first | (refine isO ?_; first | refine oo (Pc rfl) ?_ | refine oo (Pa rfl (by omega) (by omega)) ?_ | (refine ob rfl ?_ ?_ <;> intro hq <;> try (exfalso; omega)) | refine oo (Pi rfl (by omega)) ?_ | refine oo (Pl rfl) ?_ | refine oo (Px rfl rfl) ?_ | refine oo (Pj rfl (by omega) (by omega)) ?_ | refine oo (Pk rfl (by omega) (by omega)) ?_ | refine oo (Pf rfl) ?_ | refine oo (Pv rfl (by omega) (by omega)) ?_ | refine oo (Pn rfl) ?_ | refine oo (Pm rfl) ?_ | refine os rfl rfl ?_ | refine ot rfl (by omega) ?_ | refine O_nil ?_) | refine wo rfl ?_ | refine wc rfl ?_ | refine wg rfl ?_ | refine go rfl ?_ | refine gc rfl ?_ | refine gg rfl ?_)
  exact G_fin ⟨_, rfl, rfl, .drop .rfl⟩
end Go.Proofs.Ytjkpfliaflmppaa.Hu
