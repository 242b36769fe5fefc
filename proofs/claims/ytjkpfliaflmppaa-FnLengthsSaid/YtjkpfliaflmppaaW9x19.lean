/- spec.Depth, walked: the two least ones, put together again and again. spec.Depth, walked: the depth and the cost. -/
import Derived.Test.YtjkpfliaflmppaaW9x16
import Derived.Test.YtjkpfliaflmppaaW9x17
import Derived.Test.YtjkpfliaflmppaaW9x18

namespace Go.Proofs.Ytjkpfliaflmppaa.Hu
open Go Go.RowKit Go.Proofs.Ytjkpfliaflmppaa.Vm Go.Proofs.Ytjkpfliaflmppaa.Pc

/-- The cells of trees: a sum and a depth each. -/
def tc (xs : List (Nat × Nat)) : List Value := xs.flatMap fun t => [.int .u64 (t.1 : Int), .int .i64 (t.2 : Int)]
theorem tc_nil : tc [] = [] := rfl
theorem tc_cons (t : Nat × Nat) (xs : List (Nat × Nat)) : tc (t :: xs) = .int .u64 (t.1 : Int) :: .int .i64 (t.2 : Int) :: tc xs := rfl
theorem tc_append (xs ys : List (Nat × Nat)) : tc (xs ++ ys) = tc xs ++ tc ys := by simp [tc]
theorem tc_length (xs : List (Nat × Nat)) : (tc xs).length = xs.length * 2 := by
  induction xs with
  | nil => rfl
  | cons t xs ih => rw [tc_cons]; simp only [List.length_cons, ih]; omega
/-- A slice that shows trees, from some place of its block on. -/
def Mv (v : Value) (xs : List (Nat × Nat)) (m : Mem) : Prop :=
  (v = .slice none 0 0 ∧ xs = [] ∧ m = []) ∨
  (∃ b pre sp cap, v = .slice (some ⟨b, pre.length, none⟩) xs.length cap ∧ m = [⟨true, b, 0, pre ++ (tc xs ++ sp)⟩] ∧ (tc xs ++ sp).length = cap * 2 ∧ 0 < cap) ∨
  (xs = [] ∧ ∃ b o L, v = .slice (some ⟨b, o, none⟩) 0 0 ∧ o ≤ L.length ∧ m = [⟨true, b, 0, L⟩])
theorem Mv.form {v : Value} {xs : List (Nat × Nat)} {m : Mem} (h : Mv v xs m) : ∃ ad cap, v = .slice ad xs.length cap := by
  rcases h with ⟨rfl, rfl, rfl⟩ | ⟨b, pre, sp, cap, rfl, rfl, h1, h2⟩ | ⟨rfl, b, o, L, rfl, _, rfl⟩
  · exact ⟨_, _, rfl⟩
  · exact ⟨_, _, rfl⟩
  · exact ⟨_, _, rfl⟩
theorem Mv.head {v : Value} {t : Nat × Nat} {xs : List (Nat × Nat)} {m : Mem} (h : Mv v (t :: xs) m) :
    ∃ b pre sp cap, v = .slice (some ⟨b, pre.length, none⟩) (xs.length + 1) cap ∧ m = [⟨true, b, 0, pre ++ (.int .u64 (t.1 : Int) :: .int .i64 (t.2 : Int) :: (tc xs ++ sp))⟩] ∧ (tc xs ++ sp).length + 2 = cap * 2 ∧ xs.length + 1 ≤ cap ∧
      ∃ ad' c', (if cap = 1 then Value.slice (some ⟨b, pre.length, none⟩) 0 0 else .slice (some ⟨b, pre.length + 2, none⟩) (xs.length + 1 - 1) (cap - 1)) = .slice ad' xs.length c' ∧ Mv (.slice ad' xs.length c') xs m := by
  rcases h with ⟨_, h, _⟩ | ⟨b, pre, sp, cap, rfl, rfl, h1, h2⟩ | ⟨h, _⟩
  · cases h
  · have h3 : (tc xs ++ sp).length + 2 = cap * 2 := by rw [tc_cons] at h1; simpa using h1
    have h4 : xs.length + 1 ≤ cap := by rw [List.length_append, tc_length] at h3; omega
    refine ⟨b, pre, sp, cap, rfl, rfl, h3, h4, ?_⟩
    by_cases hc : cap = 1
    · rw [if_pos hc]
      subst hc
      have : xs = [] := List.eq_nil_of_length_eq_zero (by omega)
      subst this
      exact ⟨_, _, rfl, .inr (.inr ⟨rfl, b, _, _, rfl, by rw [List.length_append]; omega, rfl⟩)⟩
    · rw [if_neg hc]
      exact ⟨_, _, rfl, .inr (.inl ⟨b, pre ++ [.int .u64 (t.1 : Int), .int .i64 (t.2 : Int)], sp, cap - 1, by rw [List.length_append]; rfl, by simp [tc_cons], by omega, by omega⟩)⟩
  · cases h

theorem P_tail2 {P : Program} {N : Fm} {E : Env} {M : Mem} {t e : TypeId} {x : Operand} {b o len cap n : Nat} (ht : Und P t (.slice e)) (he : Cel P e n) (hn : 0 < n) (hx : ev E x = some (.slice (some ⟨b, o, none⟩) len cap)) (h1 : 1 ≤ len) (h2 : len ≤ cap) :
    Pure P N E M (.slice t x (some (.const (.int .i64 1))) none none) (if cap = 1 then .slice (some ⟨b, o, none⟩) 0 0 else .slice (some ⟨b, o + n, none⟩) (len - 1) (cap - 1)) := by
  by_cases hc : cap = 1
  · rw [if_pos hc]
    exact P_slice_end (N := N) (M := M) (lo := some (.const (.int .i64 1))) (hi := none) (l := 1) (h := len) ht he hn hx ⟨_, rfl⟩ rfl (by omega) (by omega) (by omega) (by omega)
  · rw [if_neg hc]
    have := P_slice (N := N) (M := M) (lo := some (.const (.int .i64 1))) (hi := none) (l := 1) (h := len) ht he hn hx ⟨_, rfl⟩ rfl (by omega) (by omega) (by omega) (by omega)
    simpa using this
theorem zero136 : zeroOf Try.prog 136 = some [.int .u64 0, .int .i64 0] := by kernel_rfl
theorem zero134 : zeroOf Try.prog 134 = some [.slice none 0 0] := by kernel_rfl
theorem one136 (a b : Int) : ∀ v ∈ [Value.int .u64 a, .int .i64 b], v.oneCell' = true := by
  intro v hv
  simp only [List.mem_cons, List.not_mem_nil, or_false] at hv
  rcases hv with rfl | rfl <;> rfl

set_option maxHeartbeats 2000000 in
theorem take_c (xs ys : List (Nat × Nat)) (xv yv : Value) (mx my F : Mem) (pa pb : Nat) (hx : Mv xv xs mx) (hy : Mv yv ys my) (h0 : xs ≠ [] ∨ ys ≠ []) :
    HC Try.prog 78 #[.pointer (some ⟨pb, 0, none⟩), .pointer (some ⟨pa, 0, none⟩)] (⟨true, pb, 0, [yv]⟩ :: ⟨true, pa, 0, [xv]⟩ :: (mx ++ (my ++ F)))
      (fun r M' => (∃ t xs' xv', xs = t :: xs' ∧ (ys = [] ∨ t.1 ≤ (ys.headD (0, 0)).1) ∧ Mv xv' xs' mx ∧ r = .agg #[.int .u64 (t.1 : Int), .int .i64 (t.2 : Int)] ∧ Rk M' (⟨true, pb, 0, [yv]⟩ :: ⟨true, pa, 0, [xv']⟩ :: (mx ++ (my ++ F)))) ∨
        (∃ t ys' yv', ys = t :: ys' ∧ (xs = [] ∨ t.1 < (xs.headD (0, 0)).1) ∧ Mv yv' ys' my ∧ r = .agg #[.int .u64 (t.1 : Int), .int .i64 (t.2 : Int)] ∧ Rk M' (⟨true, pb, 0, [yv']⟩ :: ⟨true, pa, 0, [xv]⟩ :: (mx ++ (my ++ F))))) := by
  refine HC_of_WR (fn := Try.f78) Try.func78 rfl rfl rfl rfl ?_
  repeat' (first | (refine isO ?_; first | refine oo (Pc rfl) ?_ | refine oo (Pa rfl (by omega) (by omega)) ?_ | (refine ob rfl ?_ ?_ <;> intro hq <;> try (exfalso; omega)) | refine oo (Pi rfl (by omega)) ?_ | refine oo (Pl rfl) ?_ | refine oo (Px rfl rfl) ?_ | refine oo (Pj rfl (by omega) (by omega)) ?_ | refine oo (Pk rfl (by omega) (by omega)) ?_ | refine oo (Pf rfl) ?_ | refine oo (Pv rfl (by omega) (by omega)) ?_ | refine oo (Pn rfl) ?_ | refine oo (Pm rfl) ?_ | refine os rfl rfl ?_ | refine ot rfl (by omega) ?_ | refine O_nil ?_) | refine wo rfl ?_ | refine wc rfl ?_ | refine wg rfl ?_ | refine go rfl ?_ | refine gc rfl ?_ | refine gg rfl ?_)
  obtain ⟨ax, cx, e⟩ := hx.form
  obtain ⟨ay, cy, e'⟩ := hy.form
  subst e
  subst e'
  obtain ⟨nx, hnx⟩ : ∃ n, xs.length = n := ⟨_, rfl⟩
  obtain ⟨ny, hny⟩ : ∃ n, ys.length = n := ⟨_, rfl⟩
  rw [hnx] at hx ⊢
  rw [hny] at hy ⊢
  refine O_alloc zero136 trivial rfl fun br => ?_
  repeat' (first | (refine isO ?_; first | refine oo (Pc rfl) ?_ | refine oo (Pa rfl (by omega) (by omega)) ?_ | (refine ob rfl ?_ ?_ <;> intro hq <;> try (exfalso; omega)) | refine oo (Pi rfl (by omega)) ?_ | refine oo (Pl rfl) ?_ | refine oo (Px rfl rfl) ?_ | refine oo (Pj rfl (by omega) (by omega)) ?_ | refine oo (Pk rfl (by omega) (by omega)) ?_ | refine oo (Pf rfl) ?_ | refine oo (Pv rfl (by omega) (by omega)) ?_ | refine oo (Pn rfl) ?_ | refine oo (Pm rfl) ?_ | refine os rfl rfl ?_ | refine ot rfl (by omega) ?_ | refine O_nil ?_) | refine wo rfl ?_ | refine wc rfl ?_ | refine wg rfl ?_ | refine go rfl ?_ | refine gc rfl ?_ | refine gg rfl ?_)
  refine W_region_still Tb.mixed (by kernel_rfl) ?_
  repeat' (first | (refine isS ?_; first | refine ss (Pc rfl) ?_ | refine ss (Pa rfl (by omega) (by omega)) ?_ | (refine sb rfl ?_ ?_ <;> intro hq <;> try (exfalso; omega)) | refine ss (Pi rfl (by omega)) ?_ | refine ss (Pl rfl) ?_ | refine ss (Px rfl rfl) ?_ | refine ss (Pj rfl (by omega) (by omega)) ?_ | refine ss (Pk rfl (by omega) (by omega)) ?_ | refine ss (Pf rfl) ?_ | refine ss (Pv rfl (by omega) (by omega)) ?_ | refine ss (Pn rfl) ?_ | refine ss (Pm rfl) ?_ | refine OS_nil ?_))
  · have hy0 : ys = [] := List.eq_nil_of_length_eq_zero (by omega)
    cases xs with
    | nil => rcases h0 with h | h; · exact absurd rfl h
             · exact absurd hy0 h
    | cons t xs' =>
      obtain ⟨b, pre, sp, cap, e, emx, h3, h4, ad', c', hv, hT⟩ := hx.head
      cases e
      (have hmr : (⟨true, b, 0, pre ++ (.int .u64 (t.1 : Int) :: .int .i64 (t.2 : Int) :: (tc xs' ++ sp))⟩ : Sg) ∈ mx ++ (my ++ F) := by rw [emx]; simp only [List.cons_append, List.nil_append, List.mem_append, List.mem_cons, true_or, or_true])
      ((repeat' (first | (refine isO ?_; first | refine oo (Pc rfl) ?_ | refine oo (Pa rfl (by omega) (by omega)) ?_ | (refine ob rfl ?_ ?_ <;> intro hq <;> try (exfalso; omega)) | refine oo (Pi rfl (by omega)) ?_ | refine oo (Pl rfl) ?_ | refine oo (Px rfl rfl) ?_ | refine oo (Pj rfl (by omega) (by omega)) ?_ | refine oo (Pk rfl (by omega) (by omega)) ?_ | refine oo (Pf rfl) ?_ | refine oo (Pv rfl (by omega) (by omega)) ?_ | refine oo (Pn rfl) ?_ | refine oo (Pm rfl) ?_ | refine os rfl rfl ?_ | refine ot rfl (by omega) ?_ | refine O_nil ?_) | refine wo rfl ?_ | refine wc rfl ?_ | refine wg rfl ?_ | refine go rfl ?_ | refine gc rfl ?_ | refine gg rfl ?_)); refine O_pure (P_loadAggAt (o := 0) (i := pre.length) (cs := [.int .u64 (t.1 : Int), .int .i64 (t.2 : Int)]) Tb.a136 Tb.c136 (by decide) rfl (by omega) (.tail _ (.tail _ (.tail _ hmr))) (by rw [List.length_append]; simp only [List.length_cons]; omega) (by rw [List.drop_left' rfl]; rfl)) trivial rfl ?_; refine O_alloc zero136 trivial rfl fun b3 => ?_; refine O_storeAgg0 Tb.c136 (by decide) rfl rfl rfl (one136 _ _) trivial .head rfl ?_; (repeat' (first | (refine isO ?_; first | refine oo (Pc rfl) ?_ | refine oo (Pa rfl (by omega) (by omega)) ?_ | (refine ob rfl ?_ ?_ <;> intro hq <;> try (exfalso; omega)) | refine oo (Pi rfl (by omega)) ?_ | refine oo (Pl rfl) ?_ | refine oo (Px rfl rfl) ?_ | refine oo (Pj rfl (by omega) (by omega)) ?_ | refine oo (Pk rfl (by omega) (by omega)) ?_ | refine oo (Pf rfl) ?_ | refine oo (Pv rfl (by omega) (by omega)) ?_ | refine oo (Pn rfl) ?_ | refine oo (Pm rfl) ?_ | refine os rfl rfl ?_ | refine ot rfl (by omega) ?_ | refine O_nil ?_) | refine wo rfl ?_ | refine wc rfl ?_ | refine wg rfl ?_ | refine go rfl ?_ | refine gc rfl ?_ | refine gg rfl ?_)); refine O_pure (P_is (P_tail2 Tb.u134 Tb.c136 (by decide) rfl (by omega) h4) hv) trivial rfl ?_; (repeat' (first | (refine isO ?_; first | refine oo (Pc rfl) ?_ | refine oo (Pa rfl (by omega) (by omega)) ?_ | (refine ob rfl ?_ ?_ <;> intro hq <;> try (exfalso; omega)) | refine oo (Pi rfl (by omega)) ?_ | refine oo (Pl rfl) ?_ | refine oo (Px rfl rfl) ?_ | refine oo (Pj rfl (by omega) (by omega)) ?_ | refine oo (Pk rfl (by omega) (by omega)) ?_ | refine oo (Pf rfl) ?_ | refine oo (Pv rfl (by omega) (by omega)) ?_ | refine oo (Pn rfl) ?_ | refine oo (Pm rfl) ?_ | refine os rfl rfl ?_ | refine ot rfl (by omega) ?_ | refine O_nil ?_) | refine wo rfl ?_ | refine wc rfl ?_ | refine wg rfl ?_ | refine go rfl ?_ | refine gc rfl ?_ | refine gg rfl ?_)); refine O_pure (P_loadAggAt (o := 0) (i := 0) (cs := [.int .u64 (t.1 : Int), .int .i64 (t.2 : Int)]) Tb.a136 Tb.c136 (by decide) rfl (by omega) (by exact TakeI.out.mem) (by exact Nat.le_refl 2) (by rfl)) trivial rfl ?_; refine O_storeAgg0 Tb.c136 (by decide) rfl rfl rfl (one136 _ _) trivial (by exact TakeI.out) rfl ?_; (repeat' (first | (refine isO ?_; first | refine oo (Pc rfl) ?_ | refine oo (Pa rfl (by omega) (by omega)) ?_ | (refine ob rfl ?_ ?_ <;> intro hq <;> try (exfalso; omega)) | refine oo (Pi rfl (by omega)) ?_ | refine oo (Pl rfl) ?_ | refine oo (Px rfl rfl) ?_ | refine oo (Pj rfl (by omega) (by omega)) ?_ | refine oo (Pk rfl (by omega) (by omega)) ?_ | refine oo (Pf rfl) ?_ | refine oo (Pv rfl (by omega) (by omega)) ?_ | refine oo (Pn rfl) ?_ | refine oo (Pm rfl) ?_ | refine os rfl rfl ?_ | refine ot rfl (by omega) ?_ | refine O_nil ?_) | refine wo rfl ?_ | refine wc rfl ?_ | refine wg rfl ?_ | refine go rfl ?_ | refine gc rfl ?_ | refine gg rfl ?_)))
      exact G_fin ⟨[.agg [.int .u64 (t.1 : Int), .int .i64 (t.2 : Int)].toArray], ⟨ResV.agg rfl (by exact TakeI.out.mem) Tb.a136 Tb.c136 (by decide) rfl, trivial⟩, .inl ⟨t, xs', _, rfl, .inl hy0, hT, rfl, by repeat (first | exact .rfl | exact .nil | (apply Rk.cons; (· exact TakeI.out)) | refine .drop ?_)⟩⟩
  · cases xs with
    | nil => simp at hnx; omega
    | cons t xs' =>
      cases ys with
      | nil => simp at hny; omega
      | cons t2 ys' =>
        obtain ⟨b, pre, sp, cap, e, emx, h3, h4, ad', c', hv, hT⟩ := hx.head
        cases e
        (have hmr : (⟨true, b, 0, pre ++ (.int .u64 (t.1 : Int) :: .int .i64 (t.2 : Int) :: (tc xs' ++ sp))⟩ : Sg) ∈ mx ++ (my ++ F) := by rw [emx]; simp only [List.cons_append, List.nil_append, List.mem_append, List.mem_cons, true_or, or_true])
        have hmr1 := hmr
        have hg1 : (pre ++ (.int .u64 (t.1 : Int) :: .int .i64 (t.2 : Int) :: (tc xs' ++ sp)))[pre.length]? = some (.int .u64 (t.1 : Int)) := by simp
        obtain ⟨b', pre', sp', cap', e, emx', h3', h4', ad2, c2, hv', hT'⟩ := hy.head
        cases e
        have hmr2 : (⟨true, b', 0, pre' ++ (.int .u64 (t2.1 : Int) :: .int .i64 (t2.2 : Int) :: (tc ys' ++ sp'))⟩ : Sg) ∈ mx ++ (my ++ F) := by rw [emx']; simp
        have hg2 : (pre' ++ (.int .u64 (t2.1 : Int) :: .int .i64 (t2.2 : Int) :: (tc ys' ++ sp')))[pre'.length]? = some (.int .u64 (t2.1 : Int)) := by simp
        repeat' (first | (refine isS ?_; first | refine ss (Pc rfl) ?_ | refine ss (Pa rfl (by omega) (by omega)) ?_ | (refine sb rfl ?_ ?_ <;> intro hq <;> try (exfalso; omega)) | refine ss (Pi rfl (by omega)) ?_ | refine ss (Pl rfl) ?_ | refine ss (Px rfl rfl) ?_ | refine ss (Pj rfl (by omega) (by omega)) ?_ | refine ss (Pk rfl (by omega) (by omega)) ?_ | refine ss (Pf rfl) ?_ | refine ss (Pv rfl (by omega) (by omega)) ?_ | refine ss (Pn rfl) ?_ | refine ss (Pm rfl) ?_ | refine OS_nil ?_))
        refine OS_pure (P_loadAt (o := 0) (n := pre.length) Tb.p58 rfl (by omega) (.tail _ (.tail _ (.tail _ hmr1))) hg1) (by first | exact trivial | exact ⟨_, rfl, rfl⟩) rfl ?_
        repeat' (first | (refine isS ?_; first | refine ss (Pc rfl) ?_ | refine ss (Pa rfl (by omega) (by omega)) ?_ | (refine sb rfl ?_ ?_ <;> intro hq <;> try (exfalso; omega)) | refine ss (Pi rfl (by omega)) ?_ | refine ss (Pl rfl) ?_ | refine ss (Px rfl rfl) ?_ | refine ss (Pj rfl (by omega) (by omega)) ?_ | refine ss (Pk rfl (by omega) (by omega)) ?_ | refine ss (Pf rfl) ?_ | refine ss (Pv rfl (by omega) (by omega)) ?_ | refine ss (Pn rfl) ?_ | refine ss (Pm rfl) ?_ | refine OS_nil ?_))
        refine OS_pure (P_loadAt (o := 0) (n := pre'.length) Tb.p58 rfl (by omega) (.tail _ (.tail _ (.tail _ hmr2))) hg2) (by first | exact trivial | exact ⟨_, rfl, rfl⟩) rfl ?_
        repeat' (first | (refine isS ?_; first | refine ss (Pc rfl) ?_ | refine ss (Pa rfl (by omega) (by omega)) ?_ | (refine sb rfl ?_ ?_ <;> intro hq <;> try (exfalso; omega)) | refine ss (Pi rfl (by omega)) ?_ | refine ss (Pl rfl) ?_ | refine ss (Px rfl rfl) ?_ | refine ss (Pj rfl (by omega) (by omega)) ?_ | refine ss (Pk rfl (by omega) (by omega)) ?_ | refine ss (Pf rfl) ?_ | refine ss (Pv rfl (by omega) (by omega)) ?_ | refine ss (Pn rfl) ?_ | refine ss (Pm rfl) ?_ | refine OS_nil ?_))
        · ((repeat' (first | (refine isO ?_; first | refine oo (Pc rfl) ?_ | refine oo (Pa rfl (by omega) (by omega)) ?_ | (refine ob rfl ?_ ?_ <;> intro hq <;> try (exfalso; omega)) | refine oo (Pi rfl (by omega)) ?_ | refine oo (Pl rfl) ?_ | refine oo (Px rfl rfl) ?_ | refine oo (Pj rfl (by omega) (by omega)) ?_ | refine oo (Pk rfl (by omega) (by omega)) ?_ | refine oo (Pf rfl) ?_ | refine oo (Pv rfl (by omega) (by omega)) ?_ | refine oo (Pn rfl) ?_ | refine oo (Pm rfl) ?_ | refine os rfl rfl ?_ | refine ot rfl (by omega) ?_ | refine O_nil ?_) | refine wo rfl ?_ | refine wc rfl ?_ | refine wg rfl ?_ | refine go rfl ?_ | refine gc rfl ?_ | refine gg rfl ?_)); refine O_pure (P_loadAggAt (o := 0) (i := pre.length) (cs := [.int .u64 (t.1 : Int), .int .i64 (t.2 : Int)]) Tb.a136 Tb.c136 (by decide) rfl (by omega) (.tail _ (.tail _ (.tail _ hmr))) (by rw [List.length_append]; simp only [List.length_cons]; omega) (by rw [List.drop_left' rfl]; rfl)) trivial rfl ?_; refine O_alloc zero136 trivial rfl fun b3 => ?_; refine O_storeAgg0 Tb.c136 (by decide) rfl rfl rfl (one136 _ _) trivial .head rfl ?_; (repeat' (first | (refine isO ?_; first | refine oo (Pc rfl) ?_ | refine oo (Pa rfl (by omega) (by omega)) ?_ | (refine ob rfl ?_ ?_ <;> intro hq <;> try (exfalso; omega)) | refine oo (Pi rfl (by omega)) ?_ | refine oo (Pl rfl) ?_ | refine oo (Px rfl rfl) ?_ | refine oo (Pj rfl (by omega) (by omega)) ?_ | refine oo (Pk rfl (by omega) (by omega)) ?_ | refine oo (Pf rfl) ?_ | refine oo (Pv rfl (by omega) (by omega)) ?_ | refine oo (Pn rfl) ?_ | refine oo (Pm rfl) ?_ | refine os rfl rfl ?_ | refine ot rfl (by omega) ?_ | refine O_nil ?_) | refine wo rfl ?_ | refine wc rfl ?_ | refine wg rfl ?_ | refine go rfl ?_ | refine gc rfl ?_ | refine gg rfl ?_)); refine O_pure (P_is (P_tail2 Tb.u134 Tb.c136 (by decide) rfl (by omega) h4) hv) trivial rfl ?_; (repeat' (first | (refine isO ?_; first | refine oo (Pc rfl) ?_ | refine oo (Pa rfl (by omega) (by omega)) ?_ | (refine ob rfl ?_ ?_ <;> intro hq <;> try (exfalso; omega)) | refine oo (Pi rfl (by omega)) ?_ | refine oo (Pl rfl) ?_ | refine oo (Px rfl rfl) ?_ | refine oo (Pj rfl (by omega) (by omega)) ?_ | refine oo (Pk rfl (by omega) (by omega)) ?_ | refine oo (Pf rfl) ?_ | refine oo (Pv rfl (by omega) (by omega)) ?_ | refine oo (Pn rfl) ?_ | refine oo (Pm rfl) ?_ | refine os rfl rfl ?_ | refine ot rfl (by omega) ?_ | refine O_nil ?_) | refine wo rfl ?_ | refine wc rfl ?_ | refine wg rfl ?_ | refine go rfl ?_ | refine gc rfl ?_ | refine gg rfl ?_)); refine O_pure (P_loadAggAt (o := 0) (i := 0) (cs := [.int .u64 (t.1 : Int), .int .i64 (t.2 : Int)]) Tb.a136 Tb.c136 (by decide) rfl (by omega) (by exact TakeI.out.mem) (by exact Nat.le_refl 2) (by rfl)) trivial rfl ?_; refine O_storeAgg0 Tb.c136 (by decide) rfl rfl rfl (one136 _ _) trivial (by exact TakeI.out) rfl ?_; (repeat' (first | (refine isO ?_; first | refine oo (Pc rfl) ?_ | refine oo (Pa rfl (by omega) (by omega)) ?_ | (refine ob rfl ?_ ?_ <;> intro hq <;> try (exfalso; omega)) | refine oo (Pi rfl (by omega)) ?_ | refine oo (Pl rfl) ?_ | refine oo (Px rfl rfl) ?_ | refine oo (Pj rfl (by omega) (by omega)) ?_ | refine oo (Pk rfl (by omega) (by omega)) ?_ | refine oo (Pf rfl) ?_ | refine oo (Pv rfl (by omega) (by omega)) ?_ | refine oo (Pn rfl) ?_ | refine oo (Pm rfl) ?_ | refine os rfl rfl ?_ | refine ot rfl (by omega) ?_ | refine O_nil ?_) | refine wo rfl ?_ | refine wc rfl ?_ | refine wg rfl ?_ | refine go rfl ?_ | refine gc rfl ?_ | refine gg rfl ?_)))
          exact G_fin ⟨[.agg [.int .u64 (t.1 : Int), .int .i64 (t.2 : Int)].toArray], ⟨ResV.agg rfl (by exact TakeI.out.mem) Tb.a136 Tb.c136 (by decide) rfl, trivial⟩, .inl ⟨t, xs', _, rfl, .inr (by show t.1 ≤ t2.1; omega), hT, rfl, by repeat (first | exact .rfl | exact .nil | (apply Rk.cons; (· exact TakeI.out)) | refine .drop ?_)⟩⟩
        · ((repeat' (first | (refine isO ?_; first | refine oo (Pc rfl) ?_ | refine oo (Pa rfl (by omega) (by omega)) ?_ | (refine ob rfl ?_ ?_ <;> intro hq <;> try (exfalso; omega)) | refine oo (Pi rfl (by omega)) ?_ | refine oo (Pl rfl) ?_ | refine oo (Px rfl rfl) ?_ | refine oo (Pj rfl (by omega) (by omega)) ?_ | refine oo (Pk rfl (by omega) (by omega)) ?_ | refine oo (Pf rfl) ?_ | refine oo (Pv rfl (by omega) (by omega)) ?_ | refine oo (Pn rfl) ?_ | refine oo (Pm rfl) ?_ | refine os rfl rfl ?_ | refine ot rfl (by omega) ?_ | refine O_nil ?_) | refine wo rfl ?_ | refine wc rfl ?_ | refine wg rfl ?_ | refine go rfl ?_ | refine gc rfl ?_ | refine gg rfl ?_)); refine O_pure (P_loadAggAt (o := 0) (i := pre'.length) (cs := [.int .u64 (t2.1 : Int), .int .i64 (t2.2 : Int)]) Tb.a136 Tb.c136 (by decide) rfl (by omega) (.tail _ (.tail _ (.tail _ hmr2))) (by rw [List.length_append]; simp only [List.length_cons]; omega) (by rw [List.drop_left' rfl]; rfl)) trivial rfl ?_; refine O_alloc zero136 trivial rfl fun b3 => ?_; refine O_storeAgg0 Tb.c136 (by decide) rfl rfl rfl (one136 _ _) trivial .head rfl ?_; (repeat' (first | (refine isO ?_; first | refine oo (Pc rfl) ?_ | refine oo (Pa rfl (by omega) (by omega)) ?_ | (refine ob rfl ?_ ?_ <;> intro hq <;> try (exfalso; omega)) | refine oo (Pi rfl (by omega)) ?_ | refine oo (Pl rfl) ?_ | refine oo (Px rfl rfl) ?_ | refine oo (Pj rfl (by omega) (by omega)) ?_ | refine oo (Pk rfl (by omega) (by omega)) ?_ | refine oo (Pf rfl) ?_ | refine oo (Pv rfl (by omega) (by omega)) ?_ | refine oo (Pn rfl) ?_ | refine oo (Pm rfl) ?_ | refine os rfl rfl ?_ | refine ot rfl (by omega) ?_ | refine O_nil ?_) | refine wo rfl ?_ | refine wc rfl ?_ | refine wg rfl ?_ | refine go rfl ?_ | refine gc rfl ?_ | refine gg rfl ?_)); refine O_pure (P_is (P_tail2 Tb.u134 Tb.c136 (by decide) rfl (by omega) h4') hv') trivial rfl ?_; (repeat' (first | (refine isO ?_; first | refine oo (Pc rfl) ?_ | refine oo (Pa rfl (by omega) (by omega)) ?_ | (refine ob rfl ?_ ?_ <;> intro hq <;> try (exfalso; omega)) | refine oo (Pi rfl (by omega)) ?_ | refine oo (Pl rfl) ?_ | refine oo (Px rfl rfl) ?_ | refine oo (Pj rfl (by omega) (by omega)) ?_ | refine oo (Pk rfl (by omega) (by omega)) ?_ | refine oo (Pf rfl) ?_ | refine oo (Pv rfl (by omega) (by omega)) ?_ | refine oo (Pn rfl) ?_ | refine oo (Pm rfl) ?_ | refine os rfl rfl ?_ | refine ot rfl (by omega) ?_ | refine O_nil ?_) | refine wo rfl ?_ | refine wc rfl ?_ | refine wg rfl ?_ | refine go rfl ?_ | refine gc rfl ?_ | refine gg rfl ?_)); refine O_pure (P_loadAggAt (o := 0) (i := 0) (cs := [.int .u64 (t2.1 : Int), .int .i64 (t2.2 : Int)]) Tb.a136 Tb.c136 (by decide) rfl (by omega) (by exact TakeI.out.mem) (by exact Nat.le_refl 2) (by rfl)) trivial rfl ?_; refine O_storeAgg0 Tb.c136 (by decide) rfl rfl rfl (one136 _ _) trivial (by exact TakeI.out) rfl ?_; (repeat' (first | (refine isO ?_; first | refine oo (Pc rfl) ?_ | refine oo (Pa rfl (by omega) (by omega)) ?_ | (refine ob rfl ?_ ?_ <;> intro hq <;> try (exfalso; omega)) | refine oo (Pi rfl (by omega)) ?_ | refine oo (Pl rfl) ?_ | refine oo (Px rfl rfl) ?_ | refine oo (Pj rfl (by omega) (by omega)) ?_ | refine oo (Pk rfl (by omega) (by omega)) ?_ | refine oo (Pf rfl) ?_ | refine oo (Pv rfl (by omega) (by omega)) ?_ | refine oo (Pn rfl) ?_ | refine oo (Pm rfl) ?_ | refine os rfl rfl ?_ | refine ot rfl (by omega) ?_ | refine O_nil ?_) | refine wo rfl ?_ | refine wc rfl ?_ | refine wg rfl ?_ | refine go rfl ?_ | refine gc rfl ?_ | refine gg rfl ?_)))
          exact G_fin ⟨[.agg [.int .u64 (t2.1 : Int), .int .i64 (t2.2 : Int)].toArray], ⟨ResV.agg rfl (by exact TakeI.out.mem) Tb.a136 Tb.c136 (by decide) rfl, trivial⟩, .inr ⟨t2, ys', _, rfl, .inr (by show t2.1 < t.1; omega), hT', rfl, by repeat (first | exact .rfl | exact .nil | (apply Rk.cons; (· exact TakeI.out)) | refine .drop ?_)⟩⟩
  · have hx0 : xs = [] := List.eq_nil_of_length_eq_zero (by omega)
    cases ys with
    | nil => simp at hny; omega
    | cons t ys' =>
      obtain ⟨b, pre, sp, cap, e, emx, h3, h4, ad', c', hv, hT⟩ := hy.head
      cases e
      (have hmr : (⟨true, b, 0, pre ++ (.int .u64 (t.1 : Int) :: .int .i64 (t.2 : Int) :: (tc ys' ++ sp))⟩ : Sg) ∈ mx ++ (my ++ F) := by rw [emx]; simp only [List.cons_append, List.nil_append, List.mem_append, List.mem_cons, true_or, or_true])
      ((repeat' (first | (refine isO ?_; first | refine oo (Pc rfl) ?_ | refine oo (Pa rfl (by omega) (by omega)) ?_ | (refine ob rfl ?_ ?_ <;> intro hq <;> try (exfalso; omega)) | refine oo (Pi rfl (by omega)) ?_ | refine oo (Pl rfl) ?_ | refine oo (Px rfl rfl) ?_ | refine oo (Pj rfl (by omega) (by omega)) ?_ | refine oo (Pk rfl (by omega) (by omega)) ?_ | refine oo (Pf rfl) ?_ | refine oo (Pv rfl (by omega) (by omega)) ?_ | refine oo (Pn rfl) ?_ | refine oo (Pm rfl) ?_ | refine os rfl rfl ?_ | refine ot rfl (by omega) ?_ | refine O_nil ?_) | refine wo rfl ?_ | refine wc rfl ?_ | refine wg rfl ?_ | refine go rfl ?_ | refine gc rfl ?_ | refine gg rfl ?_)); refine O_pure (P_loadAggAt (o := 0) (i := pre.length) (cs := [.int .u64 (t.1 : Int), .int .i64 (t.2 : Int)]) Tb.a136 Tb.c136 (by decide) rfl (by omega) (.tail _ (.tail _ (.tail _ hmr))) (by rw [List.length_append]; simp only [List.length_cons]; omega) (by rw [List.drop_left' rfl]; rfl)) trivial rfl ?_; refine O_alloc zero136 trivial rfl fun b3 => ?_; refine O_storeAgg0 Tb.c136 (by decide) rfl rfl rfl (one136 _ _) trivial .head rfl ?_; (repeat' (first | (refine isO ?_; first | refine oo (Pc rfl) ?_ | refine oo (Pa rfl (by omega) (by omega)) ?_ | (refine ob rfl ?_ ?_ <;> intro hq <;> try (exfalso; omega)) | refine oo (Pi rfl (by omega)) ?_ | refine oo (Pl rfl) ?_ | refine oo (Px rfl rfl) ?_ | refine oo (Pj rfl (by omega) (by omega)) ?_ | refine oo (Pk rfl (by omega) (by omega)) ?_ | refine oo (Pf rfl) ?_ | refine oo (Pv rfl (by omega) (by omega)) ?_ | refine oo (Pn rfl) ?_ | refine oo (Pm rfl) ?_ | refine os rfl rfl ?_ | refine ot rfl (by omega) ?_ | refine O_nil ?_) | refine wo rfl ?_ | refine wc rfl ?_ | refine wg rfl ?_ | refine go rfl ?_ | refine gc rfl ?_ | refine gg rfl ?_)); refine O_pure (P_is (P_tail2 Tb.u134 Tb.c136 (by decide) rfl (by omega) h4) hv) trivial rfl ?_; (repeat' (first | (refine isO ?_; first | refine oo (Pc rfl) ?_ | refine oo (Pa rfl (by omega) (by omega)) ?_ | (refine ob rfl ?_ ?_ <;> intro hq <;> try (exfalso; omega)) | refine oo (Pi rfl (by omega)) ?_ | refine oo (Pl rfl) ?_ | refine oo (Px rfl rfl) ?_ | refine oo (Pj rfl (by omega) (by omega)) ?_ | refine oo (Pk rfl (by omega) (by omega)) ?_ | refine oo (Pf rfl) ?_ | refine oo (Pv rfl (by omega) (by omega)) ?_ | refine oo (Pn rfl) ?_ | refine oo (Pm rfl) ?_ | refine os rfl rfl ?_ | refine ot rfl (by omega) ?_ | refine O_nil ?_) | refine wo rfl ?_ | refine wc rfl ?_ | refine wg rfl ?_ | refine go rfl ?_ | refine gc rfl ?_ | refine gg rfl ?_)); refine O_pure (P_loadAggAt (o := 0) (i := 0) (cs := [.int .u64 (t.1 : Int), .int .i64 (t.2 : Int)]) Tb.a136 Tb.c136 (by decide) rfl (by omega) (by exact TakeI.out.mem) (by exact Nat.le_refl 2) (by rfl)) trivial rfl ?_; refine O_storeAgg0 Tb.c136 (by decide) rfl rfl rfl (one136 _ _) trivial (by exact TakeI.out) rfl ?_; (repeat' (first | (refine isO ?_; first | refine oo (Pc rfl) ?_ | refine oo (Pa rfl (by omega) (by omega)) ?_ | (refine ob rfl ?_ ?_ <;> intro hq <;> try (exfalso; omega)) | refine oo (Pi rfl (by omega)) ?_ | refine oo (Pl rfl) ?_ | refine oo (Px rfl rfl) ?_ | refine oo (Pj rfl (by omega) (by omega)) ?_ | refine oo (Pk rfl (by omega) (by omega)) ?_ | refine oo (Pf rfl) ?_ | refine oo (Pv rfl (by omega) (by omega)) ?_ | refine oo (Pn rfl) ?_ | refine oo (Pm rfl) ?_ | refine os rfl rfl ?_ | refine ot rfl (by omega) ?_ | refine O_nil ?_) | refine wo rfl ?_ | refine wc rfl ?_ | refine wg rfl ?_ | refine go rfl ?_ | refine gc rfl ?_ | refine gg rfl ?_)))
      exact G_fin ⟨[.agg [.int .u64 (t.1 : Int), .int .i64 (t.2 : Int)].toArray], ⟨ResV.agg rfl (by exact TakeI.out.mem) Tb.a136 Tb.c136 (by decide) rfl, trivial⟩, .inr ⟨t, ys', _, rfl, .inl hx0, hT, rfl, by repeat (first | exact .rfl | exact .nil | (apply Rk.cons; (· exact TakeI.out)) | refine .drop ?_)⟩⟩
end Go.Proofs.Ytjkpfliaflmppaa.Hu

namespace Go.Proofs.Ytjkpfliaflmppaa.Hu
open Go Go.RowKit Go.Proofs.Ytjkpfliaflmppaa.Vm Go.Proofs.Ytjkpfliaflmppaa.Pc

/-- What stands alone from f on, what is made from q on. -/
def Xs (c : List Nat) (f : Nat) : List (Nat × Nat) := (c.drop f).map fun w => (w, 0)
def Ys (c : List Nat) (q k : Nat) : List (Nat × Nat) := (List.range' q (k - q)).map fun j => ((nd c j).w, dp c j)
theorem Xs_length (c : List Nat) (f : Nat) : (Xs c f).length = c.length - f := by simp [Xs]
theorem Ys_length (c : List Nat) (q k : Nat) : (Ys c q k).length = k - q := by simp [Ys]
theorem Xs_cons (c : List Nat) (f : Nat) (h : f < c.length) : Xs c f = (c.getD f 0, 0) :: Xs c (f + 1) := by
  unfold Xs
  rw [List.drop_eq_getElem_cons h, List.map_cons, show c.getD f 0 = c[f] by simp [h]]
theorem Ys_cons (c : List Nat) (q k : Nat) (h : q < k) : Ys c q k = ((nd c q).w, dp c q) :: Ys c (q + 1) k := by
  unfold Ys
  rw [show k - q = (k - (q + 1)) + 1 by omega, List.range'_succ]
  rfl
theorem Ys_snoc (c : List Nat) (q k : Nat) (h : q ≤ k) : Ys c q (k + 1) = Ys c q k ++ [((nd c k).w, dp c k)] := by
  unfold Ys
  rw [show k + 1 - q = (k - q) + 1 by omega, List.range'_concat, List.map_append]
  simp only [List.map_cons, List.map_nil, Nat.one_mul]
  rw [show q + (k - q) = k by omega]
theorem take_bld (c : List Nat) (f q k : Nat) (xv yv : Value) (mx my F : Mem) (pa pb : Nat) (hx : Mv xv (Xs c f) mx) (hy : Mv yv (Ys c q k) my) (hf : f ≤ c.length) (hq : q ≤ k) (h0 : f < c.length ∨ q < k) :
    HC Try.prog 78 #[.pointer (some ⟨pb, 0, none⟩), .pointer (some ⟨pa, 0, none⟩)] (⟨true, pb, 0, [yv]⟩ :: ⟨true, pa, 0, [xv]⟩ :: (mx ++ (my ++ F)))
      (fun r M' => ∃ xv' yv', Mv xv' (Xs c (tkF c (bld c k).nds f q)) mx ∧ Mv yv' (Ys c (tkQ c (bld c k).nds f q) k) my ∧ r = .agg #[.int .u64 (tkW c (bld c k).nds f q : Nat), .int .i64 (if tkL c (bld c k).nds f q then 0 else dp c q : Nat)] ∧
        Rk M' (⟨true, pb, 0, [yv']⟩ :: ⟨true, pa, 0, [xv']⟩ :: (mx ++ (my ++ F)))) := by
  have hl := bld_len c k
  have hg := bld_get c k
  have hX : Xs c f ≠ [] ∨ Ys c q k ≠ [] := by
    rcases h0 with h | h
    · exact .inl (by rw [Xs_cons c f h]; simp)
    · exact .inr (by rw [Ys_cons c q k h]; simp)
  refine (take_c (Xs c f) (Ys c q k) xv yv mx my F pa pb hx hy hX).mono ?_
  rintro r M' (⟨t, xs', xv', e, hc, hT, rfl, hrk⟩ | ⟨t, ys', yv', e, hc, hT, rfl, hrk⟩)
  · have hfl : f < c.length := by
      refine Nat.lt_of_not_le fun h => ?_
      have h2 := Xs_length c f
      rw [e] at h2
      simp only [List.length_cons] at h2
      omega
    rw [Xs_cons c f hfl] at e
    obtain ⟨rfl, rfl⟩ := List.cons.inj e
    have hL : tkL c (bld c k).nds f q = true := by
      unfold tkL
      refine decide_eq_true ?_
      rw [hl]
      by_cases hqk : q < k
      · refine .inr ⟨hfl, ?_⟩
        rw [hg q hqk]
        rcases hc with h | h
        · rw [Ys_cons c q k hqk] at h; cases h
        · rw [Ys_cons c q k hqk] at h; exact h
      · exact .inl (by omega)
    unfold tkF tkQ tkW
    rw [hL]
    exact ⟨xv', yv, hT, hy, rfl, hrk⟩
  · have hqk : q < k := by
      refine Nat.lt_of_not_le fun h => ?_
      have h2 := Ys_length c q k
      rw [e] at h2
      simp only [List.length_cons] at h2
      omega
    rw [Ys_cons c q k hqk] at e
    obtain ⟨rfl, rfl⟩ := List.cons.inj e
    have hL : tkL c (bld c k).nds f q = false := by
      unfold tkL
      refine decide_eq_false ?_
      rw [hl, hg q hqk]
      rintro (h | ⟨h1, h2⟩)
      · omega
      · rcases hc with h | h
        · rw [Xs_cons c f h1] at h; cases h
        · rw [Xs_cons c f h1] at h
          have h : (nd c q).w < c.getD f 0 := h
          omega
    unfold tkF tkQ tkW
    rw [hL, hg q hqk]
    exact ⟨xv, yv', hx, hT, rfl, hrk⟩

theorem row134_1 (a b : Int) (w : World) : (Instr.buildSlice 134 1 [(0, .agg [.int .u64 a, .int .i64 b].toArray)].toArray).run Try.prog w = .ok (.slice (some ⟨w.heap.size, 0, none⟩) 1 1) (w.alloc (.cells [.int .u64 a, .int .i64 b].toArray 136)) := by kernel_rfl
theorem build136 (a b : Int) (w : World) : (Instr.build 136 [(0, .int .u64 a), (1, .int .i64 b)].toArray).run Try.prog w = .ok (.agg [.int .u64 a, .int .i64 b].toArray) w := by kernel_rfl
theorem info136 : (Try.prog.info? 136).map (fun i => (i.size, i.bytes, i.zero)) = some (2, 16, some (.agg #[.int .u64 0, .int .i64 0])) := by kernel_rfl
/-- A tree is put behind the others. -/
theorem O_mvAppend {N : Fm} {Fin : Post} {k : List Kn} {ops rest : List Oper} {E : Env} {ty : TypeId} {pos : String} {after : Array Edge} {I : TypeInfo} {s x : Operand} {d by1 cx : Nat} {v : Value} {xs : List (Nat × Nat)} {t : Nat × Nat} {m M : Mem} (hI : Try.prog.info? 136 = some I) (hI1 : I.size = 2) (hI2 : I.bytes = 16) (hI3 : I.zero = some (.agg #[.int .u64 0, .int .i64 0]))
    (hv : Mv v xs m) (h60 : xs.length ≤ 1000) (hs : ev E s = some v) (hx : ev E x = some (.slice (some ⟨by1, 0, none⟩) 1 cx)) (hg : On E ops none) (hd : Nat.blt d N.n = true)
    (h : ∀ ad c' m', Mv (.slice ad (xs.length + 1) c') (xs ++ [t]) m' → WO false Try.prog N Fin ops rest k ((d, .slice ad (xs.length + 1) c') :: E) (m' ++ (⟨true, by1, 0, [.int .u64 (t.1 : Int), .int .i64 (t.2 : Int)]⟩ :: M))) :
    WO false Try.prog N Fin ops (⟨some d, .call { callee := .builtin .append, args := #[s, x], argTypes := #[134, 134] }, ty, pos, after, none⟩ :: rest) k E (⟨true, by1, 0, [.int .u64 (t.1 : Int), .int .i64 (t.2 : Int)]⟩ :: (m ++ M)) := by
  have htc : tc [t] = [.int .u64 (t.1 : Int), .int .i64 (t.2 : Int)] := rfl
  have hfin : ∀ b cap sp, (tc (xs ++ [t]) ++ sp).length = cap * 2 → Mv (.slice (some ⟨b, 0, none⟩) (xs.length + 1) cap) (xs ++ [t]) [⟨true, b, 0, tc (xs ++ [t]) ++ sp⟩] := fun b cap sp h => by
    refine .inr (.inl ⟨b, [], sp, cap, by rw [List.length_append]; rfl, rfl, h, ?_⟩)
    rw [List.length_append, tc_length, List.length_append] at h
    simp only [List.length_cons, List.length_nil] at h
    omega
  rcases hv with ⟨rfl, rfl, rfl⟩ | ⟨b, pre, sp, cap, rfl, rfl, h1, h2⟩ | ⟨rfl, b, o, L, rfl, ho, rfl⟩
  · refine O_append (m := []) (M0 := ⟨true, by1, 0, [.int .u64 (t.1 : Int), .int .i64 (t.2 : Int)]⟩ :: M) (len := 0) (size := 2) (xs := []) Tb.u134 Tb.u134 hI hI1 (by decide) (by omega) hI3 rfl hs hx (.inl ⟨rfl, rfl, rfl⟩) .rfl rfl (.head _) (Nat.le_refl 2) (one136 _ _) (.inl (by decide)) (by rw [hI2]; decide) hg hd fun b cap sp hh => ?_
    exact h _ _ _ (hfin b cap sp hh)
  · by_cases hc : xs.length + 1 ≤ cap
    · have hl : (tc xs ++ sp).length = xs.length * 2 + sp.length := by rw [List.length_append, tc_length]
      refine O_appendIn (l := pre ++ (tc xs ++ sp)) (M0 := ⟨true, by1, 0, [.int .u64 (t.1 : Int), .int .i64 (t.2 : Int)]⟩ :: M) Tb.u134 Tb.u134 hI hI1 hs hx (.tail .head) (.head _) (Nat.le_refl 2) (one136 _ _) hc (by rw [List.length_append]; omega) hg hd ?_
      have e : putAt (pre ++ (tc xs ++ sp)) (pre.length + xs.length * 2) ([Value.int .u64 (t.1 : Int), .int .i64 (t.2 : Int)].take (1 * 2)) = pre ++ (tc (xs ++ [t]) ++ sp.drop 2) := by
        have := putAt_append [Value.int .u64 (t.1 : Int), .int .i64 (t.2 : Int)] (pre ++ tc xs) sp (by show 2 ≤ sp.length; omega)
        rw [List.length_append, tc_length, List.append_assoc] at this
        show putAt (pre ++ (tc xs ++ sp)) (pre.length + xs.length * 2) [Value.int .u64 (t.1 : Int), .int .i64 (t.2 : Int)] = _
        rw [this, tc_append, htc]
        simp
      rw [e]
      refine h _ _ [⟨true, b, 0, pre ++ (tc (xs ++ [t]) ++ sp.drop 2)⟩] (.inr (.inl ⟨b, pre, sp.drop 2, cap, by rw [List.length_append]; rfl, rfl, ?_, h2⟩))
      rw [tc_append, htc, List.length_append, List.length_append, List.length_drop, tc_length]
      simp only [List.length_cons, List.length_nil]
      omega
    · refine O_appendGrow (l0 := pre ++ (tc xs ++ sp)) (o0 := 0) (ii := pre.length) (xs := tc xs) Tb.u134 Tb.u134 hI hI1 (by omega) hI3 rfl hs hx (.tail _ (.head _)) (Nat.zero_add _).symm ?_ ?_ (.head _) (Nat.le_refl 2) (by omega) (by rw [hI2]; omega) hg hd fun b2 cap2 sp2 hh hle => ?_
      · rw [List.drop_left' rfl, List.take_left' (tc_length xs)]
      · rw [List.length_append, List.length_append, tc_length]; omega
      · have e : tc xs ++ [Value.int .u64 (t.1 : Int), .int .i64 (t.2 : Int)].take (1 * 2) = tc (xs ++ [t]) := by rw [tc_append, htc]; rfl
        rw [e] at hh ⊢
        exact O_weak (.cons .head (.cons .head (.drop .rfl))) (h _ _ _ (hfin b2 cap2 sp2 hh))
  · refine O_appendGrow (l0 := L) (o0 := 0) (ii := o) (xs := tc []) Tb.u134 Tb.u134 hI hI1 (by omega) hI3 rfl hs hx (.tail _ (.head _)) (Nat.zero_add _).symm ?_ ?_ (.head _) (Nat.le_refl 2) (by decide) (by rw [hI2]; decide) hg hd fun b2 cap2 sp2 hh hle => ?_
    · simp [tc_nil]
    · omega
    · have e : tc [] ++ [Value.int .u64 (t.1 : Int), .int .i64 (t.2 : Int)].take (1 * 2) = tc ([] ++ [t]) := rfl
      rw [e] at hh ⊢
      exact O_weak (.cons .head (.cons .head (.drop .rfl))) (h _ _ _ (hfin b2 cap2 sp2 hh))

theorem dps_le (c : List Nat) : ∀ k j, (dps c k).getD j 0 ≤ k
  | 0, j => by simp [dps]
  | k + 1, j => by
    show (dps c k ++ [dp c k]).getD j 0 ≤ _
    rw [List.getD_eq_getElem?_getD]
    by_cases hj : j < k
    · rw [List.getElem?_append_left (by rw [dps_len]; exact hj), ← List.getD_eq_getElem?_getD]
      exact Nat.le_succ_of_le (dps_le c k j)
    · by_cases hk : j = k
      · subst hk
        rw [List.getElem?_append_right (by rw [dps_len]; omega), dps_len]
        simp only [Nat.sub_self, List.getElem?_cons_zero, Option.getD_some]
        unfold dp
        have h1 := dps_le c j (nd c j).a
        have h2 := dps_le c j (nd c j).b
        split <;> split <;> omega
      · rw [List.getElem?_eq_none (by rw [List.length_append, dps_len]; simp; omega)]
        exact Nat.zero_le _
theorem dp_le (c : List Nat) (k : Nat) : dp c k ≤ k + 1 := by
  unfold dp
  have h1 := dps_le c k (nd c k).a
  have h2 := dps_le c k (nd c k).b
  split <;> split <;> omega
theorem sm_le (g : Nat → Nat) (B : Nat) : ∀ m, (∀ x, x < m → g x ≤ B) → sm g 0 m ≤ m * B
  | 0, _ => by rw [sm_nil (Nat.le_refl 0)]; omega
  | m + 1, h => by
    rw [sm_last (Nat.zero_le m), Nat.succ_mul]
    have h1 := sm_le g B m fun x hx => h x (by omega)
    have h2 := h m (by omega)
    omega
theorem two_takes (c : List Nat) {k : Nat} (hk : k + 1 < c.length) :
    tkF c (bld c k).nds (bld c k).f (bld c k).q ≤ c.length ∧ tkQ c (bld c k).nds (bld c k).f (bld c k).q ≤ k ∧ (tkF c (bld c k).nds (bld c k).f (bld c k).q < c.length ∨ tkQ c (bld c k).nds (bld c k).f (bld c k).q < k) ∧
      (bld c k).f ≤ c.length ∧ (bld c k).q ≤ k ∧ ((bld c k).f < c.length ∨ (bld c k).q < k) := by
  obtain ⟨h1, h2, h3⟩ := inv_all c (by omega) k (by omega)
  have hl := bld_len c k
  rcases tk_cases c (bld c k).nds (bld c k).f (bld c k).q (by omega) h2 (by omega) with ⟨_, e2, _, e4, e5, _⟩ | ⟨_, e2, _, e4, e5, _⟩
  · rw [e4, e5]; omega
  · rw [e4, e5]; omega
theorem dp_eq (c : List Nat) {k : Nat} (hk : k + 1 < c.length) :
    dp c k = max (if tkL c (bld c k).nds (bld c k).f (bld c k).q then 0 else dp c (bld c k).q)
      (if tkL c (bld c k).nds (tkF c (bld c k).nds (bld c k).f (bld c k).q) (tkQ c (bld c k).nds (bld c k).f (bld c k).q) then 0 else dp c (tkQ c (bld c k).nds (bld c k).f (bld c k).q)) + 1 := by
  have ha : (nd c k).la = tkL c (bld c k).nds (bld c k).f (bld c k).q := rfl
  have ha2 : (nd c k).a = tkI c (bld c k).nds (bld c k).f (bld c k).q := rfl
  have hb : (nd c k).lb = tkL c (bld c k).nds (tkF c (bld c k).nds (bld c k).f (bld c k).q) (tkQ c (bld c k).nds (bld c k).f (bld c k).q) := rfl
  have hb2 : (nd c k).b = tkI c (bld c k).nds (tkF c (bld c k).nds (bld c k).f (bld c k).q) (tkQ c (bld c k).nds (bld c k).f (bld c k).q) := rfl
  obtain ⟨g1, g2, g3, g4, g5, g6⟩ := two_takes c hk
  have hl := bld_len c k
  have k1 := tk_cases c (bld c k).nds (bld c k).f (bld c k).q (by omega) g4 (by omega)
  have k2 := tk_cases c (bld c k).nds (tkF c (bld c k).nds (bld c k).f (bld c k).q) (tkQ c (bld c k).nds (bld c k).f (bld c k).q) (by omega) g1 (by omega)
  unfold dp
  rw [ha, hb, ha2, hb2]
  congr 2
  · rcases k1 with ⟨e1, _⟩ | ⟨e1, e2, e3, _⟩
    · rw [e1]; rfl
    · rw [e1, e3]
      exact dps_get c k _ (by omega)
  · rcases k2 with ⟨e1, _⟩ | ⟨e1, e2, e3, _⟩
    · rw [e1]; rfl
    · rw [e1, e3]
      exact dps_get c k _ (by omega)
theorem wh_le (c : List Nat) (hn : 2 ≤ c.length) (hc : ∀ x ∈ c, x ≤ 16777215) (h60 : c.length ≤ 60) {k : Nat} (hk : k + 1 < c.length) : (nd c k).w ≤ 1006632900 := by
  have h1 := weight_le c hn hk
  have h2 := sm_le (fun x => c.getD x 0) 16777215 c.length fun x hx => by
    show c.getD x 0 ≤ _
    rw [show c.getD x 0 = c[x] by simp [hx]]
    exact hc _ (List.getElem_mem _)
  have h3 : c.length * 16777215 ≤ 60 * 16777215 := Nat.mul_le_mul_right _ h60
  omega
end Go.Proofs.Ytjkpfliaflmppaa.Hu
