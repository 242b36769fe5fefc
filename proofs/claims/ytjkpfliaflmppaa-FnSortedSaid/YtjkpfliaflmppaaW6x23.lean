/- laws.same, walked: the same codes are the same. For two rows of at most 60 codes that are equal. Encoder.Init, walked: for codes whose symbols are numbered from 0 on. -/
import Derived.Test.YtjkpfliaflmppaaW6x22
import Derived.Test.YtjkpfliaflmppaaW6x05
import Derived.Test.YtjkpfliaflmppaaW6x07
import Derived.Test.YtjkpfliaflmppaaW6x14

namespace Go.Proofs.Ytjkpfliaflmppaa.Pc
open Go Go.RowKit Go.Proofs.Ytjkpfliaflmppaa.Vm

theorem eq42 (a b c d : Int) (w : World) : (Op.equal 42 (.agg #[.int .u32 a, .int .u32 b, .int .u32 c, .int .u32 d]) (.agg #[.int .u32 a, .int .u32 b, .int .u32 c, .int .u32 d])).run Try.prog w = .ok true w := eqIn42 9998 a b c d w

theorem noGuard42 : Try.prog.eqGuardType Try.prog.depth 42 = false := by kernel_rfl
theorem P_neq42 {N : Fm} {E : Env} {M : Mem} {x y : Operand} {t2 : TypeId} {a b c d : Int} (hx : ev E x = some (.agg [.int .u32 a, .int .u32 b, .int .u32 c, .int .u32 d].toArray)) (hy : ev E y = some (.agg [.int .u32 a, .int .u32 b, .int .u32 c, .int .u32 d].toArray)) :
    Pure Try.prog N E M (.binOp .neq 42 x y t2) (.bool false) := by
  constructor
  intro pr base w0 ac w hA hS dd ty pos after g
  have h1 := eq42 a b c d w
  have hp : (program : Sem Program).run Try.prog w = .ok Try.prog w := rfl
  have hg : ∀ x y : Operand, (eqGuard .neq 42 x y (.agg #[.int .u32 a, .int .u32 b, .int .u32 c, .int .u32 d]) (.agg #[.int .u32 a, .int .u32 b, .int .u32 c, .int .u32 d])).run Try.prog w = .ok () w := by
    intro x y
    unfold eqGuard
    simp [hp, noGuard42]
  have hb : binOp .neq 42 (.agg #[.int .u32 a, .int .u32 b, .int .u32 c, .int .u32 d]) (.agg #[.int .u32 a, .int .u32 b, .int .u32 c, .int .u32 d]) = (do pure (.bool (!(← Op.equal 42 (.agg #[.int .u32 a, .int .u32 b, .int .u32 c, .int .u32 d]) (.agg #[.int .u32 a, .int .u32 b, .int .u32 c, .int .u32 d]))))) := rfl
  simp only [execOp, hA.eval hx, hA.eval hy, hb]
  simp [h1, hg]

/-- What holds on the way through 'x, y := a[i], b[i]'. -/
structure SmI (s1 s2 vi : Value) (val : Nat → Value) (cs : List Value) (M : Mem) (done : Nat → Bool) (E : Env) (M' : Mem) : Prop where
  base : Sub E [(0, s1), (1, s2), (2, .bool true), (7, vi)]
  sl : ∀ j, j < 8 → done j = true → E.get? (21 + j) = some (val j)
  ord : (done 10 = true → done 8 = true) ∧ (done 11 = true → done 9 = true)
  mem : ∃ m8 m9, Rk M' (m8 ++ (m9 ++ M)) ∧ (done 8 = true → ∃ x row, E.get? 8 = some (.pointer (some ⟨x, 0, none⟩)) ∧ m8 = [⟨true, x, 0, row⟩] ∧ row.length = 4 ∧ (done 10 = true → row = cs)) ∧
    (done 9 = true → ∃ x row, E.get? 9 = some (.pointer (some ⟨x, 0, none⟩)) ∧ m9 = [⟨true, x, 0, row⟩] ∧ row.length = 4 ∧ (done 11 = true → row = cs))

theorem SmI.pure {s1 s2 vi : Value} {val : Nat → Value} {cs : List Value} {M : Mem} {done : Nat → Bool} {E : Env} {M' : Mem} (h : SmI s1 s2 vi val cs M done E M') (i : Nat) (hi : i < 8) :
    SmI s1 s2 vi val cs M (fun j => if j = i then true else done j) ((21 + i, val i) :: E) M' := by
  have hget : ∀ n, n < 20 → Env.get? ((21 + i, val i) :: E) n = E.get? n := by
    intro n hn
    have : Nat.beq (21 + i) n = false := by
      cases hb : Nat.beq (21 + i) n with
      | false => rfl
      | true => have := Nat.eq_of_beq_eq_true hb; omega
    simp [Env.get?, this]
  refine ⟨?_, ?_, ?_, ?_⟩
  rotate_left
  rotate_left
  · refine ⟨fun hd => ?_, fun hd => ?_⟩
    · rw [if_neg (by omega)] at hd ⊢; exact h.ord.1 hd
    · rw [if_neg (by omega)] at hd ⊢; exact h.ord.2 hd
  rotate_left
  · obtain ⟨h0, h1, h2, h7, _⟩ := h.base
    exact ⟨by rw [hget _ (by omega)]; exact h0, by rw [hget _ (by omega)]; exact h1, by rw [hget _ (by omega)]; exact h2, by rw [hget _ (by omega)]; exact h7, trivial⟩
  · intro j hj hd
    by_cases hji : j = i
    · subst hji; simp [Env.get?]
    · rw [if_neg hji] at hd
      have : Nat.beq (21 + i) (21 + j) = false := by
        cases hb : Nat.beq (21 + i) (21 + j) with
        | false => rfl
        | true => have := Nat.eq_of_beq_eq_true hb; omega
      simp only [Env.get?, this, cond_false]
      exact h.sl j hj hd
  · obtain ⟨m8, m9, hr, h8, h9⟩ := h.mem
    refine ⟨m8, m9, hr, fun hd => ?_, fun hd => ?_⟩
    · rw [if_neg (by omega)] at hd
      obtain ⟨x, row, e1, e2, e3, e4⟩ := h8 hd
      exact ⟨x, row, by rw [hget _ (by omega)]; exact e1, e2, e3, fun hd2 => e4 (by rwa [if_neg (by omega)] at hd2)⟩
    · rw [if_neg (by omega)] at hd
      obtain ⟨x, row, e1, e2, e3, e4⟩ := h9 hd
      exact ⟨x, row, by rw [hget _ (by omega)]; exact e1, e2, e3, fun hd2 => e4 (by rwa [if_neg (by omega)] at hd2)⟩

theorem same_c (l : List Cd) (b1 c1 b2 c2 : Nat) (o1 o2 : Bool) (sp1 sp2 : List Value) (M : Mem) (h1 : (⟨o1, b1, 0, codesV l ++ sp1⟩ : Sg) ∈ M) (h2 : (⟨o2, b2, 0, codesV l ++ sp2⟩ : Sg) ∈ M) (h60 : l.length ≤ 60) :
    HC Try.prog 16 #[.slice (some ⟨b1, 0, none⟩) l.length c1, .slice (some ⟨b2, 0, none⟩) l.length c2, .bool true] M (fun v M' => v = .bool true ∧ Rk M' M) := by
  refine HC_of_W (fn := Try.f16) Try.func16 rfl rfl rfl rfl ?_
  repeat' (first | (refine isO ?_; first | refine oo (Pc rfl) ?_ | refine oo (Pa rfl (by omega) (by omega)) ?_ | (refine ob rfl ?_ ?_ <;> intro hq <;> try (exfalso; omega)) | refine oo (Pi rfl (by omega)) ?_ | refine oo (Pl rfl) ?_ | refine oo (Px rfl rfl) ?_ | refine oo (Pj rfl (by omega) (by omega)) ?_ | refine oo (Pk rfl (by omega) (by omega)) ?_ | refine oo (Pf rfl) ?_ | refine oo (Pv rfl (by omega) (by omega)) ?_ | refine oo (Pn rfl) ?_ | refine oo (Pm rfl) ?_ | refine os rfl rfl ?_ | refine ot rfl (by omega) ?_ | refine O_nil ?_) | refine wo rfl ?_ | refine wc rfl ?_ | refine wg rfl ?_ | refine go rfl ?_ | refine gc rfl ?_ | refine gg rfl ?_)
  refine W_loop (α := Nat) (fun i => [(0, .slice (some ⟨b1, 0, none⟩) l.length c1), (1, .slice (some ⟨b2, 0, none⟩) l.length c2), (2, .bool true), (7, .int .i64 i)]) (fun _ => M) (fun i => i ≤ l.length) (fun i => l.length - i) 0 (by omega) ⟨rfl, rfl, rfl, rfl, trivial⟩ .rfl ?_
  intro i hi
  try dsimp only
  repeat' (first | (refine isO ?_; first | refine oo (Pc rfl) ?_ | refine oo (Pa rfl (by omega) (by omega)) ?_ | (refine ob rfl ?_ ?_ <;> intro hq <;> try (exfalso; omega)) | refine oo (Pi rfl (by omega)) ?_ | refine oo (Pl rfl) ?_ | refine oo (Px rfl rfl) ?_ | refine oo (Pj rfl (by omega) (by omega)) ?_ | refine oo (Pk rfl (by omega) (by omega)) ?_ | refine oo (Pf rfl) ?_ | refine oo (Pv rfl (by omega) (by omega)) ?_ | refine oo (Pn rfl) ?_ | refine oo (Pm rfl) ?_ | refine os rfl rfl ?_ | refine ot rfl (by omega) ?_ | refine O_nil ?_) | refine wo rfl ?_ | refine wc rfl ?_ | refine wg rfl ?_ | refine go rfl ?_ | refine gc rfl ?_ | refine gg rfl ?_)
  · have hil : i < l.length := by omega
    have hb1 := codesV_block l sp1 i hil
    have hb2 := codesV_block l sp2 i hil
    refine W_region_inv Tb.mixed [[], [], [0, 1], [2], [], [], [4, 5], [6], [], [], [3, 8], [7, 8, 9, 10]] (by kernel_rfl) (by kernel_rfl)
      (SmI (.slice (some ⟨b1, 0, none⟩) l.length c1) (.slice (some ⟨b2, 0, none⟩) l.length c2) (.int .i64 i)
        (fun j => match j with
          | 0 => .slice (some ⟨b1, 0, none⟩) l.length c1
          | 1 => .int .i64 i
          | 2 => .pointer (some ⟨b1, 0 + (i : Int).toNat * 4, none⟩)
          | 3 => .agg (l.getD i Cd.zero).cells.toArray
          | 4 => .slice (some ⟨b2, 0, none⟩) l.length c2
          | 5 => .int .i64 i
          | 6 => .pointer (some ⟨b2, 0 + (i : Int).toNat * 4, none⟩)
          | _ => .agg (l.getD i Cd.zero).cells.toArray) (l.getD i Cd.zero).cells M) ?_ ?_ ?_
    · exact ⟨⟨rfl, rfl, rfl, rfl, trivial⟩, fun j _ h => (by cases h), ⟨fun h => (by cases h), fun h => (by cases h)⟩, [], [], .rfl, fun h => (by cases h), fun h => (by cases h)⟩
    · intro j hj done E M' hI hn hd
      have hM : Rk M' M := by
        obtain ⟨m8, m9, hr, _⟩ := hI.mem
        exact .trans hr (.trans (Rk.right _ _) (Rk.right _ _))
      match j, hj with
      | 0, _ =>
        simp only [List.drop_succ_cons, List.drop_zero, List.take_succ_cons, List.take_zero]
        refine O_pure (P_move (hI.base.get rfl)) trivial rfl (O_nil (G_fin ⟨rfl, hI.pure 0 (by omega)⟩))
      | 1, _ =>
        simp only [List.drop_succ_cons, List.drop_zero, List.take_succ_cons, List.take_zero]
        refine O_pure (P_move (hI.base.get rfl)) trivial rfl (O_nil (G_fin ⟨rfl, hI.pure 1 (by omega)⟩))
      | 2, _ =>
        simp only [List.drop_succ_cons, List.drop_zero, List.take_succ_cons, List.take_zero]
        refine O_pure (P_index Tb.u23 Tb.c42 (by decide) (hI.sl 0 (by omega) (hd 0 (by simp))) (hI.sl 1 (by omega) (hd 1 (by simp))) (by omega) (by omega)) trivial rfl (O_nil (G_fin ⟨rfl, hI.pure 2 (by omega)⟩))
      | 3, _ =>
        simp only [List.drop_succ_cons, List.drop_zero, List.take_succ_cons, List.take_zero]
        refine O_pure (P_loadAgg (o := 0) (i := i * 4) Tb.a42 Tb.c42 (by decide) (hI.sl 2 (by omega) (hd 2 (by simp))) (hM.all.1 _ h1) (by rw [List.length_append, codesV_length]; omega) hb1) trivial rfl (O_nil (G_fin ⟨rfl, hI.pure 3 (by omega)⟩))
      | 4, _ =>
        simp only [List.drop_succ_cons, List.drop_zero, List.take_succ_cons, List.take_zero]
        refine O_pure (P_move (hI.base.get rfl)) trivial rfl (O_nil (G_fin ⟨rfl, hI.pure 4 (by omega)⟩))
      | 5, _ =>
        simp only [List.drop_succ_cons, List.drop_zero, List.take_succ_cons, List.take_zero]
        refine O_pure (P_move (hI.base.get rfl)) trivial rfl (O_nil (G_fin ⟨rfl, hI.pure 5 (by omega)⟩))
      | 6, _ =>
        simp only [List.drop_succ_cons, List.drop_zero, List.take_succ_cons, List.take_zero]
        refine O_pure (P_index Tb.u23 Tb.c42 (by decide) (hI.sl 4 (by omega) (hd 4 (by simp))) (hI.sl 5 (by omega) (hd 5 (by simp))) (by omega) (by omega)) trivial rfl (O_nil (G_fin ⟨rfl, hI.pure 6 (by omega)⟩))
      | 7, _ =>
        simp only [List.drop_succ_cons, List.drop_zero, List.take_succ_cons, List.take_zero]
        refine O_pure (P_loadAgg (o := 0) (i := i * 4) Tb.a42 Tb.c42 (by decide) (hI.sl 6 (by omega) (hd 6 (by simp))) (hM.all.1 _ h2) (by rw [List.length_append, codesV_length]; omega) hb2) trivial rfl (O_nil (G_fin ⟨rfl, hI.pure 7 (by omega)⟩))
      | 8, _ =>
        simp only [List.drop_succ_cons, List.drop_zero, List.take_succ_cons, List.take_zero]
        refine O_alloc zero42 trivial rfl fun x => O_nil (G_fin ⟨rfl, ?_⟩)
        obtain ⟨m8, m9, hr, h8, h9⟩ := hI.mem
        refine ⟨hI.base, fun j hj hdj => ?_, ?_, ?_⟩
        · have : Nat.beq 8 (21 + j) = false := by
            cases hb : Nat.beq 8 (21 + j) with
            | false => rfl
            | true => have := Nat.eq_of_beq_eq_true hb; omega
          simp only [Env.get?, this, cond_false]
          rw [if_neg (by omega)] at hdj
          exact hI.sl j hj hdj
        · simp only [Nat.reduceEqDiff, if_false, if_true, imp_self, implies_true, true_and, and_true]
          first | exact hI.ord.1 | exact hI.ord.2
        · exact ⟨_, m9, .cons .head (.trans hr (Rk.right m8 _)), fun _ => ⟨x, _, rfl, rfl, rfl, fun hd2 => (by have := hI.ord.1 (by simpa using hd2); rw [this] at hn; cases hn)⟩, fun hd2 => (by obtain ⟨y, row, e1, e2, e3, e4⟩ := h9 (by simpa using hd2); exact ⟨y, row, e1, e2, e3, fun h => e4 (by simpa using h)⟩)⟩
      | 9, _ =>
        simp only [List.drop_succ_cons, List.drop_zero, List.take_succ_cons, List.take_zero]
        refine O_alloc zero42 trivial rfl fun x => O_nil (G_fin ⟨rfl, ?_⟩)
        obtain ⟨m8, m9, hr, h8, h9⟩ := hI.mem
        refine ⟨hI.base, fun j hj hdj => ?_, ?_, ?_⟩
        · have : Nat.beq 9 (21 + j) = false := by
            cases hb : Nat.beq 9 (21 + j) with
            | false => rfl
            | true => have := Nat.eq_of_beq_eq_true hb; omega
          simp only [Env.get?, this, cond_false]
          rw [if_neg (by omega)] at hdj
          exact hI.sl j hj hdj
        · simp only [Nat.reduceEqDiff, if_false, if_true, imp_self, implies_true, true_and, and_true]
          first | exact hI.ord.1 | exact hI.ord.2
        · exact ⟨m8, _, .trans (.cons (s := ⟨true, x, 0, _⟩) .head (.trans hr (Rk.app m8 (Rk.right m9 M)))) (.perm List.perm_middle.symm), fun hd2 => (by obtain ⟨y, row, e1, e2, e3, e4⟩ := h8 (by simpa using hd2); exact ⟨y, row, e1, e2, e3, fun h => e4 (by simpa using h)⟩), fun _ => ⟨x, _, rfl, rfl, rfl, fun hd2 => (by have := hI.ord.2 (by simpa using hd2); rw [this] at hn; cases hn)⟩⟩
      | 10, _ =>
        simp only [List.drop_succ_cons, List.drop_zero, List.take_succ_cons, List.take_zero]
        obtain ⟨m8, m9, hr, h8, h9⟩ := hI.mem
        obtain ⟨x, row, e1, rfl, e3, e4⟩ := h8 (hd 8 (by simp))
        refine O_weak hr ?_
        refine O_storeAgg0 Tb.c42 (by decide) e1 (hI.sl 3 (by omega) (hd 3 (by simp))) rfl (Cd.cells_one _) trivial .head e3 (O_nil (G_fin ⟨rfl, ?_⟩))
        refine ⟨hI.base, fun j hj hdj => hI.sl j hj (by rwa [if_neg (by omega)] at hdj), ⟨fun _ => by simpa using hd 8 (by simp), fun h => by simpa using hI.ord.2 (by simpa using h)⟩, [⟨true, x, 0, (l.getD i Cd.zero).cells⟩], m9, .rfl, fun _ => ⟨x, _, e1, rfl, rfl, fun _ => rfl⟩, fun hd2 => ?_⟩
        obtain ⟨y, row2, f1, f2, f3, f4⟩ := h9 (by simpa using hd2)
        exact ⟨y, row2, f1, f2, f3, fun h => f4 (by simpa using h)⟩
      | 11, _ =>
        simp only [List.drop_succ_cons, List.drop_zero, List.take_succ_cons, List.take_zero]
        obtain ⟨m8, m9, hr, h8, h9⟩ := hI.mem
        obtain ⟨x, row, e1, rfl, e3, e4⟩ := h8 (hd 8 (by simp))
        obtain ⟨y, row2, f1, rfl, f3, f4⟩ := h9 (hd 9 (by simp))
        refine O_weak hr ?_
        refine O_storeAgg0 Tb.c42 (by decide) f1 (hI.sl 7 (by omega) (hd 7 (by simp))) rfl (Cd.cells_one _) trivial (.tail .head) f3 (O_nil (G_fin ⟨rfl, ?_⟩))
        refine ⟨hI.base, fun j hj hdj => hI.sl j hj (by rwa [if_neg (by omega)] at hdj), ⟨fun h => by simpa using hI.ord.1 (by simpa using h), fun _ => by simpa using hd 9 (by simp)⟩, [⟨true, x, 0, row⟩], [⟨true, y, 0, (l.getD i Cd.zero).cells⟩], .perm (.swap _ _ _), fun _ => ⟨x, _, e1, rfl, e3, fun h => e4 (by simpa using h)⟩, fun _ => ⟨y, _, f1, rfl, rfl, fun _ => rfl⟩⟩
      | n + 12, h => exact absurd h (by simp)
    · intro done E M' hI hall
      have h42 : ∀ j, j < 12 → done j = true := fun j hj => hall j (by simpa using hj)
      obtain ⟨m8, m9, hr, h8, h9⟩ := hI.mem
      obtain ⟨x, row, e1, rfl, e3, e4⟩ := h8 (h42 8 (by omega))
      obtain ⟨y, row2, f1, rfl, f3, f4⟩ := h9 (h42 9 (by omega))
      obtain rfl := e4 (h42 10 (by omega))
      obtain rfl := f4 (h42 11 (by omega))
      obtain ⟨g0, g1, g2, g7, _⟩ := hI.base
      refine G_code ?_
      refine W_weak (L := [(0, .slice (some ⟨b1, 0, none⟩) l.length c1), (1, .slice (some ⟨b2, 0, none⟩) l.length c2), (2, .bool true), (7, .int .i64 i), (8, .pointer (some ⟨x, 0, none⟩)), (9, .pointer (some ⟨y, 0, none⟩))]) ⟨g0, g1, g2, g7, e1, f1, trivial⟩ hr ?_
      repeat' (first | (refine isO ?_; first | refine oo (Pc rfl) ?_ | refine oo (Pa rfl (by omega) (by omega)) ?_ | (refine ob rfl ?_ ?_ <;> intro hq <;> try (exfalso; omega)) | refine oo (Pi rfl (by omega)) ?_ | refine oo (Pl rfl) ?_ | refine oo (Px rfl rfl) ?_ | refine oo (Pj rfl (by omega) (by omega)) ?_ | refine oo (Pk rfl (by omega) (by omega)) ?_ | refine oo (Pf rfl) ?_ | refine oo (Pv rfl (by omega) (by omega)) ?_ | refine oo (Pn rfl) ?_ | refine oo (Pm rfl) ?_ | refine os rfl rfl ?_ | refine ot rfl (by omega) ?_ | refine O_nil ?_) | refine wo rfl ?_ | refine wc rfl ?_ | refine wg rfl ?_ | refine go rfl ?_ | refine gc rfl ?_ | refine gg rfl ?_)
      refine O_pure (P_loadAgg (o := 0) (i := 0) Tb.a42 Tb.c42 (by decide) rfl (.head _) (Nat.le_refl _) rfl) trivial rfl ?_
      refine O_pure (P_loadAgg (o := 0) (i := 0) Tb.a42 Tb.c42 (by decide) rfl (.tail _ (.head _)) (Nat.le_refl _) rfl) trivial rfl ?_
      refine O_pure (P_neq42 rfl rfl) trivial rfl ?_
      repeat' (first | (refine isO ?_; first | refine oo (Pc rfl) ?_ | refine oo (Pa rfl (by omega) (by omega)) ?_ | (refine ob rfl ?_ ?_ <;> intro hq <;> try (exfalso; omega)) | refine oo (Pi rfl (by omega)) ?_ | refine oo (Pl rfl) ?_ | refine oo (Px rfl rfl) ?_ | refine oo (Pj rfl (by omega) (by omega)) ?_ | refine oo (Pk rfl (by omega) (by omega)) ?_ | refine oo (Pf rfl) ?_ | refine oo (Pv rfl (by omega) (by omega)) ?_ | refine oo (Pn rfl) ?_ | refine oo (Pm rfl) ?_ | refine os rfl rfl ?_ | refine ot rfl (by omega) ?_ | refine O_nil ?_) | refine wo rfl ?_ | refine wc rfl ?_ | refine wg rfl ?_ | refine go rfl ?_ | refine gc rfl ?_ | refine gg rfl ?_)
      exact G_stop ⟨i + 1, by omega, by omega, ⟨rfl, rfl, rfl, rfl, trivial⟩, .drop (.drop .rfl)⟩
  · exact G_fin ⟨_, rfl, rfl, .rfl⟩
end Go.Proofs.Ytjkpfliaflmppaa.Pc

namespace Go.Proofs.Ytjkpfliaflmppaa.Pc
open Go Go.RowKit Go.Proofs.Ytjkpfliaflmppaa.Vm

theorem P_quoE {P : Program} {N : Fm} {E : Env} {M : Mem} {t t2 : TypeId} {x y : Operand} {k : IntKind} {X Y : Int} {p q : Nat} (hx : ev E x = some (.int k X)) (hy : ev E y = some (.int k Y)) (hX : X = (p : Int)) (hY : Y = (q : Int)) (hq : 0 < q) (h : inK k ((p / q : Nat) : Int)) :
    Pure P N E M (.binOp .quo t x y t2) (.int k ((p / q : Nat) : Int)) := by
  subst hX; subst hY
  constructor
  intro pr base w0 a w hA hS d ty pos after g
  have hw := wrap_id h.lo h.hi
  have hw' : k.wrap ((p : Int) / (q : Int)) = (p : Int) / (q : Int) := by rw [Int.natCast_ediv] at hw; exact hw
  have e : Int.tdiv (p : Int) (q : Int) = ((p / q : Nat) : Int) := rfl
  simp [execOp, hA.eval hx, hA.eval hy, Sem.run, pure, bind, Sem.bind, eqGuard, binOp, Op.intArith, Op.intDiv, e, hw', show q ≠ 0 by omega]

theorem info40 : (Try.prog.info? 40).map (fun i => (i.size, i.bytes, i.zero)) = some (1, 4, some (.int .u32 0)) := by kernel_rfl
theorem ints_rep (k : IntKind) (c : Nat) : List.replicate c (Value.int k 0) = ints k (List.replicate c 0) := by simp [ints]

theorem alloc96_c (n : Nat) (M : Mem) (h1 : 1 ≤ n) (h2 : n ≤ 1048576) : HC Try.prog 96 #[.slice none 0 0, .int .i64 n] M (fun v M' => ∃ b, v = .slice (some ⟨b, 0, none⟩) n (n * 3 / 2) ∧ Rk M' (⟨true, b, 0, ints .u32 (List.replicate (n * 3 / 2) 0)⟩ :: M)) := by
  obtain ⟨I, hI, hI1, hI2, hI3⟩ := of_info info40
  refine HC_of_W (fn := Try.f96) Try.func96 rfl rfl rfl rfl ?_
  repeat' (first | (refine isO ?_; first | refine oo (Pc rfl) ?_ | refine oo (Pa rfl (by omega) (by omega)) ?_ | (refine ob rfl ?_ ?_ <;> intro hq <;> try (exfalso; omega)) | refine oo (Pi rfl (by omega)) ?_ | refine oo (Pl rfl) ?_ | refine oo (Px rfl rfl) ?_ | refine oo (Pj rfl (by omega) (by omega)) ?_ | refine oo (Pk rfl (by omega) (by omega)) ?_ | refine oo (Pf rfl) ?_ | refine oo (Pv rfl (by omega) (by omega)) ?_ | refine oo (Pn rfl) ?_ | refine oo (Pm rfl) ?_ | refine os rfl rfl ?_ | refine ot rfl (by omega) ?_ | refine O_nil ?_) | refine wo rfl ?_ | refine wc rfl ?_ | refine wg rfl ?_ | refine go rfl ?_ | refine gc rfl ?_ | refine gg rfl ?_)
  refine O_pure (P_cap Tb.u46 rfl) trivial rfl ?_
  repeat' (first | (refine isO ?_; first | refine oo (Pc rfl) ?_ | refine oo (Pa rfl (by omega) (by omega)) ?_ | (refine ob rfl ?_ ?_ <;> intro hq <;> try (exfalso; omega)) | refine oo (Pi rfl (by omega)) ?_ | refine oo (Pl rfl) ?_ | refine oo (Px rfl rfl) ?_ | refine oo (Pj rfl (by omega) (by omega)) ?_ | refine oo (Pk rfl (by omega) (by omega)) ?_ | refine oo (Pf rfl) ?_ | refine oo (Pv rfl (by omega) (by omega)) ?_ | refine oo (Pn rfl) ?_ | refine oo (Pm rfl) ?_ | refine os rfl rfl ?_ | refine ot rfl (by omega) ?_ | refine O_nil ?_) | refine wo rfl ?_ | refine wc rfl ?_ | refine wg rfl ?_ | refine go rfl ?_ | refine gc rfl ?_ | refine gg rfl ?_)
  refine O_pure (P_quoE (p := n * 3) (q := 2) rfl rfl (by omega) rfl (by omega) (inK_i64 (by omega) (by omega))) trivial rfl ?_
  refine O_makeCap (n := n) (c := n * 3 / 2) Tb.u46 hI hI1 hI3 rfl rfl rfl (by omega) (by omega) (by rw [hI2]; omega) (by omega) trivial rfl fun b => ?_
  rw [ints_rep]
  repeat' (first | (refine isO ?_; first | refine oo (Pc rfl) ?_ | refine oo (Pa rfl (by omega) (by omega)) ?_ | (refine ob rfl ?_ ?_ <;> intro hq <;> try (exfalso; omega)) | refine oo (Pi rfl (by omega)) ?_ | refine oo (Pl rfl) ?_ | refine oo (Px rfl rfl) ?_ | refine oo (Pj rfl (by omega) (by omega)) ?_ | refine oo (Pk rfl (by omega) (by omega)) ?_ | refine oo (Pf rfl) ?_ | refine oo (Pv rfl (by omega) (by omega)) ?_ | refine oo (Pn rfl) ?_ | refine oo (Pm rfl) ?_ | refine os rfl rfl ?_ | refine ot rfl (by omega) ?_ | refine O_nil ?_) | refine wo rfl ?_ | refine wc rfl ?_ | refine wg rfl ?_ | refine go rfl ?_ | refine gc rfl ?_ | refine gg rfl ?_)
  exact G_fin ⟨_, rfl, b, rfl, .rfl⟩

theorem wr_rep (c : Nat) (z : Int) : wr (List.replicate c 0) z 0 = List.replicate c 0 := by
  unfold wr
  apply List.ext_getElem
  · simp
  · intro i h1 h2
    simp only [List.getElem_set, List.getElem_replicate]
    split <;> rfl
theorem rd_wr {l : List Int} {p v : Int} {k : Nat} (hl : p.toNat < l.length) : (wr l p v).getD k 0 = if k = p.toNat then v else l.getD k 0 := by
  unfold wr
  rw [List.getD_eq_getElem?_getD, List.getD_eq_getElem?_getD, List.getElem?_set]
  by_cases h : k = p.toNat
  · subst h; simp [hl]
  · rw [if_neg (fun e => h e.symm), if_neg h]

/-- What a code's cell of the encoder's table holds. -/
def chunkOf (c : Cd) : Nat := c.val * 32 ||| c.len
/-- Codes that are numbered from 0 on. -/
structure Numbered (cs : List Cd) : Prop where
  two : 2 ≤ cs.length
  most : cs.length ≤ 60
  sym : ∀ i, i < cs.length → (cs.getD i Cd.zero).sym = i
  len : ∀ i, i < cs.length → 1 ≤ (cs.getD i Cd.zero).len ∧ (cs.getD i Cd.zero).len ≤ 20
  val : ∀ i, i < cs.length → (cs.getD i Cd.zero).val < 1048576

theorem cd_eta {c : Cd} {x : Nat} (h : c.sym = x) : c = ⟨x, c.cnt, c.len, c.val⟩ := by subst h; rfl
/-- The encoder's row and its table. -/
def EncR (eb n j cb cc : Nat) : Sg := ⟨true, eb, 0, [.slice (some ⟨cb, 0, none⟩) (2 ^ j) cc, .int .u32 (2 ^ j - 1 : Nat), .int .u32 n]⟩
def EncT (cs : List Cd) (j cc : Nat) (ch : List Int) : Prop := j ≤ 6 ∧ cs.length ≤ 2 ^ j ∧ 2 ^ j ≤ cc ∧ ch.length = cc ∧ ∀ i, i < cs.length → ch.getD i 0 = chunkOf (cs.getD i Cd.zero)

theorem and_mask {i j : Nat} (h : i < 2 ^ j) : i &&& (2 ^ j - 1) = i := by
  rw [Nat.and_two_pow_sub_one_eq_mod]; exact Nat.mod_eq_of_lt h
theorem pow6 {j : Nat} (h : j ≤ 6) : 2 ^ j ≤ 64 ∧ 1 ≤ 2 ^ j := ⟨Nat.pow_le_pow_right (n := 2) (by omega) h, Nat.two_pow_pos _⟩

set_option maxHeartbeats 1000000 in
theorem enc52_c (cs : List Cd) (hN : Numbered cs) (eb b cap : Nat) (own : Bool) (sp : List Value) (M : Mem) :
    HC Try.prog 52 #[.pointer (some ⟨eb, 0, none⟩), .slice (some ⟨b, 0, none⟩) cs.length cap] (⟨true, eb, 0, [.slice none 0 0, .int .u32 0, .int .u32 0]⟩ :: ⟨own, b, 0, codesV cs ++ sp⟩ :: M)
      (fun _ M' => ∃ j cb cc ch, EncT cs j cc ch ∧ Rk M' (EncR eb cs.length j cb cc :: ⟨true, cb, 0, ints .u32 ch⟩ :: ⟨own, b, 0, codesV cs ++ sp⟩ :: M)) := by
  have h2 := hN.two
  have h60 := hN.most
  refine HC_of_W (fn := Try.f52) Try.func52 rfl rfl rfl rfl ?_
  repeat' (first | (refine isO ?_; first | refine oo (Pc rfl) ?_ | refine oo (Pa rfl (by omega) (by omega)) ?_ | (refine ob rfl ?_ ?_ <;> intro hq <;> try (exfalso; omega)) | refine oo (Pi rfl (by omega)) ?_ | refine oo (Pl rfl) ?_ | refine oo (Px rfl rfl) ?_ | refine oo (Pj rfl (by omega) (by omega)) ?_ | refine oo (Pk rfl (by omega) (by omega)) ?_ | refine oo (Pf rfl) ?_ | refine oo (Pv rfl (by omega) (by omega)) ?_ | refine oo (Pn rfl) ?_ | refine oo (Pm rfl) ?_ | refine os rfl rfl ?_ | refine ot rfl (by omega) ?_ | refine O_nil ?_) | refine wo rfl ?_ | refine wc rfl ?_ | refine wg rfl ?_ | refine go rfl ?_ | refine gc rfl ?_ | refine gg rfl ?_)
  refine W_scope (α := Unit) 0 rfl (fun _ => []) (fun _ => []) (fun _ => False) (fun _ => 0) ?_ (fun _ h => h.elim)
  repeat' (first | (refine isO ?_; first | refine oo (Pc rfl) ?_ | refine oo (Pa rfl (by omega) (by omega)) ?_ | (refine ob rfl ?_ ?_ <;> intro hq <;> try (exfalso; omega)) | refine oo (Pi rfl (by omega)) ?_ | refine oo (Pl rfl) ?_ | refine oo (Px rfl rfl) ?_ | refine oo (Pj rfl (by omega) (by omega)) ?_ | refine oo (Pk rfl (by omega) (by omega)) ?_ | refine oo (Pf rfl) ?_ | refine oo (Pv rfl (by omega) (by omega)) ?_ | refine oo (Pn rfl) ?_ | refine oo (Pm rfl) ?_ | refine os rfl rfl ?_ | refine ot rfl (by omega) ?_ | refine O_nil ?_) | refine wo rfl ?_ | refine wc rfl ?_ | refine wg rfl ?_ | refine go rfl ?_ | refine gc rfl ?_ | refine gg rfl ?_)
  refine W_loop (α := Nat) (fun j => [(0, .pointer (some ⟨eb, 0, none⟩)), (1, .slice (some ⟨b, 0, none⟩) cs.length cap), (4, .int .i64 (2 ^ j : Nat)), (5, .int .i64 ((cs.length - 1) / 2 ^ j : Nat))])
    (fun _ => ⟨true, eb, 0, [.slice none 0 0, .int .u32 0, .int .u32 0]⟩ :: ⟨own, b, 0, codesV cs ++ sp⟩ :: M) (fun j => j ≤ 6) (fun j => 6 - j) 0 (by omega) ⟨rfl, rfl, rfl, congrArg (fun q => some (Value.int .i64 q)) (by simp; omega), trivial⟩ .rfl ?_
  intro j hj
  try dsimp only
  have hp := pow6 hj
  repeat' (first | (refine isO ?_; first | refine oo (Pc rfl) ?_ | refine oo (Pa rfl (by omega) (by omega)) ?_ | (refine ob rfl ?_ ?_ <;> intro hq <;> try (exfalso; omega)) | refine oo (Pi rfl (by omega)) ?_ | refine oo (Pl rfl) ?_ | refine oo (Px rfl rfl) ?_ | refine oo (Pj rfl (by omega) (by omega)) ?_ | refine oo (Pk rfl (by omega) (by omega)) ?_ | refine oo (Pf rfl) ?_ | refine oo (Pv rfl (by omega) (by omega)) ?_ | refine oo (Pn rfl) ?_ | refine oo (Pm rfl) ?_ | refine os rfl rfl ?_ | refine ot rfl (by omega) ?_ | refine O_nil ?_) | refine wo rfl ?_ | refine wc rfl ?_ | refine wg rfl ?_ | refine go rfl ?_ | refine gc rfl ?_ | refine gg rfl ?_)
  · have hj5 : j ≤ 5 := by
      by_cases h6 : j = 6
      · subst h6
        have : (cs.length - 1) / 2 ^ 6 = 0 := Nat.div_eq_of_lt (by omega)
        omega
      · omega
    refine O_pure (P_is (P_shl (p := (2 ^ j : Nat)) (q := 1) rfl rfl (by omega)) (congrArg (Value.int .i64) (?_ : _ = ((2 ^ (j + 1) : Nat) : Int)))) trivial rfl ?_
    · show IntKind.i64.wrap (((2 ^ j : Nat) : Int) * 2 ^ min 1 64) = _
      have e : ((2 ^ j : Nat) : Int) * 2 ^ min 1 64 = ((2 ^ (j + 1) : Nat) : Int) := by rw [Nat.pow_succ]; simp
      rw [e]
      have := pow6 (show j + 1 ≤ 6 by omega)
      exact wrap_id (show (-9223372036854775808 : Int) ≤ _ by omega) (show _ ≤ (9223372036854775807 : Int) by omega)
    repeat' (first | (refine isO ?_; first | refine oo (Pc rfl) ?_ | refine oo (Pa rfl (by omega) (by omega)) ?_ | (refine ob rfl ?_ ?_ <;> intro hq <;> try (exfalso; omega)) | refine oo (Pi rfl (by omega)) ?_ | refine oo (Pl rfl) ?_ | refine oo (Px rfl rfl) ?_ | refine oo (Pj rfl (by omega) (by omega)) ?_ | refine oo (Pk rfl (by omega) (by omega)) ?_ | refine oo (Pf rfl) ?_ | refine oo (Pv rfl (by omega) (by omega)) ?_ | refine oo (Pn rfl) ?_ | refine oo (Pm rfl) ?_ | refine os rfl rfl ?_ | refine ot rfl (by omega) ?_ | refine O_nil ?_) | refine wo rfl ?_ | refine wc rfl ?_ | refine wg rfl ?_ | refine go rfl ?_ | refine gc rfl ?_ | refine gg rfl ?_)
    have hlt : (cs.length - 1) / 2 ^ j ≤ cs.length - 1 := Nat.div_le_self _ _
    refine O_pure (P_shrE (p := (cs.length - 1) / 2 ^ j) (q := 1) (r := (cs.length - 1) / 2 ^ (j + 1)) rfl rfl (by simp only [IntKind.bits]; omega) (by rw [Nat.div_div_eq_div_mul, ← Nat.pow_add])) trivial rfl ?_
    repeat' (first | (refine isO ?_; first | refine oo (Pc rfl) ?_ | refine oo (Pa rfl (by omega) (by omega)) ?_ | (refine ob rfl ?_ ?_ <;> intro hq <;> try (exfalso; omega)) | refine oo (Pi rfl (by omega)) ?_ | refine oo (Pl rfl) ?_ | refine oo (Px rfl rfl) ?_ | refine oo (Pj rfl (by omega) (by omega)) ?_ | refine oo (Pk rfl (by omega) (by omega)) ?_ | refine oo (Pf rfl) ?_ | refine oo (Pv rfl (by omega) (by omega)) ?_ | refine oo (Pn rfl) ?_ | refine oo (Pm rfl) ?_ | refine os rfl rfl ?_ | refine ot rfl (by omega) ?_ | refine O_nil ?_) | refine wo rfl ?_ | refine wc rfl ?_ | refine wg rfl ?_ | refine go rfl ?_ | refine gc rfl ?_ | refine gg rfl ?_)
    exact G_stop ⟨j + 1, by omega, by omega, ⟨rfl, rfl, rfl, rfl, trivial⟩, .rfl⟩
  have hnj : cs.length ≤ 2 ^ j := by
    have h0 : (cs.length - 1) / 2 ^ j = 0 := Nat.le_zero.1 (Int.ofNat_le.1 hq)
    have := (Nat.div_eq_zero_iff).1 h0
    omega
  repeat' (first | (refine isO ?_; first | refine oo (Pc rfl) ?_ | refine oo (Pa rfl (by omega) (by omega)) ?_ | (refine ob rfl ?_ ?_ <;> intro hq <;> try (exfalso; omega)) | refine oo (Pi rfl (by omega)) ?_ | refine oo (Pl rfl) ?_ | refine oo (Px rfl rfl) ?_ | refine oo (Pj rfl (by omega) (by omega)) ?_ | refine oo (Pk rfl (by omega) (by omega)) ?_ | refine oo (Pf rfl) ?_ | refine oo (Pv rfl (by omega) (by omega)) ?_ | refine oo (Pn rfl) ?_ | refine oo (Pm rfl) ?_ | refine os rfl rfl ?_ | refine ot rfl (by omega) ?_ | refine O_nil ?_) | refine wo rfl ?_ | refine wc rfl ?_ | refine wg rfl ?_ | refine go rfl ?_ | refine gc rfl ?_ | refine gg rfl ?_)
  refine O_call rfl rfl Tb.k96 trivial rfl (alloc96_c (2 ^ j) _ (by omega) (by omega)) ?_
  rintro _ M' ⟨cb, rfl, hrk⟩
  refine O_weak hrk ?_
  clear hrk
  have hcc : 2 ^ j ≤ 2 ^ j * 3 / 2 := by omega
  generalize 2 ^ j * 3 / 2 = cc at *
  repeat' (first | (refine isO ?_; first | refine oo (Pc rfl) ?_ | refine oo (Pa rfl (by omega) (by omega)) ?_ | (refine ob rfl ?_ ?_ <;> intro hq <;> try (exfalso; omega)) | refine oo (Pi rfl (by omega)) ?_ | refine oo (Pl rfl) ?_ | refine oo (Px rfl rfl) ?_ | refine oo (Pj rfl (by omega) (by omega)) ?_ | refine oo (Pk rfl (by omega) (by omega)) ?_ | refine oo (Pf rfl) ?_ | refine oo (Pv rfl (by omega) (by omega)) ?_ | refine oo (Pn rfl) ?_ | refine oo (Pm rfl) ?_ | refine os rfl rfl ?_ | refine ot rfl (by omega) ?_ | refine O_nil ?_) | refine wo rfl ?_ | refine wc rfl ?_ | refine wg rfl ?_ | refine go rfl ?_ | refine gc rfl ?_ | refine gg rfl ?_)
  rw [show ((2 ^ j : Nat) : Int) - 1 = ((2 ^ j - 1 : Nat) : Int) by omega]
  refine W_loop (α := Nat) (fun i => [(0, .pointer (some ⟨eb, 0, none⟩)), (1, .slice (some ⟨b, 0, none⟩) cs.length cap), (111, .int .i64 (2 ^ j : Nat)), (112, .int .i64 i)])
    (fun _ => ⟨true, eb, 0, [.slice (some ⟨cb, 0, none⟩) (2 ^ j) cc, .int .u32 (2 ^ j - 1 : Nat), .int .u32 cs.length]⟩ :: ⟨true, cb, 0, ints .u32 (List.replicate cc 0)⟩ :: ⟨own, b, 0, codesV cs ++ sp⟩ :: M) (fun i => i ≤ 2 ^ j) (fun i => 2 ^ j - i) 0 (by omega) ⟨rfl, rfl, rfl, rfl, trivial⟩ (by repeat (first | exact .rfl | exact .nil | (apply Rk.cons; (· exact TakeI.out)) | refine .drop ?_)) ?_
  · intro i hi
    try dsimp only
    have hcl : (List.replicate cc (0 : Int)).length = cc := List.length_replicate
    repeat' (first | (refine isO ?_; first | refine oo (Pc rfl) ?_ | refine oo (Pa rfl (by omega) (by omega)) ?_ | (refine ob rfl ?_ ?_ <;> intro hq <;> try (exfalso; omega)) | refine oo (Pi rfl (by omega)) ?_ | refine oo (Pl rfl) ?_ | refine oo (Px rfl rfl) ?_ | refine oo (Pj rfl (by omega) (by omega)) ?_ | refine oo (Pk rfl (by omega) (by omega)) ?_ | refine oo (Pf rfl) ?_ | refine oo (Pv rfl (by omega) (by omega)) ?_ | refine oo (Pn rfl) ?_ | refine oo (Pm rfl) ?_ | refine os rfl rfl ?_ | refine ot rfl (by omega) ?_ | refine O_nil ?_) | refine wo rfl ?_ | refine wc rfl ?_ | refine wg rfl ?_ | refine go rfl ?_ | refine gc rfl ?_ | refine gg rfl ?_)
    · rw [wr_rep]
      repeat' (first | (refine isO ?_; first | refine oo (Pc rfl) ?_ | refine oo (Pa rfl (by omega) (by omega)) ?_ | (refine ob rfl ?_ ?_ <;> intro hq <;> try (exfalso; omega)) | refine oo (Pi rfl (by omega)) ?_ | refine oo (Pl rfl) ?_ | refine oo (Px rfl rfl) ?_ | refine oo (Pj rfl (by omega) (by omega)) ?_ | refine oo (Pk rfl (by omega) (by omega)) ?_ | refine oo (Pf rfl) ?_ | refine oo (Pv rfl (by omega) (by omega)) ?_ | refine oo (Pn rfl) ?_ | refine oo (Pm rfl) ?_ | refine os rfl rfl ?_ | refine ot rfl (by omega) ?_ | refine O_nil ?_) | refine wo rfl ?_ | refine wc rfl ?_ | refine wg rfl ?_ | refine go rfl ?_ | refine gc rfl ?_ | refine gg rfl ?_)
      exact G_stop ⟨i + 1, by omega, by omega, ⟨rfl, rfl, rfl, rfl, trivial⟩, by repeat (first | exact .rfl | exact .nil | (apply Rk.cons; (· exact TakeI.out)) | refine .drop ?_)⟩
    refine W_loop (α := Nat × List Int) (fun x => [(0, .pointer (some ⟨eb, 0, none⟩)), (122, .slice (some ⟨b, 0, none⟩) cs.length cap), (123, .int .i64 cs.length), (124, .int .i64 x.1)])
      (fun x => ⟨true, eb, 0, [.slice (some ⟨cb, 0, none⟩) (2 ^ j) cc, .int .u32 (2 ^ j - 1 : Nat), .int .u32 cs.length]⟩ :: ⟨true, cb, 0, ints .u32 x.2⟩ :: ⟨own, b, 0, codesV cs ++ sp⟩ :: M)
      (fun x => x.1 ≤ cs.length ∧ x.2.length = cc ∧ (∀ i, i < x.1 → x.2.getD i 0 = chunkOf (cs.getD i Cd.zero)) ∧ ∀ i, x.1 ≤ i → x.2.getD i 0 = 0) (fun x => cs.length - x.1)
      (0, List.replicate cc 0) ⟨by omega, hcl, fun i h => by omega, fun i _ => ?_⟩ ⟨rfl, rfl, rfl, rfl, trivial⟩ .rfl ?_
    · by_cases h : i < cc
      · simp [h]
      · simp [h]
    rintro ⟨x, ch⟩ ⟨hx, hch, hdone, hrest⟩
    dsimp only at hx hch hdone hrest ⊢
    repeat' (first | (refine isO ?_; first | refine oo (Pc rfl) ?_ | refine oo (Pa rfl (by omega) (by omega)) ?_ | (refine ob rfl ?_ ?_ <;> intro hq <;> try (exfalso; omega)) | refine oo (Pi rfl (by omega)) ?_ | refine oo (Pl rfl) ?_ | refine oo (Px rfl rfl) ?_ | refine oo (Pj rfl (by omega) (by omega)) ?_ | refine oo (Pk rfl (by omega) (by omega)) ?_ | refine oo (Pf rfl) ?_ | refine oo (Pv rfl (by omega) (by omega)) ?_ | refine oo (Pn rfl) ?_ | refine oo (Pm rfl) ?_ | refine os rfl rfl ?_ | refine ot rfl (by omega) ?_ | refine O_nil ?_) | refine wo rfl ?_ | refine wc rfl ?_ | refine wg rfl ?_ | refine go rfl ?_ | refine gc rfl ?_ | refine gg rfl ?_)
    · have hxl : x < cs.length := by omega
      have hsym := hN.sym x hxl
      have hlen := hN.len x hxl
      have hval := hN.val x hxl
      have hcell : (cs.getD x Cd.zero) = ⟨x, (cs.getD x Cd.zero).cnt, (cs.getD x Cd.zero).len, (cs.getD x Cd.zero).val⟩ := cd_eta hsym
      have hk : chunkOf (cs.getD x Cd.zero) = (cs.getD x Cd.zero).val * 32 ||| (cs.getD x Cd.zero).len := rfl
      have hblk := codesV_lit' cs sp x hxl hcell
      generalize (cs.getD x Cd.zero).val = v at *
      generalize (cs.getD x Cd.zero).len = n at *
      generalize (cs.getD x Cd.zero).cnt = cn at *
      have hand := and_mask (show x < 2 ^ j by omega)
      have hz : rd ch (x : Int) = 0 := by unfold rd; rw [Int.toNat_natCast]; exact hrest x (Nat.le_refl _)
      refine O_pure (P_loadAggAt (o := 0) (i := x * 4) (cs := [.int .u32 x, .int .u32 cn, .int .u32 n, .int .u32 v]) Tb.a146 Tb.c146 (by decide) rfl (by omega) (.tail _ (.tail _ (.head _))) (by rw [List.length_append, codesV_length]; omega) hblk) trivial rfl ?_
      refine O_alloc zero146 trivial rfl fun bx => ?_
      refine O_storeAgg0 Tb.c146 (by decide) rfl rfl rfl (lit_one _ _ _ _) trivial .head rfl ?_
      repeat' (first | (refine isO ?_; first | refine oo (Pc rfl) ?_ | refine oo (Pa rfl (by omega) (by omega)) ?_ | (refine ob rfl ?_ ?_ <;> intro hq <;> try (exfalso; omega)) | refine oo (Pi rfl (by omega)) ?_ | refine oo (Pl rfl) ?_ | refine oo (Px rfl rfl) ?_ | refine oo (Pj rfl (by omega) (by omega)) ?_ | refine oo (Pk rfl (by omega) (by omega)) ?_ | refine oo (Pf rfl) ?_ | refine oo (Pv rfl (by omega) (by omega)) ?_ | refine oo (Pn rfl) ?_ | refine oo (Pm rfl) ?_ | refine os rfl rfl ?_ | refine ot rfl (by omega) ?_ | refine O_nil ?_) | refine wo rfl ?_ | refine wc rfl ?_ | refine wg rfl ?_ | refine go rfl ?_ | refine gc rfl ?_ | refine gg rfl ?_)
      refine W_region_still Tb.mixed (by kernel_rfl) ?_
      repeat' (first | (refine isS ?_; first | refine ss (Pc rfl) ?_ | refine ss (Pa rfl (by omega) (by omega)) ?_ | (refine sb rfl ?_ ?_ <;> intro hq <;> try (exfalso; omega)) | refine ss (Pi rfl (by omega)) ?_ | refine ss (Pl rfl) ?_ | refine ss (Px rfl rfl) ?_ | refine ss (Pj rfl (by omega) (by omega)) ?_ | refine ss (Pk rfl (by omega) (by omega)) ?_ | refine ss (Pf rfl) ?_ | refine ss (Pv rfl (by omega) (by omega)) ?_ | refine ss (Pn rfl) ?_ | refine ss (Pm rfl) ?_ | refine OS_nil ?_))
      refine OS_pure (P_is (P_bitN (p := x) (q := 2 ^ j - 1) rfl rfl rfl rfl (by simp only [IntKind.bits]; omega) (by simp only [IntKind.bits]; omega)) (congrArg (fun y : Nat => Value.int .u32 (y : Int)) hand)) trivial rfl ?_
      repeat' (first | (refine isS ?_; first | refine ss (Pc rfl) ?_ | refine ss (Pa rfl (by omega) (by omega)) ?_ | (refine sb rfl ?_ ?_ <;> intro hq <;> try (exfalso; omega)) | refine ss (Pi rfl (by omega)) ?_ | refine ss (Pl rfl) ?_ | refine ss (Px rfl rfl) ?_ | refine ss (Pj rfl (by omega) (by omega)) ?_ | refine ss (Pk rfl (by omega) (by omega)) ?_ | refine ss (Pf rfl) ?_ | refine ss (Pv rfl (by omega) (by omega)) ?_ | refine ss (Pn rfl) ?_ | refine ss (Pm rfl) ?_ | refine OS_nil ?_))
      repeat' (first | (refine isO ?_; first | refine oo (Pc rfl) ?_ | refine oo (Pa rfl (by omega) (by omega)) ?_ | (refine ob rfl ?_ ?_ <;> intro hq <;> try (exfalso; omega)) | refine oo (Pi rfl (by omega)) ?_ | refine oo (Pl rfl) ?_ | refine oo (Px rfl rfl) ?_ | refine oo (Pj rfl (by omega) (by omega)) ?_ | refine oo (Pk rfl (by omega) (by omega)) ?_ | refine oo (Pf rfl) ?_ | refine oo (Pv rfl (by omega) (by omega)) ?_ | refine oo (Pn rfl) ?_ | refine oo (Pm rfl) ?_ | refine os rfl rfl ?_ | refine ot rfl (by omega) ?_ | refine O_nil ?_) | refine wo rfl ?_ | refine wc rfl ?_ | refine wg rfl ?_ | refine go rfl ?_ | refine gc rfl ?_ | refine gg rfl ?_)
      refine W_region_tail 18 Tb.mixed (by kernel_rfl) ?_
      simp only [List.take_succ_cons, List.take_zero, List.drop_succ_cons, List.drop_zero]
      repeat' (first | (refine isS ?_; first | refine ss (Pc rfl) ?_ | refine ss (Pa rfl (by omega) (by omega)) ?_ | (refine sb rfl ?_ ?_ <;> intro hq <;> try (exfalso; omega)) | refine ss (Pi rfl (by omega)) ?_ | refine ss (Pl rfl) ?_ | refine ss (Px rfl rfl) ?_ | refine ss (Pj rfl (by omega) (by omega)) ?_ | refine ss (Pk rfl (by omega) (by omega)) ?_ | refine ss (Pf rfl) ?_ | refine ss (Pv rfl (by omega) (by omega)) ?_ | refine ss (Pn rfl) ?_ | refine ss (Pm rfl) ?_ | refine OS_nil ?_))
      refine OS_pure (P_is (P_bitN (p := x) (q := 2 ^ j - 1) rfl rfl rfl rfl (by simp only [IntKind.bits]; omega) (by simp only [IntKind.bits]; omega)) (congrArg (fun y : Nat => Value.int .u32 (y : Int)) hand)) trivial rfl ?_
      repeat' (first | (refine isS ?_; first | refine ss (Pc rfl) ?_ | refine ss (Pa rfl (by omega) (by omega)) ?_ | (refine sb rfl ?_ ?_ <;> intro hq <;> try (exfalso; omega)) | refine ss (Pi rfl (by omega)) ?_ | refine ss (Pl rfl) ?_ | refine ss (Px rfl rfl) ?_ | refine ss (Pj rfl (by omega) (by omega)) ?_ | refine ss (Pk rfl (by omega) (by omega)) ?_ | refine ss (Pf rfl) ?_ | refine ss (Pv rfl (by omega) (by omega)) ?_ | refine ss (Pn rfl) ?_ | refine ss (Pm rfl) ?_ | refine OS_nil ?_))
      refine OS_pure (P_shlE (p := v) (q := 5) (r := v * 32) rfl rfl rfl (Nat.mod_eq_of_lt (by simp only [IntKind.bits]; omega))) trivial rfl ?_
      repeat' (first | (refine isS ?_; first | refine ss (Pc rfl) ?_ | refine ss (Pa rfl (by omega) (by omega)) ?_ | (refine sb rfl ?_ ?_ <;> intro hq <;> try (exfalso; omega)) | refine ss (Pi rfl (by omega)) ?_ | refine ss (Pl rfl) ?_ | refine ss (Px rfl rfl) ?_ | refine ss (Pj rfl (by omega) (by omega)) ?_ | refine ss (Pk rfl (by omega) (by omega)) ?_ | refine ss (Pf rfl) ?_ | refine ss (Pv rfl (by omega) (by omega)) ?_ | refine ss (Pn rfl) ?_ | refine ss (Pm rfl) ?_ | refine OS_nil ?_))
      refine OS_pure (P_bitN (p := v * 32) (q := n) rfl rfl rfl rfl (by simp only [IntKind.bits]; omega) (by simp only [IntKind.bits]; omega)) trivial rfl ?_
      repeat' (first | (refine isS ?_; first | refine ss (Pc rfl) ?_ | refine ss (Pa rfl (by omega) (by omega)) ?_ | (refine sb rfl ?_ ?_ <;> intro hq <;> try (exfalso; omega)) | refine ss (Pi rfl (by omega)) ?_ | refine ss (Pl rfl) ?_ | refine ss (Px rfl rfl) ?_ | refine ss (Pj rfl (by omega) (by omega)) ?_ | refine ss (Pk rfl (by omega) (by omega)) ?_ | refine ss (Pf rfl) ?_ | refine ss (Pv rfl (by omega) (by omega)) ?_ | refine ss (Pn rfl) ?_ | refine ss (Pm rfl) ?_ | refine OS_nil ?_))
      repeat' (first | (refine isO ?_; first | refine oo (Pc rfl) ?_ | refine oo (Pa rfl (by omega) (by omega)) ?_ | (refine ob rfl ?_ ?_ <;> intro hq <;> try (exfalso; omega)) | refine oo (Pi rfl (by omega)) ?_ | refine oo (Pl rfl) ?_ | refine oo (Px rfl rfl) ?_ | refine oo (Pj rfl (by omega) (by omega)) ?_ | refine oo (Pk rfl (by omega) (by omega)) ?_ | refine oo (Pf rfl) ?_ | refine oo (Pv rfl (by omega) (by omega)) ?_ | refine oo (Pn rfl) ?_ | refine oo (Pm rfl) ?_ | refine os rfl rfl ?_ | refine ot rfl (by omega) ?_ | refine O_nil ?_) | refine wo rfl ?_ | refine wc rfl ?_ | refine wg rfl ?_ | refine go rfl ?_ | refine gc rfl ?_ | refine gg rfl ?_)
      have hxc : (x : Int).toNat < ch.length := by omega
      refine G_stop ⟨(x + 1, wr ch x (v * 32 ||| n : Nat)), ⟨by dsimp only; omega, by rw [wr_length]; exact hch, fun i hi => ?_, fun i hi => ?_⟩, by dsimp only; omega, ⟨rfl, rfl, rfl, rfl, trivial⟩, by dsimp only; repeat (first | exact .rfl | exact .nil | (apply Rk.cons; (· exact TakeI.out)) | refine .drop ?_)⟩
      · rw [rd_wr hxc]
        split
        · rename_i h; rw [Int.toNat_natCast] at h; subst h; rw [hk]
        · rename_i h; exact hdone i (by dsimp only at hi; omega)
      · rw [rd_wr hxc]
        split
        · rename_i h; dsimp only at hi; omega
        · exact hrest i (by dsimp only at hi; omega)
    · obtain rfl : x = cs.length := by omega
      refine G_leave (fun _ h => by cases h) ?_
      exact G_fin ⟨_, rfl, j, cb, cc, ch, ⟨hj, hnj, hcc, hch, hdone⟩, .rfl⟩
end Go.Proofs.Ytjkpfliaflmppaa.Pc
