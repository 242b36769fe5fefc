/- laws.same, walked: the same codes are the same. For two rows of at most 60 codes that are equal. -/
import Derived.Test.YtjkpfliaflmppaaLi
import Derived.Test.YtjkpfliaflmppaaVm11
import Derived.Test.YtjkpfliaflmppaaEq
import Derived.Test.YtjkpfliaflmppaaTi
namespace Go.Proofs.Ytjkpfliaflmppaa.Pc
open Go Go.RowKit Go.Proofs.Ytjkpfliaflmppaa.Vm

theorem eq42 (a b c d : Int) (w : World) : (Op.equal 42 (.agg #[.int .u32 a, .int .u32 b, .int .u32 c, .int .u32 d]) (.agg #[.int .u32 a, .int .u32 b, .int .u32 c, .int .u32 d])).run Try.prog w = .ok true w := eqIn42 9998 a b c d w

theorem noGuard42 : Try.prog.eqGuardType Try.prog.depth 42 = false := by kernel_rfl
theorem P_neq42 {N : Fm} {E : Env} {M : Mem} {x y : Operand} {t2 : TypeId} {a b c d : Int} (hx : ev E x = some (.agg [.int .u32 a, .int .u32 b, .int .u32 c, .int .u32 d].toArray)) (hy : ev E y = some (.agg [.int .u32 a, .int .u32 b, .int .u32 c, .int .u32 d].toArray)) :
    Pure Try.prog N E M (.binOp .neq 42 x y t2) (.bool false) := by
  constructor
  intro pr base w0 ac w hA hS dd ty pos after g
  have h1 := eq42 a b c d w
  have hp : (program : Sem Program).run Try.prog w = .ok Try.prog w := rfl
  have hg : ∀ x y : Operand, (eqGuard .neq 42 x y (.agg #[.int .u32 a, .int .u32 b, .int .u32 c, .int .u32 d]) (.agg #[.int .u32 a, .int .u32 b, .int .u32 c, .int .u32 d])).run Try.prog w = .ok () w := by
    intro x y
    unfold eqGuard
    simp [hp, noGuard42]
  have hb : binOp .neq 42 (.agg #[.int .u32 a, .int .u32 b, .int .u32 c, .int .u32 d]) (.agg #[.int .u32 a, .int .u32 b, .int .u32 c, .int .u32 d]) = (do pure (.bool (!(← Op.equal 42 (.agg #[.int .u32 a, .int .u32 b, .int .u32 c, .int .u32 d]) (.agg #[.int .u32 a, .int .u32 b, .int .u32 c, .int .u32 d]))))) := rfl
  simp only [execOp, hA.eval hx, hA.eval hy, hb]
  simp [h1, hg]

/-- What holds on the way through 'x, y := a[i], b[i]'. -/
structure SmI (s1 s2 vi : Value) (val : Nat → Value) (cs : List Value) (M : Mem) (done : Nat → Bool) (E : Env) (M' : Mem) : Prop where
  base : Sub E [(0, s1), (1, s2), (2, .bool true), (7, vi)]
  sl : ∀ j, j < 8 → done j = true → E.get? (21 + j) = some (val j)
  ord : (done 10 = true → done 8 = true) ∧ (done 11 = true → done 9 = true)
  mem : ∃ m8 m9, Rk M' (m8 ++ (m9 ++ M)) ∧ (done 8 = true → ∃ x row, E.get? 8 = some (.pointer (some ⟨x, 0, none⟩)) ∧ m8 = [⟨true, x, 0, row⟩] ∧ row.length = 4 ∧ (done 10 = true → row = cs)) ∧
    (done 9 = true → ∃ x row, E.get? 9 = some (.pointer (some ⟨x, 0, none⟩)) ∧ m9 = [⟨true, x, 0, row⟩] ∧ row.length = 4 ∧ (done 11 = true → row = cs))

theorem SmI.pure {s1 s2 vi : Value} {val : Nat → Value} {cs : List Value} {M : Mem} {done : Nat → Bool} {E : Env} {M' : Mem} (h : SmI s1 s2 vi val cs M done E M') (i : Nat) (hi : i < 8) :
    SmI s1 s2 vi val cs M (fun j => if j = i then true else done j) ((21 + i, val i) :: E) M' := by
  have hget : ∀ n, n < 20 → Env.get? ((21 + i, val i) :: E) n = E.get? n := by
    intro n hn
    have : Nat.beq (21 + i) n = false := by
      cases hb : Nat.beq (21 + i) n with
      | false => rfl
      | true => have := Nat.eq_of_beq_eq_true hb; omega
    simp [Env.get?, this]
  refine ⟨?_, ?_, ?_, ?_⟩
  rotate_left
  rotate_left
  · refine ⟨fun hd => ?_, fun hd => ?_⟩
    · rw [if_neg (by omega)] at hd ⊢; exact h.ord.1 hd
    · rw [if_neg (by omega)] at hd ⊢; exact h.ord.2 hd
  rotate_left
  · obtain ⟨h0, h1, h2, h7, _⟩ := h.base
    exact ⟨by rw [hget _ (by omega)]; exact h0, by rw [hget _ (by omega)]; exact h1, by rw [hget _ (by omega)]; exact h2, by rw [hget _ (by omega)]; exact h7, trivial⟩
  · intro j hj hd
    by_cases hji : j = i
    · subst hji; simp [Env.get?]
    · rw [if_neg hji] at hd
      have : Nat.beq (21 + i) (21 + j) = false := by
        cases hb : Nat.beq (21 + i) (21 + j) with
        | false => rfl
        | true => have := Nat.eq_of_beq_eq_true hb; omega
      simp only [Env.get?, this, cond_false]
      exact h.sl j hj hd
  · obtain ⟨m8, m9, hr, h8, h9⟩ := h.mem
    refine ⟨m8, m9, hr, fun hd => ?_, fun hd => ?_⟩
    · rw [if_neg (by omega)] at hd
      obtain ⟨x, row, e1, e2, e3, e4⟩ := h8 hd
      exact ⟨x, row, by rw [hget _ (by omega)]; exact e1, e2, e3, fun hd2 => e4 (by rwa [if_neg (by omega)] at hd2)⟩
    · rw [if_neg (by omega)] at hd
      obtain ⟨x, row, e1, e2, e3, e4⟩ := h9 hd
      exact ⟨x, row, by rw [hget _ (by omega)]; exact e1, e2, e3, fun hd2 => e4 (by rwa [if_neg (by omega)] at hd2)⟩

theorem same_c (l : List Cd) (b1 c1 b2 c2 : Nat) (o1 o2 : Bool) (sp1 sp2 : List Value) (M : Mem) (h1 : (⟨o1, b1, 0, codesV l ++ sp1⟩ : Sg) ∈ M) (h2 : (⟨o2, b2, 0, codesV l ++ sp2⟩ : Sg) ∈ M) (h60 : l.length ≤ 60) :
    HC Try.prog 16 #[.slice (some ⟨b1, 0, none⟩) l.length c1, .slice (some ⟨b2, 0, none⟩) l.length c2, .bool true] M (fun v M' => v = .bool true ∧ Rk M' M) := by
  refine HC_of_W (fn := Try.f16) Try.func16 rfl rfl rfl rfl ?_
  repeat' (first | (refine isD ?_; first | refine O_pure (P_move rfl) trivial rfl ?_ | refine O_pure (P_assign rfl) trivial rfl ?_ | refine O_off ⟨_, _, rfl, rfl, by decide⟩ rfl ?_ | (refine isB ?_; first | refine O_pure (P_ar rfl rfl rfl (by first | exact inK_i64 (by omega) (by omega) | exact inK_u64 (by omega) (by omega) | exact inK_u32 (by omega) (by omega) | exact inK_u8 (by omega) (by omega) | exact inK_u16 (by omega) (by omega))) (by first | exact trivial | exact ⟨_, rfl, rfl⟩) rfl ?_ | (refine O_cmp rfl rfl rfl (by first | exact trivial | exact ⟨_, rfl, rfl⟩) rfl ?_ ?_ <;> (intro hq; simp only [yes, no] at hq) <;> (first | (exfalso; omega) | skip))) | (refine isL ?_; first | refine O_pure (I_loadi rfl (by omega)) (by first | exact trivial | exact ⟨_, rfl, rfl⟩) rfl ?_ | refine O_pure (I_load0 rfl) (by first | exact trivial | exact ⟨_, rfl, rfl⟩) rfl ?_ | refine O_pure (I_load rfl rfl) (by first | exact trivial | exact ⟨_, rfl, rfl⟩) rfl ?_) | (refine isI ?_; first | refine O_pure (I_index1 rfl rfl (by omega) (by omega)) (by first | exact trivial | exact ⟨_, rfl, rfl⟩) rfl ?_ | refine O_pure (I_index rfl rfl rfl (by omega) (by omega)) (by first | exact trivial | exact ⟨_, rfl, rfl⟩) rfl ?_ | refine O_pure (I_indexA1 rfl rfl (by omega) (by omega)) (by first | exact trivial | exact ⟨_, rfl, rfl⟩) rfl ?_ | refine O_pure (I_indexA rfl rfl rfl (by omega) (by omega)) (by first | exact trivial | exact ⟨_, rfl, rfl⟩) rfl ?_) | refine O_pure (I_field rfl) (by first | exact trivial | exact ⟨_, rfl, rfl⟩) rfl ?_ | refine O_pure (P_move rfl) (by first | exact trivial | exact ⟨_, rfl, rfl⟩) rfl ?_ | refine O_pure (I_convk rfl (by first | exact inK_i64 (by omega) (by omega) | exact inK_u64 (by omega) (by omega) | exact inK_u32 (by omega) (by omega) | exact inK_u8 (by omega) (by omega) | exact inK_u16 (by omega) (by omega))) (by first | exact trivial | exact ⟨_, rfl, rfl⟩) rfl ?_ | refine O_pure (I_len rfl) (by first | exact trivial | exact ⟨_, rfl, rfl⟩) rfl ?_ | refine O_pure (P_extract rfl rfl) (by first | exact trivial | exact ⟨_, rfl, rfl⟩) rfl ?_ | refine O_pure (P_pick_t rfl rfl) (by first | exact trivial | exact ⟨_, rfl, rfl⟩) rfl ?_ | refine O_pure (P_pick_f rfl rfl) (by first | exact trivial | exact ⟨_, rfl, rfl⟩) rfl ?_ | refine O_pure (P_mkfunc rfl) (by first | exact trivial | exact ⟨_, rfl, rfl⟩) rfl ?_ | refine O_pure (I_mkiface rfl) (by first | exact trivial | exact ⟨_, rfl, rfl⟩) rfl ?_ | refine O_pure (P_nil rfl) (by first | exact trivial | exact ⟨_, rfl, rfl⟩) rfl ?_ | refine O_pure (P_not rfl) (by first | exact trivial | exact ⟨_, rfl, rfl⟩) rfl ?_) | (refine isN ?_; first | refine I_store0 rfl rfl rfl (by first | exact trivial | exact ⟨_, rfl, rfl⟩) ?_ | refine I_storeC rfl rfl rfl (by first | exact trivial | exact ⟨_, rfl, rfl⟩) ?_ | refine I_storei rfl rfl (by first | exact trivial | exact ⟨_, rfl, rfl⟩) (by omega) ?_ | refine I_store rfl rfl rfl (by first | exact trivial | exact ⟨_, rfl, rfl⟩) (by first | exact Nat.le_of_ble_eq_true rfl | omega) ?_) | (refine isW ?_; first | refine W_seq ?_ | refine W_region ?_ | refine W_block ?_ | refine W_skip ?_ | refine W_exit ?_ | refine W_cond_t rfl ?_ | refine W_cond_f rfl ?_ | refine W_ret ?_) | (refine isG ?_; first | refine G_code ?_ | refine G_blk ?_ | refine G_exit_code ?_ | refine G_exit_stop ?_ | refine G_exit_blk ?_ | refine G_exit_other rfl ?_ | refine G_ret_blk ?_ | refine G_ret_code ?_ | refine G_ret_stop ?_) | refine O_nil ?_)
  refine W_loop (α := Nat) (fun i => [(0, .slice (some ⟨b1, 0, none⟩) l.length c1), (1, .slice (some ⟨b2, 0, none⟩) l.length c2), (2, .bool true), (7, .int .i64 i)]) (fun _ => M) (fun i => i ≤ l.length) (fun i => l.length - i) 0 (by omega) ⟨rfl, rfl, rfl, rfl, trivial⟩ .rfl ?_
  intro i hi
  try dsimp only
  repeat' (first | (refine isD ?_; first | refine O_pure (P_move rfl) trivial rfl ?_ | refine O_pure (P_assign rfl) trivial rfl ?_ | refine O_off ⟨_, _, rfl, rfl, by decide⟩ rfl ?_ | (refine isB ?_; first | refine O_pure (P_ar rfl rfl rfl (by first | exact inK_i64 (by omega) (by omega) | exact inK_u64 (by omega) (by omega) | exact inK_u32 (by omega) (by omega) | exact inK_u8 (by omega) (by omega) | exact inK_u16 (by omega) (by omega))) (by first | exact trivial | exact ⟨_, rfl, rfl⟩) rfl ?_ | (refine O_cmp rfl rfl rfl (by first | exact trivial | exact ⟨_, rfl, rfl⟩) rfl ?_ ?_ <;> (intro hq; simp only [yes, no] at hq) <;> (first | (exfalso; omega) | skip))) | (refine isL ?_; first | refine O_pure (I_loadi rfl (by omega)) (by first | exact trivial | exact ⟨_, rfl, rfl⟩) rfl ?_ | refine O_pure (I_load0 rfl) (by first | exact trivial | exact ⟨_, rfl, rfl⟩) rfl ?_ | refine O_pure (I_load rfl rfl) (by first | exact trivial | exact ⟨_, rfl, rfl⟩) rfl ?_) | (refine isI ?_; first | refine O_pure (I_index1 rfl rfl (by omega) (by omega)) (by first | exact trivial | exact ⟨_, rfl, rfl⟩) rfl ?_ | refine O_pure (I_index rfl rfl rfl (by omega) (by omega)) (by first | exact trivial | exact ⟨_, rfl, rfl⟩) rfl ?_ | refine O_pure (I_indexA1 rfl rfl (by omega) (by omega)) (by first | exact trivial | exact ⟨_, rfl, rfl⟩) rfl ?_ | refine O_pure (I_indexA rfl rfl rfl (by omega) (by omega)) (by first | exact trivial | exact ⟨_, rfl, rfl⟩) rfl ?_) | refine O_pure (I_field rfl) (by first | exact trivial | exact ⟨_, rfl, rfl⟩) rfl ?_ | refine O_pure (P_move rfl) (by first | exact trivial | exact ⟨_, rfl, rfl⟩) rfl ?_ | refine O_pure (I_convk rfl (by first | exact inK_i64 (by omega) (by omega) | exact inK_u64 (by omega) (by omega) | exact inK_u32 (by omega) (by omega) | exact inK_u8 (by omega) (by omega) | exact inK_u16 (by omega) (by omega))) (by first | exact trivial | exact ⟨_, rfl, rfl⟩) rfl ?_ | refine O_pure (I_len rfl) (by first | exact trivial | exact ⟨_, rfl, rfl⟩) rfl ?_ | refine O_pure (P_extract rfl rfl) (by first | exact trivial | exact ⟨_, rfl, rfl⟩) rfl ?_ | refine O_pure (P_pick_t rfl rfl) (by first | exact trivial | exact ⟨_, rfl, rfl⟩) rfl ?_ | refine O_pure (P_pick_f rfl rfl) (by first | exact trivial | exact ⟨_, rfl, rfl⟩) rfl ?_ | refine O_pure (P_mkfunc rfl) (by first | exact trivial | exact ⟨_, rfl, rfl⟩) rfl ?_ | refine O_pure (I_mkiface rfl) (by first | exact trivial | exact ⟨_, rfl, rfl⟩) rfl ?_ | refine O_pure (P_nil rfl) (by first | exact trivial | exact ⟨_, rfl, rfl⟩) rfl ?_ | refine O_pure (P_not rfl) (by first | exact trivial | exact ⟨_, rfl, rfl⟩) rfl ?_) | (refine isN ?_; first | refine I_store0 rfl rfl rfl (by first | exact trivial | exact ⟨_, rfl, rfl⟩) ?_ | refine I_storeC rfl rfl rfl (by first | exact trivial | exact ⟨_, rfl, rfl⟩) ?_ | refine I_storei rfl rfl (by first | exact trivial | exact ⟨_, rfl, rfl⟩) (by omega) ?_ | refine I_store rfl rfl rfl (by first | exact trivial | exact ⟨_, rfl, rfl⟩) (by first | exact Nat.le_of_ble_eq_true rfl | omega) ?_) | (refine isW ?_; first | refine W_seq ?_ | refine W_region ?_ | refine W_block ?_ | refine W_skip ?_ | refine W_exit ?_ | refine W_cond_t rfl ?_ | refine W_cond_f rfl ?_ | refine W_ret ?_) | (refine isG ?_; first | refine G_code ?_ | refine G_blk ?_ | refine G_exit_code ?_ | refine G_exit_stop ?_ | refine G_exit_blk ?_ | refine G_exit_other rfl ?_ | refine G_ret_blk ?_ | refine G_ret_code ?_ | refine G_ret_stop ?_) | refine O_nil ?_)
  · have hil : i < l.length := by omega
    have hb1 := codesV_block l sp1 i hil
    have hb2 := codesV_block l sp2 i hil
    refine W_region_inv Tb.mixed [[], [], [0, 1], [2], [], [], [4, 5], [6], [], [], [3, 8], [7, 8, 9, 10]] (by kernel_rfl) (by kernel_rfl)
      (SmI (.slice (some ⟨b1, 0, none⟩) l.length c1) (.slice (some ⟨b2, 0, none⟩) l.length c2) (.int .i64 i)
        (fun j => match j with
          | 0 => .slice (some ⟨b1, 0, none⟩) l.length c1
          | 1 => .int .i64 i
          | 2 => .pointer (some ⟨b1, 0 + (i : Int).toNat * 4, none⟩)
          | 3 => .agg (l.getD i Cd.zero).cells.toArray
          | 4 => .slice (some ⟨b2, 0, none⟩) l.length c2
          | 5 => .int .i64 i
          | 6 => .pointer (some ⟨b2, 0 + (i : Int).toNat * 4, none⟩)
          | _ => .agg (l.getD i Cd.zero).cells.toArray) (l.getD i Cd.zero).cells M) ?_ ?_ ?_
    · exact ⟨⟨rfl, rfl, rfl, rfl, trivial⟩, fun j _ h => (by cases h), ⟨fun h => (by cases h), fun h => (by cases h)⟩, [], [], .rfl, fun h => (by cases h), fun h => (by cases h)⟩
    · intro j hj done E M' hI hn hd
      have hM : Rk M' M := by
        obtain ⟨m8, m9, hr, _⟩ := hI.mem
        exact .trans hr (.trans (Rk.right _ _) (Rk.right _ _))
      match j, hj with
      | 0, _ =>
        simp only [List.drop_succ_cons, List.drop_zero, List.take_succ_cons, List.take_zero]
        refine O_pure (P_move (hI.base.get rfl)) trivial rfl (O_nil (G_fin ⟨rfl, hI.pure 0 (by omega)⟩))
      | 1, _ =>
        simp only [List.drop_succ_cons, List.drop_zero, List.take_succ_cons, List.take_zero]
        refine O_pure (P_move (hI.base.get rfl)) trivial rfl (O_nil (G_fin ⟨rfl, hI.pure 1 (by omega)⟩))
      | 2, _ =>
        simp only [List.drop_succ_cons, List.drop_zero, List.take_succ_cons, List.take_zero]
        refine O_pure (P_index Tb.u23 Tb.c42 (by decide) (hI.sl 0 (by omega) (hd 0 (by simp))) (hI.sl 1 (by omega) (hd 1 (by simp))) (by omega) (by omega)) trivial rfl (O_nil (G_fin ⟨rfl, hI.pure 2 (by omega)⟩))
      | 3, _ =>
        simp only [List.drop_succ_cons, List.drop_zero, List.take_succ_cons, List.take_zero]
        refine O_pure (P_loadAgg (o := 0) (i := i * 4) Tb.a42 Tb.c42 (by decide) (hI.sl 2 (by omega) (hd 2 (by simp))) (hM.all.1 _ h1) (by rw [List.length_append, codesV_length]; omega) hb1) trivial rfl (O_nil (G_fin ⟨rfl, hI.pure 3 (by omega)⟩))
      | 4, _ =>
        simp only [List.drop_succ_cons, List.drop_zero, List.take_succ_cons, List.take_zero]
        refine O_pure (P_move (hI.base.get rfl)) trivial rfl (O_nil (G_fin ⟨rfl, hI.pure 4 (by omega)⟩))
      | 5, _ =>
        simp only [List.drop_succ_cons, List.drop_zero, List.take_succ_cons, List.take_zero]
        refine O_pure (P_move (hI.base.get rfl)) trivial rfl (O_nil (G_fin ⟨rfl, hI.pure 5 (by omega)⟩))
      | 6, _ =>
        simp only [List.drop_succ_cons, List.drop_zero, List.take_succ_cons, List.take_zero]
        refine O_pure (P_index Tb.u23 Tb.c42 (by decide) (hI.sl 4 (by omega) (hd 4 (by simp))) (hI.sl 5 (by omega) (hd 5 (by simp))) (by omega) (by omega)) trivial rfl (O_nil (G_fin ⟨rfl, hI.pure 6 (by omega)⟩))
      | 7, _ =>
        simp only [List.drop_succ_cons, List.drop_zero, List.take_succ_cons, List.take_zero]
        refine O_pure (P_loadAgg (o := 0) (i := i * 4) Tb.a42 Tb.c42 (by decide) (hI.sl 6 (by omega) (hd 6 (by simp))) (hM.all.1 _ h2) (by rw [List.length_append, codesV_length]; omega) hb2) trivial rfl (O_nil (G_fin ⟨rfl, hI.pure 7 (by omega)⟩))
      | 8, _ =>
        simp only [List.drop_succ_cons, List.drop_zero, List.take_succ_cons, List.take_zero]
        refine O_alloc zero42 trivial rfl fun x => O_nil (G_fin ⟨rfl, ?_⟩)
        obtain ⟨m8, m9, hr, h8, h9⟩ := hI.mem
        refine ⟨hI.base, fun j hj hdj => ?_, ?_, ?_⟩
        · have : Nat.beq 8 (21 + j) = false := by
            cases hb : Nat.beq 8 (21 + j) with
            | false => rfl
            | true => have := Nat.eq_of_beq_eq_true hb; omega
          simp only [Env.get?, this, cond_false]
          rw [if_neg (by omega)] at hdj
          exact hI.sl j hj hdj
        · simp only [Nat.reduceEqDiff, if_false, if_true, imp_self, implies_true, true_and, and_true]
          first | exact hI.ord.1 | exact hI.ord.2
        · exact ⟨_, m9, .cons .head (.trans hr (Rk.right m8 _)), fun _ => ⟨x, _, rfl, rfl, rfl, fun hd2 => (by have := hI.ord.1 (by simpa using hd2); rw [this] at hn; cases hn)⟩, fun hd2 => (by obtain ⟨y, row, e1, e2, e3, e4⟩ := h9 (by simpa using hd2); exact ⟨y, row, e1, e2, e3, fun h => e4 (by simpa using h)⟩)⟩
      | 9, _ =>
        simp only [List.drop_succ_cons, List.drop_zero, List.take_succ_cons, List.take_zero]
        refine O_alloc zero42 trivial rfl fun x => O_nil (G_fin ⟨rfl, ?_⟩)
        obtain ⟨m8, m9, hr, h8, h9⟩ := hI.mem
        refine ⟨hI.base, fun j hj hdj => ?_, ?_, ?_⟩
        · have : Nat.beq 9 (21 + j) = false := by
            cases hb : Nat.beq 9 (21 + j) with
            | false => rfl
            | true => have := Nat.eq_of_beq_eq_true hb; omega
          simp only [Env.get?, this, cond_false]
          rw [if_neg (by omega)] at hdj
          exact hI.sl j hj hdj
        · simp only [Nat.reduceEqDiff, if_false, if_true, imp_self, implies_true, true_and, and_true]
          first | exact hI.ord.1 | exact hI.ord.2
        · exact ⟨m8, _, .trans (.cons (s := ⟨true, x, 0, _⟩) .head (.trans hr (Rk.app m8 (Rk.right m9 M)))) (.perm List.perm_middle.symm), fun hd2 => (by obtain ⟨y, row, e1, e2, e3, e4⟩ := h8 (by simpa using hd2); exact ⟨y, row, e1, e2, e3, fun h => e4 (by simpa using h)⟩), fun _ => ⟨x, _, rfl, rfl, rfl, fun hd2 => (by have := hI.ord.2 (by simpa using hd2); rw [this] at hn; cases hn)⟩⟩
      | 10, _ =>
        simp only [List.drop_succ_cons, List.drop_zero, List.take_succ_cons, List.take_zero]
        obtain ⟨m8, m9, hr, h8, h9⟩ := hI.mem
        obtain ⟨x, row, e1, rfl, e3, e4⟩ := h8 (hd 8 (by simp))
        refine O_weak hr ?_
        refine O_storeAgg0 Tb.c42 (by decide) e1 (hI.sl 3 (by omega) (hd 3 (by simp))) rfl (Cd.cells_one _) trivial .head e3 (O_nil (G_fin ⟨rfl, ?_⟩))
        refine ⟨hI.base, fun j hj hdj => hI.sl j hj (by rwa [if_neg (by omega)] at hdj), ⟨fun _ => by simpa using hd 8 (by simp), fun h => by simpa using hI.ord.2 (by simpa using h)⟩, [⟨true, x, 0, (l.getD i Cd.zero).cells⟩], m9, .rfl, fun _ => ⟨x, _, e1, rfl, rfl, fun _ => rfl⟩, fun hd2 => ?_⟩
        obtain ⟨y, row2, f1, f2, f3, f4⟩ := h9 (by simpa using hd2)
        exact ⟨y, row2, f1, f2, f3, fun h => f4 (by simpa using h)⟩
      | 11, _ =>
        simp only [List.drop_succ_cons, List.drop_zero, List.take_succ_cons, List.take_zero]
        obtain ⟨m8, m9, hr, h8, h9⟩ := hI.mem
        obtain ⟨x, row, e1, rfl, e3, e4⟩ := h8 (hd 8 (by simp))
        obtain ⟨y, row2, f1, rfl, f3, f4⟩ := h9 (hd 9 (by simp))
        refine O_weak hr ?_
        refine O_storeAgg0 Tb.c42 (by decide) f1 (hI.sl 7 (by omega) (hd 7 (by simp))) rfl (Cd.cells_one _) trivial (.tail .head) f3 (O_nil (G_fin ⟨rfl, ?_⟩))
        refine ⟨hI.base, fun j hj hdj => hI.sl j hj (by rwa [if_neg (by omega)] at hdj), ⟨fun h => by simpa using hI.ord.1 (by simpa using h), fun _ => by simpa using hd 9 (by simp)⟩, [⟨true, x, 0, row⟩], [⟨true, y, 0, (l.getD i Cd.zero).cells⟩], .perm (.swap _ _ _), fun _ => ⟨x, _, e1, rfl, e3, fun h => e4 (by simpa using h)⟩, fun _ => ⟨y, _, f1, rfl, rfl, fun _ => rfl⟩⟩
      | n + 12, h => exact absurd h (by simp)
    · intro done E M' hI hall
      have h42 : ∀ j, j < 12 → done j = true := fun j hj => hall j (by simpa using hj)
      obtain ⟨m8, m9, hr, h8, h9⟩ := hI.mem
      obtain ⟨x, row, e1, rfl, e3, e4⟩ := h8 (h42 8 (by omega))
      obtain ⟨y, row2, f1, rfl, f3, f4⟩ := h9 (h42 9 (by omega))
      obtain rfl := e4 (h42 10 (by omega))
      obtain rfl := f4 (h42 11 (by omega))
      obtain ⟨g0, g1, g2, g7, _⟩ := hI.base
      refine G_code ?_
      refine W_weak (L := [(0, .slice (some ⟨b1, 0, none⟩) l.length c1), (1, .slice (some ⟨b2, 0, none⟩) l.length c2), (2, .bool true), (7, .int .i64 i), (8, .pointer (some ⟨x, 0, none⟩)), (9, .pointer (some ⟨y, 0, none⟩))]) ⟨g0, g1, g2, g7, e1, f1, trivial⟩ hr ?_
      repeat' (first | (refine isD ?_; first | refine O_pure (P_move rfl) trivial rfl ?_ | refine O_pure (P_assign rfl) trivial rfl ?_ | refine O_off ⟨_, _, rfl, rfl, by decide⟩ rfl ?_ | (refine isB ?_; first | refine O_pure (P_ar rfl rfl rfl (by first | exact inK_i64 (by omega) (by omega) | exact inK_u64 (by omega) (by omega) | exact inK_u32 (by omega) (by omega) | exact inK_u8 (by omega) (by omega) | exact inK_u16 (by omega) (by omega))) (by first | exact trivial | exact ⟨_, rfl, rfl⟩) rfl ?_ | (refine O_cmp rfl rfl rfl (by first | exact trivial | exact ⟨_, rfl, rfl⟩) rfl ?_ ?_ <;> (intro hq; simp only [yes, no] at hq) <;> (first | (exfalso; omega) | skip))) | (refine isL ?_; first | refine O_pure (I_loadi rfl (by omega)) (by first | exact trivial | exact ⟨_, rfl, rfl⟩) rfl ?_ | refine O_pure (I_load0 rfl) (by first | exact trivial | exact ⟨_, rfl, rfl⟩) rfl ?_ | refine O_pure (I_load rfl rfl) (by first | exact trivial | exact ⟨_, rfl, rfl⟩) rfl ?_) | (refine isI ?_; first | refine O_pure (I_index1 rfl rfl (by omega) (by omega)) (by first | exact trivial | exact ⟨_, rfl, rfl⟩) rfl ?_ | refine O_pure (I_index rfl rfl rfl (by omega) (by omega)) (by first | exact trivial | exact ⟨_, rfl, rfl⟩) rfl ?_ | refine O_pure (I_indexA1 rfl rfl (by omega) (by omega)) (by first | exact trivial | exact ⟨_, rfl, rfl⟩) rfl ?_ | refine O_pure (I_indexA rfl rfl rfl (by omega) (by omega)) (by first | exact trivial | exact ⟨_, rfl, rfl⟩) rfl ?_) | refine O_pure (I_field rfl) (by first | exact trivial | exact ⟨_, rfl, rfl⟩) rfl ?_ | refine O_pure (P_move rfl) (by first | exact trivial | exact ⟨_, rfl, rfl⟩) rfl ?_ | refine O_pure (I_convk rfl (by first | exact inK_i64 (by omega) (by omega) | exact inK_u64 (by omega) (by omega) | exact inK_u32 (by omega) (by omega) | exact inK_u8 (by omega) (by omega) | exact inK_u16 (by omega) (by omega))) (by first | exact trivial | exact ⟨_, rfl, rfl⟩) rfl ?_ | refine O_pure (I_len rfl) (by first | exact trivial | exact ⟨_, rfl, rfl⟩) rfl ?_ | refine O_pure (P_extract rfl rfl) (by first | exact trivial | exact ⟨_, rfl, rfl⟩) rfl ?_ | refine O_pure (P_pick_t rfl rfl) (by first | exact trivial | exact ⟨_, rfl, rfl⟩) rfl ?_ | refine O_pure (P_pick_f rfl rfl) (by first | exact trivial | exact ⟨_, rfl, rfl⟩) rfl ?_ | refine O_pure (P_mkfunc rfl) (by first | exact trivial | exact ⟨_, rfl, rfl⟩) rfl ?_ | refine O_pure (I_mkiface rfl) (by first | exact trivial | exact ⟨_, rfl, rfl⟩) rfl ?_ | refine O_pure (P_nil rfl) (by first | exact trivial | exact ⟨_, rfl, rfl⟩) rfl ?_ | refine O_pure (P_not rfl) (by first | exact trivial | exact ⟨_, rfl, rfl⟩) rfl ?_) | (refine isN ?_; first | refine I_store0 rfl rfl rfl (by first | exact trivial | exact ⟨_, rfl, rfl⟩) ?_ | refine I_storeC rfl rfl rfl (by first | exact trivial | exact ⟨_, rfl, rfl⟩) ?_ | refine I_storei rfl rfl (by first | exact trivial | exact ⟨_, rfl, rfl⟩) (by omega) ?_ | refine I_store rfl rfl rfl (by first | exact trivial | exact ⟨_, rfl, rfl⟩) (by first | exact Nat.le_of_ble_eq_true rfl | omega) ?_) | (refine isW ?_; first | refine W_seq ?_ | refine W_region ?_ | refine W_block ?_ | refine W_skip ?_ | refine W_exit ?_ | refine W_cond_t rfl ?_ | refine W_cond_f rfl ?_ | refine W_ret ?_) | (refine isG ?_; first | refine G_code ?_ | refine G_blk ?_ | refine G_exit_code ?_ | refine G_exit_stop ?_ | refine G_exit_blk ?_ | refine G_exit_other rfl ?_ | refine G_ret_blk ?_ | refine G_ret_code ?_ | refine G_ret_stop ?_) | refine O_nil ?_)
      refine O_pure (P_loadAgg (o := 0) (i := 0) Tb.a42 Tb.c42 (by decide) rfl (.head _) (Nat.le_refl _) rfl) trivial rfl ?_
      refine O_pure (P_loadAgg (o := 0) (i := 0) Tb.a42 Tb.c42 (by decide) rfl (.tail _ (.head _)) (Nat.le_refl _) rfl) trivial rfl ?_
      refine O_pure (P_neq42 rfl rfl) trivial rfl ?_
      repeat' (first | (refine isD ?_; first | refine O_pure (P_move rfl) trivial rfl ?_ | refine O_pure (P_assign rfl) trivial rfl ?_ | refine O_off ⟨_, _, rfl, rfl, by decide⟩ rfl ?_ | (refine isB ?_; first | refine O_pure (P_ar rfl rfl rfl (by first | exact inK_i64 (by omega) (by omega) | exact inK_u64 (by omega) (by omega) | exact inK_u32 (by omega) (by omega) | exact inK_u8 (by omega) (by omega) | exact inK_u16 (by omega) (by omega))) (by first | exact trivial | exact ⟨_, rfl, rfl⟩) rfl ?_ | (refine O_cmp rfl rfl rfl (by first | exact trivial | exact ⟨_, rfl, rfl⟩) rfl ?_ ?_ <;> (intro hq; simp only [yes, no] at hq) <;> (first | (exfalso; omega) | skip))) | (refine isL ?_; first | refine O_pure (I_loadi rfl (by omega)) (by first | exact trivial | exact ⟨_, rfl, rfl⟩) rfl ?_ | refine O_pure (I_load0 rfl) (by first | exact trivial | exact ⟨_, rfl, rfl⟩) rfl ?_ | refine O_pure (I_load rfl rfl) (by first | exact trivial | exact ⟨_, rfl, rfl⟩) rfl ?_) | (refine isI ?_; first | refine O_pure (I_index1 rfl rfl (by omega) (by omega)) (by first | exact trivial | exact ⟨_, rfl, rfl⟩) rfl ?_ | refine O_pure (I_index rfl rfl rfl (by omega) (by omega)) (by first | exact trivial | exact ⟨_, rfl, rfl⟩) rfl ?_ | refine O_pure (I_indexA1 rfl rfl (by omega) (by omega)) (by first | exact trivial | exact ⟨_, rfl, rfl⟩) rfl ?_ | refine O_pure (I_indexA rfl rfl rfl (by omega) (by omega)) (by first | exact trivial | exact ⟨_, rfl, rfl⟩) rfl ?_) | refine O_pure (I_field rfl) (by first | exact trivial | exact ⟨_, rfl, rfl⟩) rfl ?_ | refine O_pure (P_move rfl) (by first | exact trivial | exact ⟨_, rfl, rfl⟩) rfl ?_ | refine O_pure (I_convk rfl (by first | exact inK_i64 (by omega) (by omega) | exact inK_u64 (by omega) (by omega) | exact inK_u32 (by omega) (by omega) | exact inK_u8 (by omega) (by omega) | exact inK_u16 (by omega) (by omega))) (by first | exact trivial | exact ⟨_, rfl, rfl⟩) rfl ?_ | refine O_pure (I_len rfl) (by first | exact trivial | exact ⟨_, rfl, rfl⟩) rfl ?_ | refine O_pure (P_extract rfl rfl) (by first | exact trivial | exact ⟨_, rfl, rfl⟩) rfl ?_ | refine O_pure (P_pick_t rfl rfl) (by first | exact trivial | exact ⟨_, rfl, rfl⟩) rfl ?_ | refine O_pure (P_pick_f rfl rfl) (by first | exact trivial | exact ⟨_, rfl, rfl⟩) rfl ?_ | refine O_pure (P_mkfunc rfl) (by first | exact trivial | exact ⟨_, rfl, rfl⟩) rfl ?_ | refine O_pure (I_mkiface rfl) (by first | exact trivial | exact ⟨_, rfl, rfl⟩) rfl ?_ | refine O_pure (P_nil rfl) (by first | exact trivial | exact ⟨_, rfl, rfl⟩) rfl ?_ | refine O_pure (P_not rfl) (by first | exact trivial | exact ⟨_, rfl, rfl⟩) rfl ?_) | (refine isN ?_; first | refine I_store0 rfl rfl rfl (by first | exact trivial | exact ⟨_, rfl, rfl⟩) ?_ | refine I_storeC rfl rfl rfl (by first | exact trivial | exact ⟨_, rfl, rfl⟩) ?_ | refine I_storei rfl rfl (by first | exact trivial | exact ⟨_, rfl, rfl⟩) (by omega) ?_ | refine I_store rfl rfl rfl (by first | exact trivial | exact ⟨_, rfl, rfl⟩) (by first | exact Nat.le_of_ble_eq_true rfl | omega) ?_) | (refine isW ?_; first | refine W_seq ?_ | refine W_region ?_ | refine W_block ?_ | refine W_skip ?_ | refine W_exit ?_ | refine W_cond_t rfl ?_ | refine W_cond_f rfl ?_ | refine W_ret ?_) | (refine isG ?_; first | refine G_code ?_ | refine G_blk ?_ | refine G_exit_code ?_ | refine G_exit_stop ?_ | refine G_exit_blk ?_ | refine G_exit_other rfl ?_ | refine G_ret_blk ?_ | refine G_ret_code ?_ | refine G_ret_stop ?_) | refine O_nil ?_)
      exact G_stop ⟨i + 1, by omega, by omega, ⟨rfl, rfl, rfl, rfl, trivial⟩, .drop (.drop .rfl)⟩
  · exact G_fin ⟨_, rfl, rfl, .rfl⟩
end Go.Proofs.Ytjkpfliaflmppaa.Pc
