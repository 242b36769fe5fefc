/- laws.FnRanges, walked: it is true, for any bytes. -/
import Derived.Test.YtjkpfliaflmppaaRl
import Derived.Test.YtjkpfliaflmppaaLi
import Derived.Test.YtjkpfliaflmppaaEq
import Derived.Test.YtjkpfliaflmppaaVm13
import Derived.Test.YtjkpfliaflmppaaTi
namespace Go.Proofs.Ytjkpfliaflmppaa.Pc
open Go Go.RowKit Go.Proofs.Ytjkpfliaflmppaa.Vm

theorem P_remN {P : Program} {N : Fm} {E : Env} {M : Mem} {t t2 : TypeId} {x y : Operand} {k : IntKind} {p q : Nat} (hx : ev E x = some (.int k (p : Int))) (hy : ev E y = some (.int k (q : Int))) (hq : 0 < q) (h : inK k ((p % q : Nat) : Int)) :
    Pure P N E M (.binOp .rem t x y t2) (.int k ((p % q : Nat) : Int)) := by
  constructor
  intro pr base w0 a w hA hS d ty pos after g
  have hw := wrap_id h.lo h.hi
  have h0 : ((q : Int) == 0) = false := by
    simp; omega
  have e : Int.tmod (p : Int) (q : Int) = ((p % q : Nat) : Int) := rfl
  simp [execOp, hA.eval hx, hA.eval hy, Sem.run, pure, bind, Sem.bind, eqGuard, binOp, Op.intArith, Op.intDiv, e, hw, show q ≠ 0 by omega]

theorem P_remE {P : Program} {N : Fm} {E : Env} {M : Mem} {t t2 : TypeId} {x y : Operand} {k : IntKind} {X Y : Int} {p q : Nat} (hx : ev E x = some (.int k X)) (hy : ev E y = some (.int k Y)) (hX : X = (p : Int)) (hY : Y = (q : Int)) (hq : 0 < q) (h : inK k ((p % q : Nat) : Int)) :
    Pure P N E M (.binOp .rem t x y t2) (.int k ((p % q : Nat) : Int)) := by
  subst hX; subst hY; exact P_remN hx hy hq h

theorem eqIn69 (dp : Nat) (a b : Int) (w : World) : (Op.equalIn (dp + 2) 69 (.agg #[.int .u32 a, .int .u32 b]) (.agg #[.int .u32 a, .int .u32 b])).run Try.prog w = .ok true w := by
  have hs : Program.stoodInHeld Try.prog 69 = false := by kernel_rfl
  unfold Op.equalIn
  rw [Sem.run_bind, run_under Try.underlying69, Result.andThen_ok]
  dsimp only
  have hp : (program : Sem Program).run Try.prog w = .ok Try.prog w := rfl
  rw [Sem.run_bind, hp, Result.andThen_ok]
  simp only [hs, Bool.false_eq_true, if_false]
  have e1 := eqIn40 dp a w
  have e2 := eqIn40 dp b w
  have p1 := part40 #[.int .u32 a, .int .u32 b] 0 _ rfl w
  have p2 := part40 #[.int .u32 a, .int .u32 b] 1 _ rfl w
  simp [e1, e2, p1, p2]
theorem noGuard69 : Try.prog.eqGuardType Try.prog.depth 69 = false := by kernel_rfl
theorem P_neq69 {N : Fm} {E : Env} {M : Mem} {x y : Operand} {t2 : TypeId} {a b : Int} (hx : ev E x = some (.agg [.int .u32 a, .int .u32 b].toArray)) (hy : ev E y = some (.agg [.int .u32 a, .int .u32 b].toArray)) :
    Pure Try.prog N E M (.binOp .neq 69 x y t2) (.bool false) := by
  constructor
  intro pr base w0 ac w hA hS dd ty pos after g
  have h1 : (Op.equal 69 (.agg #[.int .u32 a, .int .u32 b]) (.agg #[.int .u32 a, .int .u32 b])).run Try.prog w = .ok true w := eqIn69 9998 a b w
  have hp : (program : Sem Program).run Try.prog w = .ok Try.prog w := rfl
  have hg : ∀ x y : Operand, (eqGuard .neq 69 x y (.agg #[.int .u32 a, .int .u32 b]) (.agg #[.int .u32 a, .int .u32 b])).run Try.prog w = .ok () w := by
    intro x y
    unfold eqGuard
    simp [hp, noGuard69]
  have hb : binOp .neq 69 (.agg #[.int .u32 a, .int .u32 b]) (.agg #[.int .u32 a, .int .u32 b]) = (do pure (.bool (!(← Op.equal 69 (.agg #[.int .u32 a, .int .u32 b]) (.agg #[.int .u32 a, .int .u32 b]))))) := rfl
  simp only [execOp, hA.eval hx, hA.eval hy, hb]
  simp [h1, hg]

theorem ints_take {k : IntKind} (ls : List Nat) (i : Nat) (h : i < ls.length) {z : Nat} (he : ls.getD i 0 = z) : ints k ((ls.take i).map Nat.cast) ++ [Value.int k (z : Int)].take (1 * 1) = ints k ((ls.take (i + 1)).map Nat.cast) := by
  have h1 : ls.getD i 0 = ls[i] := by simp [h]
  rw [List.take_succ_eq_append_getElem h, ← h1, he]
  simp [ints]

theorem law10_c (a v : Nat) (s : Value) (ls : List Nat) (M : Mem) (ha : a < 4294967296) (hv : v < 4294967296) (hb : Bs s ls M) :
    HC Try.prog 10 #[.int .u32 a, s, .int .u32 v] M (fun r M' => r = .bool true ∧ Rk M' M) := by
  obtain ⟨I, hI, hI1, hI2, hI3⟩ := of_info info49
  obtain ⟨ad, cp, e⟩ : ∃ a c, s = .slice a ls.length c := ⟨_, _, hb.2.choose_spec.choose_spec.1⟩
  subst e
  refine HC_of_W (fn := Try.f10) Try.func10 rfl rfl rfl rfl ?_
  repeat' (first | (refine isO ?_; first | refine oo (Pc rfl) ?_ | refine oo (Pa rfl (by omega) (by omega)) ?_ | (refine ob rfl ?_ ?_ <;> intro hq <;> try (exfalso; omega)) | refine oo (Pi rfl (by omega)) ?_ | refine oo (Pl rfl) ?_ | refine oo (Px rfl rfl) ?_ | refine oo (Pj rfl (by omega) (by omega)) ?_ | refine oo (Pk rfl (by omega) (by omega)) ?_ | refine oo (Pf rfl) ?_ | refine oo (Pv rfl (by omega) (by omega)) ?_ | refine oo (Pn rfl) ?_ | refine oo (Pm rfl) ?_ | refine os rfl rfl ?_ | refine ot rfl (by omega) ?_ | refine O_nil ?_) | refine wo rfl ?_ | refine wc rfl ?_ | refine wg rfl ?_ | refine go rfl ?_ | refine gc rfl ?_ | refine gg rfl ?_)
  · exact G_fin ⟨_, rfl, rfl, .rfl⟩
  · (refine O_call rfl rfl Tb.k13 trivial rfl (awake_c _) ?_; rintro v M' ⟨rfl, hrk⟩; refine O_weak hrk ?_; clear hrk; (repeat' (first | (refine isO ?_; first | refine oo (Pc rfl) ?_ | refine oo (Pa rfl (by omega) (by omega)) ?_ | (refine ob rfl ?_ ?_ <;> intro hq <;> try (exfalso; omega)) | refine oo (Pi rfl (by omega)) ?_ | refine oo (Pl rfl) ?_ | refine oo (Px rfl rfl) ?_ | refine oo (Pj rfl (by omega) (by omega)) ?_ | refine oo (Pk rfl (by omega) (by omega)) ?_ | refine oo (Pf rfl) ?_ | refine oo (Pv rfl (by omega) (by omega)) ?_ | refine oo (Pn rfl) ?_ | refine oo (Pm rfl) ?_ | refine os rfl rfl ?_ | refine ot rfl (by omega) ?_ | refine O_nil ?_) | refine wo rfl ?_ | refine wc rfl ?_ | refine wg rfl ?_ | refine go rfl ?_ | refine gc rfl ?_ | refine gg rfl ?_)); refine G_fin ⟨_, rfl, rfl, ?_⟩; first | exact .rfl | exact Rk.right _ _)
  · (refine O_call rfl rfl Tb.k13 trivial rfl (awake_c _) ?_; rintro v M' ⟨rfl, hrk⟩; refine O_weak hrk ?_; clear hrk; (repeat' (first | (refine isO ?_; first | refine oo (Pc rfl) ?_ | refine oo (Pa rfl (by omega) (by omega)) ?_ | (refine ob rfl ?_ ?_ <;> intro hq <;> try (exfalso; omega)) | refine oo (Pi rfl (by omega)) ?_ | refine oo (Pl rfl) ?_ | refine oo (Px rfl rfl) ?_ | refine oo (Pj rfl (by omega) (by omega)) ?_ | refine oo (Pk rfl (by omega) (by omega)) ?_ | refine oo (Pf rfl) ?_ | refine oo (Pv rfl (by omega) (by omega)) ?_ | refine oo (Pn rfl) ?_ | refine oo (Pm rfl) ?_ | refine os rfl rfl ?_ | refine ot rfl (by omega) ?_ | refine O_nil ?_) | refine wo rfl ?_ | refine wc rfl ?_ | refine wg rfl ?_ | refine go rfl ?_ | refine gc rfl ?_ | refine gg rfl ?_)); refine G_fin ⟨_, rfl, rfl, ?_⟩; first | exact .rfl | exact Rk.right _ _)
  · (refine O_call rfl rfl Tb.k13 trivial rfl (awake_c _) ?_; rintro v M' ⟨rfl, hrk⟩; refine O_weak hrk ?_; clear hrk; (repeat' (first | (refine isO ?_; first | refine oo (Pc rfl) ?_ | refine oo (Pa rfl (by omega) (by omega)) ?_ | (refine ob rfl ?_ ?_ <;> intro hq <;> try (exfalso; omega)) | refine oo (Pi rfl (by omega)) ?_ | refine oo (Pl rfl) ?_ | refine oo (Px rfl rfl) ?_ | refine oo (Pj rfl (by omega) (by omega)) ?_ | refine oo (Pk rfl (by omega) (by omega)) ?_ | refine oo (Pf rfl) ?_ | refine oo (Pv rfl (by omega) (by omega)) ?_ | refine oo (Pn rfl) ?_ | refine oo (Pm rfl) ?_ | refine os rfl rfl ?_ | refine ot rfl (by omega) ?_ | refine O_nil ?_) | refine wo rfl ?_ | refine wc rfl ?_ | refine wg rfl ?_ | refine go rfl ?_ | refine gc rfl ?_ | refine gg rfl ?_)); refine G_fin ⟨_, rfl, rfl, ?_⟩; first | exact .rfl | exact Rk.right _ _)
  refine W_loop (α := Nat × Value × Mem) (fun x => [(0, .int .u32 a), (1, .slice ad ls.length cp), (2, .int .u32 v), (7, x.2.1), (8, .int .i64 x.1)])
    (fun x => x.2.2 ++ M) (fun x => x.1 ≤ ls.length ∧ Own x.2.1 1 (ints .u64 ((ls.take x.1).map Nat.cast)) x.2.2 ∧ ∀ j, j < x.1 → ls.getD j 0 ≤ 20) (fun x => ls.length - x.1)
    (0, .slice none 0 0, []) ⟨by omega, .inl ⟨rfl, by simp [ints], rfl⟩, by intro j hj; omega⟩ ⟨rfl, rfl, rfl, rfl, rfl, trivial⟩ .rfl ?_
  rintro ⟨i, sv, m⟩ ⟨hi, hown, hall⟩
  dsimp only at hi hown hall ⊢
  repeat' (first | (refine isO ?_; first | refine oo (Pc rfl) ?_ | refine oo (Pa rfl (by omega) (by omega)) ?_ | (refine ob rfl ?_ ?_ <;> intro hq <;> try (exfalso; omega)) | refine oo (Pi rfl (by omega)) ?_ | refine oo (Pl rfl) ?_ | refine oo (Px rfl rfl) ?_ | refine oo (Pj rfl (by omega) (by omega)) ?_ | refine oo (Pk rfl (by omega) (by omega)) ?_ | refine oo (Pf rfl) ?_ | refine oo (Pv rfl (by omega) (by omega)) ?_ | refine oo (Pn rfl) ?_ | refine oo (Pm rfl) ?_ | refine os rfl rfl ?_ | refine ot rfl (by omega) ?_ | refine O_nil ?_) | refine wo rfl ?_ | refine wc rfl ?_ | refine wg rfl ?_ | refine go rfl ?_ | refine gc rfl ?_ | refine gg rfl ?_)
  · have hil : i < ls.length := by omega
    obtain ⟨b, o, cap, e, hm, hg, hlt⟩ := hb.at hil
    cases e
    have hm' : (⟨false, b, o, ints .u8 (ls.map Nat.cast)⟩ : Sg) ∈ m ++ M := List.mem_append_right _ hm
    obtain ⟨z, hzz⟩ : ∃ z, ls.getD i 0 = z := ⟨_, rfl⟩
    rw [hzz] at hg hlt
    repeat' (first | (refine isO ?_; first | refine oo (Pc rfl) ?_ | refine oo (Pa rfl (by omega) (by omega)) ?_ | (refine ob rfl ?_ ?_ <;> intro hq <;> try (exfalso; omega)) | refine oo (Pi rfl (by omega)) ?_ | refine oo (Pl rfl) ?_ | refine oo (Px rfl rfl) ?_ | refine oo (Pj rfl (by omega) (by omega)) ?_ | refine oo (Pk rfl (by omega) (by omega)) ?_ | refine oo (Pf rfl) ?_ | refine oo (Pv rfl (by omega) (by omega)) ?_ | refine oo (Pn rfl) ?_ | refine oo (Pm rfl) ?_ | refine os rfl rfl ?_ | refine ot rfl (by omega) ?_ | refine O_nil ?_) | refine wo rfl ?_ | refine wc rfl ?_ | refine wg rfl ?_ | refine go rfl ?_ | refine gc rfl ?_ | refine gg rfl ?_)
    refine O_pure (P_loadAt (o := o) (n := i) Tb.p5 rfl (by omega) hm' hg) trivial rfl ?_
    repeat' (first | (refine isO ?_; first | refine oo (Pc rfl) ?_ | refine oo (Pa rfl (by omega) (by omega)) ?_ | (refine ob rfl ?_ ?_ <;> intro hq <;> try (exfalso; omega)) | refine oo (Pi rfl (by omega)) ?_ | refine oo (Pl rfl) ?_ | refine oo (Px rfl rfl) ?_ | refine oo (Pj rfl (by omega) (by omega)) ?_ | refine oo (Pk rfl (by omega) (by omega)) ?_ | refine oo (Pf rfl) ?_ | refine oo (Pv rfl (by omega) (by omega)) ?_ | refine oo (Pn rfl) ?_ | refine oo (Pm rfl) ?_ | refine os rfl rfl ?_ | refine ot rfl (by omega) ?_ | refine O_nil ?_) | refine wo rfl ?_ | refine wc rfl ?_ | refine wg rfl ?_ | refine go rfl ?_ | refine gc rfl ?_ | refine gg rfl ?_)
    · (refine O_call rfl rfl Tb.k13 trivial rfl (awake_c _) ?_; rintro v M' ⟨rfl, hrk⟩; refine O_weak hrk ?_; clear hrk; (repeat' (first | (refine isO ?_; first | refine oo (Pc rfl) ?_ | refine oo (Pa rfl (by omega) (by omega)) ?_ | (refine ob rfl ?_ ?_ <;> intro hq <;> try (exfalso; omega)) | refine oo (Pi rfl (by omega)) ?_ | refine oo (Pl rfl) ?_ | refine oo (Px rfl rfl) ?_ | refine oo (Pj rfl (by omega) (by omega)) ?_ | refine oo (Pk rfl (by omega) (by omega)) ?_ | refine oo (Pf rfl) ?_ | refine oo (Pv rfl (by omega) (by omega)) ?_ | refine oo (Pn rfl) ?_ | refine oo (Pm rfl) ?_ | refine os rfl rfl ?_ | refine ot rfl (by omega) ?_ | refine O_nil ?_) | refine wo rfl ?_ | refine wc rfl ?_ | refine wg rfl ?_ | refine go rfl ?_ | refine gc rfl ?_ | refine gg rfl ?_)); refine G_fin ⟨_, rfl, rfl, ?_⟩; first | exact .rfl | exact Rk.right _ _)
    refine O_pure (P_loadAt (o := o) (n := i) Tb.p5 rfl (by omega) hm' hg) trivial rfl ?_
    repeat' (first | (refine isO ?_; first | refine oo (Pc rfl) ?_ | refine oo (Pa rfl (by omega) (by omega)) ?_ | (refine ob rfl ?_ ?_ <;> intro hq <;> try (exfalso; omega)) | refine oo (Pi rfl (by omega)) ?_ | refine oo (Pl rfl) ?_ | refine oo (Px rfl rfl) ?_ | refine oo (Pj rfl (by omega) (by omega)) ?_ | refine oo (Pk rfl (by omega) (by omega)) ?_ | refine oo (Pf rfl) ?_ | refine oo (Pv rfl (by omega) (by omega)) ?_ | refine oo (Pn rfl) ?_ | refine oo (Pm rfl) ?_ | refine os rfl rfl ?_ | refine ot rfl (by omega) ?_ | refine O_nil ?_) | refine wo rfl ?_ | refine wc rfl ?_ | refine wg rfl ?_ | refine go rfl ?_ | refine gc rfl ?_ | refine gg rfl ?_)
    refine O_buildSlice rfl (row63_1 _) trivial rfl fun by1 => ?_
    refine O_append (m := m) (M0 := ⟨true, by1, 0, [.int .u64 (z : Int)]⟩ :: M) Tb.u63 Tb.u63 hI hI1 (by decide) (by omega) hI3 rfl rfl rfl hown (.perm List.perm_middle.symm) (len := i) (by rw [ints_length, List.length_map, List.length_take]; omega) (.head _) (Nat.le_refl 1)
      (fun v hv => by rw [List.mem_singleton] at hv; subst hv; rfl) (.inl (by omega)) (by rw [hI2]; omega) trivial rfl fun b2 c2 s2 h2 => ?_
    rw [ints_take ls i hil hzz] at h2 ⊢
    repeat' (first | (refine isO ?_; first | refine oo (Pc rfl) ?_ | refine oo (Pa rfl (by omega) (by omega)) ?_ | (refine ob rfl ?_ ?_ <;> intro hq <;> try (exfalso; omega)) | refine oo (Pi rfl (by omega)) ?_ | refine oo (Pl rfl) ?_ | refine oo (Px rfl rfl) ?_ | refine oo (Pj rfl (by omega) (by omega)) ?_ | refine oo (Pk rfl (by omega) (by omega)) ?_ | refine oo (Pf rfl) ?_ | refine oo (Pv rfl (by omega) (by omega)) ?_ | refine oo (Pn rfl) ?_ | refine oo (Pm rfl) ?_ | refine os rfl rfl ?_ | refine ot rfl (by omega) ?_ | refine O_nil ?_) | refine wo rfl ?_ | refine wc rfl ?_ | refine wg rfl ?_ | refine go rfl ?_ | refine gc rfl ?_ | refine gg rfl ?_)
    refine G_stop ⟨(i + 1, .slice (some ⟨b2, 0, none⟩) (i + 1) c2, [⟨true, b2, 0, ints .u64 ((ls.take (i + 1)).map Nat.cast) ++ s2⟩]), ⟨by omega, .inr ⟨b2, i + 1, c2, s2, rfl, rfl, by rw [ints_length, List.length_map, List.length_take]; omega, h2⟩, ?_⟩, by dsimp only; omega, ⟨rfl, rfl, rfl, rfl, rfl, trivial⟩, .cons .head (.drop .rfl)⟩
    intro j hj
    by_cases hji : j = i
    · subst hji; omega
    · exact hall j (by dsimp only at hj; omega)
  · obtain rfl : i = ls.length := by omega
    rw [List.take_length] at hown
    have hok : OkN ls := ⟨by omega, hall⟩
    have hu : Us sv ls (m ++ M) := (Us.of_own hown).mono fun x hx => List.mem_append_left _ hx
    have h0 : 0 < ls.length := by omega
    have ha' : a ≤ 1048576 := by omega
    have hMM : Rk (m ++ M) M := Rk.right m M
    clear hown
    generalize m ++ M = F at *
    refine O_call rfl rfl Tb.k34 trivial rfl (mk34_c a sv ls F ha' hu hok) ?_
    rintro _ M' ⟨s1, m1, hown1, rfl, hrk⟩
    refine O_weak hrk ?_
    clear hrk
    repeat' (first | (refine isO ?_; first | refine oo (Pc rfl) ?_ | refine oo (Pa rfl (by omega) (by omega)) ?_ | (refine ob rfl ?_ ?_ <;> intro hq <;> try (exfalso; omega)) | refine oo (Pi rfl (by omega)) ?_ | refine oo (Pl rfl) ?_ | refine oo (Px rfl rfl) ?_ | refine oo (Pj rfl (by omega) (by omega)) ?_ | refine oo (Pk rfl (by omega) (by omega)) ?_ | refine oo (Pf rfl) ?_ | refine oo (Pv rfl (by omega) (by omega)) ?_ | refine oo (Pn rfl) ?_ | refine oo (Pm rfl) ?_ | refine os rfl rfl ?_ | refine ot rfl (by omega) ?_ | refine O_nil ?_) | refine wo rfl ?_ | refine wc rfl ?_ | refine wg rfl ?_ | refine go rfl ?_ | refine gc rfl ?_ | refine gg rfl ?_)
    refine O_call rfl rfl Tb.k35 trivial rfl (mk35_c a sv ls _ ha' (hu.mono fun x hx => List.mem_append_right _ hx) hok h0) ?_
    rintro _ M' ⟨s2, m2, hown2, rfl, hrk⟩
    refine O_weak hrk ?_
    clear hrk
    have hr1 : Rs s1 (mkR a ls) (m2 ++ (m1 ++ F)) := (Rs.of_own hown1).mono fun x hx => List.mem_append_right _ (List.mem_append_left _ hx)
    have hr2 : Rs s2 (mkR a ls) (m2 ++ (m1 ++ F)) := (Rs.of_own hown2).mono fun x hx => List.mem_append_left _ hx
    have hMM2 : Rk (m2 ++ (m1 ++ F)) M := .trans (Rk.right m2 _) (.trans (Rk.right m1 _) hMM)
    clear hown1 hown2
    generalize m2 ++ (m1 ++ F) = F2 at *
    have hl0 : 0 < (mkR a ls).length := by rw [mkR_length]; exact h0
    obtain ⟨q1, o1, p1, c1, e1, _, hm1⟩ := hr1.at hl0
    obtain ⟨q2, o2, p2, c2, e2, _, hm2⟩ := hr2.at hl0
    rw [mkR_length] at e1 e2
    subst e1
    subst e2
    have hre := rAt_le (a := a) hok ls.length (Nat.le_refl _)
    have hrg : a < rAt a ls ls.length := rAt_lt 0 ls.length h0
    repeat' (first | (refine isO ?_; first | refine oo (Pc rfl) ?_ | refine oo (Pa rfl (by omega) (by omega)) ?_ | (refine ob rfl ?_ ?_ <;> intro hq <;> try (exfalso; omega)) | refine oo (Pi rfl (by omega)) ?_ | refine oo (Pl rfl) ?_ | refine oo (Px rfl rfl) ?_ | refine oo (Pj rfl (by omega) (by omega)) ?_ | refine oo (Pk rfl (by omega) (by omega)) ?_ | refine oo (Pf rfl) ?_ | refine oo (Pv rfl (by omega) (by omega)) ?_ | refine oo (Pn rfl) ?_ | refine oo (Pm rfl) ?_ | refine os rfl rfl ?_ | refine ot rfl (by omega) ?_ | refine O_nil ?_) | refine wo rfl ?_ | refine wc rfl ?_ | refine wg rfl ?_ | refine go rfl ?_ | refine gc rfl ?_ | refine gg rfl ?_)
    refine W_loop (α := Nat) (fun i => [(0, .int .u32 a), (2, .int .u32 v), (9, .slice (some ⟨q1, 0, none⟩) ls.length c1), (10, .int .u32 (rAt a ls ls.length : Nat)), (11, .slice (some ⟨q2, 0, none⟩) ls.length c2), (14, .int .i64 i)])
      (fun _ => F2) (fun i => i ≤ ls.length) (fun i => ls.length - i) 0 (by omega) ⟨rfl, rfl, rfl, rfl, rfl, rfl, trivial⟩ .rfl ?_
    intro i hi
    try dsimp only
    repeat' (first | (refine isO ?_; first | refine oo (Pc rfl) ?_ | refine oo (Pa rfl (by omega) (by omega)) ?_ | (refine ob rfl ?_ ?_ <;> intro hq <;> try (exfalso; omega)) | refine oo (Pi rfl (by omega)) ?_ | refine oo (Pl rfl) ?_ | refine oo (Px rfl rfl) ?_ | refine oo (Pj rfl (by omega) (by omega)) ?_ | refine oo (Pk rfl (by omega) (by omega)) ?_ | refine oo (Pf rfl) ?_ | refine oo (Pv rfl (by omega) (by omega)) ?_ | refine oo (Pn rfl) ?_ | refine oo (Pm rfl) ?_ | refine os rfl rfl ?_ | refine ot rfl (by omega) ?_ | refine O_nil ?_) | refine wo rfl ?_ | refine wc rfl ?_ | refine wg rfl ?_ | refine go rfl ?_ | refine gc rfl ?_ | refine gg rfl ?_)
    · have hil : i < ls.length := by omega
      have hget := mkR_get a ls i hil
      generalize ls.getD i 0 = z at *
      refine W_region_still Tb.mixed (by kernel_rfl) ?_
      repeat' (first | (refine isS ?_; first | refine ss (Pc rfl) ?_ | refine ss (Pa rfl (by omega) (by omega)) ?_ | (refine sb rfl ?_ ?_ <;> intro hq <;> try (exfalso; omega)) | refine ss (Pi rfl (by omega)) ?_ | refine ss (Pl rfl) ?_ | refine ss (Px rfl rfl) ?_ | refine ss (Pj rfl (by omega) (by omega)) ?_ | refine ss (Pk rfl (by omega) (by omega)) ?_ | refine ss (Pf rfl) ?_ | refine ss (Pv rfl (by omega) (by omega)) ?_ | refine ss (Pn rfl) ?_ | refine ss (Pm rfl) ?_ | refine OS_nil ?_))
      refine OS_pure (P_loadAggAt (o := 0) (i := i * 2) (cs := [.int .u32 (rAt a ls i : Nat), .int .u32 (z : Nat)]) Tb.a69 Tb.c69 (by decide) rfl (by omega) hm2 (by rw [List.length_append, rangesV_length, mkR_length]; omega) (rangesV_block _ p2 i (by rw [mkR_length]; exact hil) hget)) trivial rfl ?_
      repeat' (first | (refine isS ?_; first | refine ss (Pc rfl) ?_ | refine ss (Pa rfl (by omega) (by omega)) ?_ | (refine sb rfl ?_ ?_ <;> intro hq <;> try (exfalso; omega)) | refine ss (Pi rfl (by omega)) ?_ | refine ss (Pl rfl) ?_ | refine ss (Px rfl rfl) ?_ | refine ss (Pj rfl (by omega) (by omega)) ?_ | refine ss (Pk rfl (by omega) (by omega)) ?_ | refine ss (Pf rfl) ?_ | refine ss (Pv rfl (by omega) (by omega)) ?_ | refine ss (Pn rfl) ?_ | refine ss (Pm rfl) ?_ | refine OS_nil ?_))
      refine OS_pure (P_loadAggAt (o := 0) (i := i * 2) (cs := [.int .u32 (rAt a ls i : Nat), .int .u32 (z : Nat)]) Tb.a69 Tb.c69 (by decide) rfl (by omega) hm1 (by rw [List.length_append, rangesV_length, mkR_length]; omega) (rangesV_block _ p1 i (by rw [mkR_length]; exact hil) hget)) trivial rfl ?_
      refine OS_pure (P_neq69 rfl rfl) trivial rfl ?_
      repeat' (first | (refine isS ?_; first | refine ss (Pc rfl) ?_ | refine ss (Pa rfl (by omega) (by omega)) ?_ | (refine sb rfl ?_ ?_ <;> intro hq <;> try (exfalso; omega)) | refine ss (Pi rfl (by omega)) ?_ | refine ss (Pl rfl) ?_ | refine ss (Px rfl rfl) ?_ | refine ss (Pj rfl (by omega) (by omega)) ?_ | refine ss (Pk rfl (by omega) (by omega)) ?_ | refine ss (Pf rfl) ?_ | refine ss (Pv rfl (by omega) (by omega)) ?_ | refine ss (Pn rfl) ?_ | refine ss (Pm rfl) ?_ | refine OS_nil ?_))
      repeat' (first | (refine isO ?_; first | refine oo (Pc rfl) ?_ | refine oo (Pa rfl (by omega) (by omega)) ?_ | (refine ob rfl ?_ ?_ <;> intro hq <;> try (exfalso; omega)) | refine oo (Pi rfl (by omega)) ?_ | refine oo (Pl rfl) ?_ | refine oo (Px rfl rfl) ?_ | refine oo (Pj rfl (by omega) (by omega)) ?_ | refine oo (Pk rfl (by omega) (by omega)) ?_ | refine oo (Pf rfl) ?_ | refine oo (Pv rfl (by omega) (by omega)) ?_ | refine oo (Pn rfl) ?_ | refine oo (Pm rfl) ?_ | refine os rfl rfl ?_ | refine ot rfl (by omega) ?_ | refine O_nil ?_) | refine wo rfl ?_ | refine wc rfl ?_ | refine wg rfl ?_ | refine go rfl ?_ | refine gc rfl ?_ | refine gg rfl ?_)
      exact G_stop ⟨i + 1, by omega, by omega, ⟨rfl, rfl, rfl, rfl, rfl, rfl, trivial⟩, .rfl⟩
    · obtain rfl : i = ls.length := by omega
      have hml := Nat.mod_lt v (show 0 < rAt a ls ls.length - a by omega)
      refine O_pure (P_remE (p := v) (q := rAt a ls ls.length - a) rfl rfl rfl (by omega) (by omega) (inK_u32 (by omega) (by omega))) trivial rfl ?_
      generalize v % (rAt a ls ls.length - a) = t at *
      refine O_pure (P_is (P_ar (r := (a : Int) + (t : Int)) rfl rfl rfl (inK_u32 (by omega) (by omega))) (congrArg (Value.int .u32) (show (a : Int) + (t : Int) = ((a + t : Nat) : Int) by omega))) trivial rfl ?_
      obtain ⟨j, k1, k2, k3⟩ := rAt_find a (a + t) ls ls.length (by omega) (by omega)
      repeat' (first | (refine isO ?_; first | refine oo (Pc rfl) ?_ | refine oo (Pa rfl (by omega) (by omega)) ?_ | (refine ob rfl ?_ ?_ <;> intro hq <;> try (exfalso; omega)) | refine oo (Pi rfl (by omega)) ?_ | refine oo (Pl rfl) ?_ | refine oo (Px rfl rfl) ?_ | refine oo (Pj rfl (by omega) (by omega)) ?_ | refine oo (Pk rfl (by omega) (by omega)) ?_ | refine oo (Pf rfl) ?_ | refine oo (Pv rfl (by omega) (by omega)) ?_ | refine oo (Pn rfl) ?_ | refine oo (Pm rfl) ?_ | refine os rfl rfl ?_ | refine ot rfl (by omega) ?_ | refine O_nil ?_) | refine wo rfl ?_ | refine wc rfl ?_ | refine wg rfl ?_ | refine go rfl ?_ | refine gc rfl ?_ | refine gg rfl ?_)
      refine O_call rfl rfl Tb.k36 trivial rfl (of36_c a (a + t) _ ls F2 ha' hr1 hok) ?_
      rintro _ M' ⟨⟨j', g1, g2, g3, rfl⟩ | ⟨hno, rfl⟩, hrk⟩
      · refine O_weak hrk ?_
        clear hrk
        repeat' (first | (refine isO ?_; first | refine oo (Pc rfl) ?_ | refine oo (Pa rfl (by omega) (by omega)) ?_ | (refine ob rfl ?_ ?_ <;> intro hq <;> try (exfalso; omega)) | refine oo (Pi rfl (by omega)) ?_ | refine oo (Pl rfl) ?_ | refine oo (Px rfl rfl) ?_ | refine oo (Pj rfl (by omega) (by omega)) ?_ | refine oo (Pk rfl (by omega) (by omega)) ?_ | refine oo (Pf rfl) ?_ | refine oo (Pv rfl (by omega) (by omega)) ?_ | refine oo (Pn rfl) ?_ | refine oo (Pm rfl) ?_ | refine os rfl rfl ?_ | refine ot rfl (by omega) ?_ | refine O_nil ?_) | refine wo rfl ?_ | refine wc rfl ?_ | refine wg rfl ?_ | refine go rfl ?_ | refine gc rfl ?_ | refine gg rfl ?_)
        refine O_call rfl rfl Tb.k37 trivial rfl (of37_c a (a + t) j' _ ls F2 ha' hr2 hok g1 g2 g3) ?_
        rintro _ M' ⟨rfl, hrk⟩
        refine O_weak hrk ?_
        clear hrk
        repeat' (first | (refine isO ?_; first | refine oo (Pc rfl) ?_ | refine oo (Pa rfl (by omega) (by omega)) ?_ | (refine ob rfl ?_ ?_ <;> intro hq <;> try (exfalso; omega)) | refine oo (Pi rfl (by omega)) ?_ | refine oo (Pl rfl) ?_ | refine oo (Px rfl rfl) ?_ | refine oo (Pj rfl (by omega) (by omega)) ?_ | refine oo (Pk rfl (by omega) (by omega)) ?_ | refine oo (Pf rfl) ?_ | refine oo (Pv rfl (by omega) (by omega)) ?_ | refine oo (Pn rfl) ?_ | refine oo (Pm rfl) ?_ | refine os rfl rfl ?_ | refine ot rfl (by omega) ?_ | refine O_nil ?_) | refine wo rfl ?_ | refine wc rfl ?_ | refine wg rfl ?_ | refine go rfl ?_ | refine gc rfl ?_ | refine gg rfl ?_)
        refine O_call rfl rfl Tb.k13 trivial rfl (awake_c _) ?_
        rintro v M' ⟨rfl, hrk⟩
        refine O_weak hrk ?_
        clear hrk
        repeat' (first | (refine isO ?_; first | refine oo (Pc rfl) ?_ | refine oo (Pa rfl (by omega) (by omega)) ?_ | (refine ob rfl ?_ ?_ <;> intro hq <;> try (exfalso; omega)) | refine oo (Pi rfl (by omega)) ?_ | refine oo (Pl rfl) ?_ | refine oo (Px rfl rfl) ?_ | refine oo (Pj rfl (by omega) (by omega)) ?_ | refine oo (Pk rfl (by omega) (by omega)) ?_ | refine oo (Pf rfl) ?_ | refine oo (Pv rfl (by omega) (by omega)) ?_ | refine oo (Pn rfl) ?_ | refine oo (Pm rfl) ?_ | refine os rfl rfl ?_ | refine ot rfl (by omega) ?_ | refine O_nil ?_) | refine wo rfl ?_ | refine wc rfl ?_ | refine wg rfl ?_ | refine go rfl ?_ | refine gc rfl ?_ | refine gg rfl ?_)
        exact G_fin ⟨_, rfl, rfl, hMM2⟩
      · rcases hno j k1 with h | h <;> omega
end Go.Proofs.Ytjkpfliaflmppaa.Pc
