/- laws.FnErrors, walked: it is true, for any code and texts. -/
import Derived.Test.YtjkpfliaflmppaaEl
import Derived.Test.YtjkpfliaflmppaaAw
namespace Go.Proofs.Ytjkpfliaflmppaa.Er
open Go Go.RowKit Go.Proofs.Ytjkpfliaflmppaa.Vm Go.Proofs.Ytjkpfliaflmppaa.Sf Go.Proofs.Ytjkpfliaflmppaa.Pc

theorem P_lenS {P : Program} {N : Fm} {E : Env} {M : Mem} {x : Operand} {t : TypeId} {s : ByteArray} (ht : P.underlying t = some .string) (hx : ev E x = some (.string s)) :
    Pure P N E M (.call { callee := .builtin .len, args := #[x], argTypes := #[t] }) (.int .i64 s.size) := by
  constructor
  intro pr bs w0 a w hA hS d ty pos after g
  simp [execOp, resolve, invoke, builtin, Builtin.len_, hA.eval hx, run_under ht, goInt]
theorem P_remN {P : Program} {N : Fm} {E : Env} {M : Mem} {t t2 : TypeId} {x y : Operand} {k : IntKind} {p q : Nat} (hx : ev E x = some (.int k (p : Int))) (hy : ev E y = some (.int k (q : Int))) (hq : 0 < q) (h : inK k ((p % q : Nat) : Int)) :
    Pure P N E M (.binOp .rem t x y t2) (.int k ((p % q : Nat) : Int)) := by
  constructor
  intro pr base w0 a w hA hS d ty pos after g
  have hw := wrap_id h.lo h.hi
  have e : Int.tmod (p : Int) (q : Int) = ((p % q : Nat) : Int) := rfl
  simp [execOp, hA.eval hx, hA.eval hy, Sem.run, pure, bind, Sem.bind, eqGuard, binOp, Op.intArith, Op.intDiv, e, hw, show q ≠ 0 by omega]

theorem eqIn4 (dp : Nat) (a : Bool) (w : World) : (Op.equalIn (dp + 1) 4 (.bool a) (.bool a)).run Try.prog w = .ok true w := by
  simp [Op.equalIn, run_under Try.underlying4]
theorem part4 (cs : Array Value) (n : Nat) (v : Value) (h : cs[n]? = some v) (w : World) : (part 4 cs n).run Try.prog w = .ok v w := by
  have h1 : Try.prog.underlying 4 = some .bool := Try.underlying4
  simp [part, run_under h1, h]
theorem eqIn52 (dp : Nat) (a b c d e : Bool) (w : World) : (Op.equalIn (dp + 2) 52 (.agg #[.bool a, .bool b, .bool c, .bool d, .bool e]) (.agg #[.bool a, .bool b, .bool c, .bool d, .bool e])).run Try.prog w = .ok true w := by
  unfold Op.equalIn
  rw [Sem.run_bind, run_under Try.underlying52, Result.andThen_ok]
  dsimp only
  have hp : (program : Sem Program).run Try.prog w = .ok Try.prog w := rfl
  have p0 := part4 #[.bool a, .bool b, .bool c, .bool d, .bool e] 0 (.bool a) rfl w
  have p1 := part4 #[.bool a, .bool b, .bool c, .bool d, .bool e] 1 (.bool b) rfl w
  have p2 := part4 #[.bool a, .bool b, .bool c, .bool d, .bool e] 2 (.bool c) rfl w
  have p3 := part4 #[.bool a, .bool b, .bool c, .bool d, .bool e] 3 (.bool d) rfl w
  have p4 := part4 #[.bool a, .bool b, .bool c, .bool d, .bool e] 4 (.bool e) rfl w
  have hr : List.range' 0 5 = [0, 1, 2, 3, 4] := rfl
  simp [hp, hr, eqIn4 dp, p0, p1, p2, p3, p4]
theorem P_eq52 {N : Fm} {E : Env} {M : Mem} {x y : Operand} {t2 : TypeId} {a b c d e : Bool} (hx : ev E x = some (.agg [.bool a, .bool b, .bool c, .bool d, .bool e].toArray)) (hy : ev E y = some (.agg [.bool a, .bool b, .bool c, .bool d, .bool e].toArray)) :
    Pure Try.prog N E M (.binOp .eql 52 x y t2) (.bool true) := by
  constructor
  intro pr base w0 ac w hA hS dd ty pos after g
  have h1 : (Op.equal 52 (.agg #[.bool a, .bool b, .bool c, .bool d, .bool e]) (.agg #[.bool a, .bool b, .bool c, .bool d, .bool e])).run Try.prog w = .ok true w := eqIn52 9998 a b c d e w
  have hp : (program : Sem Program).run Try.prog w = .ok Try.prog w := rfl
  have h0 : Try.prog.eqGuardType Try.prog.depth 52 = false := by kernel_rfl
  have hg : ∀ x y : Operand, (eqGuard .eql 52 x y (.agg #[.bool a, .bool b, .bool c, .bool d, .bool e]) (.agg #[.bool a, .bool b, .bool c, .bool d, .bool e])).run Try.prog w = .ok () w := by
    intro x y
    unfold eqGuard
    simp [hp, h0]
  have hb : binOp .eql 52 (.agg #[.bool a, .bool b, .bool c, .bool d, .bool e]) (.agg #[.bool a, .bool b, .bool c, .bool d, .bool e]) = (do pure (.bool (← Op.equal 52 (.agg #[.bool a, .bool b, .bool c, .bool d, .bool e]) (.agg #[.bool a, .bool b, .bool c, .bool d, .bool e])))) := rfl
  simp only [execOp, hA.eval hx, hA.eval hy, hb]
  simp [h1, hg]

set_option maxHeartbeats 2000000 in
theorem law8_c (a : Nat) (p m : ByteArray) (M : Mem) (ha : a < 256) : HC Try.prog 8 #[.int .u8 a, .string p, .string m] M (fun r M' => r = .bool true ∧ Rk M' M) := by
  have h6 := Nat.mod_lt a (show 0 < 6 by omega)
  refine HC_of_W (fn := Try.f8) Try.func8 rfl rfl rfl rfl ?_
  repeat' (first | (refine isO ?_; first | refine oo (Pc rfl) ?_ | refine oo (Pa rfl (by omega) (by omega)) ?_ | (refine ob rfl ?_ ?_ <;> intro hq <;> try (exfalso; omega)) | refine oo (Pi rfl (by omega)) ?_ | refine oo (Pl rfl) ?_ | refine oo (Px rfl rfl) ?_ | refine oo (Pj rfl (by omega) (by omega)) ?_ | refine oo (Pk rfl (by omega) (by omega)) ?_ | refine oo (Pf rfl) ?_ | refine oo (Pv rfl (by omega) (by omega)) ?_ | refine oo (Pn rfl) ?_ | refine oo (Pm rfl) ?_ | refine os rfl rfl ?_ | refine ot rfl (by omega) ?_ | refine O_nil ?_) | refine wo rfl ?_ | refine wc rfl ?_ | refine wg rfl ?_ | refine go rfl ?_ | refine gc rfl ?_ | refine gg rfl ?_)
  refine O_pure (P_lenS Try.underlying9 rfl) (by first | exact trivial | exact ⟨_, rfl, rfl⟩) rfl ?_; (repeat' (first | (refine isO ?_; first | refine oo (Pc rfl) ?_ | refine oo (Pa rfl (by omega) (by omega)) ?_ | (refine ob rfl ?_ ?_ <;> intro hq <;> try (exfalso; omega)) | refine oo (Pi rfl (by omega)) ?_ | refine oo (Pl rfl) ?_ | refine oo (Px rfl rfl) ?_ | refine oo (Pj rfl (by omega) (by omega)) ?_ | refine oo (Pk rfl (by omega) (by omega)) ?_ | refine oo (Pf rfl) ?_ | refine oo (Pv rfl (by omega) (by omega)) ?_ | refine oo (Pn rfl) ?_ | refine oo (Pm rfl) ?_ | refine os rfl rfl ?_ | refine ot rfl (by omega) ?_ | refine O_nil ?_) | refine wo rfl ?_ | refine wc rfl ?_ | refine wg rfl ?_ | refine go rfl ?_ | refine gc rfl ?_ | refine gg rfl ?_))
  · exact G_fin ⟨_, rfl, rfl, .rfl⟩
  · refine O_pure (P_lenS Try.underlying9 rfl) (by first | exact trivial | exact ⟨_, rfl, rfl⟩) rfl ?_; (repeat' (first | (refine isO ?_; first | refine oo (Pc rfl) ?_ | refine oo (Pa rfl (by omega) (by omega)) ?_ | (refine ob rfl ?_ ?_ <;> intro hq <;> try (exfalso; omega)) | refine oo (Pi rfl (by omega)) ?_ | refine oo (Pl rfl) ?_ | refine oo (Px rfl rfl) ?_ | refine oo (Pj rfl (by omega) (by omega)) ?_ | refine oo (Pk rfl (by omega) (by omega)) ?_ | refine oo (Pf rfl) ?_ | refine oo (Pv rfl (by omega) (by omega)) ?_ | refine oo (Pn rfl) ?_ | refine oo (Pm rfl) ?_ | refine os rfl rfl ?_ | refine ot rfl (by omega) ?_ | refine O_nil ?_) | refine wo rfl ?_ | refine wc rfl ?_ | refine wg rfl ?_ | refine go rfl ?_ | refine gc rfl ?_ | refine gg rfl ?_))
    · exact G_fin ⟨_, rfl, rfl, .rfl⟩
    · refine O_pure (P_remN (p := a) (q := 6) rfl rfl (by omega) (inK_i64 (by omega) (by omega))) trivial rfl ?_
      generalize a % 6 = c at *
      repeat' (first | (refine isO ?_; first | refine oo (Pc rfl) ?_ | refine oo (Pa rfl (by omega) (by omega)) ?_ | (refine ob rfl ?_ ?_ <;> intro hq <;> try (exfalso; omega)) | refine oo (Pi rfl (by omega)) ?_ | refine oo (Pl rfl) ?_ | refine oo (Px rfl rfl) ?_ | refine oo (Pj rfl (by omega) (by omega)) ?_ | refine oo (Pk rfl (by omega) (by omega)) ?_ | refine oo (Pf rfl) ?_ | refine oo (Pv rfl (by omega) (by omega)) ?_ | refine oo (Pn rfl) ?_ | refine oo (Pm rfl) ?_ | refine os rfl rfl ?_ | refine ot rfl (by omega) ?_ | refine O_nil ?_) | refine wo rfl ?_ | refine wc rfl ?_ | refine wg rfl ?_ | refine go rfl ?_ | refine gc rfl ?_ | refine gg rfl ?_)
      refine O_pure (P_lenS Try.underlying9 rfl) (by first | exact trivial | exact ⟨_, rfl, rfl⟩) rfl ?_; (repeat' (first | (refine isO ?_; first | refine oo (Pc rfl) ?_ | refine oo (Pa rfl (by omega) (by omega)) ?_ | (refine ob rfl ?_ ?_ <;> intro hq <;> try (exfalso; omega)) | refine oo (Pi rfl (by omega)) ?_ | refine oo (Pl rfl) ?_ | refine oo (Px rfl rfl) ?_ | refine oo (Pj rfl (by omega) (by omega)) ?_ | refine oo (Pk rfl (by omega) (by omega)) ?_ | refine oo (Pf rfl) ?_ | refine oo (Pv rfl (by omega) (by omega)) ?_ | refine oo (Pn rfl) ?_ | refine oo (Pm rfl) ?_ | refine os rfl rfl ?_ | refine ot rfl (by omega) ?_ | refine O_nil ?_) | refine wo rfl ?_ | refine wc rfl ?_ | refine wg rfl ?_ | refine go rfl ?_ | refine gc rfl ?_ | refine gg rfl ?_))
      · (refine O_call rfl rfl Tb.k13 trivial rfl (awake_c _) ?_; rintro v M' ⟨rfl, hrk⟩; refine O_weak hrk ?_; clear hrk; (repeat' (first | (refine isO ?_; first | refine oo (Pc rfl) ?_ | refine oo (Pa rfl (by omega) (by omega)) ?_ | (refine ob rfl ?_ ?_ <;> intro hq <;> try (exfalso; omega)) | refine oo (Pi rfl (by omega)) ?_ | refine oo (Pl rfl) ?_ | refine oo (Px rfl rfl) ?_ | refine oo (Pj rfl (by omega) (by omega)) ?_ | refine oo (Pk rfl (by omega) (by omega)) ?_ | refine oo (Pf rfl) ?_ | refine oo (Pv rfl (by omega) (by omega)) ?_ | refine oo (Pn rfl) ?_ | refine oo (Pm rfl) ?_ | refine os rfl rfl ?_ | refine ot rfl (by omega) ?_ | refine O_nil ?_) | refine wo rfl ?_ | refine wc rfl ?_ | refine wg rfl ?_ | refine go rfl ?_ | refine gc rfl ?_ | refine gg rfl ?_)); exact G_fin ⟨_, rfl, rfl, .rfl⟩)
      · refine O_pure (P_lenS Try.underlying9 rfl) (by first | exact trivial | exact ⟨_, rfl, rfl⟩) rfl ?_; (repeat' (first | (refine isO ?_; first | refine oo (Pc rfl) ?_ | refine oo (Pa rfl (by omega) (by omega)) ?_ | (refine ob rfl ?_ ?_ <;> intro hq <;> try (exfalso; omega)) | refine oo (Pi rfl (by omega)) ?_ | refine oo (Pl rfl) ?_ | refine oo (Px rfl rfl) ?_ | refine oo (Pj rfl (by omega) (by omega)) ?_ | refine oo (Pk rfl (by omega) (by omega)) ?_ | refine oo (Pf rfl) ?_ | refine oo (Pv rfl (by omega) (by omega)) ?_ | refine oo (Pn rfl) ?_ | refine oo (Pm rfl) ?_ | refine os rfl rfl ?_ | refine ot rfl (by omega) ?_ | refine O_nil ?_) | refine wo rfl ?_ | refine wc rfl ?_ | refine wg rfl ?_ | refine go rfl ?_ | refine gc rfl ?_ | refine gg rfl ?_))
        · (refine O_call rfl rfl Tb.k13 trivial rfl (awake_c _) ?_; rintro v M' ⟨rfl, hrk⟩; refine O_weak hrk ?_; clear hrk; (repeat' (first | (refine isO ?_; first | refine oo (Pc rfl) ?_ | refine oo (Pa rfl (by omega) (by omega)) ?_ | (refine ob rfl ?_ ?_ <;> intro hq <;> try (exfalso; omega)) | refine oo (Pi rfl (by omega)) ?_ | refine oo (Pl rfl) ?_ | refine oo (Px rfl rfl) ?_ | refine oo (Pj rfl (by omega) (by omega)) ?_ | refine oo (Pk rfl (by omega) (by omega)) ?_ | refine oo (Pf rfl) ?_ | refine oo (Pv rfl (by omega) (by omega)) ?_ | refine oo (Pn rfl) ?_ | refine oo (Pm rfl) ?_ | refine os rfl rfl ?_ | refine ot rfl (by omega) ?_ | refine O_nil ?_) | refine wo rfl ?_ | refine wc rfl ?_ | refine wg rfl ?_ | refine go rfl ?_ | refine gc rfl ?_ | refine gg rfl ?_)); exact G_fin ⟨_, rfl, rfl, .rfl⟩)
        · refine O_call rfl rfl Tb.k28 trivial rfl (kinds28_c c p m M) ?_
          rintro _ M' ⟨rfl, hrk⟩
          refine O_weak hrk ?_
          clear hrk
          repeat' (first | (refine isO ?_; first | refine oo (Pc rfl) ?_ | refine oo (Pa rfl (by omega) (by omega)) ?_ | (refine ob rfl ?_ ?_ <;> intro hq <;> try (exfalso; omega)) | refine oo (Pi rfl (by omega)) ?_ | refine oo (Pl rfl) ?_ | refine oo (Px rfl rfl) ?_ | refine oo (Pj rfl (by omega) (by omega)) ?_ | refine oo (Pk rfl (by omega) (by omega)) ?_ | refine oo (Pf rfl) ?_ | refine oo (Pv rfl (by omega) (by omega)) ?_ | refine oo (Pn rfl) ?_ | refine oo (Pm rfl) ?_ | refine os rfl rfl ?_ | refine ot rfl (by omega) ?_ | refine O_nil ?_) | refine wo rfl ?_ | refine wc rfl ?_ | refine wg rfl ?_ | refine go rfl ?_ | refine gc rfl ?_ | refine gg rfl ?_)
          refine O_alloc zero52 trivial rfl fun b8 => ?_
          refine O_storeAgg0 (cs := kinds c) Tb.c52 (by decide) rfl rfl rfl (kinds_one c) trivial .head rfl ?_
          repeat' (first | (refine isO ?_; first | refine oo (Pc rfl) ?_ | refine oo (Pa rfl (by omega) (by omega)) ?_ | (refine ob rfl ?_ ?_ <;> intro hq <;> try (exfalso; omega)) | refine oo (Pi rfl (by omega)) ?_ | refine oo (Pl rfl) ?_ | refine oo (Px rfl rfl) ?_ | refine oo (Pj rfl (by omega) (by omega)) ?_ | refine oo (Pk rfl (by omega) (by omega)) ?_ | refine oo (Pf rfl) ?_ | refine oo (Pv rfl (by omega) (by omega)) ?_ | refine oo (Pn rfl) ?_ | refine oo (Pm rfl) ?_ | refine os rfl rfl ?_ | refine ot rfl (by omega) ?_ | refine O_nil ?_) | refine wo rfl ?_ | refine wc rfl ?_ | refine wg rfl ?_ | refine go rfl ?_ | refine gc rfl ?_ | refine gg rfl ?_)
          refine O_call rfl rfl Tb.k13 trivial rfl (awake_c _) ?_
          rintro v M' ⟨rfl, hrk⟩
          refine O_weak hrk ?_
          clear hrk
          refine oo (Pc rfl) ?_
          refine oo (Pc rfl) ?_
          refine oo (Pc rfl) ?_
          refine oo (Pc rfl) ?_
          refine O_pure (P_loadAggAt (o := 0) (i := 0) (cs := kinds c) Tb.a52 Tb.c52 (by decide) rfl rfl (.head _) (Nat.le_refl _) rfl) ⟨_, rfl, rfl⟩ rfl ?_
          refine oo (Pc rfl) ?_
          refine O_pure (P_cmp rfl rfl rfl) ⟨_, rfl, rfl⟩ rfl ?_
          refine oo (Pc rfl) ?_
          refine O_pure (P_cmp rfl rfl rfl) ⟨_, rfl, rfl⟩ rfl ?_
          refine oo (Pc rfl) ?_
          refine O_pure (P_cmp rfl rfl rfl) ⟨_, rfl, rfl⟩ rfl ?_
          refine oo (Pc rfl) ?_
          refine O_pure (P_cmp rfl rfl rfl) ⟨_, rfl, rfl⟩ rfl ?_
          refine oo (Pc rfl) ?_
          refine O_pure (P_cmp rfl rfl rfl) ⟨_, rfl, rfl⟩ rfl ?_
          refine O_pure (P_build rfl (build52 _ _ _ _ _)) ⟨_, rfl, rfl⟩ rfl ?_
          refine O_pure (P_eq52 rfl rfl) ⟨_, rfl, rfl⟩ rfl ?_
          repeat' (first | (refine isO ?_; first | refine oo (Pc rfl) ?_ | refine oo (Pa rfl (by omega) (by omega)) ?_ | (refine ob rfl ?_ ?_ <;> intro hq <;> try (exfalso; omega)) | refine oo (Pi rfl (by omega)) ?_ | refine oo (Pl rfl) ?_ | refine oo (Px rfl rfl) ?_ | refine oo (Pj rfl (by omega) (by omega)) ?_ | refine oo (Pk rfl (by omega) (by omega)) ?_ | refine oo (Pf rfl) ?_ | refine oo (Pv rfl (by omega) (by omega)) ?_ | refine oo (Pn rfl) ?_ | refine oo (Pm rfl) ?_ | refine os rfl rfl ?_ | refine ot rfl (by omega) ?_ | refine O_nil ?_) | refine wo rfl ?_ | refine wc rfl ?_ | refine wg rfl ?_ | refine go rfl ?_ | refine gc rfl ?_ | refine gg rfl ?_)
          exact G_fin ⟨_, rfl, rfl, .drop .rfl⟩
end Go.Proofs.Ytjkpfliaflmppaa.Er
