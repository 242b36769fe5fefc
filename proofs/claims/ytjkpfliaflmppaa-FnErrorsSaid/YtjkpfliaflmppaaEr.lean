/- errors.Panic and errors.Recover: a panic comes back as the error that it bears. No condition. -/
import Derived.Test.YtjkpfliaflmppaaSafe
import Derived.WalkSmall
import Derived.Test.YtjkpfliaflmppaaTi
namespace Go.Proofs.Ytjkpfliaflmppaa.Er
open Go Go.RowKit Go.Proofs.Ytjkpfliaflmppaa.Vm

theorem panic77 (t : TypeId) (x : Value) (w : World) :
    Calls Try.prog 77 #[.iface t x] w fun e w' => e = .panicked [{ v := .iface 171 (.agg #[.pointer (some ⟨w.heap.size, 0, none⟩)]), recovered := false }] ∧ w' = w.alloc (.cells #[.iface t x] 82) := by
  go_enter Try.func77, Try.ntmps77
  go_wp2
  simp [bodyPost]

theorem P_assert {N : Fm} {E : Env} {M : Mem} {x : Operand} {v : Value} (hx : ev E x = some (.iface 171 v)) : Pure Try.prog N E M (.typeAssert x 20 171 true) (.tuple #[v, .bool true]) := by
  constructor
  intro pr base w0 a w hA hS d ty pos after g
  simp only [execOp, hA.eval hx]
  kernel_rfl
theorem P_assert129 {N : Fm} {E : Env} {M : Mem} {x : Operand} {v : Value} (hx : ev E x = some (.iface 129 v)) : Pure Try.prog N E M (.typeAssert x 82 129 true) (.tuple #[v, .bool true]) := by
  constructor
  intro pr base w0 a w hA hS d ty pos after g
  simp only [execOp, hA.eval hx]
  kernel_rfl
theorem zero171 : zeroOf Try.prog 171 = some [.pointer none] := by kernel_rfl

theorem recover76 (pb qb : Nat) (t : TypeId) (x y : Value) (M : Mem) (older : List PanicEntry) (base : Nat) (w0 w : World) (hS : Sim false base w0 w (⟨true, pb, 0, [y]⟩ :: ⟨true, qb, 0, [.iface t x]⟩ :: M)) :
    CallsD Try.prog 76 #[.pointer (some ⟨pb, 0, none⟩)] (.panicking ({ v := .iface 171 (.agg #[.pointer (some ⟨qb, 0, none⟩)]), recovered := false } :: older)) w fun e u' w' =>
      e = .returned (.tuple #[]) ∧ u' = .panicking ({ v := .iface 171 (.agg #[.pointer (some ⟨qb, 0, none⟩)]), recovered := true } :: older) ∧ Sim false base w0 w' (⟨true, pb, 0, [.iface t x]⟩ :: M) := by
  refine callsD_of_wpS Try.func76 rfl fun c₀ cs hu => ?_
  refine wpS_seq ?_
  generalize hQ : bodyPostS Try.prog Try.f76 c₀ cs _ = Q
  refine wpS_region ?_
  generalize hn : Exit.thenS _ _ = Q2
  simp [wpOpsS, go_sem, recoverD, hu, Try.ntmps76]
  subst hn
  refine wpS_of_wp ?_
  refine wp_mono ((W.out (pr := false) (P := Try.prog) (N := ⟨17, []⟩) (Fin := fun e _ M' => e = .normal ∧ Rk M' (⟨true, pb, 0, [.iface t x]⟩ :: M)) (k := [])
    (E := [(0, .pointer (some ⟨pb, 0, none⟩)), (5, .iface 171 (.agg #[.pointer (some ⟨qb, 0, none⟩)]))]) (M := ⟨true, pb, 0, [y]⟩ :: ⟨true, qb, 0, [.iface t x]⟩ :: M) ?_).out base w0 _ _ ?_ hS) ?_
  · repeat' (first | (refine isO ?_; first | refine oo (Pc rfl) ?_ | refine oo (Pa rfl (by omega) (by omega)) ?_ | (refine ob rfl ?_ ?_ <;> intro hq <;> try (exfalso; omega)) | refine oo (Pi rfl (by omega)) ?_ | refine oo (Pl rfl) ?_ | refine oo (Px rfl rfl) ?_ | refine oo (Pj rfl (by omega) (by omega)) ?_ | refine oo (Pk rfl (by omega) (by omega)) ?_ | refine oo (Pf rfl) ?_ | refine oo (Pv rfl (by omega) (by omega)) ?_ | refine oo (Pn rfl) ?_ | refine oo (Pm rfl) ?_ | refine os rfl rfl ?_ | refine ot rfl (by omega) ?_ | refine O_nil ?_) | refine wo rfl ?_ | refine wc rfl ?_ | refine wg rfl ?_ | refine go rfl ?_ | refine gc rfl ?_ | refine gg rfl ?_)
    refine O_pure (P_err_eq Tb.i20 rfl rfl) trivial rfl ?_
    repeat' (first | (refine isO ?_; first | refine oo (Pc rfl) ?_ | refine oo (Pa rfl (by omega) (by omega)) ?_ | (refine ob rfl ?_ ?_ <;> intro hq <;> try (exfalso; omega)) | refine oo (Pi rfl (by omega)) ?_ | refine oo (Pl rfl) ?_ | refine oo (Px rfl rfl) ?_ | refine oo (Pj rfl (by omega) (by omega)) ?_ | refine oo (Pk rfl (by omega) (by omega)) ?_ | refine oo (Pf rfl) ?_ | refine oo (Pv rfl (by omega) (by omega)) ?_ | refine oo (Pn rfl) ?_ | refine oo (Pm rfl) ?_ | refine os rfl rfl ?_ | refine ot rfl (by omega) ?_ | refine O_nil ?_) | refine wo rfl ?_ | refine wc rfl ?_ | refine wg rfl ?_ | refine go rfl ?_ | refine gc rfl ?_ | refine gg rfl ?_)
    refine O_pure (P_assert rfl) trivial rfl ?_
    repeat' (first | (refine isO ?_; first | refine oo (Pc rfl) ?_ | refine oo (Pa rfl (by omega) (by omega)) ?_ | (refine ob rfl ?_ ?_ <;> intro hq <;> try (exfalso; omega)) | refine oo (Pi rfl (by omega)) ?_ | refine oo (Pl rfl) ?_ | refine oo (Px rfl rfl) ?_ | refine oo (Pj rfl (by omega) (by omega)) ?_ | refine oo (Pk rfl (by omega) (by omega)) ?_ | refine oo (Pf rfl) ?_ | refine oo (Pv rfl (by omega) (by omega)) ?_ | refine oo (Pn rfl) ?_ | refine oo (Pm rfl) ?_ | refine os rfl rfl ?_ | refine ot rfl (by omega) ?_ | refine O_nil ?_) | refine wo rfl ?_ | refine wc rfl ?_ | refine wg rfl ?_ | refine go rfl ?_ | refine gc rfl ?_ | refine gg rfl ?_)
    refine O_alloc zero171 trivial rfl fun bx => ?_
    refine O_storeAgg0 (cs := [.pointer (some ⟨qb, 0, none⟩)]) Tb.c171 (by decide) rfl rfl rfl (by intro v hv; simp at hv; subst hv; rfl) trivial .head rfl ?_
    repeat' (first | (refine isO ?_; first | refine oo (Pc rfl) ?_ | refine oo (Pa rfl (by omega) (by omega)) ?_ | (refine ob rfl ?_ ?_ <;> intro hq <;> try (exfalso; omega)) | refine oo (Pi rfl (by omega)) ?_ | refine oo (Pl rfl) ?_ | refine oo (Px rfl rfl) ?_ | refine oo (Pj rfl (by omega) (by omega)) ?_ | refine oo (Pk rfl (by omega) (by omega)) ?_ | refine oo (Pf rfl) ?_ | refine oo (Pv rfl (by omega) (by omega)) ?_ | refine oo (Pn rfl) ?_ | refine oo (Pm rfl) ?_ | refine os rfl rfl ?_ | refine ot rfl (by omega) ?_ | refine O_nil ?_) | refine wo rfl ?_ | refine wc rfl ?_ | refine wg rfl ?_ | refine go rfl ?_ | refine gc rfl ?_ | refine gg rfl ?_)
    exact G_fin ⟨rfl, by repeat (first | exact .rfl | exact .nil | (apply Rk.cons; (· exact TakeI.out)) | refine .drop ?_)⟩
  · refine ⟨rfl, by simp, fun n v h => ?_⟩
    simp only [Env.get?] at h
    cases h0 : Nat.beq 0 n with
    | true =>
      have := Nat.eq_of_beq_eq_true h0
      subst this
      simp at h
      subst h
      simp
    | false =>
      rw [h0] at h
      cases h5 : Nat.beq 5 n with
      | true =>
        have := Nat.eq_of_beq_eq_true h5
        subst this
        simp at h
        subst h
        simp
      | false => rw [h5] at h; simp at h
  · rintro e a' w' ⟨E', M', hA, hS', hf⟩
    obtain ⟨rfl, hrk⟩ : e = .normal ∧ Rk M' (⟨true, pb, 0, [.iface t x]⟩ :: M) := hf
    subst hQ
    refine ⟨hA.defers, _, rfl, .tuple #[], ?_, rfl, rfl, hS'.rk hrk⟩
    simp [results, Try.results76]

theorem back75 (b1 b2 : Nat) (t : TypeId) (x : Value) (M : Mem) :
    HC Try.prog 75 #[.pointer (some ⟨b1, 0, none⟩), .pointer (some ⟨b2, 0, none⟩)] (⟨true, b1, 0, [.nilIface]⟩ :: ⟨true, b2, 0, [.iface t x]⟩ :: M)
      (fun _ M' => Rk M' (⟨true, b1, 0, [.iface t x]⟩ :: ⟨true, b2, 0, [.iface t x]⟩ :: M)) := by
  constructor
  intro base w0 w hS
  have hc2 : w.cell? ⟨b2, 0, none⟩ = some (.iface t x) := (hS.seg _ (.tail _ (.head _))).cell (i := 0) rfl
  have hS1 := hS.alloc #[.iface t x] 82
  have hr := recover76 b1 w.heap.size t x .nilIface (⟨true, b2, 0, [.iface t x]⟩ :: M) [] base w0 _ (hS1.rk (.cons (.tail .head) (.cons .head .rfl)))
  go_enter_defers Try.func75, Try.ntmps75
  go_wp2_with fail
  refine (panic77 t x w).mono ?_
  rintro e w' ⟨rfl, rfl⟩
  go_wp2
  refine leaves_cons (f := 76) (args := #[.pointer (some ⟨b1, 0, none⟩)]) (by simp) (by simp [go_sem]) ?_
  refine hr.mono ?_
  rintro e u' w'' ⟨rfl, rfl, hS2⟩
  refine ⟨.tuple #[], ?_, .tuple #[], _, rfl, hS2, .rfl⟩
  simp [results, Try.results75]
end Go.Proofs.Ytjkpfliaflmppaa.Er
