/- Calls that may panic: contracts with both endings; an index that is out of range. No condition. GenerateLengths' treeRotate, walked: what it makes of the numbers of lengths; or it panics where no shorter length is used. For at most 1000 lengths. Numbers of lengths: their sums stay as lengths above the limit are turned away. No condition. -/
import Derived.Test.YtjkpfliaflmppaaW9x09
import Derived.Test.YtjkpfliaflmppaaW9x04
import Derived.Test.YtjkpfliaflmppaaW9x10

namespace Go.Proofs.Ytjkpfliaflmppaa.Vm
open Go Go.RowKit

/-- Contract of a call that returns with R, or panics with an error and X. -/
structure HX (P : Program) (f : FuncId) (args : Array Value) (M : Mem) (R : Value → Mem → Prop) (X : Mem → Prop) : Prop where
  out : ∀ base w0 w, Sim false base w0 w M → Calls P f args w fun e w' => (∃ v M', e = .returned v ∧ Sim false base w0 w' M' ∧ R v M') ∨ (∃ t x M', e = .panicked [{ v := .iface t x, recovered := false }] ∧ Sim false base w0 w' M' ∧ X M')
def EndsX (rs : List ResultVar) (R : Value → Mem → Prop) (X : Mem → Prop) : Post
  | .normal, E, M | .ret, E, M => ∃ v, resOf E rs = some v ∧ R v M
  | .panic ch, _, M => (∃ t x, ch = [{ v := .iface t x, recovered := false }]) ∧ X M
  | _, _, _ => False

section
variable {P : Program} {N : Fm} {Fin : Post} {k : List Kn} {E : Env} {M : Mem}
variable {ops : List Oper} {rest : List Oper} {d : Nat} {op : Op} {ty : TypeId} {pos : String} {after : Array Edge} {g : Option (Nat × Bool)} {v : Value}

theorem HX_of_HC {f : FuncId} {args : Array Value} {R : Value → Mem → Prop} {X : Mem → Prop} (h : HC P f args M R) : HX P f args M R X :=
  ⟨fun base w0 w hS => (h.out base w0 w hS).mono fun _ _ h => .inl h⟩
theorem HX.mono {f : FuncId} {args : Array Value} {R R' : Value → Mem → Prop} {X X' : Mem → Prop} (h : HX P f args M R X) (hr : ∀ v M', R v M' → R' v M') (hx : ∀ M', X M' → X' M') : HX P f args M R' X' :=
  ⟨fun base w0 w hS => (h.out base w0 w hS).mono fun _ _ h => h.imp (fun ⟨v, M', h1, h2, h3⟩ => ⟨v, M', h1, h2, hr _ _ h3⟩) fun ⟨t, x, M', h1, h2, h3⟩ => ⟨t, x, M', h1, h2, hx _ h3⟩⟩
theorem HX.take {f : FuncId} {args : Array Value} {R : Value → Mem → Prop} {X : Mem → Prop} {L : Mem} (ht : Rk M L) (h : HX P f args L R X) : HX P f args M R X :=
  ⟨fun base w0 w hS => h.out base w0 w (hS.rk ht)⟩

theorem HX_of_W {f : FuncId} {fn : Func} {c : Code} {vs : List Value} {R : Value → Mem → Prop} {X : Mem → Prop} {rs : List ResultVar} {n : Nat} (hf : P.funcs[f]? = some fn) (hb : fn.body = some c) (hN : fn.ntmps = n)
    (hrs : fn.results.toList = rs) (hs : Nat.ble vs.length n = true) (h : W false P ⟨n, []⟩ (EndsX rs R X) c [] (zipEnv 0 vs) M) : HX P f vs.toArray M R X := by
  constructor
  intro base w0 w hS
  have hle : vs.length ≤ n := by simpa using hs
  refine calls_of_wp hf hb (wp_mono (h.out.out base w0 _ w ⟨rfl, by simp [hN]; omega, fun i v hv => ?_⟩ hS) ?_)
  · obtain ⟨h1, h2⟩ := zipEnv_get vs 0 i v hv
    simp only [Nat.sub_zero] at h2
    have hi : i < vs.length := by
      rcases Nat.lt_or_ge i vs.length with h | h
      · exact h
      · simp [List.getElem?_eq_none h] at h2
    rw [Array.getElem?_append_left (by simpa using hi)]
    simpa using h2
  · intro e a w' ⟨E', M', hA', hS', hq⟩
    cases e with
    | normal =>
      obtain ⟨v, hv, hR⟩ := hq
      exact ⟨hA'.defers, v, run_results hA' (by rw [hrs]; exact hv), .inl ⟨v, M', rfl, hS', hR⟩⟩
    | ret =>
      obtain ⟨v, hv, hR⟩ := hq
      exact ⟨hA'.defers, v, run_results hA' (by rw [hrs]; exact hv), .inl ⟨v, M', rfl, hS', hR⟩⟩
    | panic ch =>
      obtain ⟨⟨t, x, rfl⟩, hX⟩ := hq
      exact ⟨hA'.defers, .inr ⟨t, x, M', rfl, hS', hX⟩⟩
    | _ => exact hq.elim

/-- A panic leaves all that stands behind. -/
theorem post_pan {ch : List PanicEntry} : ∀ (k : List Kn), Fin (.panic ch) E M → post false P N Fin k (.panic ch) E M
  | [], h => h
  | .code _ :: k, h => post_pan k h
  | .blk _ :: k, h => post_pan k h
  | .stop _ :: k, h => post_pan k h

theorem O_callX {c : Operand} {xs : List Operand} {ts : Array TypeId} {f : FuncId} {first captured : Array Value} {vs : List Value} {R : Value → Mem → Prop} {X : Mem → Prop}
    (hc : ev E c = some (.func (.func f) first captured)) (hx : evs E xs = some vs) (hf : Callable P f) (hg : On E ops g) (hd : Nat.blt d N.n = true)
    (hR : HX P f (first ++ vs.toArray ++ captured) M R X) (h : ∀ v M', R v M' → WO false P N Fin ops rest k ((d, v) :: E) M') (hp : ∀ t x M', X M' → Fin (.panic [{ v := .iface t x, recovered := false }]) E M') :
    WO false P N Fin ops (⟨some d, .call { callee := .value c, args := xs.toArray, argTypes := ts }, ty, pos, after, g⟩ :: rest) k E M := by
  refine ⟨⟨fun base w0 a w hA hS => ?_⟩⟩
  unfold wpList
  rw [if_pos (On.wanted (o := ⟨some d, .call { callee := .value c, args := xs.toArray, argTypes := ts }, ty, pos, after, g⟩) hg hA)]
  refine .inl ?_
  unfold Oper.wp
  have hr : (execOp a.eval ⟨some d, .call { callee := .value c, args := xs.toArray, argTypes := ts }, ty, pos, after, g⟩).run P w = .ok (.enter f (first ++ vs.toArray ++ captured)) w := by
    have e : xs.toArray.map a.eval = vs.toArray := by simp [hA.evals hx]
    simp [execOp, resolve, e, hA.eval hc, Deferred.ofValue, invoke, run_callFunc hf]
  rw [hr]
  refine (hR.out base w0 w hS).mono fun e w' he => ?_
  rcases he with ⟨v, M', rfl, hS', hv⟩ | ⟨t, x, M', rfl, hS', hX⟩
  · exact (h v M' hv).out.out base w0 _ w' (hA.put hd v) hS'
  · exact ⟨E, M', hA, hS', post_pan k (hp t x M' hX)⟩

/-- An index that is out of range. -/
theorem O_idxPan {t e : TypeId} {x i : Operand} {b : Addr} {len cap : Nat} {z : Int} (ht : Und P t (.slice e)) (hx : ev E x = some (.slice (some b) len cap)) (hi : ev E i = some (.int .u64 z)) (hz : (len : Int) ≤ z) (hg : On E ops g)
    (h : ∀ t x, Fin (.panic [{ v := .iface t x, recovered := false }]) E M) : WO false P N Fin ops (⟨some d, .indexAddr t x i, ty, pos, after, g⟩ :: rest) k E M := by
  refine ⟨⟨fun base w0 a w hA hS => ?_⟩⟩
  unfold wpList
  rw [if_pos (On.wanted (o := ⟨some d, .indexAddr t x i, ty, pos, after, g⟩) hg hA)]
  refine .inl ?_
  unfold Oper.wp
  have hno : ¬ (0 ≤ z ∧ z < len) := by omega
  have hp : (program : Sem Program).run P w = .ok P w := rfl
  have hr : (execOp a.eval ⟨some d, .indexAddr t x i, ty, pos, after, g⟩).run P w = .halt (.panic (.iface P.rt.boundsError (.agg #[.int .i64 (IntKind.i64.wrap z), .int .i64 len, .bool false, .int .u8 BoundsCode.index.toNat]))) w := by
    simp [execOp, Instr.indexAt, hA.eval hx, hA.eval hi, asIntOf, ht.run, hno, boundsPanic, runtimePanic, hp, goPanic]
  rw [hr]
  exact ⟨E, M, hA, hS, post_pan k (h _ _)⟩
end
end Go.Proofs.Ytjkpfliaflmppaa.Vm

namespace Go.Proofs.Ytjkpfliaflmppaa.Hu
open Go Go.RowKit Go.Proofs.Ytjkpfliaflmppaa.Vm Go.Proofs.Ytjkpfliaflmppaa.Pc

theorem wrap32 (z : Int) : IntKind.u32.wrap z = z % 4294967296 := by simp [IntKind.wrap, IntKind.signed, IntKind.bits]
theorem wrap64 (z : Int) : IntKind.u64.wrap z = z % 18446744073709551616 := by simp [IntKind.wrap, IntKind.signed, IntKind.bits]

def b1 (h : List Int) (nb : Nat) : List Int := h.set (nb - 1) ((h.getD (nb - 1) 0 - 1) % 4294967296)
def b2 (h : List Int) (nb : Nat) : List Int := h.set nb ((h.getD nb 0 + 3) % 4294967296)
def b3 (h : List Int) (nb : Nat) : List Int := h.set (nb + 1) ((h.getD (nb + 1) 0 - 2) % 4294967296)
/-- One turn at nb. -/
def bsM (h : List Int) (nb : Nat) : List Int := b3 (b2 (b1 h nb) nb) nb
/-- The turns at nb, with d ones below it first. -/
def rotM (h : List Int) : Nat → Nat → List Int
  | nb, 0 => bsM h nb
  | nb, d + 1 => bsM (rotM h (nb - 1) d) nb
/-- The nearest length in use below nb is d further down. -/
def Dn (h : List Int) : Nat → Nat → Prop
  | nb, 0 => h.getD (nb - 1) 0 ≠ 0
  | nb, d + 1 => h.getD (nb - 1) 0 = 0 ∧ Dn h (nb - 1) d
theorem bsM_length (h : List Int) (nb : Nat) : (bsM h nb).length = h.length := by simp [bsM, b1, b2, b3]
theorem rotM_length (h : List Int) : ∀ d nb, (rotM h nb d).length = h.length
  | 0, nb => bsM_length h nb
  | d + 1, nb => by show (bsM _ nb).length = _; rw [bsM_length, rotM_length h d]

theorem row_get {h : List Int} {sp : List Value} {i : Nat} (hi : i < h.length) : (ints .u32 h ++ sp)[i]? = some (.int .u32 (h.getD i 0)) := by
  rw [List.getElem?_append_left (by rw [ints_length]; exact hi), ints_get hi]
theorem row_set {h : List Int} {sp : List Value} {i : Nat} (hi : i < h.length) (z : Int) : (ints .u32 h ++ sp).set i (.int .u32 z) = ints .u32 (h.set i z) ++ sp := by
  rw [List.set_append_left _ _ (by rw [ints_length]; exact hi), ints_set]

def rrow (sc tc hb L cap : Nat) (h : List Int) (sp : List Value) (F : Mem) : Mem :=
  ⟨true, sc, 0, [.slice (some ⟨hb, 0, none⟩) L cap]⟩ :: ⟨true, tc, 0, [.func (.func 103) #[] #[.pointer (some ⟨sc, 0, none⟩), .pointer (some ⟨tc, 0, none⟩)]]⟩ :: ⟨true, hb, 0, ints .u32 h ++ sp⟩ :: F

theorem rot103_c (sc tc hb L cap : Nat) (sp : List Value) (F : Mem) (hL : L ≤ 1000) : ∀ (d nb : Nat) (z : Int) (h : List Int), z = nb → h.length = L → d < nb → nb + 1 < L → Dn h nb d →
    HC Try.prog 103 #[.int .u64 z, .pointer (some ⟨sc, 0, none⟩), .pointer (some ⟨tc, 0, none⟩)] (rrow sc tc hb L cap h sp F) (fun _ M' => M' = rrow sc tc hb L cap (rotM h nb d) sp F) := by
  intro d
  induction d with
  | zero =>
    intro nb z h hz hl hd hn hD
    subst hz
    unfold Dn at hD
    unfold rrow
    refine HC_of_W (fn := Try.f103) Try.func103 rfl rfl rfl rfl ?_
    repeat' (first | (refine isO ?_; first | refine oo (Pc rfl) ?_ | refine oo (Pa rfl (by omega) (by omega)) ?_ | (refine ob rfl ?_ ?_ <;> intro hq <;> try (exfalso; omega)) | refine oo (Pi rfl (by omega)) ?_ | refine oo (Pl rfl) ?_ | refine oo (Px rfl rfl) ?_ | refine oo (Pj rfl (by omega) (by omega)) ?_ | refine oo (Pk rfl (by omega) (by omega)) ?_ | refine oo (Pf rfl) ?_ | refine oo (Pv rfl (by omega) (by omega)) ?_ | refine oo (Pn rfl) ?_ | refine oo (Pm rfl) ?_ | refine os rfl rfl ?_ | refine ot rfl (by omega) ?_ | refine O_nil ?_) | refine wo rfl ?_ | refine wc rfl ?_ | refine wg rfl ?_ | refine go rfl ?_ | refine gc rfl ?_ | refine gg rfl ?_)
    (refine O_pure (P_loadAt (o := 0) (n := nb - 1) Tb.p40 rfl (by omega) (.tail _ (.tail _ (.head _))) (row_get (by omega))) trivial rfl ?_)
    repeat' (first | (refine isO ?_; first | refine oo (Pc rfl) ?_ | refine oo (Pa rfl (by omega) (by omega)) ?_ | (refine ob rfl ?_ ?_ <;> intro hq <;> try (exfalso; omega)) | refine oo (Pi rfl (by omega)) ?_ | refine oo (Pl rfl) ?_ | refine oo (Px rfl rfl) ?_ | refine oo (Pj rfl (by omega) (by omega)) ?_ | refine oo (Pk rfl (by omega) (by omega)) ?_ | refine oo (Pf rfl) ?_ | refine oo (Pv rfl (by omega) (by omega)) ?_ | refine oo (Pn rfl) ?_ | refine oo (Pm rfl) ?_ | refine os rfl rfl ?_ | refine ot rfl (by omega) ?_ | refine O_nil ?_) | refine wo rfl ?_ | refine wc rfl ?_ | refine wg rfl ?_ | refine go rfl ?_ | refine gc rfl ?_ | refine gg rfl ?_)
    ((repeat' (first | (refine isO ?_; first | refine oo (Pc rfl) ?_ | refine oo (Pa rfl (by omega) (by omega)) ?_ | (refine ob rfl ?_ ?_ <;> intro hq <;> try (exfalso; omega)) | refine oo (Pi rfl (by omega)) ?_ | refine oo (Pl rfl) ?_ | refine oo (Px rfl rfl) ?_ | refine oo (Pj rfl (by omega) (by omega)) ?_ | refine oo (Pk rfl (by omega) (by omega)) ?_ | refine oo (Pf rfl) ?_ | refine oo (Pv rfl (by omega) (by omega)) ?_ | refine oo (Pn rfl) ?_ | refine oo (Pm rfl) ?_ | refine os rfl rfl ?_ | refine ot rfl (by omega) ?_ | refine O_nil ?_) | refine wo rfl ?_ | refine wc rfl ?_ | refine wg rfl ?_ | refine go rfl ?_ | refine gc rfl ?_ | refine gg rfl ?_)); (refine O_pure (P_loadAt (o := 0) (n := nb - 1) Tb.p40 rfl (by omega) (.tail _ (.tail _ (.head _))) (row_get (by omega))) trivial rfl ?_); refine O_pure (P_is (P_arw rfl rfl rfl) (congrArg (Value.int .u32) (wrap32 _))) trivial rfl ?_; (repeat' (first | (refine isO ?_; first | refine oo (Pc rfl) ?_ | refine oo (Pa rfl (by omega) (by omega)) ?_ | (refine ob rfl ?_ ?_ <;> intro hq <;> try (exfalso; omega)) | refine oo (Pi rfl (by omega)) ?_ | refine oo (Pl rfl) ?_ | refine oo (Px rfl rfl) ?_ | refine oo (Pj rfl (by omega) (by omega)) ?_ | refine oo (Pk rfl (by omega) (by omega)) ?_ | refine oo (Pf rfl) ?_ | refine oo (Pv rfl (by omega) (by omega)) ?_ | refine oo (Pn rfl) ?_ | refine oo (Pm rfl) ?_ | refine os rfl rfl ?_ | refine ot rfl (by omega) ?_ | refine O_nil ?_) | refine wo rfl ?_ | refine wc rfl ?_ | refine wg rfl ?_ | refine go rfl ?_ | refine gc rfl ?_ | refine gg rfl ?_)); refine O_storeAt (o := 0) (n := nb - 1) Tb.c40 rfl (by omega) rfl rfl trivial (by rw [List.length_append, ints_length]; omega) (row_set (by omega) _) (.tail (.tail .head)) ?_; (repeat' (first | (refine isO ?_; first | refine oo (Pc rfl) ?_ | refine oo (Pa rfl (by omega) (by omega)) ?_ | (refine ob rfl ?_ ?_ <;> intro hq <;> try (exfalso; omega)) | refine oo (Pi rfl (by omega)) ?_ | refine oo (Pl rfl) ?_ | refine oo (Px rfl rfl) ?_ | refine oo (Pj rfl (by omega) (by omega)) ?_ | refine oo (Pk rfl (by omega) (by omega)) ?_ | refine oo (Pf rfl) ?_ | refine oo (Pv rfl (by omega) (by omega)) ?_ | refine oo (Pn rfl) ?_ | refine oo (Pm rfl) ?_ | refine os rfl rfl ?_ | refine ot rfl (by omega) ?_ | refine O_nil ?_) | refine wo rfl ?_ | refine wc rfl ?_ | refine wg rfl ?_ | refine go rfl ?_ | refine gc rfl ?_ | refine gg rfl ?_)); refine O_pure (P_loadAt (o := 0) (n := nb) Tb.p40 rfl (by omega) (.tail _ (.tail _ (.head _))) (row_get (by rw [List.length_set]; omega))) trivial rfl ?_; refine O_pure (P_is (P_arw rfl rfl rfl) (congrArg (Value.int .u32) (wrap32 _))) trivial rfl ?_; (repeat' (first | (refine isO ?_; first | refine oo (Pc rfl) ?_ | refine oo (Pa rfl (by omega) (by omega)) ?_ | (refine ob rfl ?_ ?_ <;> intro hq <;> try (exfalso; omega)) | refine oo (Pi rfl (by omega)) ?_ | refine oo (Pl rfl) ?_ | refine oo (Px rfl rfl) ?_ | refine oo (Pj rfl (by omega) (by omega)) ?_ | refine oo (Pk rfl (by omega) (by omega)) ?_ | refine oo (Pf rfl) ?_ | refine oo (Pv rfl (by omega) (by omega)) ?_ | refine oo (Pn rfl) ?_ | refine oo (Pm rfl) ?_ | refine os rfl rfl ?_ | refine ot rfl (by omega) ?_ | refine O_nil ?_) | refine wo rfl ?_ | refine wc rfl ?_ | refine wg rfl ?_ | refine go rfl ?_ | refine gc rfl ?_ | refine gg rfl ?_)); refine O_storeAt (o := 0) (n := nb) Tb.c40 rfl (by omega) rfl rfl trivial (by rw [List.length_append, ints_length, List.length_set]; omega) (row_set (by rw [List.length_set]; omega) _) (.tail (.tail .head)) ?_; (repeat' (first | (refine isO ?_; first | refine oo (Pc rfl) ?_ | refine oo (Pa rfl (by omega) (by omega)) ?_ | (refine ob rfl ?_ ?_ <;> intro hq <;> try (exfalso; omega)) | refine oo (Pi rfl (by omega)) ?_ | refine oo (Pl rfl) ?_ | refine oo (Px rfl rfl) ?_ | refine oo (Pj rfl (by omega) (by omega)) ?_ | refine oo (Pk rfl (by omega) (by omega)) ?_ | refine oo (Pf rfl) ?_ | refine oo (Pv rfl (by omega) (by omega)) ?_ | refine oo (Pn rfl) ?_ | refine oo (Pm rfl) ?_ | refine os rfl rfl ?_ | refine ot rfl (by omega) ?_ | refine O_nil ?_) | refine wo rfl ?_ | refine wc rfl ?_ | refine wg rfl ?_ | refine go rfl ?_ | refine gc rfl ?_ | refine gg rfl ?_)); refine O_pure (P_loadAt (o := 0) (n := nb + 1) Tb.p40 rfl (by omega) (.tail _ (.tail _ (.head _))) (row_get (by rw [List.length_set, List.length_set]; omega))) trivial rfl ?_; refine O_pure (P_is (P_arw rfl rfl rfl) (congrArg (Value.int .u32) (wrap32 _))) trivial rfl ?_; (repeat' (first | (refine isO ?_; first | refine oo (Pc rfl) ?_ | refine oo (Pa rfl (by omega) (by omega)) ?_ | (refine ob rfl ?_ ?_ <;> intro hq <;> try (exfalso; omega)) | refine oo (Pi rfl (by omega)) ?_ | refine oo (Pl rfl) ?_ | refine oo (Px rfl rfl) ?_ | refine oo (Pj rfl (by omega) (by omega)) ?_ | refine oo (Pk rfl (by omega) (by omega)) ?_ | refine oo (Pf rfl) ?_ | refine oo (Pv rfl (by omega) (by omega)) ?_ | refine oo (Pn rfl) ?_ | refine oo (Pm rfl) ?_ | refine os rfl rfl ?_ | refine ot rfl (by omega) ?_ | refine O_nil ?_) | refine wo rfl ?_ | refine wc rfl ?_ | refine wg rfl ?_ | refine go rfl ?_ | refine gc rfl ?_ | refine gg rfl ?_)); refine O_storeAt (o := 0) (n := nb + 1) Tb.c40 rfl (by omega) rfl rfl trivial (by rw [List.length_append, ints_length, List.length_set, List.length_set]; omega) (row_set (by rw [List.length_set, List.length_set]; omega) _) (.tail (.tail .head)) ?_; (repeat' (first | (refine isO ?_; first | refine oo (Pc rfl) ?_ | refine oo (Pa rfl (by omega) (by omega)) ?_ | (refine ob rfl ?_ ?_ <;> intro hq <;> try (exfalso; omega)) | refine oo (Pi rfl (by omega)) ?_ | refine oo (Pl rfl) ?_ | refine oo (Px rfl rfl) ?_ | refine oo (Pj rfl (by omega) (by omega)) ?_ | refine oo (Pk rfl (by omega) (by omega)) ?_ | refine oo (Pf rfl) ?_ | refine oo (Pv rfl (by omega) (by omega)) ?_ | refine oo (Pn rfl) ?_ | refine oo (Pm rfl) ?_ | refine os rfl rfl ?_ | refine ot rfl (by omega) ?_ | refine O_nil ?_) | refine wo rfl ?_ | refine wc rfl ?_ | refine wg rfl ?_ | refine go rfl ?_ | refine gc rfl ?_ | refine gg rfl ?_)))
    exact G_fin ⟨_, rfl, rfl⟩
  | succ d ih =>
    intro nb z h hz hl hd hn hD
    subst hz
    obtain ⟨hD1, hD2⟩ := hD
    have hih := ih (nb - 1) (nb - 1 : Int) h (by omega) hl (by omega) (by omega) hD2
    unfold rrow at *
    refine HC_of_W (fn := Try.f103) Try.func103 rfl rfl rfl rfl ?_
    repeat' (first | (refine isO ?_; first | refine oo (Pc rfl) ?_ | refine oo (Pa rfl (by omega) (by omega)) ?_ | (refine ob rfl ?_ ?_ <;> intro hq <;> try (exfalso; omega)) | refine oo (Pi rfl (by omega)) ?_ | refine oo (Pl rfl) ?_ | refine oo (Px rfl rfl) ?_ | refine oo (Pj rfl (by omega) (by omega)) ?_ | refine oo (Pk rfl (by omega) (by omega)) ?_ | refine oo (Pf rfl) ?_ | refine oo (Pv rfl (by omega) (by omega)) ?_ | refine oo (Pn rfl) ?_ | refine oo (Pm rfl) ?_ | refine os rfl rfl ?_ | refine ot rfl (by omega) ?_ | refine O_nil ?_) | refine wo rfl ?_ | refine wc rfl ?_ | refine wg rfl ?_ | refine go rfl ?_ | refine gc rfl ?_ | refine gg rfl ?_)
    (refine O_pure (P_loadAt (o := 0) (n := nb - 1) Tb.p40 rfl (by omega) (.tail _ (.tail _ (.head _))) (row_get (by omega))) trivial rfl ?_)
    rw [hD1]
    repeat' (first | (refine isO ?_; first | refine oo (Pc rfl) ?_ | refine oo (Pa rfl (by omega) (by omega)) ?_ | (refine ob rfl ?_ ?_ <;> intro hq <;> try (exfalso; omega)) | refine oo (Pi rfl (by omega)) ?_ | refine oo (Pl rfl) ?_ | refine oo (Px rfl rfl) ?_ | refine oo (Pj rfl (by omega) (by omega)) ?_ | refine oo (Pk rfl (by omega) (by omega)) ?_ | refine oo (Pf rfl) ?_ | refine oo (Pv rfl (by omega) (by omega)) ?_ | refine oo (Pn rfl) ?_ | refine oo (Pm rfl) ?_ | refine os rfl rfl ?_ | refine ot rfl (by omega) ?_ | refine O_nil ?_) | refine wo rfl ?_ | refine wc rfl ?_ | refine wg rfl ?_ | refine go rfl ?_ | refine gc rfl ?_ | refine gg rfl ?_)
    refine O_call rfl rfl Tb.k103 trivial rfl hih ?_
    rintro _ _ rfl
    have hl2 : (rotM h (nb - 1) d).length = L := by rw [rotM_length]; exact hl
    have e : rotM h nb (d + 1) = bsM (rotM h (nb - 1) d) nb := rfl
    rw [e]
    generalize rotM h (nb - 1) d = h2 at *
    clear hD1 hD2 hih ih
    ((repeat' (first | (refine isO ?_; first | refine oo (Pc rfl) ?_ | refine oo (Pa rfl (by omega) (by omega)) ?_ | (refine ob rfl ?_ ?_ <;> intro hq <;> try (exfalso; omega)) | refine oo (Pi rfl (by omega)) ?_ | refine oo (Pl rfl) ?_ | refine oo (Px rfl rfl) ?_ | refine oo (Pj rfl (by omega) (by omega)) ?_ | refine oo (Pk rfl (by omega) (by omega)) ?_ | refine oo (Pf rfl) ?_ | refine oo (Pv rfl (by omega) (by omega)) ?_ | refine oo (Pn rfl) ?_ | refine oo (Pm rfl) ?_ | refine os rfl rfl ?_ | refine ot rfl (by omega) ?_ | refine O_nil ?_) | refine wo rfl ?_ | refine wc rfl ?_ | refine wg rfl ?_ | refine go rfl ?_ | refine gc rfl ?_ | refine gg rfl ?_)); (refine O_pure (P_loadAt (o := 0) (n := nb - 1) Tb.p40 rfl (by omega) (.tail _ (.tail _ (.head _))) (row_get (by omega))) trivial rfl ?_); refine O_pure (P_is (P_arw rfl rfl rfl) (congrArg (Value.int .u32) (wrap32 _))) trivial rfl ?_; (repeat' (first | (refine isO ?_; first | refine oo (Pc rfl) ?_ | refine oo (Pa rfl (by omega) (by omega)) ?_ | (refine ob rfl ?_ ?_ <;> intro hq <;> try (exfalso; omega)) | refine oo (Pi rfl (by omega)) ?_ | refine oo (Pl rfl) ?_ | refine oo (Px rfl rfl) ?_ | refine oo (Pj rfl (by omega) (by omega)) ?_ | refine oo (Pk rfl (by omega) (by omega)) ?_ | refine oo (Pf rfl) ?_ | refine oo (Pv rfl (by omega) (by omega)) ?_ | refine oo (Pn rfl) ?_ | refine oo (Pm rfl) ?_ | refine os rfl rfl ?_ | refine ot rfl (by omega) ?_ | refine O_nil ?_) | refine wo rfl ?_ | refine wc rfl ?_ | refine wg rfl ?_ | refine go rfl ?_ | refine gc rfl ?_ | refine gg rfl ?_)); refine O_storeAt (o := 0) (n := nb - 1) Tb.c40 rfl (by omega) rfl rfl trivial (by rw [List.length_append, ints_length]; omega) (row_set (by omega) _) (.tail (.tail .head)) ?_; (repeat' (first | (refine isO ?_; first | refine oo (Pc rfl) ?_ | refine oo (Pa rfl (by omega) (by omega)) ?_ | (refine ob rfl ?_ ?_ <;> intro hq <;> try (exfalso; omega)) | refine oo (Pi rfl (by omega)) ?_ | refine oo (Pl rfl) ?_ | refine oo (Px rfl rfl) ?_ | refine oo (Pj rfl (by omega) (by omega)) ?_ | refine oo (Pk rfl (by omega) (by omega)) ?_ | refine oo (Pf rfl) ?_ | refine oo (Pv rfl (by omega) (by omega)) ?_ | refine oo (Pn rfl) ?_ | refine oo (Pm rfl) ?_ | refine os rfl rfl ?_ | refine ot rfl (by omega) ?_ | refine O_nil ?_) | refine wo rfl ?_ | refine wc rfl ?_ | refine wg rfl ?_ | refine go rfl ?_ | refine gc rfl ?_ | refine gg rfl ?_)); refine O_pure (P_loadAt (o := 0) (n := nb) Tb.p40 rfl (by omega) (.tail _ (.tail _ (.head _))) (row_get (by rw [List.length_set]; omega))) trivial rfl ?_; refine O_pure (P_is (P_arw rfl rfl rfl) (congrArg (Value.int .u32) (wrap32 _))) trivial rfl ?_; (repeat' (first | (refine isO ?_; first | refine oo (Pc rfl) ?_ | refine oo (Pa rfl (by omega) (by omega)) ?_ | (refine ob rfl ?_ ?_ <;> intro hq <;> try (exfalso; omega)) | refine oo (Pi rfl (by omega)) ?_ | refine oo (Pl rfl) ?_ | refine oo (Px rfl rfl) ?_ | refine oo (Pj rfl (by omega) (by omega)) ?_ | refine oo (Pk rfl (by omega) (by omega)) ?_ | refine oo (Pf rfl) ?_ | refine oo (Pv rfl (by omega) (by omega)) ?_ | refine oo (Pn rfl) ?_ | refine oo (Pm rfl) ?_ | refine os rfl rfl ?_ | refine ot rfl (by omega) ?_ | refine O_nil ?_) | refine wo rfl ?_ | refine wc rfl ?_ | refine wg rfl ?_ | refine go rfl ?_ | refine gc rfl ?_ | refine gg rfl ?_)); refine O_storeAt (o := 0) (n := nb) Tb.c40 rfl (by omega) rfl rfl trivial (by rw [List.length_append, ints_length, List.length_set]; omega) (row_set (by rw [List.length_set]; omega) _) (.tail (.tail .head)) ?_; (repeat' (first | (refine isO ?_; first | refine oo (Pc rfl) ?_ | refine oo (Pa rfl (by omega) (by omega)) ?_ | (refine ob rfl ?_ ?_ <;> intro hq <;> try (exfalso; omega)) | refine oo (Pi rfl (by omega)) ?_ | refine oo (Pl rfl) ?_ | refine oo (Px rfl rfl) ?_ | refine oo (Pj rfl (by omega) (by omega)) ?_ | refine oo (Pk rfl (by omega) (by omega)) ?_ | refine oo (Pf rfl) ?_ | refine oo (Pv rfl (by omega) (by omega)) ?_ | refine oo (Pn rfl) ?_ | refine oo (Pm rfl) ?_ | refine os rfl rfl ?_ | refine ot rfl (by omega) ?_ | refine O_nil ?_) | refine wo rfl ?_ | refine wc rfl ?_ | refine wg rfl ?_ | refine go rfl ?_ | refine gc rfl ?_ | refine gg rfl ?_)); refine O_pure (P_loadAt (o := 0) (n := nb + 1) Tb.p40 rfl (by omega) (.tail _ (.tail _ (.head _))) (row_get (by rw [List.length_set, List.length_set]; omega))) trivial rfl ?_; refine O_pure (P_is (P_arw rfl rfl rfl) (congrArg (Value.int .u32) (wrap32 _))) trivial rfl ?_; (repeat' (first | (refine isO ?_; first | refine oo (Pc rfl) ?_ | refine oo (Pa rfl (by omega) (by omega)) ?_ | (refine ob rfl ?_ ?_ <;> intro hq <;> try (exfalso; omega)) | refine oo (Pi rfl (by omega)) ?_ | refine oo (Pl rfl) ?_ | refine oo (Px rfl rfl) ?_ | refine oo (Pj rfl (by omega) (by omega)) ?_ | refine oo (Pk rfl (by omega) (by omega)) ?_ | refine oo (Pf rfl) ?_ | refine oo (Pv rfl (by omega) (by omega)) ?_ | refine oo (Pn rfl) ?_ | refine oo (Pm rfl) ?_ | refine os rfl rfl ?_ | refine ot rfl (by omega) ?_ | refine O_nil ?_) | refine wo rfl ?_ | refine wc rfl ?_ | refine wg rfl ?_ | refine go rfl ?_ | refine gc rfl ?_ | refine gg rfl ?_)); refine O_storeAt (o := 0) (n := nb + 1) Tb.c40 rfl (by omega) rfl rfl trivial (by rw [List.length_append, ints_length, List.length_set, List.length_set]; omega) (row_set (by rw [List.length_set, List.length_set]; omega) _) (.tail (.tail .head)) ?_; (repeat' (first | (refine isO ?_; first | refine oo (Pc rfl) ?_ | refine oo (Pa rfl (by omega) (by omega)) ?_ | (refine ob rfl ?_ ?_ <;> intro hq <;> try (exfalso; omega)) | refine oo (Pi rfl (by omega)) ?_ | refine oo (Pl rfl) ?_ | refine oo (Px rfl rfl) ?_ | refine oo (Pj rfl (by omega) (by omega)) ?_ | refine oo (Pk rfl (by omega) (by omega)) ?_ | refine oo (Pf rfl) ?_ | refine oo (Pv rfl (by omega) (by omega)) ?_ | refine oo (Pn rfl) ?_ | refine oo (Pm rfl) ?_ | refine os rfl rfl ?_ | refine ot rfl (by omega) ?_ | refine O_nil ?_) | refine wo rfl ?_ | refine wc rfl ?_ | refine wg rfl ?_ | refine go rfl ?_ | refine gc rfl ?_ | refine gg rfl ?_)))
    exact G_fin ⟨_, rfl, rfl⟩

/-- Where no length below nb is used, it panics. -/
theorem rot103_x (sc tc hb L cap : Nat) (sp : List Value) (F : Mem) (hL : L ≤ 1000) : ∀ (nb : Nat) (z : Int) (h : List Int), z = nb → h.length = L → nb < L → (∀ j, j < nb → h.getD j 0 = 0) →
    HX Try.prog 103 #[.int .u64 z, .pointer (some ⟨sc, 0, none⟩), .pointer (some ⟨tc, 0, none⟩)] (rrow sc tc hb L cap h sp F) (fun _ _ => False) (fun M' => M' = rrow sc tc hb L cap h sp F) := by
  intro nb
  induction nb with
  | zero =>
    intro z h hz hl hn h0
    subst hz
    unfold rrow
    refine HX_of_W (fn := Try.f103) Try.func103 rfl rfl rfl rfl ?_
    repeat' (first | (refine isO ?_; first | refine oo (Pc rfl) ?_ | refine oo (Pa rfl (by omega) (by omega)) ?_ | (refine ob rfl ?_ ?_ <;> intro hq <;> try (exfalso; omega)) | refine oo (Pi rfl (by omega)) ?_ | refine oo (Pl rfl) ?_ | refine oo (Px rfl rfl) ?_ | refine oo (Pj rfl (by omega) (by omega)) ?_ | refine oo (Pk rfl (by omega) (by omega)) ?_ | refine oo (Pf rfl) ?_ | refine oo (Pv rfl (by omega) (by omega)) ?_ | refine oo (Pn rfl) ?_ | refine oo (Pm rfl) ?_ | refine os rfl rfl ?_ | refine ot rfl (by omega) ?_ | refine O_nil ?_) | refine wo rfl ?_ | refine wc rfl ?_ | refine wg rfl ?_ | refine go rfl ?_ | refine gc rfl ?_ | refine gg rfl ?_)
    refine O_pure (P_is (P_arw rfl rfl rfl) (congrArg (Value.int .u64) (wrap64 _))) trivial rfl ?_
    exact O_idxPan Tb.u46 rfl rfl (by omega) trivial fun t x => ⟨⟨t, x, rfl⟩, rfl⟩
  | succ nb ih =>
    intro z h hz hl hn h0
    subst hz
    have h1 := h0 nb (by omega)
    have hih := ih ((nb + 1 : Nat) - 1 : Int) h (by omega) hl (by omega) fun j hj => h0 j (by omega)
    unfold rrow at *
    refine HX_of_W (fn := Try.f103) Try.func103 rfl rfl rfl rfl ?_
    repeat' (first | (refine isO ?_; first | refine oo (Pc rfl) ?_ | refine oo (Pa rfl (by omega) (by omega)) ?_ | (refine ob rfl ?_ ?_ <;> intro hq <;> try (exfalso; omega)) | refine oo (Pi rfl (by omega)) ?_ | refine oo (Pl rfl) ?_ | refine oo (Px rfl rfl) ?_ | refine oo (Pj rfl (by omega) (by omega)) ?_ | refine oo (Pk rfl (by omega) (by omega)) ?_ | refine oo (Pf rfl) ?_ | refine oo (Pv rfl (by omega) (by omega)) ?_ | refine oo (Pn rfl) ?_ | refine oo (Pm rfl) ?_ | refine os rfl rfl ?_ | refine ot rfl (by omega) ?_ | refine O_nil ?_) | refine wo rfl ?_ | refine wc rfl ?_ | refine wg rfl ?_ | refine go rfl ?_ | refine gc rfl ?_ | refine gg rfl ?_)
    refine O_pure (P_loadAt (o := 0) (n := nb) Tb.p40 rfl (by omega) (.tail _ (.tail _ (.head _))) (row_get (by omega))) trivial rfl ?_
    rw [h1]
    repeat' (first | (refine isO ?_; first | refine oo (Pc rfl) ?_ | refine oo (Pa rfl (by omega) (by omega)) ?_ | (refine ob rfl ?_ ?_ <;> intro hq <;> try (exfalso; omega)) | refine oo (Pi rfl (by omega)) ?_ | refine oo (Pl rfl) ?_ | refine oo (Px rfl rfl) ?_ | refine oo (Pj rfl (by omega) (by omega)) ?_ | refine oo (Pk rfl (by omega) (by omega)) ?_ | refine oo (Pf rfl) ?_ | refine oo (Pv rfl (by omega) (by omega)) ?_ | refine oo (Pn rfl) ?_ | refine oo (Pm rfl) ?_ | refine os rfl rfl ?_ | refine ot rfl (by omega) ?_ | refine O_nil ?_) | refine wo rfl ?_ | refine wc rfl ?_ | refine wg rfl ?_ | refine go rfl ?_ | refine gc rfl ?_ | refine gg rfl ?_)
    exact O_callX rfl rfl Tb.k103 trivial rfl hih (fun _ _ h => h.elim) fun t x M' hX => ⟨⟨t, x, rfl⟩, hX⟩

/-! ### What turns make of the numbers -/
def bsZ (g : Nat → Int) (nb j : Nat) : Int := g j + (if j + 1 = nb then -1 else 0) + (if j = nb then 3 else 0) + (if j = nb + 1 then -2 else 0)
def rotZ (g : Nat → Int) : Nat → Nat → Nat → Int
  | nb, 0 => bsZ g nb
  | nb, d + 1 => bsZ (rotZ g (nb - 1) d) nb
theorem set_getD (h : List Int) (i j : Nat) (z : Int) : (h.set i z).getD j 0 = if i = j ∧ i < h.length then z else h.getD j 0 := by
  rw [List.getD_eq_getElem?_getD, List.getElem?_set]
  by_cases e : i = j
  · subst e
    by_cases hi : i < h.length
    · rw [if_pos rfl, if_pos hi, if_pos ⟨rfl, hi⟩]; rfl
    · rw [if_pos rfl, if_neg hi, if_neg (fun h => hi h.2), List.getD_eq_getElem?_getD, List.getElem?_eq_none (by omega)]
  · rw [if_neg e, if_neg (fun h => e h.1), ← List.getD_eq_getElem?_getD]
/-- All numbers are those of 32 bits, and the same as told but for such. -/
def Cong (h : List Int) (g : Nat → Int) : Prop := ∀ j, j < h.length → 0 ≤ h.getD j 0 ∧ h.getD j 0 < 4294967296 ∧ (h.getD j 0) % 4294967296 = g j % 4294967296
theorem bsM_cong {h : List Int} {g : Nat → Int} {nb : Nat} (hc : Cong h g) (h1 : 1 ≤ nb) (h2 : nb + 1 < h.length) : Cong (bsM h nb) (bsZ g nb) := by
  intro j hj
  rw [bsM_length] at hj
  have q := hc j hj
  have q1 := hc (nb - 1) (by omega)
  have q2 := hc nb (by omega)
  have q3 := hc (nb + 1) (by omega)
  unfold bsM b3 b2 b1 bsZ
  simp only [set_getD, List.length_set]
  by_cases e1 : j + 1 = nb
  · rw [if_neg (by omega), if_neg (by omega), if_pos (by omega), if_pos (by omega), if_neg (by omega), if_neg (by omega)]
    rw [show nb - 1 = j by omega] at *
    omega
  · by_cases e2 : j = nb
    · subst e2
      rw [if_neg (by omega), if_pos (by omega), if_neg (by omega), if_neg (by omega), if_pos (by omega), if_neg (by omega)]
      omega
    · by_cases e3 : j = nb + 1
      · subst e3
        rw [if_pos (by omega), if_neg (by omega), if_neg (by omega), if_neg (by omega), if_neg (by omega), if_pos (by omega)]
        omega
      · rw [if_neg (by omega), if_neg (by omega), if_neg (by omega), if_neg (by omega), if_neg (by omega), if_neg (by omega)]
        omega
theorem rotM_cong {h : List Int} {g : Nat → Int} (hc : Cong h g) : ∀ d nb, d < nb → nb + 1 < h.length → Cong (rotM h nb d) (rotZ g nb d)
  | 0, nb, h1, h2 => bsM_cong hc h1 h2
  | d + 1, nb, h1, h2 => bsM_cong (rotM_cong hc d (nb - 1) (by omega) (by omega)) (by omega) (by rw [rotM_length]; exact h2)
/-- The change of all turns together. -/
def chg (nb d j : Nat) : Int := if d = 0 then (if j + 1 = nb then -1 else if j = nb then 3 else if j = nb + 1 then -2 else 0) else (if j + 1 + d = nb then -1 else if j + d = nb then 2 else if j = nb then 1 else if j = nb + 1 then -2 else 0)
theorem rotZ_chg (g : Nat → Int) : ∀ d nb j, d < nb → rotZ g nb d j = g j + chg nb d j
  | 0, nb, j, h => by
    show bsZ g nb j = _
    unfold bsZ chg
    rw [if_pos rfl]
    split <;> split <;> split <;> omega
  | d + 1, nb, j, h => by
    show bsZ (rotZ g (nb - 1) d) nb j = _
    unfold bsZ
    rw [rotZ_chg g d (nb - 1) j (by omega)]
    unfold chg
    rw [if_neg (show ¬ d + 1 = 0 by omega)]
    by_cases hd : d = 0
    · subst hd
      rw [if_pos rfl]
      split <;> split <;> split <;> split <;> (try split) <;> (try split) <;> (try split) <;> omega
    · rw [if_neg hd]
      split <;> split <;> split <;> split <;> (try split) <;> (try split) <;> (try split) <;> (try split) <;> omega
end Go.Proofs.Ytjkpfliaflmppaa.Hu

namespace Go.Proofs.Ytjkpfliaflmppaa.Hu
open Go Go.RowKit Go.Proofs.Ytjkpfliaflmppaa.Vm Go.Proofs.Ytjkpfliaflmppaa.Pc

def smZ (g : Nat → Int) : Nat → Int
  | 0 => 0
  | m + 1 => smZ g m + g m
theorem smZ_congr {g g' : Nat → Int} : ∀ m, (∀ j, j < m → g j = g' j) → smZ g m = smZ g' m
  | 0, _ => rfl
  | m + 1, h => by simp only [smZ]; rw [smZ_congr m fun j hj => h j (by omega), h m (by omega)]
theorem smZ_add (g g' : Nat → Int) : ∀ m, smZ (fun j => g j + g' j) m = smZ g m + smZ g' m
  | 0 => rfl
  | m + 1 => by simp only [smZ]; rw [smZ_add g g' m]; omega
theorem smZ_one (x : Nat) (c : Int) : ∀ m, smZ (fun j => if j = x then c else 0) m = if x < m then c else 0
  | 0 => by rw [if_neg (by omega)]; rfl
  | m + 1 => by
    simp only [smZ]
    rw [smZ_one x c m]
    by_cases h : x < m
    · rw [if_pos h, if_neg (by omega), if_pos (by omega)]; omega
    · by_cases e : m = x
      · rw [if_neg h, if_pos e, if_pos (by omega)]; omega
      · rw [if_neg h, if_neg e, if_neg (by omega)]; rfl
theorem smZ_nonneg {g : Nat → Int} : ∀ m, (∀ j, j < m → 0 ≤ g j) → 0 ≤ smZ g m
  | 0, _ => Int.le_refl _
  | m + 1, h => by simp only [smZ]; have := smZ_nonneg m fun j hj => h j (by omega); have := h m (by omega); omega
theorem smZ_ge {g : Nat → Int} {x : Nat} : ∀ m, (∀ j, j < m → 0 ≤ g j) → x < m → g x ≤ smZ g m
  | 0, _, h => by omega
  | m + 1, h, hx => by
    simp only [smZ]
    have h1 := smZ_nonneg m fun j hj => h j (by omega)
    by_cases e : x = m
    · subst e; omega
    · have := smZ_ge (x := x) m (fun j hj => h j (by omega)) (by omega); have := h m (by omega); omega
theorem smZ_cut {g : Nat → Int} {i : Nat} : ∀ m, i ≤ m → (∀ j, i ≤ j → j < m → g j = 0) → smZ g m = smZ g i
  | 0, h, _ => by rw [show i = 0 by omega]
  | m + 1, h, h0 => by
    by_cases e : i = m + 1
    · rw [e]
    · simp only [smZ]
      rw [smZ_cut m (by omega) fun j h1 h2 => h0 j h1 (by omega), h0 m (by omega) (by omega), Int.add_zero]
theorem smZ_zero {g : Nat → Int} (m : Nat) (h : ∀ j, j < m → g j = 0) : smZ g m = 0 := smZ_cut (i := 0) m (Nat.zero_le _) fun j _ hj => h j hj

theorem bsZ_sum (g w : Nat → Int) (nb m : Nat) (h1 : 1 ≤ nb) (h2 : nb + 1 < m) : smZ (fun j => bsZ g nb j * w j) m = smZ (fun j => g j * w j) m + (- w (nb - 1) + 3 * w nb - 2 * w (nb + 1)) := by
  have e : ∀ j, j < m → bsZ g nb j * w j = g j * w j + ((if j = nb - 1 then - w (nb - 1) else 0) + ((if j = nb then 3 * w nb else 0) + (if j = nb + 1 then - (2 * w (nb + 1)) else 0))) := by
    intro j hj
    unfold bsZ
    by_cases e1 : j = nb - 1
    · rw [if_pos (by omega), if_neg (by omega), if_neg (by omega), if_pos e1, if_neg (by omega), if_neg (by omega), e1, Int.add_zero, Int.add_zero, Int.add_mul]; omega
    · by_cases e2 : j = nb
      · rw [if_neg (by omega), if_pos e2, if_neg (by omega), if_neg e1, if_pos e2, if_neg (by omega), e2, Int.add_zero, Int.add_zero, Int.add_mul]; omega
      · by_cases e3 : j = nb + 1
        · rw [if_neg (by omega), if_neg e2, if_pos e3, if_neg e1, if_neg e2, if_pos e3, e3, Int.add_zero, Int.add_zero, Int.add_mul]; omega
        · rw [if_neg (by omega), if_neg e2, if_neg e3, if_neg e1, if_neg e2, if_neg e3]; simp
  rw [smZ_congr m e, smZ_add, smZ_add, smZ_add, smZ_one, smZ_one, smZ_one, if_pos (by omega), if_pos (by omega), if_pos h2]
  omega
theorem rotZ_sum (g w : Nat → Int) (m : Nat) (hw : ∀ nb, 1 ≤ nb → nb + 1 < m → - w (nb - 1) + 3 * w nb - 2 * w (nb + 1) = 0) : ∀ d nb, d < nb → nb + 1 < m → smZ (fun j => rotZ g nb d j * w j) m = smZ (fun j => g j * w j) m
  | 0, nb, h1, h2 => by
    show smZ (fun j => bsZ g nb j * w j) m = _
    rw [bsZ_sum g w nb m (by omega) h2, hw nb (by omega) h2, Int.add_zero]
  | d + 1, nb, h1, h2 => by
    show smZ (fun j => bsZ (rotZ g (nb - 1) d) nb j * w j) m = _
    rw [bsZ_sum _ w nb m (by omega) h2, hw nb (by omega) h2, Int.add_zero]
    exact rotZ_sum g w m hw d (nb - 1) (by omega) (by omega)

/-- So many codes, lengths that leave nothing over, none longer than i. -/
structure Hs (L n i : Nat) (h : List Int) : Prop where
  len : h.length = L
  pos : ∀ j, j < L → 0 ≤ h.getD j 0
  zero : h.getD 0 0 = 0
  top : ∀ j, i < j → j < L → h.getD j 0 = 0
  cnt : smZ (fun j => h.getD j 0) L = n
  kra : smZ (fun j => h.getD j 0 * 2 ^ (64 - j)) L = 2 ^ 64
theorem Hs.le {L n i : Nat} {h : List Int} (hs : Hs L n i h) {j : Nat} (hj : j < L) : h.getD j 0 ≤ n := by rw [← hs.cnt]; exact smZ_ge L hs.pos hj
theorem dn_zero {h : List Int} : ∀ {d nb j : Nat}, Dn h nb d → nb ≤ j + d → j < nb → h.getD j 0 = 0
  | 0, nb, j, _, h1, h2 => by omega
  | d + 1, nb, j, hd, h1, h2 => by
    obtain ⟨e1, e2⟩ := hd
    by_cases e : j = nb - 1
    · rw [e]; exact e1
    · exact dn_zero e2 (by omega) (by omega)
theorem dn_pos {h : List Int} : ∀ {d nb : Nat}, Dn h nb d → h.getD (nb - d - 1) 0 ≠ 0
  | 0, nb, hd => hd
  | d + 1, nb, hd => by
    have := dn_pos hd.2
    rw [show nb - 1 - d - 1 = nb - (d + 1) - 1 by omega] at this
    exact this
theorem dn_or (h : List Int) : ∀ nb, (∃ d, d < nb ∧ Dn h nb d) ∨ ∀ j, j < nb → h.getD j 0 = 0
  | 0 => .inr fun j hj => by omega
  | nb + 1 => by
    by_cases e : h.getD nb 0 = 0
    · rcases dn_or h nb with ⟨d, h1, h2⟩ | h1
      · exact .inl ⟨d + 1, by omega, e, h2⟩
      · refine .inr fun j hj => ?_
        by_cases ej : j = nb
        · rw [ej]; exact e
        · exact h1 j (by omega)
    · exact .inl ⟨0, by omega, e⟩

theorem pw {a b : Nat} (h : a = b + 1) : (2 : Int) ^ a = 2 * 2 ^ b := by rw [h, Int.pow_succ]; omega
theorem pw_split {a b c : Nat} (h : a = b + c) : (2 : Int) ^ a = 2 ^ b * 2 ^ c := by rw [h, Int.pow_add]
theorem pw_pos (a : Nat) : (0 : Int) < 2 ^ a := Int.pow_pos (by omega)
/-- Sums of shorter lengths are whole numbers of twice the unit. -/
theorem kra_part (h : List Int) {i : Nat} (hi : 1 ≤ i) (h64 : i ≤ 64) : ∀ m, m ≤ i → ∃ q : Int, smZ (fun j => h.getD j 0 * 2 ^ (64 - j)) m = q * 2 ^ (65 - i)
  | 0, _ => ⟨0, by simp [smZ]⟩
  | m + 1, hm => by
    obtain ⟨q, hq⟩ := kra_part h hi h64 m (by omega)
    refine ⟨q + h.getD m 0 * 2 ^ (i - 1 - m), ?_⟩
    simp only [smZ]
    rw [hq, Int.add_mul, Int.mul_assoc, ← pw_split (show 64 - m = i - 1 - m + (65 - i) by omega)]
theorem Hs.sumTo {L n i : Nat} {h : List Int} (hs : Hs L n i h) (hi : i < L) : smZ (fun j => h.getD j 0 * 2 ^ (64 - j)) i + h.getD i 0 * 2 ^ (64 - i) = 2 ^ 64 ∧ smZ (fun j => h.getD j 0) i + h.getD i 0 = n := by
  have h1 := hs.kra
  have h2 := hs.cnt
  rw [smZ_cut (i := i + 1) L (by omega) fun j q1 q2 => by rw [hs.top j (by omega) q2, Int.zero_mul]] at h1
  rw [smZ_cut (i := i + 1) L (by omega) fun j q1 q2 => hs.top j (by omega) q2] at h2
  exact ⟨h1, h2⟩
theorem Hs.even {L n i : Nat} {h : List Int} (hs : Hs L n i h) (hi : i < L) (h1 : 1 ≤ i) (h64 : i ≤ 64) : ∃ e : Int, h.getD i 0 = 2 * e := by
  obtain ⟨k1, _⟩ := hs.sumTo hi
  obtain ⟨q, hq⟩ := kra_part h h1 h64 i (Nat.le_refl _)
  rw [hq, pw (show 65 - i = (64 - i) + 1 by omega), pw_split (show 64 = i + (64 - i) by omega), pw (show i = (i - 1) + 1 by omega)] at k1
  have e : (2 * q + h.getD i 0 - 2 * 2 ^ (i - 1)) * 2 ^ (64 - i) = 0 := by
    rw [Int.sub_mul, Int.add_mul]
    have : 2 * q * 2 ^ (64 - i) = q * (2 * 2 ^ (64 - i)) := by rw [Int.mul_comm 2 q, Int.mul_assoc]
    omega
  have hp := pw_pos (64 - i)
  rcases Int.mul_eq_zero.1 e with e | e
  · exact ⟨2 ^ (i - 1) - q, by omega⟩
  · omega
/-- Where no shorter length is left, there are more codes than fit. -/
theorem Hs.none {L n i : Nat} {h : List Int} (hs : Hs L n i h) (hi : i < L) (h2 : 2 ≤ i) (h64 : i ≤ 64) (hp : 0 < h.getD i 0) (h0 : ∀ j, j < i - 1 → h.getD j 0 = 0) : 2 ^ (i - 1) < n := by
  obtain ⟨k1, k2⟩ := hs.sumTo hi
  rw [show i = (i - 1) + 1 by omega] at k1 k2
  simp only [smZ] at k1 k2
  rw [smZ_zero (i - 1) (fun j hj => by rw [h0 j hj, Int.zero_mul]), show i - 1 + 1 = i by omega] at k1
  rw [smZ_zero (i - 1) h0, show i - 1 + 1 = i by omega] at k2
  rw [pw (show 64 - (i - 1) = (64 - i) + 1 by omega), pw_split (show 64 = i + (64 - i) by omega), pw (show i = (i - 1) + 1 by omega)] at k1
  have e : (2 * h.getD (i - 1) 0 + h.getD i 0 - 2 * 2 ^ (i - 1)) * 2 ^ (64 - i) = 0 := by
    rw [Int.sub_mul, Int.add_mul]
    have : 2 * h.getD (i - 1) 0 * 2 ^ (64 - i) = h.getD (i - 1) 0 * (2 * 2 ^ (64 - i)) := by rw [Int.mul_comm 2 (h.getD (i - 1) 0), Int.mul_assoc]
    omega
  have hpp := pw_pos (64 - i)
  have hc : ((2 ^ (i - 1) : Nat) : Int) = 2 ^ (i - 1) := by simp
  rcases Int.mul_eq_zero.1 e with e | e <;> omega
/-- Lengths up to mb: no more codes than fit. -/
theorem Hs.fits {L n mb : Nat} {h : List Int} (hs : Hs L n mb h) (hi : mb < L) (h64 : mb ≤ 64) : n ≤ 2 ^ mb := by
  have key : ∀ m, m ≤ mb + 1 → smZ (fun j => h.getD j 0) m * 2 ^ (64 - mb) ≤ smZ (fun j => h.getD j 0 * 2 ^ (64 - j)) m := by
    intro m
    induction m with
    | zero => intro _; simp [smZ]
    | succ m ih =>
      intro hm
      have := ih (by omega)
      simp only [smZ]
      rw [Int.add_mul]
      have h1 := hs.pos m (by omega)
      have h2 : h.getD m 0 * 2 ^ (64 - mb) ≤ h.getD m 0 * 2 ^ (64 - m) := Int.mul_le_mul_of_nonneg_left (by
        rw [pw_split (show 64 - m = (mb - m) + (64 - mb) by omega)]
        have h3 := pw_pos (64 - mb)
        have h4 := pw_pos (mb - m)
        have := Int.mul_le_mul_of_nonneg_right (show (1 : Int) ≤ 2 ^ (mb - m) by omega) (Int.le_of_lt h3)
        omega) h1
      omega
  have h1 := hs.kra
  have h2 := hs.cnt
  rw [smZ_cut (i := mb + 1) L (by omega) fun j q1 q2 => by rw [hs.top j (by omega) q2, Int.zero_mul]] at h1
  rw [smZ_cut (i := mb + 1) L (by omega) fun j q1 q2 => hs.top j (by omega) q2] at h2
  have h3 := key (mb + 1) (Nat.le_refl _)
  rw [h1, h2, pw_split (show 64 = mb + (64 - mb) by omega)] at h3
  have h4 := Int.le_of_mul_le_mul_right h3 (pw_pos _)
  have hc : ((2 ^ mb : Nat) : Int) = 2 ^ mb := by simp
  omega
/-- One turning away. -/
theorem Hs.rot {L n i d : Nat} {h : List Int} (hs : Hs L n i h) (hi : i < L) (hL : L ≤ 64) (hn : n ≤ 1000) (h2 : 2 ≤ i) (hp : 0 < h.getD i 0) (hd : d < i - 1) (hD : Dn h (i - 1) d) :
    Hs L n i (rotM h (i - 1) d) ∧ (rotM h (i - 1) d).getD i 0 = h.getD i 0 - 2 := by
  obtain ⟨e, he⟩ := hs.even hi (by omega) (by omega)
  have hc : Cong h (fun j => h.getD j 0) := fun j hj => by
    have h1 := hs.pos j (by rw [← hs.len]; exact hj)
    have h3 := hs.le (j := j) (by rw [← hs.len]; exact hj)
    exact ⟨h1, by omega, rfl⟩
  have hm := rotM_cong hc d (i - 1) hd (by rw [hs.len]; omega)
  have hpos := dn_pos hD
  have hval : ∀ j, j < L → (rotM h (i - 1) d).getD j 0 = h.getD j 0 + chg (i - 1) d j := by
    intro j hj
    obtain ⟨q1, q2, q3⟩ := hm j (by rw [rotM_length, hs.len]; exact hj)
    rw [rotZ_chg _ d (i - 1) j hd] at q3
    have h1 := hs.pos j hj
    have h3 := hs.le hj
    have hbound : 0 ≤ h.getD j 0 + chg (i - 1) d j ∧ h.getD j 0 + chg (i - 1) d j < 4294967296 := by
      have hlo : j = i - 1 - d - 1 → 1 ≤ h.getD j 0 := fun ej => by
        rw [← ej] at hpos
        omega
      have hhi : j = i → 2 ≤ h.getD j 0 := fun ej => by subst ej; omega
      unfold chg
      split
      · split
        · have := hlo (by omega); omega
        · split
          · omega
          · split
            · have := hhi (by omega); omega
            · omega
      · split
        · have := hlo (by omega); omega
        · split
          · omega
          · split
            · omega
            · split
              · have := hhi (by omega); omega
              · omega
    omega
  refine ⟨⟨by rw [rotM_length]; exact hs.len, fun j hj => (hm j (by rw [rotM_length, hs.len]; exact hj)).1, ?_, ?_, ?_, ?_⟩, ?_⟩
  · rw [hval 0 (by omega), hs.zero]
    have hne : i - 1 - d - 1 ≠ 0 := fun e0 => hpos (by rw [e0]; exact hs.zero)
    unfold chg
    split <;> split <;> (try split) <;> (try split) <;> (try split) <;> omega
  · intro j h3 h4
    rw [hval j h4, hs.top j h3 h4]
    unfold chg
    split <;> split <;> (try split) <;> (try split) <;> (try split) <;> omega
  · rw [← hs.cnt, smZ_congr L (g' := fun j => rotZ (fun j => h.getD j 0) (i - 1) d j * 1) fun j hj => by rw [hval j hj, rotZ_chg _ d (i - 1) j hd, Int.mul_one],
      rotZ_sum _ (fun _ => 1) L (fun nb _ _ => by omega) d (i - 1) hd (by omega)]
    exact smZ_congr L fun j _ => Int.mul_one _
  · rw [← hs.kra, smZ_congr L (g' := fun j => rotZ (fun j => h.getD j 0) (i - 1) d j * 2 ^ (64 - j)) fun j hj => by rw [hval j hj, rotZ_chg _ d (i - 1) j hd],
      rotZ_sum _ (fun j => 2 ^ (64 - j)) L (fun nb q1 q2 => by
        rw [pw (show 64 - (nb - 1) = (64 - nb) + 1 by omega), pw (show 64 - nb = (64 - (nb + 1)) + 1 by omega)]; omega) d (i - 1) hd (by omega)]
  · rw [hval i hi]
    unfold chg
    split <;> split <;> (try split) <;> (try split) <;> (try split) <;> omega
end Go.Proofs.Ytjkpfliaflmppaa.Hu
