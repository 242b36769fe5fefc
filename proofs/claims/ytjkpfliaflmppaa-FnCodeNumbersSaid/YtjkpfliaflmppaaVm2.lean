/- The engine's rules for operations that write, make memory or call. No condition. -/
import Derived.Test.YtjkpfliaflmppaaVm1
namespace Go.Proofs.Ytjkpfliaflmppaa.Vm
open Go Go.RowKit

section
variable {pr : Bool} {P : Program} {N : Fm} {E : Env} {M : Mem} {Q : Post}
variable {ops : List Oper} {rest : List Oper} {d : Nat} {op : Op} {ty : TypeId} {pos : String} {after : Array Edge} {g : Option (Nat × Bool)} {v : Value}

theorem run_storeVar1 {t : TypeId} {ad : Addr} {u v : Value} {w : World} (ht : Cel P t 1) (hv : v.oneCell' = true) (hc : w.cell? ad = some u) (hf : w.frozen? ad = false) :
    (storeVar t ad v).run P w = .ok () (w.setCell ad v) := by
  obtain ⟨i, hi, hs⟩ := size_of ht.out (by omega)
  have hcells : v.cells = #[v] := by cases v <;> simp_all [Value.oneCell', Value.cells]
  have had : ad.add 0 = ad := by simp [Addr.add]
  simp [storeVar, sizeOf, typeInfo, hi, hs, hcells, storeCells, had, run_store P w ad v .plain hv, hc, hf]

theorem OL_store {t : TypeId} {p x : Operand} {b o n : Nat} {l : List Value} {v : Value} {M' : Mem} (ht : Cel P t 1) (hp : ev E p = some (.pointer (some ⟨b, o + n, none⟩))) (hx : ev E x = some v)
    (hv : v.oneCell' = true) (hg : On E ops g) (hn : n < l.length) (hu : Upd1 M ⟨true, b, o, l⟩ (l.set n v) M') (h : OL false P N ops Q rest E M') : OL false P N ops Q (⟨none, .store t p x, ty, pos, after, g⟩ :: rest) E M := by
  constructor
  intro base w0 a w hA hS
  have hs := hS.seg _ hu.mem
  have hc := hs.cell (i := n) (v := l[n]) (by simp [hn])
  have hf := hs.free rfl hn
  unfold wpList
  rw [if_pos (On.wanted (o := ⟨none, .store t p x, ty, pos, after, g⟩) hg hA)]
  refine .inl ?_
  unfold Oper.wp
  have hr : (execOp a.eval ⟨none, .store t p x, ty, pos, after, g⟩).run P w = .ok .skip (w.setCell ⟨b, o + n, none⟩ v) := by
    simp only [execOp, Instr.storeAt, Instr.sureAddr, hA.eval hp, hA.eval hx]
    simp [run_storeVar1 ht hv hc hf]
  rw [hr]
  exact h.out base w0 _ _ hA (hS.set rfl hn hu)

theorem OL_storei {t : TypeId} {p x : Operand} {b o : Nat} {l : List Int} {k : IntKind} {z v : Int} {M' : Mem} (ht : Cel P t 1) (hp : ev E p = some (.pointer (some ⟨b, o + z.toNat, none⟩)))
    (hx : ev E x = some (.int k v)) (hg : On E ops g) (hn : z.toNat < l.length) (hu : Upd1 M ⟨true, b, o, ints k l⟩ (ints k (wr l z v)) M') (h : OL false P N ops Q rest E M') :
    OL false P N ops Q (⟨none, .store t p x, ty, pos, after, g⟩ :: rest) E M :=
  OL_store (l := ints k l) ht hp hx rfl hg (by rw [ints_length]; exact hn) (by rw [ints_set]; exact hu) h

/-- A call of a Go function by its number. -/
def Callable (P : Program) (f : FuncId) : Prop := ∃ fn, P.funcs[f]? = some fn ∧ (fn.name == "runtime.NumGoroutine") = false ∧ fn.body.isNone = false

def evs (E : Env) : List Operand → Option (List Value)
  | [] => some []
  | x :: xs => match ev E x, evs E xs with
    | some v, some vs => some (v :: vs)
    | _, _ => none

theorem Ag.evals {a : Act} (h : Ag N E a) : ∀ {xs : List Operand} {vs : List Value}, evs E xs = some vs → xs.map a.eval = vs
  | [], vs, hv => by simp [evs] at hv; simp [hv]
  | x :: xs, vs, hv => by
    simp only [evs] at hv
    split at hv
    · rename_i v vs' h1 h2
      simp at hv
      subst hv
      simp [h.eval h1, h.evals h2]
    · simp at hv

theorem run_callFunc {f : FuncId} {args : Array Value} {w : World} (hf : Callable P f) : (callFunc f args).run P w = .ok (.enter f args) w := by
  obtain ⟨fn, h1, h2, h3⟩ := hf
  have h2' : ¬ fn.name = "runtime.NumGoroutine" := by simpa using h2
  have h3' : ¬ fn.body = none := by intro h; rw [h] at h3; simp at h3
  simp [callFunc, h1, h2', h3']

theorem OL_call {c : Operand} {xs : List Operand} {ts : Array TypeId} {f : FuncId} {first captured : Array Value} {vs : List Value} {R : Value → Mem → Prop}
    (hc : ev E c = some (.func (.func f) first captured)) (hx : evs E xs = some vs) (hf : Callable P f) (hg : On E ops g) (hd : Nat.blt d N.n = true)
    (hR : HC P f (first ++ vs.toArray ++ captured) M R) (h : ∀ v M', R v M' → OL false P N ops Q rest ((d, v) :: E) M') :
    OL false P N ops Q (⟨some d, .call { callee := .value c, args := xs.toArray, argTypes := ts }, ty, pos, after, g⟩ :: rest) E M := by
  constructor
  intro base w0 a w hA hS
  unfold wpList
  rw [if_pos (On.wanted (o := ⟨some d, .call { callee := .value c, args := xs.toArray, argTypes := ts }, ty, pos, after, g⟩) hg hA)]
  refine .inl ?_
  unfold Oper.wp
  have hr : (execOp a.eval ⟨some d, .call { callee := .value c, args := xs.toArray, argTypes := ts }, ty, pos, after, g⟩).run P w = .ok (.enter f (first ++ vs.toArray ++ captured)) w := by
    have e : xs.toArray.map a.eval = vs.toArray := by simp [hA.evals hx]
    simp [execOp, resolve, e, hA.eval hc, Deferred.ofValue, invoke, run_callFunc hf]
  rw [hr]
  refine (hR.out base w0 w hS).mono fun e w' ⟨v, M', he, hS', hv⟩ => ?_
  subst he
  exact (h v M' hv).out base w0 _ w' (hA.put hd v) hS'

/-- .. without results. -/
theorem OL_call0 {c : Operand} {xs : List Operand} {ts : Array TypeId} {f : FuncId} {first captured : Array Value} {vs : List Value} {R : Value → Mem → Prop}
    (hc : ev E c = some (.func (.func f) first captured)) (hx : evs E xs = some vs) (hf : Callable P f) (hg : On E ops g)
    (hR : HC P f (first ++ vs.toArray ++ captured) M R) (h : ∀ v M', R v M' → OL false P N ops Q rest E M') :
    OL false P N ops Q (⟨none, .call { callee := .value c, args := xs.toArray, argTypes := ts }, ty, pos, after, g⟩ :: rest) E M := by
  constructor
  intro base w0 a w hA hS
  unfold wpList
  rw [if_pos (On.wanted (o := ⟨none, .call { callee := .value c, args := xs.toArray, argTypes := ts }, ty, pos, after, g⟩) hg hA)]
  refine .inl ?_
  unfold Oper.wp
  have hr : (execOp a.eval ⟨none, .call { callee := .value c, args := xs.toArray, argTypes := ts }, ty, pos, after, g⟩).run P w = .ok (.enter f (first ++ vs.toArray ++ captured)) w := by
    have e : xs.toArray.map a.eval = vs.toArray := by simp [hA.evals hx]
    simp [execOp, resolve, e, hA.eval hc, Deferred.ofValue, invoke, run_callFunc hf]
  rw [hr]
  refine (hR.out base w0 w hS).mono fun e w' ⟨v, M', he, hS', hv⟩ => ?_
  subst he
  exact (h v M' hv).out base w0 _ w' hA hS'

theorem HCp.mono {f : FuncId} {args : Array Value} {R R' : Value → Mem → Prop} (h : HCp pr P f args M R) (hr : ∀ v M', R v M' → R' v M') : HCp pr P f args M R' :=
  ⟨fun base w0 w hS => (h.out base w0 w hS).mono fun _ _ ⟨v, M', h1, h2, h3⟩ => ⟨v, M', h1, h2, hr v M' h3⟩⟩

/-- A contract over some rows of memory, where there are more of them. -/
theorem HCp.take {f : FuncId} {args : Array Value} {R : Value → Mem → Prop} {L : Mem} (ht : Rk M L) (h : HCp pr P f args L R) : HCp pr P f args M R :=
  ⟨fun base w0 w hS => h.out base w0 w (hS.rk ht)⟩

/-- A call that turns nothing at all. -/
structure HP (P : Program) (f : FuncId) (args : Array Value) (M : Mem) (v : Value) : Prop where
  out : ∀ pr base w0 w, Sim pr base w0 w M → Calls P f args w fun e w' => e = .returned v ∧ w' = w

theorem HP.of {f : FuncId} {args : Array Value} {v : Value} (h : HCp true P f args M (fun u _ => u = v)) : HP P f args M v := by
  constructor
  intro pr base w0 w hS
  refine (h.out base w w ⟨Below.refl _ _, hS.hb, hS.seg, hS.dis, fun _ => rfl⟩).mono ?_
  rintro e w' ⟨u, M', rfl, hS', rfl⟩
  exact ⟨rfl, hS'.same rfl⟩

theorem HP.take {f : FuncId} {args : Array Value} {v : Value} {L : Mem} (ht : Rk M L) (h : HP P f args L v) : HP P f args M v :=
  ⟨fun pr base w0 w hS => h.out pr base w0 w (hS.rk ht)⟩

theorem HP.hc {f : FuncId} {args : Array Value} {v : Value} (h : HP P f args M v) : HCp pr P f args M (fun u M' => u = v ∧ M' = M) :=
  ⟨fun base w0 w hS => (h.out pr base w0 w hS).mono fun _ _ ⟨h1, h2⟩ => ⟨v, M, h1, h2 ▸ hS, rfl, rfl⟩⟩

theorem OL_callP {c : Operand} {xs : List Operand} {ts : Array TypeId} {f : FuncId} {first captured : Array Value} {vs : List Value} {v : Value}
    (hc : ev E c = some (.func (.func f) first captured)) (hx : evs E xs = some vs) (hf : Callable P f) (hg : On E ops g) (hd : Nat.blt d N.n = true)
    (hR : HP P f (first ++ vs.toArray ++ captured) M v) (h : OL pr P N ops Q rest ((d, v) :: E) M) :
    OL pr P N ops Q (⟨some d, .call { callee := .value c, args := xs.toArray, argTypes := ts }, ty, pos, after, g⟩ :: rest) E M := by
  constructor
  intro base w0 a w hA hS
  unfold wpList
  rw [if_pos (On.wanted (o := ⟨some d, .call { callee := .value c, args := xs.toArray, argTypes := ts }, ty, pos, after, g⟩) hg hA)]
  refine .inl ?_
  unfold Oper.wp
  have hr : (execOp a.eval ⟨some d, .call { callee := .value c, args := xs.toArray, argTypes := ts }, ty, pos, after, g⟩).run P w = .ok (.enter f (first ++ vs.toArray ++ captured)) w := by
    have e : xs.toArray.map a.eval = vs.toArray := by simp [hA.evals hx]
    simp [execOp, resolve, e, hA.eval hc, Deferred.ofValue, invoke, run_callFunc hf]
  rw [hr]
  refine (hR.out pr base w0 w hS).mono fun e w' ⟨he, hw⟩ => ?_
  subst he; subst hw
  exact h.out base w0 _ _ (hA.put hd v) hS

theorem OS_callP {K : Env → Prop} {c : Operand} {xs : List Operand} {ts : Array TypeId} {f : FuncId} {first captured : Array Value} {vs : List Value} {v : Value}
    (hc : ev E c = some (.func (.func f) first captured)) (hx : evs E xs = some vs) (hf : Callable P f) (hg : On E ops g) (hd : Nat.blt d N.n = true)
    (hR : HP P f (first ++ vs.toArray ++ captured) M v) (h : OS pr P N ops K rest ((d, v) :: E) M) :
    OS pr P N ops K (⟨some d, .call { callee := .value c, args := xs.toArray, argTypes := ts }, ty, pos, after, g⟩ :: rest) E M := by
  constructor
  intro base w0 a w hA hS
  unfold wpStill
  rw [if_pos (On.wanted (o := ⟨some d, .call { callee := .value c, args := xs.toArray, argTypes := ts }, ty, pos, after, g⟩) hg hA)]
  unfold Oper.still
  have hr : (execOp a.eval ⟨some d, .call { callee := .value c, args := xs.toArray, argTypes := ts }, ty, pos, after, g⟩).run P w = .ok (.enter f (first ++ vs.toArray ++ captured)) w := by
    have e : xs.toArray.map a.eval = vs.toArray := by simp [hA.evals hx]
    simp [execOp, resolve, e, hA.eval hc, Deferred.ofValue, invoke, run_callFunc hf]
  rw [hr]
  exact ⟨rfl, v, hR.out pr base w0 w hS, h.out base w0 _ w (hA.put hd v) hS⟩

/-! ### Entering a function -/

def zipEnv : Nat → List Value → Env
  | _, [] => []
  | n, v :: vs => (n, v) :: zipEnv (n + 1) vs

theorem zipEnv_get : ∀ (vs : List Value) (n i : Nat) (v : Value), (zipEnv n vs).get? i = some v → n ≤ i ∧ vs[i - n]? = some v
  | [], n, i, v, h => by simp [zipEnv, Env.get?] at h
  | u :: vs, n, i, v, h => by
    simp only [zipEnv, Env.get?] at h
    cases hb : Nat.beq n i with
    | true =>
      rw [hb] at h; simp at h
      have := Nat.eq_of_beq_eq_true hb
      subst this; subst h
      exact ⟨Nat.le_refl _, by simp⟩
    | false =>
      rw [hb] at h; simp at h
      obtain ⟨h1, h2⟩ := zipEnv_get vs (n + 1) i v h
      refine ⟨by omega, ?_⟩
      rw [show i - n = (i - (n + 1)) + 1 by omega]
      simpa using h2

/-- What the function hands back, out of its slots. -/
def resOf (E : Env) (rs : List ResultVar) : Option Value :=
  let rec go : List ResultVar → Option (List Value)
    | [] => some []
    | .tmp t :: rs => match E.get? t, go rs with
      | some v, some vs => some (v :: vs)
      | _, _ => none
    | .cell _ _ :: _ => none
  match go rs with
  | some [v] => some v
  | some vs => some (.tuple vs.toArray)
  | none => none

def resAt (tmps : Array Value) : ResultVar → Sem Value
  | .tmp t => pure (tmps.getD t undef)
  | .cell a t => do loadVar t (← asAddr (tmps.getD a undef))

theorem mapM_res {a : Act} (h : Ag N E a) (w : World) : ∀ (rs : List ResultVar) (vs : List Value), resOf.go E rs = some vs → (rs.mapM (resAt a.tmps)).run P w = .ok vs w
  | [], vs, hv => by simp [resOf.go] at hv; simp [hv]
  | .tmp t :: rs, vs, hv => by
    simp only [resOf.go] at hv
    split at hv
    · rename_i v vs' h1 h2
      simp at hv
      subst hv
      have h3 := h.val _ _ h1
      rw [List.mapM_cons]
      have h4 := mapM_res h w rs vs' h2
      have h5 : (resAt a.tmps (.tmp t)).run P w = .ok v w := by simp [resAt, Array.getD_eq_getD_getElem?, h3]
      rw [Sem.run_bind, h5, Result.andThen_ok, Sem.run_bind, h4]
      rfl
    · simp at hv
  | .cell _ _ :: rs, vs, hv => by simp [resOf.go] at hv

theorem results_eq (fn : Func) (tmps : Array Value) : results fn tmps = (do let vs ← fn.results.mapM (resAt tmps); pure (if h : vs.size = 1 then vs[0] else .tuple vs)) := rfl

theorem run_results {fn : Func} {a : Act} {v : Value} {w : World} (h : Ag N E a) (hr : resOf E fn.results.toList = some v) : (results fn a.tmps).run P w = .ok v w := by
  unfold resOf at hr
  rw [results_eq]
  have key : ∀ vs, resOf.go E fn.results.toList = some vs → (fn.results.mapM (resAt a.tmps)).run P w = .ok vs.toArray w := by
    intro vs hvs
    rw [Array.mapM_eq_mapM_toList]
    simp only [Sem.run_map, mapM_res h w _ _ hvs]
    rfl
  split at hr
  · rename_i u hu
    simp at hr; subst hr
    rw [Sem.run_bind, key _ hu]
    simp
  · rename_i vs hne hu
    simp at hr; subst hr
    rw [Sem.run_bind, key _ hu]
    have : ¬ vs.length = 1 := by
      intro h1
      match vs, hne, h1 with
      | [u], hne, _ => exact hne u rfl
    simp [this]
  · simp at hr

/-- The end of a function: what it hands back. -/
def Ends (rs : List ResultVar) (R : Value → Mem → Prop) : Post
  | .normal, E, M | .ret, E, M => ∃ v, resOf E rs = some v ∧ R v M
  | _, _, _ => False

theorem HC_of_V {f : FuncId} {fn : Func} {c : Code} {vs : List Value} {R : Value → Mem → Prop} {rs : List ResultVar} {n : Nat} (hf : P.funcs[f]? = some fn) (hb : fn.body = some c) (hN : fn.ntmps = n)
    (hrs : fn.results.toList = rs) (hs : Nat.ble vs.length n = true) (h : V pr P ⟨n, []⟩ c (Ends rs R) (zipEnv 0 vs) M) : HCp pr P f vs.toArray M R := by
  constructor
  intro base w0 w hS
  have hle : vs.length ≤ n := by simpa using hs
  refine calls_of_wp hf hb (wp_mono (h.out base w0 _ w ⟨rfl, by simp [hN]; omega, fun i v hv => ?_⟩ hS) ?_)
  · obtain ⟨h1, h2⟩ := zipEnv_get vs 0 i v hv
    simp only [Nat.sub_zero] at h2
    have hi : i < vs.length := by
      rcases Nat.lt_or_ge i vs.length with h | h
      · exact h
      · simp [List.getElem?_eq_none h] at h2
    rw [Array.getElem?_append_left (by simpa using hi)]
    simpa using h2
  · intro e a w' ⟨E', M', hA', hS', hq⟩
    cases e with
    | normal =>
      obtain ⟨v, hv, hR⟩ := hq
      exact ⟨hA'.defers, v, run_results hA' (by rw [hrs]; exact hv), v, M', rfl, hS', hR⟩
    | ret =>
      obtain ⟨v, hv, hR⟩ := hq
      exact ⟨hA'.defers, v, run_results hA' (by rw [hrs]; exact hv), v, M', rfl, hS', hR⟩
    | _ => exact hq.elim

/-! ### Slices -/

theorem P_len {x : Operand} {t e : TypeId} {base : Option Addr} {len cap : Nat} (ht : Und P t (.slice e)) (hx : ev E x = some (.slice base len cap)) :
    Pure P N E M (.call { callee := .builtin .len, args := #[x], argTypes := #[t] }) (.int .i64 len) := by
  constructor
  intro pr bs w0 a w hA hS d ty pos after g
  simp [execOp, resolve, invoke, builtin, Builtin.len_, hA.eval hx, ht.run, goInt]
theorem P_cap {x : Operand} {t e : TypeId} {base : Option Addr} {len cap : Nat} (ht : Und P t (.slice e)) (hx : ev E x = some (.slice base len cap)) :
    Pure P N E M (.call { callee := .builtin .cap, args := #[x], argTypes := #[t] }) (.int .i64 cap) := by
  constructor
  intro pr bs w0 a w hA hS d ty pos after g
  simp [execOp, resolve, invoke, builtin, Builtin.cap_, hA.eval hx, ht.run, goInt]

/-- A bound of a slice expression: what stands there, or what holds where nothing stands. -/
def bnd (E : Env) : Option Operand → Int → Int → Prop
  | none, dflt, z => z = dflt
  | some x, _, z => ∃ k, ev E x = some (.int k z)

theorem P_slice {t e : TypeId} {x : Operand} {lo hi : Option Operand} {b o len cap n : Nat} {l h : Int} (ht : Und P t (.slice e)) (he : Cel P e n) (hn : 0 < n)
    (hx : ev E x = some (.slice (some ⟨b, o, none⟩) len cap)) (hl : bnd E lo 0 l) (hh : bnd E hi len h) (h0 : 0 ≤ l) (h1 : l ≤ h) (h2 : h ≤ cap) (h3 : l < cap) :
    Pure P N E M (.slice t x lo hi none) (.slice (some ⟨b, o + l.toNat * n, none⟩) (h.toNat - l.toNat) (cap - l.toNat)) := by
  constructor
  intro pr bs w0 a w hA hS d ty pos after g
  obtain ⟨I, hI, hs⟩ := size_of he.out hn
  have hadd : (Addr.add ⟨b, o, none⟩ (l.toNat * n)) = ⟨b, o + l.toNat * n, none⟩ := by
    unfold Addr.add; split
    · rename_i h; simp [h]
    · rfl
  have hne : ¬ cap = l.toNat := by omega
  have hlh : (l : Int) ≤ h.toNat := by omega
  have hh0 : 0 ≤ h := by omega
  have hl' : lo.map a.eval = none ∧ l = 0 ∨ ∃ k, lo.map a.eval = some (.int k l) := by
    cases lo with
    | none => exact .inl ⟨rfl, hl⟩
    | some y => obtain ⟨k, hk⟩ := hl; exact .inr ⟨k, by simp [hA.eval hk]⟩
  have hh' : hi.map a.eval = none ∧ h = len ∨ ∃ k, hi.map a.eval = some (.int k h) := by
    cases hi with
    | none => exact .inl ⟨rfl, hh⟩
    | some y => obtain ⟨k, hk⟩ := hh; exact .inr ⟨k, by simp [hA.eval hk]⟩
  have hb : (Instr.sliceBounds true len cap (lo.map a.eval) (hi.map a.eval) none).run P w = .ok (l.toNat, h.toNat, cap) w := by
    rcases hl' with ⟨e1, rfl⟩ | ⟨k1, e1⟩ <;> rcases hh' with ⟨e2, rfl⟩ | ⟨k2, e2⟩ <;>
      simp [Instr.sliceBounds, Instr.sliceBound, e1, e2, asIntOf, h0, hh0, h1, h2, hlh]
    intro hm; omega
  simp [execOp, Instr.sliceAt, Instr.slice, hA.eval hx, ht.run, hb, sizeOf, typeInfo, hI, hs, hne, hadd]

/-- .. with elements of one cell. -/
theorem P_slice1 {t e : TypeId} {x : Operand} {lo hi : Option Operand} {b o len cap : Nat} {l h : Int} (ht : Und P t (.slice e)) (he : Cel P e 1)
    (hx : ev E x = some (.slice (some ⟨b, o, none⟩) len cap)) (hl : bnd E lo 0 l) (hh : bnd E hi len h) (h0 : 0 ≤ l) (h1 : l ≤ h) (h2 : h ≤ cap) (h3 : l < cap) :
    Pure P N E M (.slice t x lo hi none) (.slice (some ⟨b, o + l.toNat, none⟩) (h.toNat - l.toNat) (cap - l.toNat)) := by
  have := P_slice (N := N) (M := M) ht he (by omega) hx hl hh h0 h1 h2 h3
  simpa using this

theorem range_map_const (v : Value) (n : Nat) : ((Array.range n).map fun i => [v][i % 1]?.getD default) = Array.replicate n v := by
  apply Array.ext
  · simp
  · intro i h1 h2
    simp [Nat.mod_one]

theorem range_map_zero (f : Nat → Value) : ((Array.range 0).map f) = #[] := by
  apply Array.ext
  · simp
  · intro i h1 h2
    simp at h2

/-- 'make([]T, n)', T of one cell -/
theorem OL_make1 {t e : TypeId} {I : TypeInfo} {x : Operand} {k : IntKind} {z : Int} {v : Value} (ht : Und P t (.slice e)) (hI : P.info? e = some I) (hs : I.size = 1) (hz : I.zero = some v)
    (hv : v.cells = #[v]) (hx : ev E x = some (.int k z)) (h0 : 0 ≤ z) (h1 : (I.bytes : Int) * z ≤ 281474976710656) (h2 : z ≤ 9223372036854775807) (hg : On E ops g) (hd : Nat.blt d N.n = true)
    (h : ∀ b, OL false P N ops Q rest ((d, .slice (some ⟨b, 0, none⟩) z.toNat z.toNat) :: E) (⟨true, b, 0, List.replicate z.toNat v⟩ :: M)) : OL false P N ops Q (⟨some d, .makeSlice t x x, ty, pos, after, g⟩ :: rest) E M := by
  constructor
  intro base w0 a w hA hS
  unfold wpList
  rw [if_pos (On.wanted (o := ⟨some d, .makeSlice t x x, ty, pos, after, g⟩) hg hA)]
  refine .inl ?_
  unfold Oper.wp
  have hw : IntKind.i64.wrap z = z := wrap_id (k := .i64) (by simp [IntKind.min, IntKind.signed, IntKind.bits]; omega) (by simp [IntKind.max, IntKind.signed, IntKind.bits]; omega)
  have hr : (execOp a.eval ⟨some d, .makeSlice t x x, ty, pos, after, g⟩).run P w = .ok (.value (.slice (some ⟨w.heap.size, 0, none⟩) z.toNat z.toNat)) (w.alloc (.cells (Array.replicate z.toNat v) e)) := by
    have c1 : ¬ z < 0 := by omega
    have c2 : ¬ (281474976710656 : Int) < I.bytes * z := by omega
    by_cases hz0 : z.toNat = 0
    · simp [execOp, Instr.makeSlice, hA.eval hx, ht.run, asInt, asIntOf, typeInfo, hI, hw, c1, c2, sizeOf, hs, hz0, newRow]
      rw [range_map_zero]
    · simp [execOp, Instr.makeSlice, hA.eval hx, ht.run, asInt, asIntOf, typeInfo, hI, hw, c1, c2, sizeOf, hs, hz0, newRow, zeroValue, hz, hv, range_map_const]
  rw [hr]
  have := hS.alloc (Array.replicate z.toNat v) e
  simp only [Array.toList_replicate] at this
  exact (h w.heap.size).out base w0 _ _ (hA.put hd _) this
end
end Go.Proofs.Ytjkpfliaflmppaa.Vm
