/- The engine's rules for operations that write, make memory or call. No condition. Continuation stacks for the engine: each goal bears its code once. No condition. More rules of the engine: boxes, fields, structs, interface values, append, results that lie in memory. No condition. -/
import Derived.Test.YtjkpfliaflmppaaW9x00

namespace Go.Proofs.Ytjkpfliaflmppaa.Vm
open Go Go.RowKit

section
variable {pr : Bool} {P : Program} {N : Fm} {E : Env} {M : Mem} {Q : Post}
variable {ops : List Oper} {rest : List Oper} {d : Nat} {op : Op} {ty : TypeId} {pos : String} {after : Array Edge} {g : Option (Nat × Bool)} {v : Value}

theorem run_storeVar1 {t : TypeId} {ad : Addr} {u v : Value} {w : World} (ht : Cel P t 1) (hv : v.oneCell' = true) (hc : w.cell? ad = some u) (hf : w.frozen? ad = false) :
    (storeVar t ad v).run P w = .ok () (w.setCell ad v) := by
  obtain ⟨i, hi, hs⟩ := size_of ht.out (by omega)
  have hcells : v.cells = #[v] := by cases v <;> simp_all [Value.oneCell', Value.cells]
  have had : ad.add 0 = ad := by simp [Addr.add]
  simp [storeVar, sizeOf, typeInfo, hi, hs, hcells, storeCells, had, run_store P w ad v .plain hv, hc, hf]

theorem OL_store {t : TypeId} {p x : Operand} {b o n : Nat} {l : List Value} {v : Value} {M' : Mem} (ht : Cel P t 1) (hp : ev E p = some (.pointer (some ⟨b, o + n, none⟩))) (hx : ev E x = some v)
    (hv : v.oneCell' = true) (hg : On E ops g) (hn : n < l.length) (hu : Upd1 M ⟨true, b, o, l⟩ (l.set n v) M') (h : OL false P N ops Q rest E M') : OL false P N ops Q (⟨none, .store t p x, ty, pos, after, g⟩ :: rest) E M := by
  constructor
  intro base w0 a w hA hS
  have hs := hS.seg _ hu.mem
  have hc := hs.cell (i := n) (v := l[n]) (by simp [hn])
  have hf := hs.free rfl hn
  unfold wpList
  rw [if_pos (On.wanted (o := ⟨none, .store t p x, ty, pos, after, g⟩) hg hA)]
  refine .inl ?_
  unfold Oper.wp
  have hr : (execOp a.eval ⟨none, .store t p x, ty, pos, after, g⟩).run P w = .ok .skip (w.setCell ⟨b, o + n, none⟩ v) := by
    simp only [execOp, Instr.storeAt, Instr.sureAddr, hA.eval hp, hA.eval hx]
    simp [run_storeVar1 ht hv hc hf]
  rw [hr]
  exact h.out base w0 _ _ hA (hS.set rfl hn hu)

theorem OL_storei {t : TypeId} {p x : Operand} {b o : Nat} {l : List Int} {k : IntKind} {z v : Int} {M' : Mem} (ht : Cel P t 1) (hp : ev E p = some (.pointer (some ⟨b, o + z.toNat, none⟩)))
    (hx : ev E x = some (.int k v)) (hg : On E ops g) (hn : z.toNat < l.length) (hu : Upd1 M ⟨true, b, o, ints k l⟩ (ints k (wr l z v)) M') (h : OL false P N ops Q rest E M') :
    OL false P N ops Q (⟨none, .store t p x, ty, pos, after, g⟩ :: rest) E M :=
  OL_store (l := ints k l) ht hp hx rfl hg (by rw [ints_length]; exact hn) (by rw [ints_set]; exact hu) h

/-- A call of a Go function by its number. -/
def Callable (P : Program) (f : FuncId) : Prop := ∃ fn, P.funcs[f]? = some fn ∧ (fn.name == "runtime.NumGoroutine") = false ∧ fn.body.isNone = false

def evs (E : Env) : List Operand → Option (List Value)
  | [] => some []
  | x :: xs => match ev E x, evs E xs with
    | some v, some vs => some (v :: vs)
    | _, _ => none

theorem Ag.evals {a : Act} (h : Ag N E a) : ∀ {xs : List Operand} {vs : List Value}, evs E xs = some vs → xs.map a.eval = vs
  | [], vs, hv => by simp [evs] at hv; simp [hv]
  | x :: xs, vs, hv => by
    simp only [evs] at hv
    split at hv
    · rename_i v vs' h1 h2
      simp at hv
      subst hv
      simp [h.eval h1, h.evals h2]
    · simp at hv

theorem run_callFunc {f : FuncId} {args : Array Value} {w : World} (hf : Callable P f) : (callFunc f args).run P w = .ok (.enter f args) w := by
  obtain ⟨fn, h1, h2, h3⟩ := hf
  have h2' : ¬ fn.name = "runtime.NumGoroutine" := by simpa using h2
  have h3' : ¬ fn.body = none := by intro h; rw [h] at h3; simp at h3
  simp [callFunc, h1, h2', h3']

theorem OL_call {c : Operand} {xs : List Operand} {ts : Array TypeId} {f : FuncId} {first captured : Array Value} {vs : List Value} {R : Value → Mem → Prop}
    (hc : ev E c = some (.func (.func f) first captured)) (hx : evs E xs = some vs) (hf : Callable P f) (hg : On E ops g) (hd : Nat.blt d N.n = true)
    (hR : HC P f (first ++ vs.toArray ++ captured) M R) (h : ∀ v M', R v M' → OL false P N ops Q rest ((d, v) :: E) M') :
    OL false P N ops Q (⟨some d, .call { callee := .value c, args := xs.toArray, argTypes := ts }, ty, pos, after, g⟩ :: rest) E M := by
  constructor
  intro base w0 a w hA hS
  unfold wpList
  rw [if_pos (On.wanted (o := ⟨some d, .call { callee := .value c, args := xs.toArray, argTypes := ts }, ty, pos, after, g⟩) hg hA)]
  refine .inl ?_
  unfold Oper.wp
  have hr : (execOp a.eval ⟨some d, .call { callee := .value c, args := xs.toArray, argTypes := ts }, ty, pos, after, g⟩).run P w = .ok (.enter f (first ++ vs.toArray ++ captured)) w := by
    have e : xs.toArray.map a.eval = vs.toArray := by simp [hA.evals hx]
    simp [execOp, resolve, e, hA.eval hc, Deferred.ofValue, invoke, run_callFunc hf]
  rw [hr]
  refine (hR.out base w0 w hS).mono fun e w' ⟨v, M', he, hS', hv⟩ => ?_
  subst he
  exact (h v M' hv).out base w0 _ w' (hA.put hd v) hS'

/-- .. without results. -/
theorem OL_call0 {c : Operand} {xs : List Operand} {ts : Array TypeId} {f : FuncId} {first captured : Array Value} {vs : List Value} {R : Value → Mem → Prop}
    (hc : ev E c = some (.func (.func f) first captured)) (hx : evs E xs = some vs) (hf : Callable P f) (hg : On E ops g)
    (hR : HC P f (first ++ vs.toArray ++ captured) M R) (h : ∀ v M', R v M' → OL false P N ops Q rest E M') :
    OL false P N ops Q (⟨none, .call { callee := .value c, args := xs.toArray, argTypes := ts }, ty, pos, after, g⟩ :: rest) E M := by
  constructor
  intro base w0 a w hA hS
  unfold wpList
  rw [if_pos (On.wanted (o := ⟨none, .call { callee := .value c, args := xs.toArray, argTypes := ts }, ty, pos, after, g⟩) hg hA)]
  refine .inl ?_
  unfold Oper.wp
  have hr : (execOp a.eval ⟨none, .call { callee := .value c, args := xs.toArray, argTypes := ts }, ty, pos, after, g⟩).run P w = .ok (.enter f (first ++ vs.toArray ++ captured)) w := by
    have e : xs.toArray.map a.eval = vs.toArray := by simp [hA.evals hx]
    simp [execOp, resolve, e, hA.eval hc, Deferred.ofValue, invoke, run_callFunc hf]
  rw [hr]
  refine (hR.out base w0 w hS).mono fun e w' ⟨v, M', he, hS', hv⟩ => ?_
  subst he
  exact (h v M' hv).out base w0 _ w' hA hS'

theorem HCp.mono {f : FuncId} {args : Array Value} {R R' : Value → Mem → Prop} (h : HCp pr P f args M R) (hr : ∀ v M', R v M' → R' v M') : HCp pr P f args M R' :=
  ⟨fun base w0 w hS => (h.out base w0 w hS).mono fun _ _ ⟨v, M', h1, h2, h3⟩ => ⟨v, M', h1, h2, hr v M' h3⟩⟩

/-- A contract over some rows of memory, where there are more of them. -/
theorem HCp.take {f : FuncId} {args : Array Value} {R : Value → Mem → Prop} {L : Mem} (ht : Rk M L) (h : HCp pr P f args L R) : HCp pr P f args M R :=
  ⟨fun base w0 w hS => h.out base w0 w (hS.rk ht)⟩

/-- A call that turns nothing at all. -/
structure HP (P : Program) (f : FuncId) (args : Array Value) (M : Mem) (v : Value) : Prop where
  out : ∀ pr base w0 w, Sim pr base w0 w M → Calls P f args w fun e w' => e = .returned v ∧ w' = w

theorem HP.of {f : FuncId} {args : Array Value} {v : Value} (h : HCp true P f args M (fun u _ => u = v)) : HP P f args M v := by
  constructor
  intro pr base w0 w hS
  refine (h.out base w w ⟨Below.refl _ _, hS.hb, hS.seg, hS.dis, fun _ => rfl⟩).mono ?_
  rintro e w' ⟨u, M', rfl, hS', rfl⟩
  exact ⟨rfl, hS'.same rfl⟩

theorem HP.take {f : FuncId} {args : Array Value} {v : Value} {L : Mem} (ht : Rk M L) (h : HP P f args L v) : HP P f args M v :=
  ⟨fun pr base w0 w hS => h.out pr base w0 w (hS.rk ht)⟩

theorem HP.hc {f : FuncId} {args : Array Value} {v : Value} (h : HP P f args M v) : HCp pr P f args M (fun u M' => u = v ∧ M' = M) :=
  ⟨fun base w0 w hS => (h.out pr base w0 w hS).mono fun _ _ ⟨h1, h2⟩ => ⟨v, M, h1, h2 ▸ hS, rfl, rfl⟩⟩

theorem OL_callP {c : Operand} {xs : List Operand} {ts : Array TypeId} {f : FuncId} {first captured : Array Value} {vs : List Value} {v : Value}
    (hc : ev E c = some (.func (.func f) first captured)) (hx : evs E xs = some vs) (hf : Callable P f) (hg : On E ops g) (hd : Nat.blt d N.n = true)
    (hR : HP P f (first ++ vs.toArray ++ captured) M v) (h : OL pr P N ops Q rest ((d, v) :: E) M) :
    OL pr P N ops Q (⟨some d, .call { callee := .value c, args := xs.toArray, argTypes := ts }, ty, pos, after, g⟩ :: rest) E M := by
  constructor
  intro base w0 a w hA hS
  unfold wpList
  rw [if_pos (On.wanted (o := ⟨some d, .call { callee := .value c, args := xs.toArray, argTypes := ts }, ty, pos, after, g⟩) hg hA)]
  refine .inl ?_
  unfold Oper.wp
  have hr : (execOp a.eval ⟨some d, .call { callee := .value c, args := xs.toArray, argTypes := ts }, ty, pos, after, g⟩).run P w = .ok (.enter f (first ++ vs.toArray ++ captured)) w := by
    have e : xs.toArray.map a.eval = vs.toArray := by simp [hA.evals hx]
    simp [execOp, resolve, e, hA.eval hc, Deferred.ofValue, invoke, run_callFunc hf]
  rw [hr]
  refine (hR.out pr base w0 w hS).mono fun e w' ⟨he, hw⟩ => ?_
  subst he; subst hw
  exact h.out base w0 _ _ (hA.put hd v) hS

theorem OS_callP {K : Env → Prop} {c : Operand} {xs : List Operand} {ts : Array TypeId} {f : FuncId} {first captured : Array Value} {vs : List Value} {v : Value}
    (hc : ev E c = some (.func (.func f) first captured)) (hx : evs E xs = some vs) (hf : Callable P f) (hg : On E ops g) (hd : Nat.blt d N.n = true)
    (hR : HP P f (first ++ vs.toArray ++ captured) M v) (h : OS pr P N ops K rest ((d, v) :: E) M) :
    OS pr P N ops K (⟨some d, .call { callee := .value c, args := xs.toArray, argTypes := ts }, ty, pos, after, g⟩ :: rest) E M := by
  constructor
  intro base w0 a w hA hS
  unfold wpStill
  rw [if_pos (On.wanted (o := ⟨some d, .call { callee := .value c, args := xs.toArray, argTypes := ts }, ty, pos, after, g⟩) hg hA)]
  unfold Oper.still
  have hr : (execOp a.eval ⟨some d, .call { callee := .value c, args := xs.toArray, argTypes := ts }, ty, pos, after, g⟩).run P w = .ok (.enter f (first ++ vs.toArray ++ captured)) w := by
    have e : xs.toArray.map a.eval = vs.toArray := by simp [hA.evals hx]
    simp [execOp, resolve, e, hA.eval hc, Deferred.ofValue, invoke, run_callFunc hf]
  rw [hr]
  exact ⟨rfl, v, hR.out pr base w0 w hS, h.out base w0 _ w (hA.put hd v) hS⟩

/-! ### Entering a function -/

def zipEnv : Nat → List Value → Env
  | _, [] => []
  | n, v :: vs => (n, v) :: zipEnv (n + 1) vs

theorem zipEnv_get : ∀ (vs : List Value) (n i : Nat) (v : Value), (zipEnv n vs).get? i = some v → n ≤ i ∧ vs[i - n]? = some v
  | [], n, i, v, h => by simp [zipEnv, Env.get?] at h
  | u :: vs, n, i, v, h => by
    simp only [zipEnv, Env.get?] at h
    cases hb : Nat.beq n i with
    | true =>
      rw [hb] at h; simp at h
      have := Nat.eq_of_beq_eq_true hb
      subst this; subst h
      exact ⟨Nat.le_refl _, by simp⟩
    | false =>
      rw [hb] at h; simp at h
      obtain ⟨h1, h2⟩ := zipEnv_get vs (n + 1) i v h
      refine ⟨by omega, ?_⟩
      rw [show i - n = (i - (n + 1)) + 1 by omega]
      simpa using h2

/-- What the function hands back, out of its slots. -/
def resOf (E : Env) (rs : List ResultVar) : Option Value :=
  let rec go : List ResultVar → Option (List Value)
    | [] => some []
    | .tmp t :: rs => match E.get? t, go rs with
      | some v, some vs => some (v :: vs)
      | _, _ => none
    | .cell _ _ :: _ => none
  match go rs with
  | some [v] => some v
  | some vs => some (.tuple vs.toArray)
  | none => none

def resAt (tmps : Array Value) : ResultVar → Sem Value
  | .tmp t => pure (tmps.getD t undef)
  | .cell a t => do loadVar t (← asAddr (tmps.getD a undef))

theorem mapM_res {a : Act} (h : Ag N E a) (w : World) : ∀ (rs : List ResultVar) (vs : List Value), resOf.go E rs = some vs → (rs.mapM (resAt a.tmps)).run P w = .ok vs w
  | [], vs, hv => by simp [resOf.go] at hv; simp [hv]
  | .tmp t :: rs, vs, hv => by
    simp only [resOf.go] at hv
    split at hv
    · rename_i v vs' h1 h2
      simp at hv
      subst hv
      have h3 := h.val _ _ h1
      rw [List.mapM_cons]
      have h4 := mapM_res h w rs vs' h2
      have h5 : (resAt a.tmps (.tmp t)).run P w = .ok v w := by simp [resAt, Array.getD_eq_getD_getElem?, h3]
      rw [Sem.run_bind, h5, Result.andThen_ok, Sem.run_bind, h4]
      rfl
    · simp at hv
  | .cell _ _ :: rs, vs, hv => by simp [resOf.go] at hv

theorem results_eq (fn : Func) (tmps : Array Value) : results fn tmps = (do let vs ← fn.results.mapM (resAt tmps); pure (if h : vs.size = 1 then vs[0] else .tuple vs)) := rfl

theorem run_results {fn : Func} {a : Act} {v : Value} {w : World} (h : Ag N E a) (hr : resOf E fn.results.toList = some v) : (results fn a.tmps).run P w = .ok v w := by
  unfold resOf at hr
  rw [results_eq]
  have key : ∀ vs, resOf.go E fn.results.toList = some vs → (fn.results.mapM (resAt a.tmps)).run P w = .ok vs.toArray w := by
    intro vs hvs
    rw [Array.mapM_eq_mapM_toList]
    simp only [Sem.run_map, mapM_res h w _ _ hvs]
    rfl
  split at hr
  · rename_i u hu
    simp at hr; subst hr
    rw [Sem.run_bind, key _ hu]
    simp
  · rename_i vs hne hu
    simp at hr; subst hr
    rw [Sem.run_bind, key _ hu]
    have : ¬ vs.length = 1 := by
      intro h1
      match vs, hne, h1 with
      | [u], hne, _ => exact hne u rfl
    simp [this]
  · simp at hr

/-- The end of a function: what it hands back. -/
def Ends (rs : List ResultVar) (R : Value → Mem → Prop) : Post
  | .normal, E, M | .ret, E, M => ∃ v, resOf E rs = some v ∧ R v M
  | _, _, _ => False

theorem HC_of_V {f : FuncId} {fn : Func} {c : Code} {vs : List Value} {R : Value → Mem → Prop} {rs : List ResultVar} {n : Nat} (hf : P.funcs[f]? = some fn) (hb : fn.body = some c) (hN : fn.ntmps = n)
    (hrs : fn.results.toList = rs) (hs : Nat.ble vs.length n = true) (h : V pr P ⟨n, []⟩ c (Ends rs R) (zipEnv 0 vs) M) : HCp pr P f vs.toArray M R := by
  constructor
  intro base w0 w hS
  have hle : vs.length ≤ n := by simpa using hs
  refine calls_of_wp hf hb (wp_mono (h.out base w0 _ w ⟨rfl, by simp [hN]; omega, fun i v hv => ?_⟩ hS) ?_)
  · obtain ⟨h1, h2⟩ := zipEnv_get vs 0 i v hv
    simp only [Nat.sub_zero] at h2
    have hi : i < vs.length := by
      rcases Nat.lt_or_ge i vs.length with h | h
      · exact h
      · simp [List.getElem?_eq_none h] at h2
    rw [Array.getElem?_append_left (by simpa using hi)]
    simpa using h2
  · intro e a w' ⟨E', M', hA', hS', hq⟩
    cases e with
    | normal =>
      obtain ⟨v, hv, hR⟩ := hq
      exact ⟨hA'.defers, v, run_results hA' (by rw [hrs]; exact hv), v, M', rfl, hS', hR⟩
    | ret =>
      obtain ⟨v, hv, hR⟩ := hq
      exact ⟨hA'.defers, v, run_results hA' (by rw [hrs]; exact hv), v, M', rfl, hS', hR⟩
    | _ => exact hq.elim

/-! ### Slices -/

theorem P_len {x : Operand} {t e : TypeId} {base : Option Addr} {len cap : Nat} (ht : Und P t (.slice e)) (hx : ev E x = some (.slice base len cap)) :
    Pure P N E M (.call { callee := .builtin .len, args := #[x], argTypes := #[t] }) (.int .i64 len) := by
  constructor
  intro pr bs w0 a w hA hS d ty pos after g
  simp [execOp, resolve, invoke, builtin, Builtin.len_, hA.eval hx, ht.run, goInt]
theorem P_cap {x : Operand} {t e : TypeId} {base : Option Addr} {len cap : Nat} (ht : Und P t (.slice e)) (hx : ev E x = some (.slice base len cap)) :
    Pure P N E M (.call { callee := .builtin .cap, args := #[x], argTypes := #[t] }) (.int .i64 cap) := by
  constructor
  intro pr bs w0 a w hA hS d ty pos after g
  simp [execOp, resolve, invoke, builtin, Builtin.cap_, hA.eval hx, ht.run, goInt]

/-- A bound of a slice expression: what stands there, or what holds where nothing stands. -/
def bnd (E : Env) : Option Operand → Int → Int → Prop
  | none, dflt, z => z = dflt
  | some x, _, z => ∃ k, ev E x = some (.int k z)

theorem P_slice {t e : TypeId} {x : Operand} {lo hi : Option Operand} {b o len cap n : Nat} {l h : Int} (ht : Und P t (.slice e)) (he : Cel P e n) (hn : 0 < n)
    (hx : ev E x = some (.slice (some ⟨b, o, none⟩) len cap)) (hl : bnd E lo 0 l) (hh : bnd E hi len h) (h0 : 0 ≤ l) (h1 : l ≤ h) (h2 : h ≤ cap) (h3 : l < cap) :
    Pure P N E M (.slice t x lo hi none) (.slice (some ⟨b, o + l.toNat * n, none⟩) (h.toNat - l.toNat) (cap - l.toNat)) := by
  constructor
  intro pr bs w0 a w hA hS d ty pos after g
  obtain ⟨I, hI, hs⟩ := size_of he.out hn
  have hadd : (Addr.add ⟨b, o, none⟩ (l.toNat * n)) = ⟨b, o + l.toNat * n, none⟩ := by
    unfold Addr.add; split
    · rename_i h; simp [h]
    · rfl
  have hne : ¬ cap = l.toNat := by omega
  have hlh : (l : Int) ≤ h.toNat := by omega
  have hh0 : 0 ≤ h := by omega
  have hl' : lo.map a.eval = none ∧ l = 0 ∨ ∃ k, lo.map a.eval = some (.int k l) := by
    cases lo with
    | none => exact .inl ⟨rfl, hl⟩
    | some y => obtain ⟨k, hk⟩ := hl; exact .inr ⟨k, by simp [hA.eval hk]⟩
  have hh' : hi.map a.eval = none ∧ h = len ∨ ∃ k, hi.map a.eval = some (.int k h) := by
    cases hi with
    | none => exact .inl ⟨rfl, hh⟩
    | some y => obtain ⟨k, hk⟩ := hh; exact .inr ⟨k, by simp [hA.eval hk]⟩
  have hb : (Instr.sliceBounds true len cap (lo.map a.eval) (hi.map a.eval) none).run P w = .ok (l.toNat, h.toNat, cap) w := by
    rcases hl' with ⟨e1, rfl⟩ | ⟨k1, e1⟩ <;> rcases hh' with ⟨e2, rfl⟩ | ⟨k2, e2⟩ <;>
      simp [Instr.sliceBounds, Instr.sliceBound, e1, e2, asIntOf, h0, hh0, h1, h2, hlh]
    intro hm; omega
  simp [execOp, Instr.sliceAt, Instr.slice, hA.eval hx, ht.run, hb, sizeOf, typeInfo, hI, hs, hne, hadd]

/-- .. with elements of one cell. -/
theorem P_slice1 {t e : TypeId} {x : Operand} {lo hi : Option Operand} {b o len cap : Nat} {l h : Int} (ht : Und P t (.slice e)) (he : Cel P e 1)
    (hx : ev E x = some (.slice (some ⟨b, o, none⟩) len cap)) (hl : bnd E lo 0 l) (hh : bnd E hi len h) (h0 : 0 ≤ l) (h1 : l ≤ h) (h2 : h ≤ cap) (h3 : l < cap) :
    Pure P N E M (.slice t x lo hi none) (.slice (some ⟨b, o + l.toNat, none⟩) (h.toNat - l.toNat) (cap - l.toNat)) := by
  have := P_slice (N := N) (M := M) ht he (by omega) hx hl hh h0 h1 h2 h3
  simpa using this

theorem range_map_const (v : Value) (n : Nat) : ((Array.range n).map fun i => [v][i % 1]?.getD default) = Array.replicate n v := by
  apply Array.ext
  · simp
  · intro i h1 h2
    simp [Nat.mod_one]

theorem range_map_zero (f : Nat → Value) : ((Array.range 0).map f) = #[] := by
  apply Array.ext
  · simp
  · intro i h1 h2
    simp at h2

/-- 'make([]T, n)', T of one cell -/
theorem OL_make1 {t e : TypeId} {I : TypeInfo} {x : Operand} {k : IntKind} {z : Int} {v : Value} (ht : Und P t (.slice e)) (hI : P.info? e = some I) (hs : I.size = 1) (hz : I.zero = some v)
    (hv : v.cells = #[v]) (hx : ev E x = some (.int k z)) (h0 : 0 ≤ z) (h1 : (I.bytes : Int) * z ≤ 281474976710656) (h2 : z ≤ 9223372036854775807) (hg : On E ops g) (hd : Nat.blt d N.n = true)
    (h : ∀ b, OL false P N ops Q rest ((d, .slice (some ⟨b, 0, none⟩) z.toNat z.toNat) :: E) (⟨true, b, 0, List.replicate z.toNat v⟩ :: M)) : OL false P N ops Q (⟨some d, .makeSlice t x x, ty, pos, after, g⟩ :: rest) E M := by
  constructor
  intro base w0 a w hA hS
  unfold wpList
  rw [if_pos (On.wanted (o := ⟨some d, .makeSlice t x x, ty, pos, after, g⟩) hg hA)]
  refine .inl ?_
  unfold Oper.wp
  have hw : IntKind.i64.wrap z = z := wrap_id (k := .i64) (by simp [IntKind.min, IntKind.signed, IntKind.bits]; omega) (by simp [IntKind.max, IntKind.signed, IntKind.bits]; omega)
  have hr : (execOp a.eval ⟨some d, .makeSlice t x x, ty, pos, after, g⟩).run P w = .ok (.value (.slice (some ⟨w.heap.size, 0, none⟩) z.toNat z.toNat)) (w.alloc (.cells (Array.replicate z.toNat v) e)) := by
    have c1 : ¬ z < 0 := by omega
    have c2 : ¬ (281474976710656 : Int) < I.bytes * z := by omega
    by_cases hz0 : z.toNat = 0
    · simp [execOp, Instr.makeSlice, hA.eval hx, ht.run, asInt, asIntOf, typeInfo, hI, hw, c1, c2, sizeOf, hs, hz0, newRow]
      rw [range_map_zero]
    · simp [execOp, Instr.makeSlice, hA.eval hx, ht.run, asInt, asIntOf, typeInfo, hI, hw, c1, c2, sizeOf, hs, hz0, newRow, zeroValue, hz, hv, range_map_const]
  rw [hr]
  have := hS.alloc (Array.replicate z.toNat v) e
  simp only [Array.toList_replicate] at this
  exact (h w.heap.size).out base w0 _ _ (hA.put hd _) this
end
end Go.Proofs.Ytjkpfliaflmppaa.Vm

namespace Go.Proofs.Ytjkpfliaflmppaa.Vm
open Go Go.RowKit

/-- What stands behind a piece of code. -/
inductive Kn where
  | code (c : Code)
  | blk (id : Nat)
  | stop (K : Env → Mem → Prop)

def post (pr : Bool) (P : Program) (N : Fm) (Fin : Post) : List Kn → Post
  | [] => Fin
  | .code c :: k => Then (V pr P N c (post pr P N Fin k)) (post pr P N Fin k)
  | .blk id :: k => InBlock id (post pr P N Fin k)
  | .stop K :: k => Then K (post pr P N Fin k)

structure W (pr : Bool) (P : Program) (N : Fm) (Fin : Post) (c : Code) (k : List Kn) (E : Env) (M : Mem) : Prop where
  out : V pr P N c (post pr P N Fin k) E M
structure WO (pr : Bool) (P : Program) (N : Fm) (Fin : Post) (ops rest : List Oper) (k : List Kn) (E : Env) (M : Mem) : Prop where
  out : OL pr P N ops (post pr P N Fin k) rest E M
/-- To leave with e: the stack k goes on. -/
structure G (pr : Bool) (P : Program) (N : Fm) (Fin : Post) (e : Exit) (k : List Kn) (E : Env) (M : Mem) : Prop where
  out : post pr P N Fin k e E M

section
variable {pr : Bool} {P : Program} {N : Fm} {Fin : Post} {k : List Kn} {E : Env} {M : Mem}

theorem isW {c : Code} (h : W pr P N Fin c k E M) : W pr P N Fin c k E M := h
theorem isG {e : Exit} (h : G pr P N Fin e k E M) : G pr P N Fin e k E M := h
theorem isO {ops rest : List Oper} (h : WO pr P N Fin ops rest k E M) : WO pr P N Fin ops rest k E M := h
theorem isD {ops rest : List Oper} {d : Nat} {op : Op} {ty : TypeId} {pos : String} {after : Array Edge} {g : Option (Nat × Bool)} (h : WO pr P N Fin ops (⟨some d, op, ty, pos, after, g⟩ :: rest) k E M) : WO pr P N Fin ops (⟨some d, op, ty, pos, after, g⟩ :: rest) k E M := h
theorem isN {ops rest : List Oper} {op : Op} {ty : TypeId} {pos : String} {after : Array Edge} {g : Option (Nat × Bool)} (h : WO pr P N Fin ops (⟨none, op, ty, pos, after, g⟩ :: rest) k E M) : WO pr P N Fin ops (⟨none, op, ty, pos, after, g⟩ :: rest) k E M := h
theorem isB {ops rest : List Oper} {d : Nat} {bop : BinOp} {t t2 : TypeId} {x y : Operand} {ty : TypeId} {pos : String} {after : Array Edge} {g : Option (Nat × Bool)} (h : WO pr P N Fin ops (⟨some d, .binOp bop t x y t2, ty, pos, after, g⟩ :: rest) k E M) :
  WO pr P N Fin ops (⟨some d, .binOp bop t x y t2, ty, pos, after, g⟩ :: rest) k E M := h
theorem isL {ops rest : List Oper} {d : Nat} {t : TypeId} {x : Operand} {ty : TypeId} {pos : String} {after : Array Edge} {g : Option (Nat × Bool)} (h : WO pr P N Fin ops (⟨some d, .load t x, ty, pos, after, g⟩ :: rest) k E M) :
  WO pr P N Fin ops (⟨some d, .load t x, ty, pos, after, g⟩ :: rest) k E M := h
theorem isI {ops rest : List Oper} {d : Nat} {t : TypeId} {x y : Operand} {ty : TypeId} {pos : String} {after : Array Edge} {g : Option (Nat × Bool)} (h : WO pr P N Fin ops (⟨some d, .indexAddr t x y, ty, pos, after, g⟩ :: rest) k E M) :
  WO pr P N Fin ops (⟨some d, .indexAddr t x y, ty, pos, after, g⟩ :: rest) k E M := h

theorem W_seq {x y : Code} (h : W pr P N Fin x (.code y :: k) E M) : W pr P N Fin (.seq x y) k E M := ⟨V_seq h.out⟩
theorem W_block {id : Nat} {c : Code} (h : W pr P N Fin c (.blk id :: k) E M) : W pr P N Fin (.block id c) k E M := ⟨V_block h.out⟩
theorem W_skip (h : G pr P N Fin .normal k E M) : W pr P N Fin .skip k E M := ⟨V_skip h.out⟩
theorem W_exit {id : Nat} (h : G pr P N Fin (.exit id) k E M) : W pr P N Fin (.exit id) k E M := ⟨V_exit h.out⟩
theorem W_ret (h : G pr P N Fin .ret k E M) : W pr P N Fin .ret k E M := ⟨V_ret h.out⟩
theorem W_cond_t {c : Operand} {x y : Code} (hc : ev E c = some (.bool true)) (h : W pr P N Fin x k E M) : W pr P N Fin (.cond c x y) k E M := ⟨V_cond_t hc h.out⟩
theorem W_cond_f {c : Operand} {x y : Code} (hc : ev E c = some (.bool false)) (h : W pr P N Fin y k E M) : W pr P N Fin (.cond c x y) k E M := ⟨V_cond_f hc h.out⟩
theorem W_cond {c : Operand} {x y : Code} {t : Bool} (hc : ev E c = some (.bool t)) (h1 : t = true → W pr P N Fin x k E M) (h2 : t = false → W pr P N Fin y k E M) : W pr P N Fin (.cond c x y) k E M :=
  ⟨V_cond hc (fun h => (h1 h).out) (fun h => (h2 h).out)⟩
theorem W_region {id : Nat} {l : List Oper} (h : WO pr P N Fin l l k E M) : W pr P N Fin (.region id l.toArray false) k E M := ⟨V_region h.out⟩

theorem OS_mono {ops rest : List Oper} {K K' : Env → Prop} (hK : ∀ E, K E → K' E) (h : OS pr P N ops K rest E M) : OS pr P N ops K' rest E M :=
  ⟨fun base w0 a w hA hS => wpStill_mono (fun _ ⟨E', k1, k2⟩ => ⟨E', k1, hK _ k2⟩) _ _ (h.out base w0 a w hA hS)⟩

theorem W_region_still {id : Nat} {l : List Oper} (hm : P.follows .mixedOrders = true) (hB : Region.lexB .any l.toArray = true)
    (h : OS false P N l (fun E' => G false P N Fin .normal k E' M) l E M) : W false P N Fin (.region id l.toArray true) k E M := ⟨V_region_still hm hB (OS_mono (fun _ h => h.out) h)⟩
theorem W_region_tail {id : Nat} {l : List Oper} (n : Nat) (hm : P.follows .mixedOrders = true) (hB : Region.lexTailB .any l.toArray n = true)
    (h : OS false P N l (fun E' => WO false P N Fin l (l.drop n) k E' M) (l.take n) E M) : W false P N Fin (.region id l.toArray true) k E M := ⟨V_region_tail n hm hB (OS_mono (fun _ h => h.out) h)⟩

theorem W_weak {c : Code} {L : Env} {M' : Mem} (hs : Sub E L) (ht : Rk M M') (h : W pr P N Fin c k L M') : W pr P N Fin c k E M := ⟨V_weak hs ht h.out⟩

theorem W_loop {α : Type} {c : Code} (St : α → Env) (Ms : α → Mem) (inv : α → Prop) (μ : α → Nat) (x0 : α) (h0 : inv x0) (hE : Sub E (St x0)) (hM : Rk M (Ms x0))
    (round : ∀ x, inv x → W pr P N Fin c (.stop (fun E' M' => ∃ x', inv x' ∧ μ x' < μ x ∧ Sub E' (St x') ∧ Rk M' (Ms x')) :: k) (St x) (Ms x)) : W pr P N Fin (.loop c) k E M :=
  ⟨V_loop St Ms inv μ x0 h0 hE hM fun x hx => (round x hx).out⟩

theorem G_code {c : Code} (h : W pr P N Fin c k E M) : G pr P N Fin .normal (.code c :: k) E M := ⟨h.out⟩
theorem G_blk {id : Nat} (h : G pr P N Fin .normal k E M) : G pr P N Fin .normal (.blk id :: k) E M := ⟨h.out⟩
theorem G_stop {K : Env → Mem → Prop} (h : K E M) : G pr P N Fin .normal (.stop K :: k) E M := ⟨h⟩
theorem G_fin {e : Exit} (h : Fin e E M) : G pr P N Fin e [] E M := ⟨h⟩
theorem G_exit_blk {id : Nat} (h : G pr P N Fin .normal k E M) : G pr P N Fin (.exit id) (.blk id :: k) E M := by
  constructor
  show InBlock id (post pr P N Fin k) (.exit id) E M
  simp only [InBlock, if_true]
  exact h.out
theorem G_exit_other {id id' : Nat} (hne : Nat.beq id id' = false) (h : G pr P N Fin (.exit id) k E M) : G pr P N Fin (.exit id) (.blk id' :: k) E M := by
  constructor
  show InBlock id' (post pr P N Fin k) (.exit id) E M
  have : ¬ id = id' := by intro h; subst h; simp at hne
  simp only [InBlock, if_neg this]
  exact h.out
theorem G_exit_code {id : Nat} {c : Code} (h : G pr P N Fin (.exit id) k E M) : G pr P N Fin (.exit id) (.code c :: k) E M := ⟨h.out⟩
theorem G_exit_stop {id : Nat} {K : Env → Mem → Prop} (h : G pr P N Fin (.exit id) k E M) : G pr P N Fin (.exit id) (.stop K :: k) E M := ⟨h.out⟩
theorem G_ret_blk {id : Nat} (h : G pr P N Fin .ret k E M) : G pr P N Fin .ret (.blk id :: k) E M := ⟨h.out⟩
theorem G_ret_code {c : Code} (h : G pr P N Fin .ret k E M) : G pr P N Fin .ret (.code c :: k) E M := ⟨h.out⟩
theorem G_ret_stop {K : Env → Mem → Prop} (h : G pr P N Fin .ret k E M) : G pr P N Fin .ret (.stop K :: k) E M := ⟨h.out⟩

variable {ops : List Oper} {rest : List Oper} {d : Nat} {op : Op} {ty : TypeId} {pos : String} {after : Array Edge} {g : Option (Nat × Bool)} {v : Value}

theorem O_nil (h : G pr P N Fin .normal k E M) : WO pr P N Fin ops [] k E M := ⟨OL_nil h.out⟩
theorem O_pure (hp : Pure P N E M op v) (hg : On E ops g) (hd : Nat.blt d N.n = true) (h : WO pr P N Fin ops rest k ((d, v) :: E) M) : WO pr P N Fin ops (⟨some d, op, ty, pos, after, g⟩ :: rest) k E M := ⟨OL_pure hp hg hd h.out⟩
theorem O_off (hg : Off E ops g) (hd : Nat.blt d N.n = true) (h : WO pr P N Fin ops rest k ((d, undef) :: E) M) : WO pr P N Fin ops (⟨some d, op, ty, pos, after, g⟩ :: rest) k E M := ⟨OL_off hg hd h.out⟩

/-- Less is known of memory. -/
theorem O_weak {M' : Mem} (ht : Rk M M') (h : WO pr P N Fin ops rest k E M') : WO pr P N Fin ops rest k E M := ⟨⟨fun base w0 a w hA hS => h.out.out base w0 a w hA (hS.rk ht)⟩⟩

theorem isS {ops rest : List Oper} {K : Env → Prop} (h : OS pr P N ops K rest E M) : OS pr P N ops K rest E M := h
theorem isSB {ops rest : List Oper} {K : Env → Prop} {d : Nat} {bop : BinOp} {t t2 : TypeId} {x y : Operand} {ty : TypeId} {pos : String} {after : Array Edge} {g : Option (Nat × Bool)} (h : OS pr P N ops K (⟨some d, .binOp bop t x y t2, ty, pos, after, g⟩ :: rest) E M) :
  OS pr P N ops K (⟨some d, .binOp bop t x y t2, ty, pos, after, g⟩ :: rest) E M := h
theorem isSL {ops rest : List Oper} {K : Env → Prop} {d : Nat} {t : TypeId} {x : Operand} {ty : TypeId} {pos : String} {after : Array Edge} {g : Option (Nat × Bool)} (h : OS pr P N ops K (⟨some d, .load t x, ty, pos, after, g⟩ :: rest) E M) :
  OS pr P N ops K (⟨some d, .load t x, ty, pos, after, g⟩ :: rest) E M := h
theorem isSI {ops rest : List Oper} {K : Env → Prop} {d : Nat} {t : TypeId} {x y : Operand} {ty : TypeId} {pos : String} {after : Array Edge} {g : Option (Nat × Bool)} (h : OS pr P N ops K (⟨some d, .indexAddr t x y, ty, pos, after, g⟩ :: rest) E M) :
  OS pr P N ops K (⟨some d, .indexAddr t x y, ty, pos, after, g⟩ :: rest) E M := h

/-- A comparison: both ways. -/
theorem O_if {x y : Operand} {t t2 : TypeId} {kd : IntKind} {p q : Int} {bop : BinOp} {r : Bool} {A B : Prop} (hx : ev E x = some (.int kd p)) (hy : ev E y = some (.int kd q)) (hr : cmp bop p q = some r)
    (hg : On E ops g) (hd : Nat.blt d N.n = true) (hA : r = true → A) (hB : r = false → B) (h1 : A → WO pr P N Fin ops rest k ((d, .bool true) :: E) M) (h2 : B → WO pr P N Fin ops rest k ((d, .bool false) :: E) M) :
    WO pr P N Fin ops (⟨some d, .binOp bop t x y t2, ty, pos, after, g⟩ :: rest) k E M := by
  refine O_pure (P_cmp hx hy hr) hg hd ?_
  cases r
  · exact h2 (hB rfl)
  · exact h1 (hA rfl)
theorem S_if {K : Env → Prop} {x y : Operand} {t t2 : TypeId} {kd : IntKind} {p q : Int} {bop : BinOp} {r : Bool} {A B : Prop} (hx : ev E x = some (.int kd p)) (hy : ev E y = some (.int kd q)) (hr : cmp bop p q = some r)
    (hg : On E ops g) (hd : Nat.blt d N.n = true) (hA : r = true → A) (hB : r = false → B) (h1 : A → OS pr P N ops K rest ((d, .bool true) :: E) M) (h2 : B → OS pr P N ops K rest ((d, .bool false) :: E) M) :
    OS pr P N ops K (⟨some d, .binOp bop t x y t2, ty, pos, after, g⟩ :: rest) E M := by
  refine OS_pure (P_cmp hx hy hr) hg hd ?_
  cases r
  · exact h2 (hB rfl)
  · exact h1 (hA rfl)

/-- What a comparison says, both ways. -/
def yes : BinOp → Int → Int → Prop
  | .eql, x, y => x = y
  | .neq, x, y => x ≠ y
  | .lss, x, y => x < y
  | .leq, x, y => x ≤ y
  | .gtr, x, y => y < x
  | .geq, x, y => y ≤ x
  | _, _, _ => True
def no : BinOp → Int → Int → Prop
  | .eql, x, y => x ≠ y
  | .neq, x, y => x = y
  | .lss, x, y => y ≤ x
  | .leq, x, y => y < x
  | .gtr, x, y => x ≤ y
  | .geq, x, y => x < y
  | _, _, _ => True
theorem cmp_yes {o : BinOp} {p q : Int} {r : Bool} (h : cmp o p q = some r) (hr : r = true) : yes o p q := by
  subst hr
  cases o <;> simp [cmp, yes] at * <;> first | exact h | omega
theorem cmp_no {o : BinOp} {p q : Int} {r : Bool} (h : cmp o p q = some r) (hr : r = false) : no o p q := by
  subst hr
  cases o <;> simp [cmp, no] at * <;> first | exact h | omega

theorem O_cmp {x y : Operand} {t t2 : TypeId} {kd : IntKind} {p q : Int} {bop : BinOp} {r : Bool} (hx : ev E x = some (.int kd p)) (hy : ev E y = some (.int kd q)) (hr : cmp bop p q = some r)
    (hg : On E ops g) (hd : Nat.blt d N.n = true) (h1 : yes bop p q → WO pr P N Fin ops rest k ((d, .bool true) :: E) M) (h2 : no bop p q → WO pr P N Fin ops rest k ((d, .bool false) :: E) M) :
    WO pr P N Fin ops (⟨some d, .binOp bop t x y t2, ty, pos, after, g⟩ :: rest) k E M :=
  O_if hx hy hr hg hd (cmp_yes hr) (cmp_no hr) h1 h2
theorem S_cmp {K : Env → Prop} {x y : Operand} {t t2 : TypeId} {kd : IntKind} {p q : Int} {bop : BinOp} {r : Bool} (hx : ev E x = some (.int kd p)) (hy : ev E y = some (.int kd q)) (hr : cmp bop p q = some r)
    (hg : On E ops g) (hd : Nat.blt d N.n = true) (h1 : yes bop p q → OS pr P N ops K rest ((d, .bool true) :: E) M) (h2 : no bop p q → OS pr P N ops K rest ((d, .bool false) :: E) M) :
    OS pr P N ops K (⟨some d, .binOp bop t x y t2, ty, pos, after, g⟩ :: rest) E M :=
  S_if hx hy hr hg hd (cmp_yes hr) (cmp_no hr) h1 h2

theorem O_store {t : TypeId} {p x : Operand} {b o n : Nat} {l : List Value} {v : Value} {M' : Mem} (ht : Cel P t 1) (hp : ev E p = some (.pointer (some ⟨b, o + n, none⟩))) (hx : ev E x = some v)
    (hv : v.oneCell' = true) (hg : On E ops g) (hn : n < l.length) (hu : Upd1 M ⟨true, b, o, l⟩ (l.set n v) M') (h : WO false P N Fin ops rest k E M') : WO false P N Fin ops (⟨none, .store t p x, ty, pos, after, g⟩ :: rest) k E M :=
  ⟨OL_store ht hp hx hv hg hn hu h.out⟩
theorem O_storei {t : TypeId} {p x : Operand} {b o : Nat} {l : List Int} {kd : IntKind} {z v : Int} {M' : Mem} (ht : Cel P t 1) (hp : ev E p = some (.pointer (some ⟨b, o + z.toNat, none⟩)))
    (hx : ev E x = some (.int kd v)) (hg : On E ops g) (hu : Upd1 M ⟨true, b, o, ints kd l⟩ (ints kd (wr l z v)) M') (hn : z.toNat < l.length) (h : WO false P N Fin ops rest k E M') :
    WO false P N Fin ops (⟨none, .store t p x, ty, pos, after, g⟩ :: rest) k E M :=
  ⟨OL_storei ht hp hx hg hn hu h.out⟩
theorem O_call {c : Operand} {xs : List Operand} {ts : Array TypeId} {f : FuncId} {first captured : Array Value} {vs : List Value} {R : Value → Mem → Prop}
    (hc : ev E c = some (.func (.func f) first captured)) (hx : evs E xs = some vs) (hf : Callable P f) (hg : On E ops g) (hd : Nat.blt d N.n = true)
    (hR : HC P f (first ++ vs.toArray ++ captured) M R) (h : ∀ v M', R v M' → WO false P N Fin ops rest k ((d, v) :: E) M') :
    WO false P N Fin ops (⟨some d, .call { callee := .value c, args := xs.toArray, argTypes := ts }, ty, pos, after, g⟩ :: rest) k E M := ⟨OL_call hc hx hf hg hd hR fun v M' hv => (h v M' hv).out⟩
theorem O_callP {c : Operand} {xs : List Operand} {ts : Array TypeId} {f : FuncId} {first captured : Array Value} {vs : List Value} {v : Value}
    (hc : ev E c = some (.func (.func f) first captured)) (hx : evs E xs = some vs) (hf : Callable P f) (hg : On E ops g) (hd : Nat.blt d N.n = true)
    (hR : HP P f (first ++ vs.toArray ++ captured) M v) (h : WO pr P N Fin ops rest k ((d, v) :: E) M) :
    WO pr P N Fin ops (⟨some d, .call { callee := .value c, args := xs.toArray, argTypes := ts }, ty, pos, after, g⟩ :: rest) k E M := ⟨OL_callP hc hx hf hg hd hR h.out⟩
theorem O_make1 {t e : TypeId} {I : TypeInfo} {x : Operand} {kd : IntKind} {z : Int} {v : Value} (ht : Und P t (.slice e)) (hI : P.info? e = some I) (hs : I.size = 1) (hz : I.zero = some v)
    (hv : v.cells = #[v]) (hx : ev E x = some (.int kd z)) (h0 : 0 ≤ z) (h1 : (I.bytes : Int) * z ≤ 281474976710656) (h2 : z ≤ 9223372036854775807) (hg : On E ops g) (hd : Nat.blt d N.n = true)
    (h : ∀ b, WO false P N Fin ops rest k ((d, .slice (some ⟨b, 0, none⟩) z.toNat z.toNat) :: E) (⟨true, b, 0, List.replicate z.toNat v⟩ :: M)) : WO false P N Fin ops (⟨some d, .makeSlice t x x, ty, pos, after, g⟩ :: rest) k E M :=
  ⟨OL_make1 ht hI hs hz hv hx h0 h1 h2 hg hd fun b => (h b).out⟩

theorem HC_of_W {f : FuncId} {fn : Func} {c : Code} {vs : List Value} {R : Value → Mem → Prop} {rs : List ResultVar} {n : Nat} (hf : P.funcs[f]? = some fn) (hb : fn.body = some c) (hN : fn.ntmps = n)
    (hrs : fn.results.toList = rs) (hs : Nat.ble vs.length n = true) (h : W pr P ⟨n, []⟩ (Ends rs R) c [] (zipEnv 0 vs) M) : HCp pr P f vs.toArray M R := HC_of_V hf hb hN hrs hs h.out
end
end Go.Proofs.Ytjkpfliaflmppaa.Vm

namespace Go.Proofs.Ytjkpfliaflmppaa.Vm
open Go Go.RowKit

section
variable {pr : Bool} {P : Program} {N : Fm} {Fin : Post} {k : List Kn} {E : Env} {M : Mem} {Q : Post}
variable {ops : List Oper} {rest : List Oper} {d : Nat} {op : Op} {ty : TypeId} {pos : String} {after : Array Edge} {g : Option (Nat × Bool)} {v : Value}

/-! ### One cell at the head of a row -/

theorem P_load0 {t : TypeId} {x : Operand} {own : Bool} {b o : Nat} {l : List Value} {v : Value} (ht : PlainT P t)
    (hx : ev E x = some (.pointer (some ⟨b, o, none⟩))) (hm : (⟨own, b, o, v :: l⟩ : Sg) ∈ M) : Pure P N E M (.load t x) v :=
  P_load (n := 0) ht hx hm rfl

theorem O_store0 {t : TypeId} {p x : Operand} {b o : Nat} {l : List Value} {u v : Value} {M' : Mem} (ht : Cel P t 1) (hp : ev E p = some (.pointer (some ⟨b, o, none⟩))) (hx : ev E x = some v)
    (hv : v.oneCell' = true) (hg : On E ops g) (hu : Upd1 M ⟨true, b, o, u :: l⟩ (v :: l) M') (h : WO false P N Fin ops rest k E M') : WO false P N Fin ops (⟨none, .store t p x, ty, pos, after, g⟩ :: rest) k E M :=
  O_store (n := 0) ht hp hx hv hg (by simp) hu h

/-! ### Fields, arrays -/

/-- The place of a field in its struct. -/
def fieldOff (P : Program) (s : TypeId) (f : Nat) : Option Nat :=
  match P.underlying s with
  | some (.struct fs) => match fs[f]? with
    | some fd => if P.cellsOf fd.type = 0 then none else some fd.offset
    | none => none
  | _ => none

structure Fld (P : Program) (s : TypeId) (f off : Nat) : Prop where
  out : fieldOff P s f = some off

theorem add_place (b o n : Nat) : Addr.add ⟨b, o, none⟩ n = ⟨b, o + n, none⟩ := by
  unfold Addr.add; split
  · rename_i h; simp [h]
  · rfl

theorem P_field {s : TypeId} {x : Operand} {f off b o : Nat} (hf : Fld P s f off) (hx : ev E x = some (.pointer (some ⟨b, o, none⟩))) :
    Pure P N E M (.fieldAddr s x f) (.pointer (some ⟨b, o + off, none⟩)) := by
  constructor
  intro pr base w0 a w hA hS d ty pos after g
  have hf := hf.out
  unfold fieldOff at hf
  split at hf
  · rename_i fs hs
    split at hf
    · rename_i fd hfd
      split at hf
      · simp at hf
      · rename_i hc
        simp at hf
        subst hf
        obtain ⟨I, hI, hsz⟩ := size_of (P := P) (t := fd.type) rfl (by omega)
        have hz : I.size ≠ 0 := by rw [hsz]; exact hc
        simp [execOp, Instr.fieldAt, hA.eval hx, run_under hs, hfd, Instr.sureAddr, fieldPlace, sizeOf, typeInfo, hI, hz, add_place]
    · simp at hf
  · simp at hf

/-- 'arr[i]' as a place, arr an array behind an address. -/
theorem P_indexA {t e : TypeId} {x i : Operand} {b o len n : Nat} {kd : IntKind} {z : Int} (ht : Und P t (.array len e)) (he : Cel P e n) (hn : 0 < n)
    (hx : ev E x = some (.pointer (some ⟨b, o, none⟩))) (hi : ev E i = some (.int kd z)) (h0 : 0 ≤ z) (h1 : z < len) :
    Pure P N E M (.indexAddr t x i) (.pointer (some ⟨b, o + z.toNat * n, none⟩)) := by
  constructor
  intro pr base w0 a w hA hS d ty pos after g
  obtain ⟨I, hI, hs⟩ := size_of he.out hn
  simp [execOp, hA.eval hx, hA.eval hi, Instr.indexAt, Instr.sureAddr, asIntOf, ht.run, sizeOf, typeInfo, hI, hs, h0, h1, add_place]
theorem P_indexA1 {t e : TypeId} {x i : Operand} {b o len : Nat} {kd : IntKind} {z : Int} (ht : Und P t (.array len e)) (he : Cel P e 1)
    (hx : ev E x = some (.pointer (some ⟨b, o, none⟩))) (hi : ev E i = some (.int kd z)) (h0 : 0 ≤ z) (h1 : z < len) :
    Pure P N E M (.indexAddr t x i) (.pointer (some ⟨b, o + z.toNat, none⟩)) := by
  have := P_indexA (N := N) (M := M) ht he (by omega) hx hi h0 h1
  simpa using this

/-- 'arr[:]' and its kin, arr an array behind an address. -/
theorem P_sliceA {t e : TypeId} {x : Operand} {lo hi : Option Operand} {b o len n : Nat} {l h : Int} (ht : Und P t (.array len e)) (he : Cel P e n) (hn : 0 < n)
    (hx : ev E x = some (.pointer (some ⟨b, o, none⟩))) (hl : bnd E lo 0 l) (hh : bnd E hi len h) (h0 : 0 ≤ l) (h1 : l ≤ h) (h2 : h ≤ len) (h3 : l < len) :
    Pure P N E M (.slice t x lo hi none) (.slice (some ⟨b, o + l.toNat * n, none⟩) (h.toNat - l.toNat) (len - l.toNat)) := by
  constructor
  intro pr bs w0 a w hA hS d ty pos after g
  obtain ⟨I, hI, hs⟩ := size_of he.out hn
  have hne : ¬ len = l.toNat := by omega
  have hlh : (l : Int) ≤ h.toNat := by omega
  have hh0 : 0 ≤ h := by omega
  have hl' : lo.map a.eval = none ∧ l = 0 ∨ ∃ k, lo.map a.eval = some (.int k l) := by
    cases lo with
    | none => exact .inl ⟨rfl, hl⟩
    | some y => obtain ⟨k, hk⟩ := hl; exact .inr ⟨k, by simp [hA.eval hk]⟩
  have hh' : hi.map a.eval = none ∧ h = len ∨ ∃ k, hi.map a.eval = some (.int k h) := by
    cases hi with
    | none => exact .inl ⟨rfl, hh⟩
    | some y => obtain ⟨k, hk⟩ := hh; exact .inr ⟨k, by simp [hA.eval hk]⟩
  have hb : (Instr.sliceBounds false len len (lo.map a.eval) (hi.map a.eval) none).run P w = .ok (l.toNat, h.toNat, len) w := by
    rcases hl' with ⟨e1, rfl⟩ | ⟨k1, e1⟩ <;> rcases hh' with ⟨e2, rfl⟩ | ⟨k2, e2⟩ <;>
      simp [Instr.sliceBounds, Instr.sliceBound, e1, e2, asIntOf, h0, hh0, h1, h2, hlh]
    intro hm; omega
  simp [execOp, Instr.sliceAt, hA.eval hx, Instr.sureAddr, ht.run, hb, sizeOf, typeInfo, hI, hs, hne, add_place]

/-- A slice expression that ends at the capacity's very end. -/
theorem P_slice_end {t e : TypeId} {x : Operand} {lo hi : Option Operand} {ad : Option Addr} {len cap n : Nat} {l h : Int} (ht : Und P t (.slice e)) (he : Cel P e n) (hn : 0 < n)
    (hx : ev E x = some (.slice ad len cap)) (hl : bnd E lo 0 l) (hh : bnd E hi len h) (h0 : 0 ≤ l) (h1 : l ≤ h) (h2 : h ≤ cap) (h3 : l = cap) :
    Pure P N E M (.slice t x lo hi none) (.slice ad 0 0) := by
  constructor
  intro pr bs w0 a w hA hS d ty pos after g
  obtain ⟨I, hI, hs⟩ := size_of he.out hn
  have e3 : cap = l.toNat := by omega
  have e4 : h.toNat = l.toNat := by omega
  have hlh : (l : Int) ≤ h.toNat := by omega
  have hh0 : 0 ≤ h := by omega
  have hl' : lo.map a.eval = none ∧ l = 0 ∨ ∃ k, lo.map a.eval = some (.int k l) := by
    cases lo with
    | none => exact .inl ⟨rfl, hl⟩
    | some y => obtain ⟨k, hk⟩ := hl; exact .inr ⟨k, by simp [hA.eval hk]⟩
  have hh' : hi.map a.eval = none ∧ h = len ∨ ∃ k, hi.map a.eval = some (.int k h) := by
    cases hi with
    | none => exact .inl ⟨rfl, hh⟩
    | some y => obtain ⟨k, hk⟩ := hh; exact .inr ⟨k, by simp [hA.eval hk]⟩
  have hb : (Instr.sliceBounds true len cap (lo.map a.eval) (hi.map a.eval) none).run P w = .ok (l.toNat, h.toNat, cap) w := by
    rcases hl' with ⟨e1, rfl⟩ | ⟨k1, e1⟩ <;> rcases hh' with ⟨e2, rfl⟩ | ⟨k2, e2⟩ <;>
      simp [Instr.sliceBounds, Instr.sliceBound, e1, e2, asIntOf, h0, hh0, h1, h2, hlh]
    intro hm; omega
  have e5 : cap - l.toNat = 0 := by omega
  simp [execOp, Instr.sliceAt, Instr.slice, hA.eval hx, ht.run, hb, sizeOf, typeInfo, hI, hs, e4, e5]
  intro hne; exact absurd e3 hne

/-! ### Values -/

theorem P_extract {x : Operand} {i : Nat} {vs : List Value} {v : Value} (hx : ev E x = some (.tuple vs.toArray)) (hv : vs[i]? = some v) : Pure P N E M (.extract x i) v := by
  constructor
  intro pr base w0 a w hA hS d ty pos after g
  simp [execOp, Instr.extract, hA.eval hx, hv]

theorem P_mkfunc {fn : Fn} {xs : List Operand} {vs : List Value} (hx : evs E xs = some vs) : Pure P N E M (.makeFunc fn #[] xs.toArray) (.func fn #[] vs.toArray) := by
  constructor
  intro pr base w0 a w hA hS d ty pos after g
  have e : xs.toArray.map a.eval = vs.toArray := by simp [hA.evals hx]
  simp [execOp, Instr.makeFunc, e]

theorem P_mkiface {t : TypeId} {x : Operand} {v : Value} (ht : NonIfT P t) (hx : ev E x = some v) : Pure P N E M (.makeInterface t x) (.iface t v) := by
  constructor
  intro pr base w0 a w hA hS d ty pos after g
  obtain ⟨D, ht, hD⟩ := ht.out
  cases D <;> simp [isIface] at hD <;> simp [execOp, Instr.makeInterface, hA.eval hx, run_under ht]

/-- The parts of a composite literal. -/
def evps (E : Env) : List (Nat × Operand) → Option (List (Nat × Value))
  | [] => some []
  | (i, x) :: xs => match ev E x, evps E xs with
    | some v, some vs => some ((i, v) :: vs)
    | _, _ => none

theorem Ag.evalps {a : Act} (h : Ag N E a) : ∀ {xs : List (Nat × Operand)} {vs : List (Nat × Value)}, evps E xs = some vs → xs.map (fun p => (p.1, a.eval p.2)) = vs
  | [], vs, hv => by simp [evps] at hv; simp [hv]
  | (i, x) :: xs, vs, hv => by
    simp only [evps] at hv
    split at hv
    · rename_i v vs' h1 h2
      simp at hv
      subst hv
      simp [h.eval h1, h.evalps h2]
    · simp at hv

theorem P_build {t : TypeId} {xs : List (Nat × Operand)} {vs : List (Nat × Value)} {v : Value} (hx : evps E xs = some vs) (h : ∀ w, (Instr.build t vs.toArray).run P w = .ok v w) :
    Pure P N E M (.build t xs.toArray) v := by
  constructor
  intro pr base w0 a w hA hS d ty pos after g
  have e : xs.toArray.map (fun p : Nat × Operand => (p.1, a.eval p.2)) = vs.toArray := by simp [hA.evalps hx]
  have e' : (xs.toArray.map fun (i, x) => (i, a.eval x)) = vs.toArray := e
  simp only [execOp, e']
  simp [h]

/-! ### New memory -/

theorem OL_new {v : Value} {c : List Value} {T : TypeId} (hg : On E ops g) (hd : Nat.blt d N.n = true)
    (hr : ∀ base w0 a w, Ag N E a → Sim false base w0 w M → ∀ ty pos after g, (execOp a.eval ⟨some d, op, ty, pos, after, g⟩).run P w = .ok (.value (.pointer (some ⟨w.heap.size, 0, none⟩))) (w.alloc (.cells c.toArray T)))
    (h : ∀ b, OL false P N ops Q rest ((d, .pointer (some ⟨b, 0, none⟩)) :: E) (⟨true, b, 0, c⟩ :: M)) : OL false P N ops Q (⟨some d, op, ty, pos, after, g⟩ :: rest) E M := by
  constructor
  intro base w0 a w hA hS
  unfold wpList
  rw [if_pos (On.wanted (o := ⟨some d, op, ty, pos, after, g⟩) hg hA)]
  refine .inl ?_
  unfold Oper.wp
  rw [hr base w0 a w hA hS]
  have := hS.alloc c.toArray T
  exact (h w.heap.size).out base w0 _ _ (hA.put hd _) this

theorem O_box {t : TypeId} {x : Operand} {v : Value} (hx : ev E x = some v) (hg : On E ops g) (hd : Nat.blt d N.n = true)
    (h : ∀ b, WO false P N Fin ops rest k ((d, .pointer (some ⟨b, 0, none⟩)) :: E) (⟨true, b, 0, v.cells.toList⟩ :: M)) : WO false P N Fin ops (⟨some d, .box t x, ty, pos, after, g⟩ :: rest) k E M :=
  ⟨OL_new (v := v) (c := v.cells.toList) (T := t) hg hd (fun base w0 a w hA hS ty pos after g => by
    simp [execOp, Instr.box, hA.eval hx, newVar, newRow]) fun b => (h b).out⟩

def zeroOf (P : Program) (t : TypeId) : Option (List Value) := ((P.info? t).bind (·.zero)).map (·.cells.toList)

theorem O_alloc {t : TypeId} {c : List Value} (hz : zeroOf P t = some c) (hg : On E ops g) (hd : Nat.blt d N.n = true)
    (h : ∀ b, WO false P N Fin ops rest k ((d, .pointer (some ⟨b, 0, none⟩)) :: E) (⟨true, b, 0, c⟩ :: M)) : WO false P N Fin ops (⟨some d, .alloc t, ty, pos, after, g⟩ :: rest) k E M :=
  ⟨OL_new (v := .nilFunc) (c := c) (T := t) hg hd (fun base w0 a w hA hS ty pos after g => by
    unfold zeroOf at hz
    cases hI : P.info? t with
    | none => simp [hI] at hz
    | some I =>
      cases hZ : I.zero with
      | none => simp [hI, hZ] at hz
      | some z =>
        simp [hI, hZ] at hz
        subst hz
        simp [execOp, Instr.alloc, zeroValue, typeInfo, hI, hZ, newVar, newRow]) fun b => (h b).out⟩

theorem O_buildSlice {t T : TypeId} {n : Nat} {xs : List (Nat × Operand)} {vs : List (Nat × Value)} {c : List Value} (hx : evps E xs = some vs)
    (hr : ∀ w, (Instr.buildSlice t n vs.toArray).run P w = .ok (.slice (some ⟨w.heap.size, 0, none⟩) n n) (w.alloc (.cells c.toArray T))) (hg : On E ops g) (hd : Nat.blt d N.n = true)
    (h : ∀ b, WO false P N Fin ops rest k ((d, .slice (some ⟨b, 0, none⟩) n n) :: E) (⟨true, b, 0, c⟩ :: M)) : WO false P N Fin ops (⟨some d, .buildSlice t n xs.toArray, ty, pos, after, g⟩ :: rest) k E M := by
  refine ⟨⟨?_⟩⟩
  intro base w0 a w hA hS
  unfold wpList
  rw [if_pos (On.wanted (o := ⟨some d, .buildSlice t n xs.toArray, ty, pos, after, g⟩) hg hA)]
  refine .inl ?_
  unfold Oper.wp
  have e : (xs.toArray.map fun (i, x) => (i, a.eval x)) = vs.toArray := by
    have : xs.toArray.map (fun p : Nat × Operand => (p.1, a.eval p.2)) = vs.toArray := by simp [hA.evalps hx]
    exact this
  have h1 : (execOp a.eval ⟨some d, .buildSlice t n xs.toArray, ty, pos, after, g⟩).run P w = .ok (.value (.slice (some ⟨w.heap.size, 0, none⟩) n n)) (w.alloc (.cells c.toArray T)) := by
    simp only [execOp, e]
    simp [hr]
  rw [h1]
  exact (h w.heap.size).out.out base w0 _ _ (hA.put hd _) (hS.alloc c.toArray _)
end
end Go.Proofs.Ytjkpfliaflmppaa.Vm
