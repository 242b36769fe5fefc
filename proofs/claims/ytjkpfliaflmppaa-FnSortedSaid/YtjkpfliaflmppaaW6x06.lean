/- Regions that draw their order, of operations that turn nothing that is known (they read, or call what leaves all rows as they are): walked once, each operation over what it waits for. No condition. A scope with jumps back to one label. No condition. Steps reckoned by functions: rules with few side conditions, so that the words of a walk are short. No condition. -/
import Derived.Test.YtjkpfliaflmppaaW6x05
import Derived.ScopeJumps

namespace Go.Proofs.Ytjkpfliaflmppaa.Vm
open Go Go.RowKit

/-- What is put into a slot, if anything is. -/
def putU (a : Act) : Option (Nat × Value) → Act
  | some (d, v) => a.put (some d) v
  | none => a
/-- The operation puts u, and all rows stay. -/
structure Qt (P : Program) (N : Fm) (l : List Oper) (E : Env) (M : Mem) (o : Oper) (u : Option (Nat × Value)) : Prop where
  out : ∀ base w0 a w, Ag N E a → Sim false base w0 w M → ∀ F : Exit → Act → World → Prop, (∀ w', Sim false base w0 w' M → F .normal (putU a u) w') → wpList P l.toArray F [o] a w
  hd : ∀ p, u = some p → Nat.blt p.1 N.n = true
abbrev UEnv := List (Option (Nat × Value))
def somes : UEnv → Env
  | [] => []
  | some p :: l => p :: somes l
  | none :: l => somes l

/-- What the operations of these numbers have put. -/
def pick (done : UEnv) : List Nat → Env
  | [] => []
  | j :: js => match done[j]? with
    | some (some p) => p :: pick done js
    | _ => pick done js

def QSd (P : Program) (N : Fm) (l : List Oper) (E : Env) (M : Mem) (K : UEnv → Prop) : UEnv → List (List Nat) → List Oper → Prop
  | done, _, [] => K done
  | done, ws, o :: rest => ∃ u, Qt P N l (pick done (ws.headD []) ++ E) M o u ∧ QSd P N l E M K (done ++ [u]) ws.tail rest
structure QS (P : Program) (N : Fm) (l : List Oper) (E : Env) (M : Mem) (K : UEnv → Prop) (done : UEnv) (ws : List (List Nat)) (rest : List Oper) : Prop where
  out : QSd P N l E M K done ws rest

section
variable {P : Program} {N : Fm} {Fin : Post} {k : List Kn} {E : Env} {M : Mem} {l : List Oper} {K : UEnv → Prop} {done : UEnv} {ws : List (List Nat)} {w : List Nat} {rest : List Oper}
variable {d : Nat} {op : Op} {ty : TypeId} {pos : String} {after : Array Edge} {g : Option (Nat × Bool)} {v : Value}

theorem QS_nil (h : K done) : QS P N l E M K done ws [] := ⟨h⟩
theorem QS_of {o : Oper} {u : Option (Nat × Value)} (h1 : Qt P N l (pick done w ++ E) M o u) (h : QS P N l E M K (done ++ [u]) ws rest) : QS P N l E M K done (w :: ws) (o :: rest) := ⟨⟨u, h1, h.out⟩⟩
theorem hd_some {N : Fm} {d : Nat} {v : Value} (hd : Nat.blt d N.n = true) : ∀ p, some (d, v) = some p → Nat.blt p.1 N.n = true := by
  rintro _ ⟨⟩; exact hd
theorem QS_pure (hp : Pure P N (pick done w ++ E) M op v) (hg : On (pick done w ++ E) l g) (hd : Nat.blt d N.n = true) (h : QS P N l E M K (done ++ [some (d, v)]) ws rest) :
    QS P N l E M K done (w :: ws) (⟨some d, op, ty, pos, after, g⟩ :: rest) := by
  refine QS_of ⟨fun base w0 a w1 hA hS F hF => ?_, hd_some hd⟩ h
  unfold wpList
  rw [if_pos (On.wanted (o := ⟨some d, op, ty, pos, after, g⟩) hg hA)]
  refine .inl ?_
  unfold Oper.wp
  rw [hp.out false base w0 a w1 hA hS]
  exact hF _ hS
theorem QS_off (hg : Off (pick done w ++ E) l g) (hd : Nat.blt d N.n = true) (h : QS P N l E M K (done ++ [some (d, undef)]) ws rest) : QS P N l E M K done (w :: ws) (⟨some d, op, ty, pos, after, g⟩ :: rest) := by
  refine QS_of ⟨fun base w0 a w1 hA hS F hF => ?_, hd_some hd⟩ h
  unfold wpList
  rw [if_neg (by rw [Off.wanted (o := ⟨some d, op, ty, pos, after, g⟩) hg hA]; simp)]
  exact hF _ hS
theorem QS_call {c : Operand} {xs : List Operand} {ts : Array TypeId} {f : FuncId} {first captured : Array Value} {vs : List Value}
    (hc : ev (pick done w ++ E) c = some (.func (.func f) first captured)) (hx : evs (pick done w ++ E) xs = some vs) (hf : Callable P f) (hg : On (pick done w ++ E) l g) (hd : Nat.blt d N.n = true)
    (hR : HC P f (first ++ vs.toArray ++ captured) M (fun u M' => u = v ∧ Rk M' M)) (h : QS P N l E M K (done ++ [some (d, v)]) ws rest) :
    QS P N l E M K done (w :: ws) (⟨some d, .call { callee := .value c, args := xs.toArray, argTypes := ts }, ty, pos, after, g⟩ :: rest) := by
  refine QS_of ⟨fun base w0 a w1 hA hS F hF => ?_, hd_some hd⟩ h
  unfold wpList
  rw [if_pos (On.wanted (o := ⟨some d, .call { callee := .value c, args := xs.toArray, argTypes := ts }, ty, pos, after, g⟩) hg hA)]
  refine .inl ?_
  unfold Oper.wp
  have hr : (execOp a.eval ⟨some d, .call { callee := .value c, args := xs.toArray, argTypes := ts }, ty, pos, after, g⟩).run P w1 = .ok (.enter f (first ++ vs.toArray ++ captured)) w1 := by
    have e : xs.toArray.map a.eval = vs.toArray := by simp [hA.evals hx]
    simp [execOp, resolve, e, hA.eval hc, Deferred.ofValue, invoke, run_callFunc hf]
  rw [hr]
  refine (hR.out base w0 w1 hS).mono fun e w' ⟨u, M', he, hS', hu, hrk⟩ => ?_
  subst he; subst hu
  exact hF _ (hS'.rk hrk)
theorem upd_mem {M : Mem} {s : Sg} (h : s ∈ M) : Upd1 M s s.l M := by
  induction M with
  | nil => cases h
  | cons x M ih =>
    cases h with
    | head => exact .head
    | tail _ h => exact .tail (ih h)
/-- A store of what stands there already. -/
theorem QS_store {t : TypeId} {p x : Operand} {b o n : Nat} {c : List Value} (ht : Cel P t 1) (hp : ev (pick done w ++ E) p = some (.pointer (some ⟨b, o + n, none⟩))) (hx : ev (pick done w ++ E) x = some v)
    (hv : v.oneCell' = true) (hg : On (pick done w ++ E) l g) (hm : (⟨true, b, o, c⟩ : Sg) ∈ M) (hc : c[n]? = some v) (h : QS P N l E M K (done ++ [none]) ws rest) :
    QS P N l E M K done (w :: ws) (⟨none, .store t p x, ty, pos, after, g⟩ :: rest) := by
  refine QS_of (u := none) ⟨fun base w0 a w1 hA hS F hF => ?_, fun _ h => by cases h⟩ h
  have hn : n < c.length := (List.getElem?_eq_some_iff.1 hc).1
  have hs := hS.seg _ hm
  have hcell := hs.cell (i := n) (v := v) hc
  have hf := hs.free rfl hn
  have hu : Upd1 M ⟨true, b, o, c⟩ (c.set n v) M := by
    have e : c.set n v = c := by
      rw [← (List.getElem?_eq_some_iff.1 hc).2]; simp
    rw [e]; exact upd_mem hm
  unfold wpList
  rw [if_pos (On.wanted (o := ⟨none, .store t p x, ty, pos, after, g⟩) hg hA)]
  refine .inl ?_
  unfold Oper.wp
  have hr : (execOp a.eval ⟨none, .store t p x, ty, pos, after, g⟩).run P w1 = .ok .skip (w1.setCell ⟨b, o + n, none⟩ v) := by
    simp only [execOp, Instr.storeAt, Instr.sureAddr, hA.eval hp, hA.eval hx]
    simp [run_storeVar1 ht hv hcell hf]
  rw [hr]
  exact hF _ (hS.set rfl hn hu)
theorem QS_store0 {t : TypeId} {p x : Operand} {b o : Nat} {c : List Value} (ht : Cel P t 1) (hp : ev (pick done w ++ E) p = some (.pointer (some ⟨b, o, none⟩))) (hx : ev (pick done w ++ E) x = some v)
    (hv : v.oneCell' = true) (hg : On (pick done w ++ E) l g) (hm : (⟨true, b, o, v :: c⟩ : Sg) ∈ M) (h : QS P N l E M K (done ++ [none]) ws rest) :
    QS P N l E M K done (w :: ws) (⟨none, .store t p x, ty, pos, after, g⟩ :: rest) := QS_store (n := 0) ht hp hx hv hg hm rfl h
theorem QS_cmp {x y : Operand} {t t2 : TypeId} {kd : IntKind} {p q : Int} {bop : BinOp} {r : Bool} (hx : ev (pick done w ++ E) x = some (.int kd p)) (hy : ev (pick done w ++ E) y = some (.int kd q)) (hr : cmp bop p q = some r)
    (hg : On (pick done w ++ E) l g) (hd : Nat.blt d N.n = true) (h1 : yes bop p q → QS P N l E M K (done ++ [some (d, .bool true)]) ws rest) (h2 : no bop p q → QS P N l E M K (done ++ [some (d, .bool false)]) ws rest) :
    QS P N l E M K done (w :: ws) (⟨some d, .binOp bop t x y t2, ty, pos, after, g⟩ :: rest) := by
  cases r
  · exact QS_pure (P_cmp hx hy hr) hg hd (h2 (cmp_no hr rfl))
  · exact QS_pure (P_cmp hx hy hr) hg hd (h1 (cmp_yes hr rfl))
theorem isQS (h : QS P N l E M K done ws rest) : QS P N l E M K done ws rest := h

theorem get_ne {E : Env} {k n : Nat} {v : Value} (h : k ≠ n) : Env.get? ((k, v) :: E) n = E.get? n := by
  have : Nat.beq k n = false := by
    cases hb : Nat.beq k n with
    | false => rfl
    | true => exact absurd (Nat.eq_of_beq_eq_true hb) h
  simp [Env.get?, this]
theorem get_eq {E : Env} {n : Nat} {v : Value} : Env.get? ((n, v) :: E) n = some v := by simp [Env.get?]

theorem get_none {E : Env} {n : Nat} (h : E.get? n = none) : ∀ p ∈ E, p.1 ≠ n := by
  induction E with
  | nil => intro p hp; cases hp
  | cons q E ih =>
    obtain ⟨k, v⟩ := q
    intro p hp hk
    cases hp with
    | head => simp only at hk; subst hk; rw [get_eq] at h; cases h
    | tail _ hp =>
      have hkn : k ≠ n := fun e => by subst e; rw [get_eq] at h; cases h
      rw [get_ne hkn] at h
      exact ih h p hp hk
/-- All that L tells, E' tells. -/
def Le (E' L : Env) : Prop := ∀ n v, L.get? n = some v → E'.get? n = some v
theorem Le.cons {E' L : Env} {d : Nat} {v : Value} (h : Le E' L) (hn : L.get? d = none) : Le ((d, v) :: E') L := by
  intro n u hu
  by_cases hd : d = n
  · subst hd; rw [hn] at hu; cases hu
  · rw [get_ne hd]; exact h n u hu
theorem Le.app {E' B : Env} : ∀ {A : Env}, (∀ p ∈ A, E'.get? p.1 = some p.2) → Le E' B → Le E' (A ++ B)
  | [], _, h => h
  | (k, x) :: A, h1, h => by
    intro n u hu
    by_cases hk : k = n
    · subst hk
      have : Env.get? ((k, x) :: (A ++ B)) k = some x := get_eq
      rw [List.cons_append, this] at hu
      cases hu
      exact h1 _ (.head _)
    · rw [List.cons_append, get_ne hk] at hu
      exact Le.app (fun p hp => h1 p (.tail _ hp)) h n u hu
theorem Le.ag {N : Fm} {E' L : Env} {a : Act} (h : Le E' L) (hA : Ag N E' a) : Ag N L a := ⟨hA.defers, hA.size, fun n v hv => hA.val n v (h n v hv)⟩
theorem mem_pick {done : UEnv} : ∀ {js : List Nat} {p : Nat × Value}, p ∈ pick done js → ∃ j ∈ js, done[j]? = some (some p)
  | [], _, h => by cases h
  | j :: js, p, h => by
    simp only [pick] at h
    split at h
    · rename_i q hq
      cases h with
      | head => exact ⟨j, .head _, hq⟩
      | tail _ h => obtain ⟨j', h1, h2⟩ := mem_pick h; exact ⟨j', .tail _ h1, h2⟩
    · obtain ⟨j', h1, h2⟩ := mem_pick h; exact ⟨j', .tail _ h1, h2⟩
theorem QS_all {rest : List Oper} : ∀ {done : UEnv} {ws : List (List Nat)}, QSd P N l E M K done ws rest → ∃ more : UEnv, more.length = rest.length ∧ K (done ++ more) ∧
    ∀ i (hi : i < rest.length) (hm : i < more.length), Qt P N l (pick (done ++ more.take i) (ws.getD i []) ++ E) M rest[i] more[i] := by
  induction rest with
  | nil => intro done ws h; exact ⟨[], rfl, by rw [List.append_nil]; exact h, fun i hi => absurd hi (Nat.not_lt_zero _)⟩
  | cons o rest ih =>
    intro done ws h
    obtain ⟨u, h1, h2⟩ := h
    obtain ⟨more, k1, k2, k3⟩ := ih h2
    refine ⟨u :: more, by simp [k1], by simpa using k2, fun i hi hm => ?_⟩
    cases i with
    | zero =>
      have e : ws.headD [] = ws.getD 0 [] := by cases ws <;> rfl
      rw [e] at h1
      simpa using h1
    | succ i =>
      have := k3 i (by simpa using hi) (by simpa using hm)
      have e : ws.tail.getD i [] = ws.getD (i + 1) [] := by cases ws <;> simp
      rw [e] at this
      simpa using this
/-- The slots differ, and nothing was known of them. -/
def chkU (E : Env) : UEnv → Bool
  | [] => true
  | some (d, _) :: L => (E.get? d).isNone && ((Env.get? (somes L) d).isNone && chkU E L)
  | none :: L => chkU E L
theorem somes_mem {p : Nat × Value} : ∀ {L : UEnv}, some p ∈ L → p ∈ somes L
  | some q :: L, h => by
    cases h with
    | head => exact .head _
    | tail _ h => exact .tail _ (somes_mem h)
  | none :: L, h => by
    cases h with
    | tail _ h => exact somes_mem (L := L) h
theorem mem_somes {p : Nat × Value} : ∀ {L : UEnv}, p ∈ somes L → some p ∈ L
  | some q :: L, h => by
    cases h with
    | head => exact .head _
    | tail _ h => exact .tail _ (mem_somes h)
  | none :: L, h => .tail _ (mem_somes h)
theorem chkU_spec {E : Env} : ∀ {L : UEnv}, chkU E L = true → (∀ p, some p ∈ L → E.get? p.1 = none) ∧ (∀ (i j : Nat) (p q : Nat × Value), L[i]? = some (some p) → L[j]? = some (some q) → i ≠ j → p.1 ≠ q.1)
  | [], _ => ⟨fun p h => (by cases h), fun i j p q h => (by simp at h)⟩
  | none :: L, h => by
    obtain ⟨k1, k2⟩ := chkU_spec (L := L) h
    refine ⟨fun p hp => ?_, fun i j p q hi hj hij => ?_⟩
    · cases hp with
      | tail _ hp => exact k1 p hp
    · cases i with
      | zero => simp at hi
      | succ i =>
        cases j with
        | zero => simp at hj
        | succ j => exact k2 i j p q (by simpa using hi) (by simpa using hj) (by omega)
  | some (d, v) :: L, h => by
    simp only [chkU, Bool.and_eq_true, Option.isNone_iff_eq_none] at h
    obtain ⟨h1, h2, h3⟩ := h
    obtain ⟨k1, k2⟩ := chkU_spec h3
    have hn := get_none h2
    refine ⟨fun p hp => ?_, fun i j p q hi hj hij => ?_⟩
    · cases hp with
      | head => exact h1
      | tail _ hp => exact k1 p hp
    · cases i with
      | zero =>
        cases j with
        | zero => exact absurd rfl hij
        | succ j =>
          simp at hi hj
          subst hi
          exact fun e => hn _ (somes_mem (List.mem_of_getElem? hj)) e.symm
      | succ i =>
        cases j with
        | zero =>
          simp at hi hj
          subst hj
          exact fun e => hn _ (somes_mem (List.mem_of_getElem? hi)) e
        | succ j => exact k2 i j p q (by simpa using hi) (by simpa using hj) (by omega)

theorem W_region_quiet {id : Nat} (hm : P.follows .mixedOrders = true) (ws : List (List Nat)) (hw : ((List.range l.length).all fun i => (ws.getD i []).all fun j => Region.waitsFor .any l.toArray i j) = true)
    (hac : earlierB l.toArray = true) (h : QS P N l E M (fun done => chkU E done = true ∧ G false P N Fin .normal k (somes done ++ E) M) [] ws l) : W false P N Fin (.region id l.toArray true) k E M := by
  obtain ⟨full, hlen, ⟨hc, hG⟩, hq⟩ := QS_all h.out
  simp only [List.nil_append] at hc hG hq
  obtain ⟨hf1, hf2⟩ := chkU_spec hc
  refine W_region_inv2 hm ws hw hac (fun done E' M' => Le E' E ∧ (∀ (i : Nat) (p : Nat × Value), full[i]? = some (some p) → done i = true → E'.get? p.1 = some p.2) ∧ Rk M' M) ⟨fun _ _ h => h, fun i p _ h => (by cases h), .rfl⟩ ?_ ?_
  · intro i hi done E' M' ⟨hs, hd, hrk⟩ hno hdone
    have hif : i < full.length := by omega
    have hqt := hq i hi hif
    have hone : (l.drop i).take 1 = [l[i]] := by rw [List.drop_eq_getElem_cons hi]; rfl
    rw [hone]
    have hfi : full[i]? = some full[i] := List.getElem?_eq_getElem hif
    generalize full[i] = u at hqt hfi
    refine ⟨⟨fun base w0 a w hA hS => hqt.out base w0 a w (Le.ag (Le.app (fun p hp => ?_) hs) hA) (hS.rk hrk) _ fun w' hS' => ?_⟩⟩
    · obtain ⟨j, hj, hjp⟩ := mem_pick hp
      refine hd j p ?_ (hdone j hj)
      rw [List.getElem?_take] at hjp
      split at hjp
      · exact hjp
      · cases hjp
    · cases u with
      | none =>
        refine ⟨E', M, hA, hS', rfl, hs, ?_, .rfl⟩
        intro j p hj hdj
        by_cases hji : j = i
        · subst hji; rw [hfi] at hj; cases hj
        · exact hd j p hj (by simpa [hji] using hdj)
      | some q =>
        obtain ⟨d, v⟩ := q
        refine ⟨(d, v) :: E', M, hA.put (hqt.hd _ rfl) _, hS', rfl, hs.cons (hf1 (d, v) (List.mem_of_getElem? hfi)), ?_, .rfl⟩
        intro j p hj hdj
        by_cases hji : j = i
        · subst hji; rw [hfi] at hj; cases hj; exact get_eq
        · have hdj' : done j = true := by simpa [hji] using hdj
          rw [get_ne (fun e => hf2 j i p (d, v) hj hfi hji e.symm)]
          exact hd j p hj hdj'
  · intro done E' M' ⟨hs, hd, hrk⟩ hall
    refine ⟨somes full ++ E, M, Le.app (fun p hp => ?_) hs, hrk, hG⟩
    obtain ⟨i, hi, hip⟩ := List.mem_iff_getElem.1 (mem_somes hp)
    exact hd i p (by rw [List.getElem?_eq_getElem hi, hip]) (hall i (by omega))
end
end Go.Proofs.Ytjkpfliaflmppaa.Vm

namespace Go.Proofs.Ytjkpfliaflmppaa.Vm
open Go Go.RowKit

/-- By a jump to l: J; by any other way: Q. -/
def Jump (l : Nat) (J : Env → Mem → Prop) (Q : Post) : Post
  | .goto l', E, M => l' = l ∧ J E M
  | e, E, M => Q e E M

section
variable {pr : Bool} {P : Program} {N : Fm} {Fin : Post} {k : List Kn} {E : Env} {M : Mem}

theorem W_label {l : Nat} (h : G pr P N Fin .normal k E M) : W pr P N Fin (.label l) k E M := ⟨⟨fun _ _ _ _ hA hS => wp_label ⟨E, M, hA, hS, h.out⟩⟩⟩
theorem W_goto {l : Nat} (h : G pr P N Fin (.goto l) k E M) : W pr P N Fin (.goto l) k E M := ⟨⟨fun _ _ _ _ hA hS => wp_goto ⟨E, M, hA, hS, h.out⟩⟩⟩
theorem G_goto_code {l : Nat} {c : Code} (h : G pr P N Fin (.goto l) k E M) : G pr P N Fin (.goto l) (.code c :: k) E M := ⟨h.out⟩
theorem G_goto_blk {l id : Nat} (h : G pr P N Fin (.goto l) k E M) : G pr P N Fin (.goto l) (.blk id :: k) E M := ⟨h.out⟩
theorem G_goto_stop {l : Nat} {K : Env → Mem → Prop} (h : G pr P N Fin (.goto l) k E M) : G pr P N Fin (.goto l) (.stop K :: k) E M := ⟨h.out⟩

theorem lift_jump {base : Nat} {w0 : World} {l : Nat} {J : Env → Mem → Prop} {Q : Post} {e : Exit} {a : Act} {w : World} (h : Lift pr base N w0 (Jump l J Q) e a w) :
    Exit.jump l (fun a w => ∃ E M, Ag N E a ∧ Sim pr base w0 w M ∧ J E M) (Lift pr base N w0 Q) e a w := by
  obtain ⟨E', M', h1, h2, h3⟩ := h
  cases e with
  | goto l' => exact ⟨h3.1, E', M', h1, h2, h3.2⟩
  | _ => exact ⟨E', M', h1, h2, h3⟩

theorem W_scope {α : Type} {c rest : Code} (l : Nat) (hf : findLabel c l = some rest) (St : α → Env) (Ms : α → Mem) (inv : α → Prop) (μ : α → Nat)
    (first : W pr P N (Jump l (fun E' M' => ∃ x, inv x ∧ Sub E' (St x) ∧ Rk M' (Ms x)) (fun e E M => G pr P N Fin e k E M)) c [] E M)
    (pass : ∀ x, inv x → W pr P N (Jump l (fun E' M' => ∃ x', inv x' ∧ μ x' < μ x ∧ Sub E' (St x') ∧ Rk M' (Ms x')) (fun e E M => G pr P N Fin e k E M)) rest [] (St x) (Ms x)) :
    W pr P N Fin (.scope c) k E M := by
  have key : ∀ base w0 n x a w, μ x < n → inv x → Ag N (St x) a → Sim pr base w0 w (Ms x) → ∀ b kk cs, ∃ e a' w', Lift pr base N w0 (post pr P N Fin k) e a' w' ∧
      Arrives P (lone (b.at a (.code rest :: .inScope c :: kk)) cs w) b kk cs e a' w' := by
    intro base w0 n
    induction n with
    | zero => intro x a w h; omega
    | succ n ih =>
      intro x a w hn hx hA hS b kk cs
      have hg : gotoIn l (.inScope c :: kk) = some (.code rest :: .inScope c :: kk) := by simp [gotoIn, hf]
      obtain ⟨e, a₁, w₁, hq, harr⟩ := ((pass x hx).out.out base w0 a w hA hS) b (.inScope c :: kk) cs
      have hq' := lift_jump hq
      cases e with
      | normal => obtain ⟨E1, M1, q1, q2, q3⟩ := hq; exact ⟨.normal, a₁, w₁, ⟨E1, M1, q1, q2, q3.out⟩, Steps.trans harr (.one step_inScope)⟩
      | exit id => obtain ⟨E1, M1, q1, q2, q3⟩ := hq; exact ⟨.exit id, a₁, w₁, ⟨E1, M1, q1, q2, q3.out⟩, fun k' hk => harr k' (by simp [exitTo, hk])⟩
      | goto l' =>
        obtain ⟨rfl, E1, M1, q1, q2, x', p1, p2, p3, p4⟩ := hq'
        obtain ⟨e₂, a₂, w₂, hq₂, harr₂⟩ := ih x' a₁ w₁ (by omega) p1 (q1.sub p3) (q2.rk p4) b kk cs
        exact ⟨e₂, a₂, w₂, hq₂, .of_steps (harr _ hg) harr₂⟩
      | ret => obtain ⟨E1, M1, q1, q2, q3⟩ := hq; exact ⟨_, a₁, w₁, ⟨E1, M1, q1, q2, q3.out⟩, harr⟩
      | panic ch => obtain ⟨E1, M1, q1, q2, q3⟩ := hq; exact ⟨_, a₁, w₁, ⟨E1, M1, q1, q2, q3.out⟩, harr⟩
      | outgrown => obtain ⟨E1, M1, q1, q2, q3⟩ := hq; exact ⟨_, a₁, w₁, ⟨E1, M1, q1, q2, q3.out⟩, harr⟩
  refine ⟨⟨fun base w0 a w hA hS => ?_⟩⟩
  intro b kk cs
  have hg : gotoIn l (.inScope c :: kk) = some (.code rest :: .inScope c :: kk) := by simp [gotoIn, hf]
  obtain ⟨e, a₁, w₁, hq, harr⟩ := (first.out.out base w0 a w hA hS) b (.inScope c :: kk) cs
  have hq' := lift_jump hq
  cases e with
  | normal => obtain ⟨E1, M1, q1, q2, q3⟩ := hq; exact ⟨.normal, a₁, w₁, ⟨E1, M1, q1, q2, q3.out⟩, .head step_scope (Steps.trans harr (.one step_inScope))⟩
  | exit id => obtain ⟨E1, M1, q1, q2, q3⟩ := hq; exact ⟨.exit id, a₁, w₁, ⟨E1, M1, q1, q2, q3.out⟩, fun k' hk => .head step_scope (harr k' (by simp [exitTo, hk]))⟩
  | goto l' =>
    obtain ⟨rfl, E1, M1, q1, q2, x, p1, p3, p4⟩ := hq'
    obtain ⟨e₂, a₂, w₂, hq₂, harr₂⟩ := key base w0 _ x a₁ w₁ (Nat.lt_succ_self _) p1 (q1.sub p3) (q2.rk p4) b kk cs
    exact ⟨e₂, a₂, w₂, hq₂, .of_steps (.head step_scope (harr _ hg)) harr₂⟩
  | ret => obtain ⟨E1, M1, q1, q2, q3⟩ := hq; exact ⟨_, a₁, w₁, ⟨E1, M1, q1, q2, q3.out⟩, .of_steps (.one step_scope) harr⟩
  | panic ch => obtain ⟨E1, M1, q1, q2, q3⟩ := hq; exact ⟨_, a₁, w₁, ⟨E1, M1, q1, q2, q3.out⟩, .of_steps (.one step_scope) harr⟩
  | outgrown => obtain ⟨E1, M1, q1, q2, q3⟩ := hq; exact ⟨_, a₁, w₁, ⟨E1, M1, q1, q2, q3.out⟩, .of_steps (.one step_scope) harr⟩
/-- Out of the scope. -/
theorem G_leave {l : Nat} {J : Env → Mem → Prop} {e : Exit} (he : ∀ l', e ≠ .goto l') (h : G pr P N Fin e k E M) : G pr P N (Jump l J (fun e E M => G pr P N Fin e k E M)) e [] E M := by
  refine ⟨?_⟩
  cases e with
  | goto l' => exact absurd rfl (he l')
  | _ => exact h
theorem G_jump {l : Nat} {J : Env → Mem → Prop} {Q : Post} (h : J E M) : G pr P N (Jump l J Q) (.goto l) [] E M := ⟨⟨rfl, h⟩⟩
end
end Go.Proofs.Ytjkpfliaflmppaa.Vm

namespace Go.Proofs.Ytjkpfliaflmppaa.Vm
open Go Go.RowKit

/-- Whether the operation is carried out, as far as it is known. -/
def onB (E : Env) (ops : List Oper) : Option (Nat × Bool) → Option Bool
  | none => some true
  | some (j, t) => match ops[j]? with
    | some o => match o.dst with
      | some d => match E.get? d with
        | some (.bool b) => match b, t with | true, true => some true | false, false => some true | _, _ => some false
        | some _ => some false
        | none => none
      | none => none
    | none => none

theorem onB_on {E : Env} {ops : List Oper} {g : Option (Nat × Bool)} (h : onB E ops g = some true) : On E ops g := by
  cases g with
  | none => trivial
  | some jt =>
    obtain ⟨j, t⟩ := jt
    simp only [onB] at h
    split at h
    · rename_i o ho
      split at h
      · rename_i d hd
        split at h
        · rename_i b hb
          refine ⟨d, by simp [ho, hd], ?_⟩
          rw [hb]
          split at h <;> first | rfl | cases h
        · cases h
        · cases h
      · cases h
    · cases h
theorem onB_off {E : Env} {ops : List Oper} {g : Option (Nat × Bool)} (h : onB E ops g = some false) : Off E ops g := by
  cases g with
  | none => cases h
  | some jt =>
    obtain ⟨j, t⟩ := jt
    simp only [onB] at h
    split at h
    · rename_i o ho
      split at h
      · rename_i d hd
        split at h
        · rename_i b hb
          refine ⟨d, .bool b, by simp [ho, hd], hb, ?_⟩
          show b ≠ t
          cases b <;> cases t <;> simp_all
        · rename_i v hnb hv
          refine ⟨d, _, by simp [ho, hd], hv, ?_⟩
          cases v <;> first | trivial | (exfalso; exact hnb _ rfl)
        · cases h
      · cases h
    · cases h

/-- One operation that turns no row: carried out with v, or passed over. -/
structure PS (P : Program) (N : Fm) (ops : List Oper) (E : Env) (M : Mem) (o : Oper) (d : Nat) (v : Value) : Prop where
  dst : o.dst = some d
  lt : Nat.blt d N.n = true
  how : (On E ops o.guard ∧ Pure P N E M o.op v) ∨ (Off E ops o.guard ∧ v = undef)

section
variable {pr : Bool} {P : Program} {N : Fm} {Fin : Post} {k : List Kn} {E : Env} {M : Mem} {ops rest : List Oper} {o : Oper} {d : Nat} {v : Value}

theorem oo (h : PS P N ops E M o d v) (h2 : WO pr P N Fin ops rest k ((d, v) :: E) M) : WO pr P N Fin ops (o :: rest) k E M := by
  obtain ⟨dst, op, ty, pos, after, g⟩ := o
  obtain ⟨h1, hl, ⟨hg, hp⟩ | ⟨hg, rfl⟩⟩ := h
  · simp only at h1; subst h1; exact O_pure hp hg hl h2
  · simp only at h1; subst h1; exact O_off hg hl h2
theorem ss {K : Env → Prop} (h : PS P N ops E M o d v) (h2 : OS pr P N ops K rest ((d, v) :: E) M) : OS pr P N ops K (o :: rest) E M := by
  obtain ⟨dst, op, ty, pos, after, g⟩ := o
  obtain ⟨h1, hl, ⟨hg, hp⟩ | ⟨hg, rfl⟩⟩ := h
  · simp only at h1; subst h1; exact OS_pure hp hg hl h2
  · simp only at h1; subst h1; exact OS_off hg hl h2
theorem qq {K : UEnv → Prop} {done : UEnv} {w : List Nat} {ws : List (List Nat)} (h : PS P N ops (pick done w ++ E) M o d v) (h2 : QS P N ops E M K (done ++ [some (d, v)]) ws rest) : QS P N ops E M K done (w :: ws) (o :: rest) := by
  obtain ⟨dst, op, ty, pos, after, g⟩ := o
  obtain ⟨h1, hl, ⟨hg, hp⟩ | ⟨hg, rfl⟩⟩ := h
  · simp only at h1; subst h1; exact QS_pure hp hg hl h2
  · simp only at h1; subst h1; exact QS_off hg hl h2

/-- The slot and the operation, if it is carried out. -/
def onS (n : Nat) (ops : List Oper) (E : Env) (o : Oper) : Option (Nat × Op) :=
  match o.dst with
  | none => none
  | some d => bif Nat.blt d n then (match onB E ops o.guard with | some true => some (d, o.op) | _ => none) else none
theorem onS_spec {op : Op} (h : onS N.n ops E o = some (d, op)) : o.dst = some d ∧ Nat.blt d N.n = true ∧ On E ops o.guard ∧ o.op = op := by
  unfold onS at h
  split at h
  · cases h
  · rename_i d' hd
    cases hb : Nat.blt d' N.n with
    | false => rw [hb] at h; cases h
    | true =>
      rw [hb] at h
      simp only [cond_true] at h
      split at h
      · rename_i hon
        cases h
        exact ⟨hd, hb, onB_on hon, rfl⟩
      · cases h
theorem ps_of {op : Op} (h : onS N.n ops E o = some (d, op)) (hp : Pure P N E M op v) : PS P N ops E M o d v := by
  obtain ⟨h1, h2, h3, h4⟩ := onS_spec h
  subst h4
  exact ⟨h1, h2, .inl ⟨h3, hp⟩⟩

/-! ### What is reckoned from slots alone -/

def reck (E : Env) : Op → Option Value
  | .move x => ev E x
  | .assign x => ev E x
  | .nilCheck x => match ev E x with | some (.pointer (some a)) => some (.pointer (some a)) | _ => none
  | .pick c x y => match ev E c with | some (.bool true) => ev E x | some (.bool false) => ev E y | _ => none
  | .unOp .not _ x => match ev E x with | some (.bool true) => some (.bool false) | some (.bool false) => some (.bool true) | _ => none
  | .extract x i => match ev E x with | some (.tuple vs) => vs.toList[i]? | _ => none
  | .makeFunc fn ⟨[]⟩ ⟨xs⟩ => match evs E xs with | some vs => some (.func fn #[] vs.toArray) | none => none
  | _ => none
theorem reck_pure {op : Op} (h : reck E op = some v) : Pure P N E M op v := by
  unfold reck at h
  split at h
  · exact P_move h
  · exact P_assign h
  · split at h
    · rename_i hx; cases h; exact P_nil hx
    · cases h
  · split at h
    · rename_i hc; exact P_pick_t hc h
    · rename_i hc; exact P_pick_f hc h
    · cases h
  · split at h
    · rename_i hx; cases h; exact P_not hx
    · rename_i hx; cases h; exact P_not hx
    · cases h
  · split at h
    · rename_i vs hx; exact P_extract (vs := vs.toList) (by simpa using hx) h
    · cases h
  · split at h
    · rename_i vs hx; cases h; exact P_mkfunc hx
    · cases h
  · cases h
def calS (n : Nat) (ops : List Oper) (E : Env) (o : Oper) : Option (Nat × Value) :=
  match o.dst with
  | none => none
  | some d => bif Nat.blt d n then (match onB E ops o.guard with
    | some true => (match reck E o.op with | some v => some (d, v) | none => none)
    | some false => some (d, undef)
    | none => none) else none
theorem Pc (h : calS N.n ops E o = some (d, v)) : PS P N ops E M o d v := by
  unfold calS at h
  split at h
  · cases h
  · rename_i d' hd
    cases hb : Nat.blt d' N.n with
    | false => rw [hb] at h; cases h
    | true =>
      rw [hb] at h
      simp only [cond_true] at h
      split at h
      · rename_i hon
        split at h
        · rename_i hc; cases h; exact ⟨hd, hb, .inl ⟨onB_on hon, reck_pure hc⟩⟩
        · cases h
      · rename_i hon; cases h; exact ⟨hd, hb, .inr ⟨onB_off hon, rfl⟩⟩
      · cases h

/-! ### Numbers -/

class KB (k : IntKind) (lo hi : outParam Int) : Prop where
  out : ∀ n, lo ≤ n → n ≤ hi → inK k n
instance : KB .i64 (-9223372036854775808) 9223372036854775807 := ⟨fun _ => inK_i64⟩
instance : KB .u64 0 18446744073709551615 := ⟨fun _ => inK_u64⟩
instance : KB .u32 0 4294967295 := ⟨fun _ => inK_u32⟩
instance : KB .u16 0 65535 := ⟨fun _ => inK_u16⟩
instance : KB .u8 0 255 := ⟨fun _ => inK_u8⟩
instance : KB .i32 (-2147483648) 2147483647 := ⟨fun _ => inK_i32⟩

def bin2 (n : Nat) (ops : List Oper) (E : Env) (o : Oper) : Option (Nat × BinOp × IntKind × Int × IntKind × Int) :=
  match onS n ops E o with
  | some (d, .binOp b _ x y _) => match ev E x, ev E y with
    | some (.int k p), some (.int k' q) => some (d, b, k, p, k', q)
    | _, _ => none
  | _ => none
theorem bin2_spec {b : BinOp} {kd kd' : IntKind} {p q : Int} (h : bin2 N.n ops E o = some (d, b, kd, p, kd', q)) : ∃ t x y t2, onS N.n ops E o = some (d, .binOp b t x y t2) ∧ ev E x = some (.int kd p) ∧ ev E y = some (.int kd' q) := by
  unfold bin2 at h
  split at h
  · rename_i d' b' t x y t2 hon
    split at h
    · rename_i hx hy; cases h; exact ⟨t, x, y, t2, hon, hx, hy⟩
    · cases h
  · cases h
def arS (n : Nat) (ops : List Oper) (E : Env) (o : Oper) : Option (Nat × IntKind × IntKind × Int) :=
  match bin2 n ops E o with
  | some (d, .add, k, p, k', q) => some (d, k, k', p + q)
  | some (d, .sub, k, p, k', q) => some (d, k, k', p - q)
  | some (d, .mul, k, p, k', q) => some (d, k, k', p * q)
  | _ => none
theorem Pa {kd : IntKind} {r lo hi : Int} (h : arS N.n ops E o = some (d, kd, kd, r)) [hk : KB kd lo hi] (h1 : lo ≤ r) (h2 : r ≤ hi) : PS P N ops E M o d (.int kd r) := by
  unfold arS at h
  split at h
  · rename_i hb; cases h; obtain ⟨t, x, y, t2, hon, hx, hy⟩ := bin2_spec hb; exact ps_of hon (P_ar hx hy rfl (hk.out _ h1 h2))
  · rename_i hb; cases h; obtain ⟨t, x, y, t2, hon, hx, hy⟩ := bin2_spec hb; exact ps_of hon (P_ar hx hy rfl (hk.out _ h1 h2))
  · rename_i hb; cases h; obtain ⟨t, x, y, t2, hon, hx, hy⟩ := bin2_spec hb; exact ps_of hon (P_ar hx hy rfl (hk.out _ h1 h2))
  · cases h
class YesI (b : BinOp) (p q : Int) (A B : outParam Prop) : Prop where
  out : ∃ r, cmp b p q = some r ∧ (r = true → A) ∧ (r = false → B)
instance {p q : Int} : YesI .eql p q (p = q) (p ≠ q) := ⟨_, rfl, fun h => cmp_yes (o := .eql) rfl h, fun h => cmp_no (o := .eql) rfl h⟩
instance {p q : Int} : YesI .neq p q (p ≠ q) (p = q) := ⟨_, rfl, fun h => cmp_yes (o := .neq) rfl h, fun h => cmp_no (o := .neq) rfl h⟩
instance {p q : Int} : YesI .lss p q (p < q) (q ≤ p) := ⟨_, rfl, fun h => cmp_yes (o := .lss) rfl h, fun h => cmp_no (o := .lss) rfl h⟩
instance {p q : Int} : YesI .leq p q (p ≤ q) (q < p) := ⟨_, rfl, fun h => cmp_yes (o := .leq) rfl h, fun h => cmp_no (o := .leq) rfl h⟩
instance {p q : Int} : YesI .gtr p q (q < p) (p ≤ q) := ⟨_, rfl, fun h => cmp_yes (o := .gtr) rfl h, fun h => cmp_no (o := .gtr) rfl h⟩
instance {p q : Int} : YesI .geq p q (q ≤ p) (p < q) := ⟨_, rfl, fun h => cmp_yes (o := .geq) rfl h, fun h => cmp_no (o := .geq) rfl h⟩
theorem ps_cmp {b : BinOp} {kd : IntKind} {p q : Int} {r : Bool} (h : bin2 N.n ops E o = some (d, b, kd, p, kd, q)) (hr : cmp b p q = some r) : PS P N ops E M o d (.bool r) := by
  obtain ⟨t, x, y, t2, hon, hx, hy⟩ := bin2_spec h
  exact ps_of hon (P_cmp hx hy hr)
theorem ob {b : BinOp} {kd : IntKind} {p q : Int} {A B : Prop} (h : bin2 N.n ops E o = some (d, b, kd, p, kd, q)) [hy : YesI b p q A B] (h1 : A → WO pr P N Fin ops rest k ((d, .bool true) :: E) M) (h2 : B → WO pr P N Fin ops rest k ((d, .bool false) :: E) M) :
    WO pr P N Fin ops (o :: rest) k E M := by
  obtain ⟨r, hr, hA, hB⟩ := hy.out
  have := ps_cmp (P := P) (M := M) h hr
  cases r
  · exact oo this (h2 (hB rfl))
  · exact oo this (h1 (hA rfl))
theorem sb {K : Env → Prop} {b : BinOp} {kd : IntKind} {p q : Int} {A B : Prop} (h : bin2 N.n ops E o = some (d, b, kd, p, kd, q)) [hy : YesI b p q A B] (h1 : A → OS pr P N ops K rest ((d, .bool true) :: E) M) (h2 : B → OS pr P N ops K rest ((d, .bool false) :: E) M) :
    OS pr P N ops K (o :: rest) E M := by
  obtain ⟨r, hr, hA, hB⟩ := hy.out
  have := ps_cmp (P := P) (M := M) h hr
  cases r
  · exact ss this (h2 (hB rfl))
  · exact ss this (h1 (hA rfl))
theorem qb {K : UEnv → Prop} {done : UEnv} {w : List Nat} {ws : List (List Nat)} {b : BinOp} {kd : IntKind} {p q : Int} {A B : Prop} (h : bin2 N.n ops (pick done w ++ E) o = some (d, b, kd, p, kd, q)) [hy : YesI b p q A B]
    (h1 : A → QS P N ops E M K (done ++ [some (d, .bool true)]) ws rest) (h2 : B → QS P N ops E M K (done ++ [some (d, .bool false)]) ws rest) : QS P N ops E M K done (w :: ws) (o :: rest) := by
  obtain ⟨r, hr, hA, hB⟩ := hy.out
  have := ps_cmp (P := P) (M := M) h hr
  cases r
  · exact qq this (h2 (hB rfl))
  · exact qq this (h1 (hA rfl))
def cvS (n : Nat) (ops : List Oper) (E : Env) (o : Oper) : Option (Nat × TypeId × TypeId × IntKind × Int) :=
  match onS n ops E o with
  | some (d, .convert s t x) => match ev E x with
    | some (.int k p) => some (d, s, t, k, p)
    | _ => none
  | _ => none
theorem Pv {s t : TypeId} {kd k2 : IntKind} {p lo hi : Int} (h : cvS N.n ops E o = some (d, s, t, kd, p)) [hs : UndC P s (.int kd)] [ht : UndC P t (.int k2)] [hk : KB k2 lo hi] (h1 : lo ≤ p) (h2 : p ≤ hi) : PS P N ops E M o d (.int k2 p) := by
  unfold cvS at h
  split at h
  · rename_i hon
    split at h
    · rename_i hx; cases h; exact ps_of hon (I_convk hx (hk.out _ h1 h2))
    · cases h
  · cases h

/-! ### Memory -/

class NthI (l : List Value) (n : Nat) (v : outParam Value) : Prop where
  out : l[n]? = some v
instance {v : Value} {l : List Value} : NthI (v :: l) 0 v := ⟨rfl⟩
instance {x v : Value} {l : List Value} {n : Nat} [h : NthI l n v] : NthI (x :: l) (n + 1) v := ⟨by simpa using h.out⟩
/-- The cell at a place. -/
class CellI (M : Mem) (b a : Nat) (v : outParam Value) : Prop where
  out : ∃ own o n l, (⟨own, b, o, l⟩ : Sg) ∈ M ∧ a = o + n ∧ l[n]? = some v
instance (priority := 1100) {M : Mem} {b o : Nat} {own : Bool} {l : List Value} {v : Value} : CellI (⟨own, b, o, v :: l⟩ :: M) b o v := ⟨⟨own, o, 0, v :: l, .head _, rfl, rfl⟩⟩
instance (priority := 1050) {M : Mem} {b o n : Nat} {own : Bool} {l : List Value} {v : Value} [h : NthI l n v] : CellI (⟨own, b, o, l⟩ :: M) b (o + n) v := ⟨⟨own, o, n, l, .head _, rfl, h.out⟩⟩
instance {M : Mem} {b a : Nat} {v : Value} {x : Sg} [h : CellI M b a v] : CellI (x :: M) b a v := ⟨by obtain ⟨own, o, n, l, h1, h2⟩ := h.out; exact ⟨own, o, n, l, .tail _ h1, h2⟩⟩
instance {M L : Mem} {b a : Nat} {v : Value} {x : Sg} [h : CellI (x :: (L ++ M)) b a v] : CellI ((x :: L) ++ M) b a v := ⟨h.out⟩
instance {M : Mem} {b a : Nat} {v : Value} [h : CellI M b a v] : CellI ([] ++ M) b a v := ⟨h.out⟩
/-- .. put anew. -/
class PutI (M : Mem) (b a : Nat) (v : Value) (M' : outParam Mem) : Prop where
  out : ∃ o n l, a = o + n ∧ n < l.length ∧ Upd1 M ⟨true, b, o, l⟩ (l.set n v) M'
instance (priority := 1100) {M : Mem} {b o : Nat} {l : List Value} {u v : Value} : PutI (⟨true, b, o, u :: l⟩ :: M) b o v (⟨true, b, o, v :: l⟩ :: M) := ⟨⟨o, 0, u :: l, rfl, by simp, .head⟩⟩
instance (priority := 1050) {M : Mem} {b o n : Nat} {l l' : List Value} {v : Value} [h : SetI l n v l'] : PutI (⟨true, b, o, l⟩ :: M) b (o + n) v (⟨true, b, o, l'⟩ :: M) :=
  ⟨⟨o, n, l, rfl, h.out.eq.2, by rw [h.out.eq.1]; exact .head⟩⟩
instance {M M' : Mem} {b a : Nat} {v : Value} {x : Sg} [h : PutI M b a v M'] : PutI (x :: M) b a v (x :: M') := ⟨by obtain ⟨o, n, l, h1, h2, h3⟩ := h.out; exact ⟨o, n, l, h1, h2, .tail h3⟩⟩
instance {M M' L : Mem} {b a : Nat} {v : Value} {x : Sg} [h : PutI (x :: (L ++ M)) b a v M'] : PutI ((x :: L) ++ M) b a v M' := ⟨h.out⟩
instance {M M' : Mem} {b a : Nat} {v : Value} [h : PutI M b a v M'] : PutI ([] ++ M) b a v M' := ⟨h.out⟩

def ldS (n : Nat) (ops : List Oper) (E : Env) (o : Oper) : Option (Nat × TypeId × Nat × Nat) :=
  match onS n ops E o with
  | some (d, .load t x) => match ev E x with
    | some (.pointer (some ⟨b, a, none⟩)) => some (d, t, b, a)
    | _ => none
  | _ => none
theorem ldS_spec {t : TypeId} {b a : Nat} (h : ldS N.n ops E o = some (d, t, b, a)) : ∃ x, onS N.n ops E o = some (d, .load t x) ∧ ev E x = some (.pointer (some ⟨b, a, none⟩)) := by
  unfold ldS at h
  split at h
  · rename_i x hon
    split at h
    · rename_i hx; cases h; exact ⟨_, hon, hx⟩
    · cases h
  · cases h
theorem Pl {t : TypeId} {b a : Nat} (h : ldS N.n ops E o = some (d, t, b, a)) [ht : PlainC P t] [hm : CellI M b a v] : PS P N ops E M o d v := by
  obtain ⟨x, hon, hx⟩ := ldS_spec h
  obtain ⟨own, o', n, l, h1, h2, h3⟩ := hm.out
  subst h2
  exact ps_of hon (P_load ht.out hx h1 h3)
theorem Px {t : TypeId} {b o' n : Nat} {own : Bool} {l : List Value} {M0 : Mem} (h : ldS N.n ops E o = some (d, t, b, o' + n)) [ht : PlainC P t] [hm : TakeI M b o' own l M0] (hv : l[n]? = some v) : PS P N ops E M o d v := by
  obtain ⟨x, hon, hx⟩ := ldS_spec h
  exact ps_of hon (I_load hx hv)
theorem Pi {t : TypeId} {b o' : Nat} {own : Bool} {l : List Int} {kd : IntKind} {z : Int} {M0 : Mem} (h : ldS N.n ops E o = some (d, t, b, o' + z.toNat)) [ht : UndC P t (.int kd)] [hm : TakeI M b o' own (ints kd l) M0] (hz : z.toNat < l.length) :
    PS P N ops E M o d (.int kd (rd l z)) := by
  obtain ⟨x, hon, hx⟩ := ldS_spec h
  exact ps_of hon (I_loadi hx hz)

class MulI (z : Int) (n : Nat) (r : outParam Nat) : Prop where
  out : r = z.toNat * n ∧ 0 < n
instance {z : Int} : MulI z 1 z.toNat := ⟨by simp⟩
instance {z : Int} : MulI z 2 (z.toNat * 2) := ⟨by simp⟩
instance {z : Int} : MulI z 3 (z.toNat * 3) := ⟨by simp⟩
instance {z : Int} : MulI z 4 (z.toNat * 4) := ⟨by simp⟩
instance {z : Int} : MulI z 5 (z.toNat * 5) := ⟨by simp⟩
def ixS (n : Nat) (ops : List Oper) (E : Env) (o : Oper) : Option (Nat × TypeId × Nat × Nat × Nat × Int) :=
  match onS n ops E o with
  | some (d, .indexAddr t x i) => match ev E x with
    | some (.slice (some ⟨b, a, none⟩) len _) => match ev E i with
      | some (.int _ z) => some (d, t, b, a, len, z)
      | _ => none
    | _ => none
  | _ => none
theorem Pj {t e : TypeId} {b a len n r : Nat} {z : Int} (h : ixS N.n ops E o = some (d, t, b, a, len, z)) [ht : UndC P t (.slice e)] [he : CelC P e n] [hr : MulI z n r] (h0 : 0 ≤ z) (h1 : z < len) : PS P N ops E M o d (.pointer (some ⟨b, a + r, none⟩)) := by
  obtain ⟨rfl, hn⟩ := hr.out
  unfold ixS at h
  split at h
  · rename_i hon
    split at h
    · rename_i hx
      split at h
      · rename_i hi; cases h; exact ps_of hon (P_index ht.out he.out hn hx hi h0 h1)
      · cases h
    · cases h
  · cases h
def iaS (n : Nat) (ops : List Oper) (E : Env) (o : Oper) : Option (Nat × TypeId × Nat × Nat × Int) :=
  match onS n ops E o with
  | some (d, .indexAddr t x i) => match ev E x with
    | some (.pointer (some ⟨b, a, none⟩)) => match ev E i with
      | some (.int _ z) => some (d, t, b, a, z)
      | _ => none
    | _ => none
  | _ => none
theorem Pk {t e : TypeId} {b a len n r : Nat} {z : Int} (h : iaS N.n ops E o = some (d, t, b, a, z)) [ht : UndC P t (.array len e)] [he : CelC P e n] [hr : MulI z n r] (h0 : 0 ≤ z) (h1 : z < len) : PS P N ops E M o d (.pointer (some ⟨b, a + r, none⟩)) := by
  obtain ⟨rfl, hn⟩ := hr.out
  unfold iaS at h
  split at h
  · rename_i hon
    split at h
    · rename_i hx
      split at h
      · rename_i hi; cases h; exact ps_of hon (P_indexA ht.out he.out hn hx hi h0 h1)
      · cases h
    · cases h
  · cases h
def fdS (n : Nat) (ops : List Oper) (E : Env) (o : Oper) : Option (Nat × TypeId × Nat × Nat × Nat) :=
  match onS n ops E o with
  | some (d, .fieldAddr s x f) => match ev E x with
    | some (.pointer (some ⟨b, a, none⟩)) => some (d, s, f, b, a)
    | _ => none
  | _ => none
theorem Pf {s : TypeId} {f b a off : Nat} (h : fdS N.n ops E o = some (d, s, f, b, a)) [hf : FldC P s f off] : PS P N ops E M o d (.pointer (some ⟨b, a + off, none⟩)) := by
  unfold fdS at h
  split at h
  · rename_i hon
    split at h
    · rename_i hx; cases h; exact ps_of hon (I_field hx)
    · cases h
  · cases h
def miS (n : Nat) (ops : List Oper) (E : Env) (o : Oper) : Option (Nat × TypeId × Value) :=
  match onS n ops E o with
  | some (d, .makeInterface t x) => match ev E x with
    | some v => some (d, t, v)
    | none => none
  | _ => none
theorem Pm {t : TypeId} (h : miS N.n ops E o = some (d, t, v)) [ht : NonIfC P t] : PS P N ops E M o d (.iface t v) := by
  unfold miS at h
  split at h
  · rename_i hon
    split at h
    · rename_i hx; cases h; exact ps_of hon (I_mkiface hx)
    · cases h
  · cases h
def lnS (n : Nat) (ops : List Oper) (E : Env) (o : Oper) : Option (Nat × TypeId × Nat) :=
  match onS n ops E o with
  | some (d, .call ⟨.builtin .len, ⟨[x]⟩, ⟨[t]⟩⟩) => match ev E x with
    | some (.slice _ len _) => some (d, t, len)
    | _ => none
  | _ => none
theorem Pn {t e : TypeId} {len : Nat} (h : lnS N.n ops E o = some (d, t, len)) [ht : UndC P t (.slice e)] : PS P N ops E M o d (.int .i64 len) := by
  unfold lnS at h
  split at h
  · rename_i hon
    split at h
    · rename_i hx; cases h; exact ps_of hon (P_len ht.out hx)
    · cases h
  · cases h

def stS (ops : List Oper) (E : Env) (o : Oper) : Option (TypeId × Nat × Nat × Value) :=
  match o.dst with
  | some _ => none
  | none => match onB E ops o.guard with
    | some true => match o.op with
      | .store t p x => match ev E p with
        | some (.pointer (some ⟨b, a, none⟩)) => match ev E x with
          | some v => some (t, b, a, v)
          | none => none
        | _ => none
      | _ => none
    | _ => none
theorem stS_spec {t : TypeId} {b a : Nat} (h : stS ops E o = some (t, b, a, v)) : ∃ p x ty pos after g, o = ⟨none, .store t p x, ty, pos, after, g⟩ ∧ On E ops g ∧ ev E p = some (.pointer (some ⟨b, a, none⟩)) ∧ ev E x = some v := by
  obtain ⟨dst, op, ty, pos, after, g⟩ := o
  unfold stS at h
  split at h
  · cases h
  · rename_i hd
    split at h
    · rename_i hon
      split at h
      · rename_i p x hop
        split at h
        · rename_i hp
          split at h
          · rename_i hx; cases h; simp only at hd hop hon; subst hd; subst hop; exact ⟨p, x, ty, pos, after, g, rfl, onB_on hon, hp, hx⟩
          · cases h
        · cases h
      · cases h
    · cases h
theorem os {t : TypeId} {b a : Nat} {M' : Mem} (h : stS ops E o = some (t, b, a, v)) [ht : CelC P t 1] (hv : v.oneCell' = true) [hu : PutI M b a v M'] (h2 : WO false P N Fin ops rest k E M') : WO false P N Fin ops (o :: rest) k E M := by
  obtain ⟨p, x, ty, pos, after, g, rfl, hg, hp, hx⟩ := stS_spec h
  obtain ⟨o', n, l, rfl, hn, hup⟩ := hu.out
  exact O_store ht.out hp hx hv hg hn hup h2
theorem ot {t : TypeId} {b o' : Nat} {l : List Int} {kd : IntKind} {z u : Int} {M0 M' : Mem} (h : stS ops E o = some (t, b, o' + z.toNat, .int kd u)) [ht : CelC P t 1] [hm : TakeI M b o' true (ints kd l) M0] (hn : z.toNat < l.length)
    [hu : UpdI M b o' (ints kd l) (ints kd (wr l z u)) M'] (h2 : WO false P N Fin ops rest k E M') : WO false P N Fin ops (o :: rest) k E M := by
  obtain ⟨p, x, ty, pos, after, g, rfl, hg, hp, hx⟩ := stS_spec h
  exact O_storei ht.out hp hx hg hu.out hn h2

/-! ### Code -/

inductive St where
  | w (c : Code) (k : List Kn)
  | g (e : Exit) (k : List Kn)
def St.says (pr : Bool) (P : Program) (N : Fm) (Fin : Post) (E : Env) (M : Mem) : St → Prop
  | .w c k => W pr P N Fin c k E M
  | .g e k => G pr P N Fin e k E M
def stepK (E : Env) : St → Option St
  | .w (.seq x y) k => some (.w x (.code y :: k))
  | .w (.block id c) k => some (.w c (.blk id :: k))
  | .w .skip k => some (.g .normal k)
  | .w (.exit id) k => some (.g (.exit id) k)
  | .w .ret k => some (.g .ret k)
  | .w (.label _) k => some (.g .normal k)
  | .w (.goto l) k => some (.g (.goto l) k)
  | .w (.cond c x y) k => match ev E c with
    | some (.bool true) => some (.w x k)
    | some (.bool false) => some (.w y k)
    | _ => none
  | .w _ _ => none
  | .g .normal (.code c :: k) => some (.w c k)
  | .g .normal (.blk _ :: k) => some (.g .normal k)
  | .g .normal _ => none
  | .g (.exit id') (.blk id :: k) => bif Nat.beq id' id then some (.g .normal k) else some (.g (.exit id') k)
  | .g (.exit id') (_ :: k) => some (.g (.exit id') k)
  | .g .ret (_ :: k) => some (.g .ret k)
  | .g (.goto l) (_ :: k) => some (.g (.goto l) k)
  | .g _ _ => none
theorem stepK_spec {s s' : St} (h : stepK E s = some s') (h2 : s'.says pr P N Fin E M) : s.says pr P N Fin E M := by
  unfold stepK at h
  split at h
  · cases h; exact W_seq h2
  · cases h; exact W_block h2
  · cases h; exact W_skip h2
  · cases h; exact W_exit h2
  · cases h; exact W_ret h2
  · cases h; exact W_label h2
  · cases h; exact W_goto h2
  · split at h
    · rename_i hc; cases h; exact W_cond_t hc h2
    · rename_i hc; cases h; exact W_cond_f hc h2
    · cases h
  · cases h
  · cases h; exact G_code h2
  · cases h; exact G_blk h2
  · cases h
  · rename_i id' id k
    cases hb : Nat.beq id' id with
    | true =>
      rw [hb] at h
      cases h
      have := Nat.eq_of_beq_eq_true hb
      subst this
      exact G_exit_blk h2
    | false =>
      rw [hb] at h
      cases h
      exact G_exit_other hb h2
  · rename_i id' x k hx
    cases h
    cases x with
    | code c => exact G_exit_code h2
    | blk id => exact absurd rfl (hx id)
    | stop K => exact G_exit_stop h2
  · rename_i x k
    cases h
    cases x with
    | code c => exact G_ret_code h2
    | blk id => exact G_ret_blk h2
    | stop K => exact G_ret_stop h2
  · rename_i l x k
    cases h
    cases x with
    | code c => exact G_goto_code h2
    | blk id => exact G_goto_blk h2
    | stop K => exact G_goto_stop h2
  · cases h
def runK (E : Env) : Nat → St → St
  | 0, s => s
  | n + 1, s => match stepK E s with
    | some s' => runK E n s'
    | none => s
theorem runK_spec : ∀ (n : Nat) {s : St}, (runK E n s).says pr P N Fin E M → s.says pr P N Fin E M
  | 0, _, h => h
  | n + 1, s, h => by
    simp only [runK] at h
    split at h
    · rename_i s' hs; exact stepK_spec hs (runK_spec n h)
    · exact h
def normK (E : Env) (s : St) : Option St := match stepK E s with
  | some s' => some (runK E 100 s')
  | none => none
theorem normK_spec {s s' : St} (h : normK E s = some s') (h2 : s'.says pr P N Fin E M) : s.says pr P N Fin E M := by
  unfold normK at h
  split at h
  · rename_i hs; cases h; exact stepK_spec hs (runK_spec 100 h2)
  · cases h
theorem wo {c : Code} {id : Nat} {l : List Oper} {k' : List Kn} (h : runK E 100 (.w c k) = .w (.region id l.toArray false) k') (h2 : WO pr P N Fin l l k' E M) : W pr P N Fin c k E M :=
  runK_spec 100 (s := .w c k) (by rw [h]; exact W_region h2)
theorem wc {c c' : Code} {k' : List Kn} (h : normK E (.w c k) = some (.w c' k')) (h2 : W pr P N Fin c' k' E M) : W pr P N Fin c k E M := normK_spec (s := .w c k) h h2
theorem wg {c : Code} {e : Exit} {k' : List Kn} (h : normK E (.w c k) = some (.g e k')) (h2 : G pr P N Fin e k' E M) : W pr P N Fin c k E M := normK_spec (s := .w c k) h h2
theorem go {e : Exit} {id : Nat} {l : List Oper} {k' : List Kn} (h : runK E 100 (.g e k) = .w (.region id l.toArray false) k') (h2 : WO pr P N Fin l l k' E M) : G pr P N Fin e k E M :=
  runK_spec 100 (s := .g e k) (by rw [h]; exact W_region h2)
theorem gc {e : Exit} {c' : Code} {k' : List Kn} (h : normK E (.g e k) = some (.w c' k')) (h2 : W pr P N Fin c' k' E M) : G pr P N Fin e k E M := normK_spec (s := .g e k) h h2
theorem gg {e e' : Exit} {k' : List Kn} (h : normK E (.g e k) = some (.g e' k')) (h2 : G pr P N Fin e' k' E M) : G pr P N Fin e k E M := normK_spec (s := .g e k) h h2
end
end Go.Proofs.Ytjkpfliaflmppaa.Vm
