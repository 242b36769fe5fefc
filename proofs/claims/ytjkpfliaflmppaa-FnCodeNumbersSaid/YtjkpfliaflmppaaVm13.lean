/- Regions that draw their order, of operations that turn nothing that is known (they read, or call what leaves all rows as they are): walked once, each operation over what it waits for. No condition. -/
import Derived.Test.YtjkpfliaflmppaaVm12
namespace Go.Proofs.Ytjkpfliaflmppaa.Vm
open Go Go.RowKit

/-- What is put into a slot, if anything is. -/
def putU (a : Act) : Option (Nat × Value) → Act
  | some (d, v) => a.put (some d) v
  | none => a
/-- The operation puts u, and all rows stay. -/
structure Qt (P : Program) (N : Fm) (l : List Oper) (E : Env) (M : Mem) (o : Oper) (u : Option (Nat × Value)) : Prop where
  out : ∀ base w0 a w, Ag N E a → Sim false base w0 w M → ∀ F : Exit → Act → World → Prop, (∀ w', Sim false base w0 w' M → F .normal (putU a u) w') → wpList P l.toArray F [o] a w
  hd : ∀ p, u = some p → Nat.blt p.1 N.n = true
abbrev UEnv := List (Option (Nat × Value))
def somes : UEnv → Env
  | [] => []
  | some p :: l => p :: somes l
  | none :: l => somes l

/-- What the operations of these numbers have put. -/
def pick (done : UEnv) : List Nat → Env
  | [] => []
  | j :: js => match done[j]? with
    | some (some p) => p :: pick done js
    | _ => pick done js

def QSd (P : Program) (N : Fm) (l : List Oper) (E : Env) (M : Mem) (K : UEnv → Prop) : UEnv → List (List Nat) → List Oper → Prop
  | done, _, [] => K done
  | done, ws, o :: rest => ∃ u, Qt P N l (pick done (ws.headD []) ++ E) M o u ∧ QSd P N l E M K (done ++ [u]) ws.tail rest
structure QS (P : Program) (N : Fm) (l : List Oper) (E : Env) (M : Mem) (K : UEnv → Prop) (done : UEnv) (ws : List (List Nat)) (rest : List Oper) : Prop where
  out : QSd P N l E M K done ws rest

section
variable {P : Program} {N : Fm} {Fin : Post} {k : List Kn} {E : Env} {M : Mem} {l : List Oper} {K : UEnv → Prop} {done : UEnv} {ws : List (List Nat)} {w : List Nat} {rest : List Oper}
variable {d : Nat} {op : Op} {ty : TypeId} {pos : String} {after : Array Edge} {g : Option (Nat × Bool)} {v : Value}

theorem QS_nil (h : K done) : QS P N l E M K done ws [] := ⟨h⟩
theorem QS_of {o : Oper} {u : Option (Nat × Value)} (h1 : Qt P N l (pick done w ++ E) M o u) (h : QS P N l E M K (done ++ [u]) ws rest) : QS P N l E M K done (w :: ws) (o :: rest) := ⟨⟨u, h1, h.out⟩⟩
theorem hd_some {N : Fm} {d : Nat} {v : Value} (hd : Nat.blt d N.n = true) : ∀ p, some (d, v) = some p → Nat.blt p.1 N.n = true := by
  rintro _ ⟨⟩; exact hd
theorem QS_pure (hp : Pure P N (pick done w ++ E) M op v) (hg : On (pick done w ++ E) l g) (hd : Nat.blt d N.n = true) (h : QS P N l E M K (done ++ [some (d, v)]) ws rest) :
    QS P N l E M K done (w :: ws) (⟨some d, op, ty, pos, after, g⟩ :: rest) := by
  refine QS_of ⟨fun base w0 a w1 hA hS F hF => ?_, hd_some hd⟩ h
  unfold wpList
  rw [if_pos (On.wanted (o := ⟨some d, op, ty, pos, after, g⟩) hg hA)]
  refine .inl ?_
  unfold Oper.wp
  rw [hp.out false base w0 a w1 hA hS]
  exact hF _ hS
theorem QS_off (hg : Off (pick done w ++ E) l g) (hd : Nat.blt d N.n = true) (h : QS P N l E M K (done ++ [some (d, undef)]) ws rest) : QS P N l E M K done (w :: ws) (⟨some d, op, ty, pos, after, g⟩ :: rest) := by
  refine QS_of ⟨fun base w0 a w1 hA hS F hF => ?_, hd_some hd⟩ h
  unfold wpList
  rw [if_neg (by rw [Off.wanted (o := ⟨some d, op, ty, pos, after, g⟩) hg hA]; simp)]
  exact hF _ hS
theorem QS_call {c : Operand} {xs : List Operand} {ts : Array TypeId} {f : FuncId} {first captured : Array Value} {vs : List Value}
    (hc : ev (pick done w ++ E) c = some (.func (.func f) first captured)) (hx : evs (pick done w ++ E) xs = some vs) (hf : Callable P f) (hg : On (pick done w ++ E) l g) (hd : Nat.blt d N.n = true)
    (hR : HC P f (first ++ vs.toArray ++ captured) M (fun u M' => u = v ∧ Rk M' M)) (h : QS P N l E M K (done ++ [some (d, v)]) ws rest) :
    QS P N l E M K done (w :: ws) (⟨some d, .call { callee := .value c, args := xs.toArray, argTypes := ts }, ty, pos, after, g⟩ :: rest) := by
  refine QS_of ⟨fun base w0 a w1 hA hS F hF => ?_, hd_some hd⟩ h
  unfold wpList
  rw [if_pos (On.wanted (o := ⟨some d, .call { callee := .value c, args := xs.toArray, argTypes := ts }, ty, pos, after, g⟩) hg hA)]
  refine .inl ?_
  unfold Oper.wp
  have hr : (execOp a.eval ⟨some d, .call { callee := .value c, args := xs.toArray, argTypes := ts }, ty, pos, after, g⟩).run P w1 = .ok (.enter f (first ++ vs.toArray ++ captured)) w1 := by
    have e : xs.toArray.map a.eval = vs.toArray := by simp [hA.evals hx]
    simp [execOp, resolve, e, hA.eval hc, Deferred.ofValue, invoke, run_callFunc hf]
  rw [hr]
  refine (hR.out base w0 w1 hS).mono fun e w' ⟨u, M', he, hS', hu, hrk⟩ => ?_
  subst he; subst hu
  exact hF _ (hS'.rk hrk)
theorem upd_mem {M : Mem} {s : Sg} (h : s ∈ M) : Upd1 M s s.l M := by
  induction M with
  | nil => cases h
  | cons x M ih =>
    cases h with
    | head => exact .head
    | tail _ h => exact .tail (ih h)
/-- A store of what stands there already. -/
theorem QS_store {t : TypeId} {p x : Operand} {b o n : Nat} {c : List Value} (ht : Cel P t 1) (hp : ev (pick done w ++ E) p = some (.pointer (some ⟨b, o + n, none⟩))) (hx : ev (pick done w ++ E) x = some v)
    (hv : v.oneCell' = true) (hg : On (pick done w ++ E) l g) (hm : (⟨true, b, o, c⟩ : Sg) ∈ M) (hc : c[n]? = some v) (h : QS P N l E M K (done ++ [none]) ws rest) :
    QS P N l E M K done (w :: ws) (⟨none, .store t p x, ty, pos, after, g⟩ :: rest) := by
  refine QS_of (u := none) ⟨fun base w0 a w1 hA hS F hF => ?_, fun _ h => by cases h⟩ h
  have hn : n < c.length := (List.getElem?_eq_some_iff.1 hc).1
  have hs := hS.seg _ hm
  have hcell := hs.cell (i := n) (v := v) hc
  have hf := hs.free rfl hn
  have hu : Upd1 M ⟨true, b, o, c⟩ (c.set n v) M := by
    have e : c.set n v = c := by
      rw [← (List.getElem?_eq_some_iff.1 hc).2]; simp
    rw [e]; exact upd_mem hm
  unfold wpList
  rw [if_pos (On.wanted (o := ⟨none, .store t p x, ty, pos, after, g⟩) hg hA)]
  refine .inl ?_
  unfold Oper.wp
  have hr : (execOp a.eval ⟨none, .store t p x, ty, pos, after, g⟩).run P w1 = .ok .skip (w1.setCell ⟨b, o + n, none⟩ v) := by
    simp only [execOp, Instr.storeAt, Instr.sureAddr, hA.eval hp, hA.eval hx]
    simp [run_storeVar1 ht hv hcell hf]
  rw [hr]
  exact hF _ (hS.set rfl hn hu)
theorem QS_store0 {t : TypeId} {p x : Operand} {b o : Nat} {c : List Value} (ht : Cel P t 1) (hp : ev (pick done w ++ E) p = some (.pointer (some ⟨b, o, none⟩))) (hx : ev (pick done w ++ E) x = some v)
    (hv : v.oneCell' = true) (hg : On (pick done w ++ E) l g) (hm : (⟨true, b, o, v :: c⟩ : Sg) ∈ M) (h : QS P N l E M K (done ++ [none]) ws rest) :
    QS P N l E M K done (w :: ws) (⟨none, .store t p x, ty, pos, after, g⟩ :: rest) := QS_store (n := 0) ht hp hx hv hg hm rfl h
theorem QS_cmp {x y : Operand} {t t2 : TypeId} {kd : IntKind} {p q : Int} {bop : BinOp} {r : Bool} (hx : ev (pick done w ++ E) x = some (.int kd p)) (hy : ev (pick done w ++ E) y = some (.int kd q)) (hr : cmp bop p q = some r)
    (hg : On (pick done w ++ E) l g) (hd : Nat.blt d N.n = true) (h1 : yes bop p q → QS P N l E M K (done ++ [some (d, .bool true)]) ws rest) (h2 : no bop p q → QS P N l E M K (done ++ [some (d, .bool false)]) ws rest) :
    QS P N l E M K done (w :: ws) (⟨some d, .binOp bop t x y t2, ty, pos, after, g⟩ :: rest) := by
  cases r
  · exact QS_pure (P_cmp hx hy hr) hg hd (h2 (cmp_no hr rfl))
  · exact QS_pure (P_cmp hx hy hr) hg hd (h1 (cmp_yes hr rfl))
theorem isQS (h : QS P N l E M K done ws rest) : QS P N l E M K done ws rest := h

theorem get_ne {E : Env} {k n : Nat} {v : Value} (h : k ≠ n) : Env.get? ((k, v) :: E) n = E.get? n := by
  have : Nat.beq k n = false := by
    cases hb : Nat.beq k n with
    | false => rfl
    | true => exact absurd (Nat.eq_of_beq_eq_true hb) h
  simp [Env.get?, this]
theorem get_eq {E : Env} {n : Nat} {v : Value} : Env.get? ((n, v) :: E) n = some v := by simp [Env.get?]

theorem get_none {E : Env} {n : Nat} (h : E.get? n = none) : ∀ p ∈ E, p.1 ≠ n := by
  induction E with
  | nil => intro p hp; cases hp
  | cons q E ih =>
    obtain ⟨k, v⟩ := q
    intro p hp hk
    cases hp with
    | head => simp only at hk; subst hk; rw [get_eq] at h; cases h
    | tail _ hp =>
      have hkn : k ≠ n := fun e => by subst e; rw [get_eq] at h; cases h
      rw [get_ne hkn] at h
      exact ih h p hp hk
/-- All that L tells, E' tells. -/
def Le (E' L : Env) : Prop := ∀ n v, L.get? n = some v → E'.get? n = some v
theorem Le.cons {E' L : Env} {d : Nat} {v : Value} (h : Le E' L) (hn : L.get? d = none) : Le ((d, v) :: E') L := by
  intro n u hu
  by_cases hd : d = n
  · subst hd; rw [hn] at hu; cases hu
  · rw [get_ne hd]; exact h n u hu
theorem Le.app {E' B : Env} : ∀ {A : Env}, (∀ p ∈ A, E'.get? p.1 = some p.2) → Le E' B → Le E' (A ++ B)
  | [], _, h => h
  | (k, x) :: A, h1, h => by
    intro n u hu
    by_cases hk : k = n
    · subst hk
      have : Env.get? ((k, x) :: (A ++ B)) k = some x := get_eq
      rw [List.cons_append, this] at hu
      cases hu
      exact h1 _ (.head _)
    · rw [List.cons_append, get_ne hk] at hu
      exact Le.app (fun p hp => h1 p (.tail _ hp)) h n u hu
theorem Le.ag {N : Fm} {E' L : Env} {a : Act} (h : Le E' L) (hA : Ag N E' a) : Ag N L a := ⟨hA.defers, hA.size, fun n v hv => hA.val n v (h n v hv)⟩
theorem mem_pick {done : UEnv} : ∀ {js : List Nat} {p : Nat × Value}, p ∈ pick done js → ∃ j ∈ js, done[j]? = some (some p)
  | [], _, h => by cases h
  | j :: js, p, h => by
    simp only [pick] at h
    split at h
    · rename_i q hq
      cases h with
      | head => exact ⟨j, .head _, hq⟩
      | tail _ h => obtain ⟨j', h1, h2⟩ := mem_pick h; exact ⟨j', .tail _ h1, h2⟩
    · obtain ⟨j', h1, h2⟩ := mem_pick h; exact ⟨j', .tail _ h1, h2⟩
theorem QS_all {rest : List Oper} : ∀ {done : UEnv} {ws : List (List Nat)}, QSd P N l E M K done ws rest → ∃ more : UEnv, more.length = rest.length ∧ K (done ++ more) ∧
    ∀ i (hi : i < rest.length) (hm : i < more.length), Qt P N l (pick (done ++ more.take i) (ws.getD i []) ++ E) M rest[i] more[i] := by
  induction rest with
  | nil => intro done ws h; exact ⟨[], rfl, by rw [List.append_nil]; exact h, fun i hi => absurd hi (Nat.not_lt_zero _)⟩
  | cons o rest ih =>
    intro done ws h
    obtain ⟨u, h1, h2⟩ := h
    obtain ⟨more, k1, k2, k3⟩ := ih h2
    refine ⟨u :: more, by simp [k1], by simpa using k2, fun i hi hm => ?_⟩
    cases i with
    | zero =>
      have e : ws.headD [] = ws.getD 0 [] := by cases ws <;> rfl
      rw [e] at h1
      simpa using h1
    | succ i =>
      have := k3 i (by simpa using hi) (by simpa using hm)
      have e : ws.tail.getD i [] = ws.getD (i + 1) [] := by cases ws <;> simp
      rw [e] at this
      simpa using this
/-- The slots differ, and nothing was known of them. -/
def chkU (E : Env) : UEnv → Bool
  | [] => true
  | some (d, _) :: L => (E.get? d).isNone && ((Env.get? (somes L) d).isNone && chkU E L)
  | none :: L => chkU E L
theorem somes_mem {p : Nat × Value} : ∀ {L : UEnv}, some p ∈ L → p ∈ somes L
  | some q :: L, h => by
    cases h with
    | head => exact .head _
    | tail _ h => exact .tail _ (somes_mem h)
  | none :: L, h => by
    cases h with
    | tail _ h => exact somes_mem (L := L) h
theorem mem_somes {p : Nat × Value} : ∀ {L : UEnv}, p ∈ somes L → some p ∈ L
  | some q :: L, h => by
    cases h with
    | head => exact .head _
    | tail _ h => exact .tail _ (mem_somes h)
  | none :: L, h => .tail _ (mem_somes h)
theorem chkU_spec {E : Env} : ∀ {L : UEnv}, chkU E L = true → (∀ p, some p ∈ L → E.get? p.1 = none) ∧ (∀ (i j : Nat) (p q : Nat × Value), L[i]? = some (some p) → L[j]? = some (some q) → i ≠ j → p.1 ≠ q.1)
  | [], _ => ⟨fun p h => (by cases h), fun i j p q h => (by simp at h)⟩
  | none :: L, h => by
    obtain ⟨k1, k2⟩ := chkU_spec (L := L) h
    refine ⟨fun p hp => ?_, fun i j p q hi hj hij => ?_⟩
    · cases hp with
      | tail _ hp => exact k1 p hp
    · cases i with
      | zero => simp at hi
      | succ i =>
        cases j with
        | zero => simp at hj
        | succ j => exact k2 i j p q (by simpa using hi) (by simpa using hj) (by omega)
  | some (d, v) :: L, h => by
    simp only [chkU, Bool.and_eq_true, Option.isNone_iff_eq_none] at h
    obtain ⟨h1, h2, h3⟩ := h
    obtain ⟨k1, k2⟩ := chkU_spec h3
    have hn := get_none h2
    refine ⟨fun p hp => ?_, fun i j p q hi hj hij => ?_⟩
    · cases hp with
      | head => exact h1
      | tail _ hp => exact k1 p hp
    · cases i with
      | zero =>
        cases j with
        | zero => exact absurd rfl hij
        | succ j =>
          simp at hi hj
          subst hi
          exact fun e => hn _ (somes_mem (List.mem_of_getElem? hj)) e.symm
      | succ i =>
        cases j with
        | zero =>
          simp at hi hj
          subst hj
          exact fun e => hn _ (somes_mem (List.mem_of_getElem? hi)) e
        | succ j => exact k2 i j p q (by simpa using hi) (by simpa using hj) (by omega)

theorem W_region_quiet {id : Nat} (hm : P.follows .mixedOrders = true) (ws : List (List Nat)) (hw : ((List.range l.length).all fun i => (ws.getD i []).all fun j => Region.waitsFor .any l.toArray i j) = true)
    (hac : earlierB l.toArray = true) (h : QS P N l E M (fun done => chkU E done = true ∧ G false P N Fin .normal k (somes done ++ E) M) [] ws l) : W false P N Fin (.region id l.toArray true) k E M := by
  obtain ⟨full, hlen, ⟨hc, hG⟩, hq⟩ := QS_all h.out
  simp only [List.nil_append] at hc hG hq
  obtain ⟨hf1, hf2⟩ := chkU_spec hc
  refine W_region_inv2 hm ws hw hac (fun done E' M' => Le E' E ∧ (∀ (i : Nat) (p : Nat × Value), full[i]? = some (some p) → done i = true → E'.get? p.1 = some p.2) ∧ Rk M' M) ⟨fun _ _ h => h, fun i p _ h => (by cases h), .rfl⟩ ?_ ?_
  · intro i hi done E' M' ⟨hs, hd, hrk⟩ hno hdone
    have hif : i < full.length := by omega
    have hqt := hq i hi hif
    have hone : (l.drop i).take 1 = [l[i]] := by rw [List.drop_eq_getElem_cons hi]; rfl
    rw [hone]
    have hfi : full[i]? = some full[i] := List.getElem?_eq_getElem hif
    generalize full[i] = u at hqt hfi
    refine ⟨⟨fun base w0 a w hA hS => hqt.out base w0 a w (Le.ag (Le.app (fun p hp => ?_) hs) hA) (hS.rk hrk) _ fun w' hS' => ?_⟩⟩
    · obtain ⟨j, hj, hjp⟩ := mem_pick hp
      refine hd j p ?_ (hdone j hj)
      rw [List.getElem?_take] at hjp
      split at hjp
      · exact hjp
      · cases hjp
    · cases u with
      | none =>
        refine ⟨E', M, hA, hS', rfl, hs, ?_, .rfl⟩
        intro j p hj hdj
        by_cases hji : j = i
        · subst hji; rw [hfi] at hj; cases hj
        · exact hd j p hj (by simpa [hji] using hdj)
      | some q =>
        obtain ⟨d, v⟩ := q
        refine ⟨(d, v) :: E', M, hA.put (hqt.hd _ rfl) _, hS', rfl, hs.cons (hf1 (d, v) (List.mem_of_getElem? hfi)), ?_, .rfl⟩
        intro j p hj hdj
        by_cases hji : j = i
        · subst hji; rw [hfi] at hj; cases hj; exact get_eq
        · have hdj' : done j = true := by simpa [hji] using hdj
          rw [get_ne (fun e => hf2 j i p (d, v) hj hfi hji e.symm)]
          exact hd j p hj hdj'
  · intro done E' M' ⟨hs, hd, hrk⟩ hall
    refine ⟨somes full ++ E, M, Le.app (fun p hp => ?_) hs, hrk, hG⟩
    obtain ⟨i, hi, hip⟩ := List.mem_iff_getElem.1 (mem_somes hp)
    exact hd i p (by rw [List.getElem?_eq_getElem hi, hip]) (hall i (by omega))
end
end Go.Proofs.Ytjkpfliaflmppaa.Vm
