/- Drawn regions: operations that only read, one call among them, and one operation that comes last of all. No condition. Drawn regions with a call: what is done stands with the last one first, so that it is found at once. No condition. Drawn regions: operations in any order up to place n, a forced chain from there on. No condition. Bytes turned to strings. No condition. -/
import Derived.Test.YtjkpfliaflmppaaW9x07

namespace Go.Proofs.Ytjkpfliaflmppaa.Vm
open Go Go.RowKit

/-- The operation at n is a call with this contract. -/
structure CallAt (P : Program) (N : Fm) (l : List Oper) (E : Env) (M : Mem) (o : Oper) (d : Nat) (R : Value → Mem → Prop) : Prop where
  out : ∀ base w0 a w, Ag N E a → Sim false base w0 w M → ∀ F : Exit → Act → World → Prop, (∀ v M' w', R v M' → Sim false base w0 w' M' → F .normal (a.put (some d) v) w') → wpList P l.toArray F [o] a w
  hd : Nat.blt d N.n = true

/-- Operations that only read, but for the call at place c. -/
def QCd (P : Program) (N : Fm) (l : List Oper) (E : Env) (M : Mem) (c d : Nat) (R : Value → Mem → Prop) (K : UEnv → Prop) : Nat → UEnv → List (List Nat) → List Oper → Prop
  | _, done, _, [] => K done
  | i, done, ws, o :: rest =>
    if i = c then CallAt P N l (pick done (ws.headD []) ++ E) M o d R ∧ QCd P N l E M c d R K (i + 1) (done ++ [none]) ws.tail rest
    else ∃ e v, PS P N l (pick done (ws.headD []) ++ E) M o e v ∧ QCd P N l E M c d R K (i + 1) (done ++ [some (e, v)]) ws.tail rest
structure QC (P : Program) (N : Fm) (l : List Oper) (E : Env) (M : Mem) (c d : Nat) (R : Value → Mem → Prop) (K : UEnv → Prop) (i : Nat) (done : UEnv) (ws : List (List Nat)) (rest : List Oper) : Prop where
  out : QCd P N l E M c d R K i done ws rest

section
variable {P : Program} {N : Fm} {Fin : Post} {k : List Kn} {E : Env} {M : Mem} {l : List Oper} {c d : Nat} {R : Value → Mem → Prop} {K : UEnv → Prop} {i : Nat} {done : UEnv} {w : List Nat} {ws : List (List Nat)} {o : Oper} {rest : List Oper} {e : Nat} {v : Value}

theorem isQC (h : QC P N l E M c d R K i done ws rest) : QC P N l E M c d R K i done ws rest := h
theorem QC_nil (h : K done) : QC P N l E M c d R K i done ws [] := ⟨h⟩
theorem cc (hi : Nat.beq i c = false) (h : PS P N l (pick done w ++ E) M o e v) (h2 : QC P N l E M c d R K (i + 1) (done ++ [some (e, v)]) ws rest) : QC P N l E M c d R K i done (w :: ws) (o :: rest) := by
  have hne : i ≠ c := fun e => by subst e; rw [Nat.beq_refl] at hi; cases hi
  refine ⟨?_⟩
  unfold QCd
  rw [if_neg hne]
  exact ⟨e, v, h, h2.out⟩
theorem cb {b : BinOp} {kd : IntKind} {p q : Int} {A B : Prop} (hi : Nat.beq i c = false) (h : bin2 N.n l (pick done w ++ E) o = some (e, b, kd, p, kd, q)) [hy : YesI b p q A B]
    (h1 : A → QC P N l E M c d R K (i + 1) (done ++ [some (e, .bool true)]) ws rest) (h2 : B → QC P N l E M c d R K (i + 1) (done ++ [some (e, .bool false)]) ws rest) : QC P N l E M c d R K i done (w :: ws) (o :: rest) := by
  obtain ⟨r, hr, hA, hB⟩ := hy.out
  have := ps_cmp (P := P) (M := M) h hr
  cases r
  · exact cc hi this (h2 (hB rfl))
  · exact cc hi this (h1 (hA rfl))
theorem cpure {op : Op} {ty : TypeId} {pos : String} {after : Array Edge} {g : Option (Nat × Bool)} (hi : Nat.beq i c = false) (hp : Pure P N (pick done w ++ E) M op v) (hg : On (pick done w ++ E) l g) (hd : Nat.blt e N.n = true)
    (h2 : QC P N l E M c d R K (i + 1) (done ++ [some (e, v)]) ws rest) : QC P N l E M c d R K i done (w :: ws) (⟨some e, op, ty, pos, after, g⟩ :: rest) := cc hi ⟨rfl, hd, .inl ⟨hg, hp⟩⟩ h2
theorem ccall {f0 : Operand} {xs : List Operand} {ts : Array TypeId} {f : FuncId} {first captured : Array Value} {vs : List Value} {ty : TypeId} {pos : String} {after : Array Edge} {g : Option (Nat × Bool)}
    (hc : ev (pick done w ++ E) f0 = some (.func (.func f) first captured)) (hx : evs (pick done w ++ E) xs = some vs) (hf : Callable P f) (hg : On (pick done w ++ E) l g) (hd : Nat.blt d N.n = true)
    (hR : HC P f (first ++ vs.toArray ++ captured) M R) (h2 : QC P N l E M c d R K (c + 1) (done ++ [none]) ws rest) :
    QC P N l E M c d R K c done (w :: ws) (⟨some d, .call { callee := .value f0, args := xs.toArray, argTypes := ts }, ty, pos, after, g⟩ :: rest) := by
  refine ⟨?_⟩
  unfold QCd
  rw [if_pos rfl]
  refine ⟨⟨fun base w0 a w1 hA hS F hF => ?_, hd⟩, h2.out⟩
  unfold wpList
  rw [if_pos (On.wanted (o := ⟨some d, .call { callee := .value f0, args := xs.toArray, argTypes := ts }, ty, pos, after, g⟩) hg hA)]
  refine .inl ?_
  unfold Oper.wp
  have hr : (execOp a.eval ⟨some d, .call { callee := .value f0, args := xs.toArray, argTypes := ts }, ty, pos, after, g⟩).run P w1 = .ok (.enter f (first ++ vs.toArray ++ captured)) w1 := by
    have e : xs.toArray.map a.eval = vs.toArray := by simp [hA.evals hx]
    simp [execOp, resolve, e, hA.eval hc, Deferred.ofValue, invoke, run_callFunc hf]
  rw [hr]
  refine (hR.out base w0 w1 hS).mono fun e w' ⟨u, M', he, hS', hu⟩ => ?_
  subst he
  exact hF _ _ _ hu hS'

/-- An operation that only reads, as it is carried out. -/
theorem PS.run (h : PS P N l E M o e v) {base : Nat} {w0 : World} {a : Act} {w : World} (hA : Ag N E a) (hS : Sim false base w0 w M) {F : Exit → Act → World → Prop} (hF : F .normal (a.put (some e) v) w) : wpList P l.toArray F [o] a w := by
  obtain ⟨dst, op, ty, pos, after, g⟩ := o
  obtain ⟨h1, hl, ⟨hg, hp⟩ | ⟨hg, rfl⟩⟩ := h
  · simp only at h1; subst h1
    unfold wpList
    rw [if_pos (On.wanted (o := ⟨some e, op, ty, pos, after, g⟩) hg hA)]
    refine .inl ?_
    unfold Oper.wp
    rw [hp.out false base w0 a w hA hS]
    exact hF
  · simp only at h1; subst h1
    unfold wpList
    rw [if_neg (by rw [Off.wanted (o := ⟨some e, op, ty, pos, after, g⟩) hg hA]; simp)]
    exact hF

theorem QC_all {rest : List Oper} : ∀ {i0 : Nat} {done : UEnv} {ws : List (List Nat)}, QCd P N l E M c d R K i0 done ws rest → ∃ more : UEnv, more.length = rest.length ∧ K (done ++ more) ∧
    ∀ i (hi : i < rest.length) (hm : i < more.length), (i0 + i = c → more[i] = none ∧ CallAt P N l (pick (done ++ more.take i) (ws.getD i []) ++ E) M rest[i] d R) ∧
      (i0 + i ≠ c → ∃ e v, more[i] = some (e, v) ∧ PS P N l (pick (done ++ more.take i) (ws.getD i []) ++ E) M rest[i] e v) := by
  induction rest with
  | nil => intro i0 done ws h; exact ⟨[], rfl, by rw [List.append_nil]; exact h, fun i hi => absurd hi (Nat.not_lt_zero _)⟩
  | cons o rest ih =>
    intro i0 done ws h
    have ehd : ws.headD [] = ws.getD 0 [] := by cases ws <;> rfl
    have etl : ∀ i, ws.tail.getD i [] = ws.getD (i + 1) [] := by intro i; cases ws <;> simp
    unfold QCd at h
    split at h
    · rename_i hc
      obtain ⟨h1, h2⟩ := h
      obtain ⟨more, k1, k2, k3⟩ := ih h2
      refine ⟨none :: more, by simp [k1], by simpa using k2, fun i hi hm => ?_⟩
      cases i with
      | zero => exact ⟨fun _ => ⟨rfl, by rw [ehd] at h1; simpa using h1⟩, fun hne => absurd hc hne⟩
      | succ i =>
        have := k3 i (by simpa using hi) (by simpa using hm)
        rw [etl] at this
        rw [show i0 + (i + 1) = i0 + 1 + i by omega]
        simpa using this
    · rename_i hc
      obtain ⟨e, v, h1, h2⟩ := h
      obtain ⟨more, k1, k2, k3⟩ := ih h2
      refine ⟨some (e, v) :: more, by simp [k1], by simpa using k2, fun i hi hm => ?_⟩
      cases i with
      | zero => exact ⟨fun hne => absurd hne hc, fun _ => ⟨e, v, rfl, by rw [ehd] at h1; simpa using h1⟩⟩
      | succ i =>
        have := k3 i (by simpa using hi) (by simpa using hm)
        rw [etl] at this
        rw [show i0 + (i + 1) = i0 + 1 + i by omega]
        simpa using this

theorem W_region_call {id : Nat} (n c d : Nat) (R : Value → Mem → Prop) (hn : l.length = n + 1) (hcn : c < n) (hm : P.follows .mixedOrders = true) (ws : List (List Nat)) (hw : ((List.range l.length).all fun i => (ws.getD i []).all fun j => Region.waitsFor .any l.toArray i j) = true)
    (hac : earlierB l.toArray = true) (hcov : covB ws n = true) (hRM : ∀ v M', R v M' → Rk M' M)
    (h : QC P N l E M c d R (fun done => chkU E (some (d, undef) :: done) = true ∧ ∀ v M', R v M' → WO false P N (fun e E2 M2 => e = .normal ∧ G false P N Fin .normal k E2 M2) l (l.drop n) [] ((d, v) :: (somes done ++ E)) M') 0 [] ws (l.take n)) : W false P N Fin (.region id l.toArray true) k E M := by
  obtain ⟨full, hlen, ⟨hchk, hG⟩, hq⟩ := QC_all h.out
  simp only [List.nil_append] at hchk hG hq
  have hlen' : full.length = n := by rw [hlen, List.length_take]; omega
  obtain ⟨hf1, hf2⟩ := chkU_spec hchk
  have hE1 : ∀ p, some p ∈ full → E.get? p.1 = none := fun p hp => hf1 p (.tail _ hp)
  have hEd : E.get? d = none := hf1 (d, undef) (.head _)
  have hdis : ∀ (i j : Nat) (p q : Nat × Value), full[i]? = some (some p) → full[j]? = some (some q) → i ≠ j → p.1 ≠ q.1 := fun i j p q hi hj hij => hf2 (i + 1) (j + 1) p q (by simpa using hi) (by simpa using hj) (by omega)
  have hdd : ∀ (i : Nat) (p : Nat × Value), full[i]? = some (some p) → p.1 ≠ d := fun i p hi => hf2 (i + 1) 0 p (d, undef) (by simpa using hi) (by simp) (by omega)
  refine W_region_inv2 hm ws hw hac (fun done E' M' => (∀ i, done i = true → ∀ j ∈ ws.getD i [], done j = true) ∧
    (done n = false → Le E' E ∧ (∀ (i : Nat) (p : Nat × Value), full[i]? = some (some p) → done i = true → E'.get? p.1 = some p.2) ∧
      (done c = false → Rk M' M) ∧ (done c = true → ∃ v M2, E'.get? d = some v ∧ R v M2 ∧ Rk M' M2)) ∧ (done n = true → G false P N Fin .normal k E' M'))
    ⟨fun i h => (by cases h), fun _ => ⟨fun _ _ h => h, fun i p _ h => (by cases h), fun _ => .rfl, fun h => (by cases h)⟩, fun h => (by cases h)⟩ ?_ ?_
  · intro i hi done E' M' ⟨hcl, hA1, hA2⟩ hno hdone
    have hcl' : ∀ i', (if i' = i then true else done i') = true → ∀ j ∈ ws.getD i' [], (if j = i then true else done j) = true := by
      intro i' hi' j hj
      by_cases hji : j = i
      · simp [hji]
      · rw [if_neg hji]
        by_cases hii : i' = i
        · subst hii; exact hdone j hj
        · rw [if_neg hii] at hi'; exact hcl i' hi' j hj
    have hone : (l.drop i).take 1 = [l[i]] := by rw [List.drop_eq_getElem_cons hi]; rfl
    rw [hone]
    by_cases hin : i = n
    · subst hin
      obtain ⟨hs, hd, _, hc2⟩ := hA1 hno
      have hall := cov_all hcov hcl hdone i
      have hlast : l.drop i = [l[i]] := by
        rw [List.drop_eq_getElem_cons hi, List.drop_eq_nil_of_le (by omega)]
      rw [hlast] at hG
      obtain ⟨v, M2, hv, hR, hrk⟩ := hc2 (hall c (by omega) hcn)
      have hle : Le E' ((d, v) :: (somes full ++ E)) := by
        have h0 : Le E' (somes full ++ E) := Le.app (fun p hp => by
          obtain ⟨j, hj, hjp⟩ := List.mem_iff_getElem.1 (mem_somes hp)
          exact hd j p (by rw [List.getElem?_eq_getElem hj, hjp]) (hall j (by omega) (by omega))) hs
        exact Le.app (A := [(d, v)]) (fun p hp => by rw [List.mem_singleton] at hp; subst hp; exact hv) h0
      refine ⟨⟨fun base w0 a w hA hS => ?_⟩⟩
      refine wpList1_mono (fun a2 w2 hx => ?_) (fun e a2 w2 hne hx => ?_) ((hG v M2 hR).out.out base w0 a w (hle.ag hA) (hS.rk hrk))
      · obtain ⟨E2, M3, q1, q2, _, q3⟩ := hx
        exact ⟨E2, M3, q1, q2, rfl, hcl', fun h => (by simp at h), fun _ => q3⟩
      · obtain ⟨E2, M3, q1, q2, q3, _⟩ := hx
        exact hne q3
    · have hno2 : done n = false := by
        cases hdn : done n with
        | false => rfl
        | true => have := cov_all hcov hcl (hcl n hdn) n i (by omega) (by omega); rw [this] at hno; cases hno
      obtain ⟨hs, hd, hm1, hm2⟩ := hA1 hno2
      have hif : i < full.length := by omega
      have hit : i < (l.take n).length := by rw [List.length_take]; omega
      obtain ⟨hqc, hqp⟩ := hq i hit hif
      rw [Nat.zero_add] at hqc hqp
      have hli : (l.take n)[i] = l[i] := List.getElem_take
      have hfi : full[i]? = some full[i] := List.getElem?_eq_getElem hif
      have hni : ¬ n = i := fun e => hin e.symm
      have hpk : ∀ p ∈ pick (full.take i) (ws.getD i []), E'.get? p.1 = some p.2 := by
        intro p hp
        obtain ⟨j, hj, hjp⟩ := mem_pick hp
        refine hd j p ?_ (hdone j hj)
        rw [List.getElem?_take] at hjp
        split at hjp
        · exact hjp
        · cases hjp
      by_cases hic : i = c
      · obtain ⟨hnone, hcall⟩ := hqc hic
        rw [hli] at hcall
        subst hic
        refine ⟨⟨fun base w0 a w hA hS => hcall.out base w0 a w (Le.ag (Le.app hpk hs) hA) (hS.rk (hm1 hno)) _ fun v M2 w' hR hS' => ?_⟩⟩
        refine ⟨(d, v) :: E', M2, hA.put hcall.hd _, hS', rfl, hcl', fun _ => ⟨hs.cons hEd, ?_, fun h => (by simp at h), fun _ => ⟨v, M2, get_eq, hR, .rfl⟩⟩, fun h => (by simp [hni, hno2] at h)⟩
        intro j p hj hdj
        by_cases hji : j = i
        · subst hji; rw [hfi, hnone] at hj; cases hj
        · have hdj' : done j = true := by simpa [hji] using hdj
          rw [get_ne (fun e => hdd j p hj e.symm)]
          exact hd j p hj hdj'
      · obtain ⟨e, v, hev, hps⟩ := hqp hic
        rw [hli] at hps
        have hci : ¬ c = i := fun e => hic e.symm
        rw [hev] at hfi
        have hMM : Rk M' M := by
          cases hdc : done c with
          | false => exact hm1 hdc
          | true => obtain ⟨v2, M2, _, hR, hrk⟩ := hm2 hdc; exact .trans hrk (hRM v2 M2 hR)
        refine ⟨⟨fun base w0 a w hA hS => hps.run (Le.ag (Le.app hpk hs) hA) (hS.rk hMM) ?_⟩⟩
        refine ⟨(e, v) :: E', M', hA.put hps.lt _, hS, rfl, hcl', fun _ => ⟨hs.cons (hE1 (e, v) (List.mem_of_getElem? hfi)), ?_, fun h => hm1 (by simpa [hci] using h), fun h => ?_⟩, fun h => (by simp [hni, hno2] at h)⟩
        · intro j p hj hdj
          by_cases hji : j = i
          · subst hji; rw [hfi] at hj; cases hj; exact get_eq
          · have hdj' : done j = true := by simpa [hji] using hdj
            rw [get_ne (fun e' => hdis j i p (e, v) hj hfi hji e'.symm)]
            exact hd j p hj hdj'
        · obtain ⟨v2, M2, k1, k2, k3⟩ := hm2 (by simpa [hci] using h)
          exact ⟨v2, M2, by rw [get_ne (hdd i (e, v) hfi)]; exact k1, k2, k3⟩
  · intro done E' M' ⟨hcl, hA1, hA2⟩ hall
    exact ⟨E', M', fun _ _ h => h, .rfl, hA2 (hall n (by omega))⟩
end
end Go.Proofs.Ytjkpfliaflmppaa.Vm

namespace Go.Proofs.Ytjkpfliaflmppaa.Vm
open Go Go.RowKit

def pickR (i : Nat) (done : UEnv) : List Nat → Env
  | [] => []
  | j :: js => bif Nat.blt j i then (match done[i - (j + 1)]? with
    | some (some p) => p :: pickR i done js
    | _ => pickR i done js) else pickR i done js
theorem pickR_eq {i : Nat} {done : UEnv} (h : done.length = i) : ∀ js, pickR i done js = pick done.reverse js
  | [] => rfl
  | j :: js => by
    have ih := pickR_eq h js
    simp only [pickR, pick]
    cases hb : Nat.blt j i with
    | true =>
      have hj : j < i := by simpa [Nat.blt_eq] using hb
      have e : done.reverse[j]? = done[i - (j + 1)]? := by
        rw [List.getElem?_reverse (by omega)]
        congr 1
        omega
      rw [e, cond_true, ih]
      generalize done[i - (j + 1)]? = z
      rcases z with _ | (_ | p) <;> rfl
    | false =>
      have hj : ¬ j < i := fun hlt => by
        have : Nat.blt j i = true := by simpa [Nat.blt_eq] using hlt
        rw [this] at hb; cases hb
      have e : done.reverse[j]? = none := by simp; omega
      rw [e, cond_false, ih]

structure QD (P : Program) (N : Fm) (l : List Oper) (E : Env) (M : Mem) (c d : Nat) (R : Value → Mem → Prop) (K : UEnv → Prop) (i : Nat) (done : UEnv) (ws : List (List Nat)) (rest : List Oper) : Prop where
  out : done.length = i → QC P N l E M c d R K i done.reverse ws rest

section
variable {P : Program} {N : Fm} {Fin : Post} {k : List Kn} {E : Env} {M : Mem} {l : List Oper} {c d : Nat} {R : Value → Mem → Prop} {K : UEnv → Prop} {i : Nat} {done : UEnv} {w : List Nat} {ws : List (List Nat)} {o : Oper} {rest : List Oper} {e : Nat} {v : Value}

theorem isQD (h : QD P N l E M c d R K i done ws rest) : QD P N l E M c d R K i done ws rest := h
theorem QD_start (h : QD P N l E M c d R K 0 [] ws rest) : QC P N l E M c d R K 0 [] ws rest := h.out rfl
theorem QD_nil (h : K done.reverse) : QD P N l E M c d R K i done ws [] := ⟨fun _ => QC_nil h⟩
theorem dd (hi : Nat.beq i c = false) (h : PS P N l (pickR i done w ++ E) M o e v) (h2 : QD P N l E M c d R K (i + 1) (some (e, v) :: done) ws rest) : QD P N l E M c d R K i done (w :: ws) (o :: rest) := by
  refine ⟨fun hl => cc hi (by rw [pickR_eq hl] at h; exact h) ?_⟩
  have := h2.out (by simp [hl])
  rwa [List.reverse_cons] at this
theorem db {b : BinOp} {kd : IntKind} {p q : Int} {A B : Prop} (hi : Nat.beq i c = false) (h : bin2 N.n l (pickR i done w ++ E) o = some (e, b, kd, p, kd, q)) [hy : YesI b p q A B]
    (h1 : A → QD P N l E M c d R K (i + 1) (some (e, .bool true) :: done) ws rest) (h2 : B → QD P N l E M c d R K (i + 1) (some (e, .bool false) :: done) ws rest) : QD P N l E M c d R K i done (w :: ws) (o :: rest) := by
  obtain ⟨r, hr, hA, hB⟩ := hy.out
  have := ps_cmp (P := P) (M := M) h hr
  cases r
  · exact dd hi this (h2 (hB rfl))
  · exact dd hi this (h1 (hA rfl))
theorem dpure {op : Op} {ty : TypeId} {pos : String} {after : Array Edge} {g : Option (Nat × Bool)} (hi : Nat.beq i c = false) (hp : Pure P N (pickR i done w ++ E) M op v) (hg : On (pickR i done w ++ E) l g) (hd : Nat.blt e N.n = true)
    (h2 : QD P N l E M c d R K (i + 1) (some (e, v) :: done) ws rest) : QD P N l E M c d R K i done (w :: ws) (⟨some e, op, ty, pos, after, g⟩ :: rest) := dd hi ⟨rfl, hd, .inl ⟨hg, hp⟩⟩ h2
theorem dcall {f0 : Operand} {xs : List Operand} {ts : Array TypeId} {f : FuncId} {first captured : Array Value} {vs : List Value} {ty : TypeId} {pos : String} {after : Array Edge} {g : Option (Nat × Bool)} (hi : i = c)
    (hc : ev (pickR i done w ++ E) f0 = some (.func (.func f) first captured)) (hx : evs (pickR i done w ++ E) xs = some vs) (hf : Callable P f) (hg : On (pickR i done w ++ E) l g) (hd : Nat.blt d N.n = true)
    (hR : HC P f (first ++ vs.toArray ++ captured) M R) (h2 : QD P N l E M c d R K (i + 1) (none :: done) ws rest) :
    QD P N l E M c d R K i done (w :: ws) (⟨some d, .call { callee := .value f0, args := xs.toArray, argTypes := ts }, ty, pos, after, g⟩ :: rest) := by
  subst hi
  refine ⟨fun hl => ?_⟩
  rw [pickR_eq hl] at hc hx hg
  refine ccall hc hx hf hg hd hR ?_
  have := h2.out (by simp [hl])
  rwa [List.reverse_cons] at this
end
end Go.Proofs.Ytjkpfliaflmppaa.Vm

namespace Go.Proofs.Ytjkpfliaflmppaa.Vm
open Go Go.RowKit

/-- From n on each operation waits for the one ahead of it. -/
def chainB (ws : List (List Nat)) (n len : Nat) : Bool := (List.range len).all fun j => !Nat.blt n j || (ws.getD j []).any fun x => Nat.beq x (j - 1)
def canonL (n : Nat) : Nat → List Bool
  | 0 => []
  | m + 1 => canonL n m ++ [Nat.blt m n]
def canonA (n len : Nat) : Array Bool := (canonL n len).toArray
theorem canonL_length (n : Nat) : ∀ m, (canonL n m).length = m
  | 0 => rfl
  | m + 1 => by simp [canonL, canonL_length n m]
theorem canonL_get (n : Nat) : ∀ m i, i < m → (canonL n m)[i]? = some (Nat.blt i n)
  | m + 1, i, h => by
    simp only [canonL]
    by_cases hi : i < m
    · rw [List.getElem?_append_left (by rw [canonL_length]; exact hi)]; exact canonL_get n m i hi
    · obtain rfl : i = m := by omega
      rw [List.getElem?_append_right (by rw [canonL_length]; omega), canonL_length]; simp
theorem left_canon {listed : Array Bool} {n : Nat} (h1 : ∀ i, i < n → listed.getD i true = true) : ∀ m, (∀ j, n ≤ j → j < m → listed.getD j true = false) → left listed m = m - n
  | 0, _ => by simp [left]
  | m + 1, h2 => by
    simp only [left]
    rw [left_canon h1 m (fun j hj hm => h2 j hj (by omega))]
    by_cases hm : m < n
    · rw [if_pos (h1 m hm)]; omega
    · have := h2 m (by omega) (by omega)
      rw [this]; simp; omega

section
variable {P : Program} {N : Fm} {Fin : Post} {k : List Kn} {l : List Oper}

theorem OA_pre (n : Nat) (hn : n < l.length) (ws : List (List Nat)) (hw : ((List.range l.length).all fun i => (ws.getD i []).all fun j => Region.waitsFor .any l.toArray i j) = true)
    (hac : earlierB l.toArray = true) (hcov : covB ws n = true) (hchain : chainB ws n l.length = true) (hseq : Region.seqB .any l.toArray (l.drop n).length n (canonA n l.length) = true)
    (I : (Nat → Bool) → Env → Mem → Prop)
    (hstep : ∀ i, i < n → ∀ (done : Nat → Bool) E M, I done E M → done i = false → (∀ j ∈ ws.getD i [], done j = true) →
      WO false P N (fun e E2 M2 => e = .normal ∧ I (fun j => if j = i then true else done j) E2 M2) l ((l.drop i).take 1) [] E M)
    (hend : ∀ (done : Nat → Bool) E M, I done E M → (∀ i, i < n → done i = true) → ∃ E2 M2, Le E E2 ∧ Rk M M2 ∧ WO false P N Fin l (l.drop n) k E2 M2) :
    ∀ f listed E M, listed.size = l.length → left listed l.length = f → (∀ j, n ≤ j → listed.getD j false = false) → (∀ i, listed.getD i false = true → ∀ j ∈ ws.getD i [], listed.getD j false = true) →
      I (fun j => listed.getD j false) E M → OA P N Fin k l f listed E M := by
  have both : ∀ {listed : Array Bool} {i : Nat}, listed.size = l.length → i < l.length → listed.getD i true = listed.getD i false := by
    intro listed i hs hi; simp [show i < listed.size by omega]
  have hfin : ∀ f listed E M, listed.size = l.length → left listed l.length = f → (∀ j, n ≤ j → listed.getD j false = false) → (∀ i, i < n → listed.getD i false = true) → I (fun j => listed.getD j false) E M → OA P N Fin k l f listed E M := by
    intro f listed E M hsz hf hno hall hI
    obtain ⟨E2, M2, q1, q2, q3⟩ := hend _ E M hI hall
    have hl : listed = canonA n l.length := by
      apply Array.ext
      · simp [canonA, canonL_length, hsz]
      · intro i h1 h2
        have e1 : listed[i] = listed.getD i false := by simp [h1]
        have e2 : (canonA n l.length)[i] = Nat.blt i n := by
          have := canonL_get n l.length i (by omega)
          simp only [canonA, List.getElem_toArray]
          exact (List.getElem?_eq_some_iff.1 this).2
        rw [e1, e2]
        by_cases hi : i < n
        · rw [hall i hi]; simpa [Nat.blt_eq] using hi
        · rw [hno i (by omega)]
          cases hb : Nat.blt i n with
          | false => rfl
          | true => exact absurd (by simpa [Nat.blt_eq] using hb) hi
    have hlf : (l.drop n).length = f := by
      rw [List.length_drop, ← hf]
      exact (left_canon (fun i hi => by rw [both hsz (by omega)]; exact hall i hi) l.length (fun j hj hm => by rw [both hsz hm]; exact hno j hj)).symm
    subst hl
    refine OA_seq n hseq hlf ?_
    exact ⟨⟨fun base w0 a w hA hS => q3.out.out base w0 a w (q1.ag hA) (hS.rk q2)⟩⟩
  intro f
  induction f with
  | zero =>
    intro listed E M hsz hf hno hcl hI
    refine hfin 0 listed E M hsz hf hno (fun i hi => ?_) hI
    cases hl : listed.getD i true with
    | true => rw [both hsz (by omega)] at hl; exact hl
    | false =>
      have := left_set hl (by omega) l.length (by omega)
      omega
  | succ f ih =>
    intro listed E M hsz hf hno hcl hI
    by_cases hall : ∀ i, i < n → listed.getD i false = true
    · exact hfin _ listed E M hsz hf hno hall hI
    refine ⟨fun base w0 a w hA hS => ⟨fun hr => ?_, fun i hi => ?_⟩⟩
    · exfalso
      exact hall fun i hi => by rw [← both hsz (by omega)]; exact none_left hac (by simpa using hsz) hr i (by simp; omega)
    · obtain ⟨h1, o, ho, hdep⟩ := mem_ready.1 hi
      have hil : i < l.length := by have := (Array.getElem?_eq_some_iff.1 ho).1; simpa using this
      have his : i < listed.size := by omega
      have hdo : listed.getD i false = false := getD_both h1
      have hws : ∀ j ∈ ws.getD i [], listed.getD j false = true := by
        intro j hj
        have h2 := List.all_eq_true.1 (List.all_eq_true.1 hw i (List.mem_range.2 hil)) j hj
        obtain ⟨o', ho', e, he, hb, hon⟩ := Region.waitsFor_spec h2
        obtain rfl : o' = o := Option.some.inj (ho'.symm.trans ho)
        rw [← hon]
        exact hdep e he hb
      have hin : i < n := by
        rcases Nat.lt_trichotomy i n with h | h | h
        · exact h
        · exfalso
          subst h
          exact hall fun j hj => cov_all hcov hcl hws i j (by omega) hj
        · exfalso
          have h3 := List.all_eq_true.1 hchain i (List.mem_range.2 hil)
          have h4 : Nat.blt n i = true := by simpa [Nat.blt_eq] using h
          rw [h4] at h3
          simp only [Bool.not_true, Bool.false_or] at h3
          obtain ⟨x, hx, h5⟩ := List.any_eq_true.1 h3
          have := Nat.eq_of_beq_eq_true h5
          subst this
          have h6 := hws _ hx
          rw [hno (i - 1) (by omega)] at h6
          cases h6
      have h := hstep i hin _ E M hI hdo hws
      have h1' := h.out.out base w0 a w hA hS
      have hone : (l.drop i).take 1 = [l[i]] := by rw [List.drop_eq_getElem_cons hil]; rfl
      rw [hone] at h1'
      unfold wpOp
      rw [show l.toArray[i]? = some l[i] by simp [hil]]
      have key : ∀ a2 w2, wpList P l.toArray (Lift false base N w0 (post false P N (fun e E2 M2 => e = .normal ∧ I (fun j => if j = i then true else listed.getD j false) E2 M2) [])) [] a2 w2 →
          wpAny P .any l.toArray (Lift false base N w0 (post false P N Fin k)) f (listed.setIfInBounds i true) a2 w2 := by
        intro a2 w2 h2
        obtain ⟨E2, M2, hA2, hS2, _, hI2⟩ := h2
        have e2 : (fun j => (listed.setIfInBounds i true).getD j false) = fun j => if j = i then true else listed.getD j false := by
          funext j
          by_cases hij : i = j
          · subst hij; simp [his]
          · rw [getD_set_ne false hij, if_neg (Ne.symm hij)]
        have e3 : ∀ j, (listed.setIfInBounds i true).getD j false = if j = i then true else listed.getD j false := fun j => congrFun e2 j
        refine (ih (listed.setIfInBounds i true) E2 M2 (by simpa using hsz) (by have := left_set h1 his l.length hil; omega) (fun j hj => ?_) (fun i' hi' j hj => ?_) ?_).out base w0 a2 w2 hA2 hS2
        · rw [e3, if_neg (by omega)]; exact hno j hj
        · rw [e3] at hi' ⊢
          by_cases hji : j = i
          · rw [if_pos hji]
          · rw [if_neg hji]
            by_cases hii : i' = i
            · subst hii; exact hws j hj
            · rw [if_neg hii] at hi'; exact hcl i' hi' j hj
        · rw [e2]; exact hI2
      unfold wpList at h1'
      have hnn : ∀ e a w, e ≠ .normal → ¬ Lift false base N w0 (post false P N (fun e E2 M2 => e = .normal ∧ I (fun j => if j = i then true else listed.getD j false) E2 M2) []) e a w := by
        rintro e a w hne ⟨E2, M2, _, _, h3, _⟩
        exact hne h3
      dsimp only
      split
      · rename_i hw'
        rw [if_pos hw'] at h1'
        rcases h1' with h1' | ⟨_, a2, w2, h2⟩
        · exact .inl (wp_other key hnn h1')
        · exact absurd h2 (hnn _ _ _ (by simp))
      · rename_i hw'
        rw [if_neg hw'] at h1'
        exact key _ _ h1'

/-- Operations that only read, one call among them (at c), and a forced chain from n on. -/
theorem W_region_callt {E : Env} {M : Mem} {id : Nat} (n c d : Nat) (R : Value → Mem → Prop) (hn : n < l.length) (hcn : c < n) (hm : P.follows .mixedOrders = true) (ws : List (List Nat)) (hw : ((List.range l.length).all fun i => (ws.getD i []).all fun j => Region.waitsFor .any l.toArray i j) = true)
    (hac : earlierB l.toArray = true) (hcov : covB ws n = true) (hchain : chainB ws n l.length = true) (hseq : Region.seqB .any l.toArray (l.drop n).length n (canonA n l.length) = true) (hRM : ∀ v M', R v M' → Rk M' M)
    (h : QC P N l E M c d R (fun done => chkU E (some (d, undef) :: done) = true ∧ ∀ v M', R v M' → WO false P N Fin l (l.drop n) k ((d, v) :: (somes done ++ E)) M') 0 [] ws (l.take n)) : W false P N Fin (.region id l.toArray true) k E M := by
  obtain ⟨full, hlen, ⟨hchk, hG⟩, hq⟩ := QC_all h.out
  simp only [List.nil_append] at hchk hG hq
  have hlen' : full.length = n := by rw [hlen, List.length_take]; omega
  obtain ⟨hf1, hf2⟩ := chkU_spec hchk
  have hE1 : ∀ p, some p ∈ full → E.get? p.1 = none := fun p hp => hf1 p (.tail _ hp)
  have hEd : E.get? d = none := hf1 (d, undef) (.head _)
  have hdis : ∀ (i j : Nat) (p q : Nat × Value), full[i]? = some (some p) → full[j]? = some (some q) → i ≠ j → p.1 ≠ q.1 := fun i j p q hi hj hij => hf2 (i + 1) (j + 1) p q (by simpa using hi) (by simpa using hj) (by omega)
  have hdd : ∀ (i : Nat) (p : Nat × Value), full[i]? = some (some p) → p.1 ≠ d := fun i p hi => hf2 (i + 1) 0 p (d, undef) (by simpa using hi) (by simp) (by omega)
  have hrep : ∀ i, (Array.replicate l.toArray.size false).getD i false = false := fun i => getD_replicate_false _ _
  refine W_region_any hm (OA_pre n hn ws hw hac hcov hchain hseq (fun done E' M' => Le E' E ∧ (∀ (i : Nat) (p : Nat × Value), full[i]? = some (some p) → done i = true → E'.get? p.1 = some p.2) ∧
      (done c = false → Rk M' M) ∧ (done c = true → ∃ v M2, E'.get? d = some v ∧ R v M2 ∧ Rk M' M2)) ?_ ?_ l.toArray.size (Array.replicate l.toArray.size false) E M (by simp) ?_ (fun j _ => hrep j) (fun i hi => (by rw [hrep] at hi; cases hi))
      ⟨fun _ _ h => h, fun i p _ h => (by dsimp only at h; rw [hrep] at h; cases h), fun _ => .rfl, fun h => (by dsimp only at h; rw [hrep] at h; cases h)⟩)
  · intro i hi done E' M' ⟨hs, hd, hm1, hm2⟩ hno hdone
    have hil : i < l.length := by omega
    have hone : (l.drop i).take 1 = [l[i]] := by rw [List.drop_eq_getElem_cons hil]; rfl
    rw [hone]
    have hif : i < full.length := by omega
    have hit : i < (l.take n).length := by rw [List.length_take]; omega
    obtain ⟨hqc, hqp⟩ := hq i hit hif
    rw [Nat.zero_add] at hqc hqp
    have hli : (l.take n)[i] = l[i] := List.getElem_take
    have hfi : full[i]? = some full[i] := List.getElem?_eq_getElem hif
    have hpk : ∀ p ∈ pick (full.take i) (ws.getD i []), E'.get? p.1 = some p.2 := by
      intro p hp
      obtain ⟨j, hj, hjp⟩ := mem_pick hp
      refine hd j p ?_ (hdone j hj)
      rw [List.getElem?_take] at hjp
      split at hjp
      · exact hjp
      · cases hjp
    by_cases hic : i = c
    · obtain ⟨hnone, hcall⟩ := hqc hic
      rw [hli] at hcall
      subst hic
      refine ⟨⟨fun base w0 a w hA hS => hcall.out base w0 a w (Le.ag (Le.app hpk hs) hA) (hS.rk (hm1 hno)) _ fun v M2 w' hR hS' => ?_⟩⟩
      refine ⟨(d, v) :: E', M2, hA.put hcall.hd _, hS', rfl, hs.cons hEd, ?_, fun h => (by simp at h), fun _ => ⟨v, M2, get_eq, hR, .rfl⟩⟩
      intro j p hj hdj
      by_cases hji : j = i
      · subst hji; rw [hfi, hnone] at hj; cases hj
      · have hdj' : done j = true := by simpa [hji] using hdj
        rw [get_ne (fun e => hdd j p hj e.symm)]
        exact hd j p hj hdj'
    · obtain ⟨e, v, hev, hps⟩ := hqp hic
      rw [hli] at hps
      have hci : ¬ c = i := fun e => hic e.symm
      rw [hev] at hfi
      have hMM : Rk M' M := by
        cases hdc : done c with
        | false => exact hm1 hdc
        | true => obtain ⟨v2, M2, _, hR, hrk⟩ := hm2 hdc; exact .trans hrk (hRM v2 M2 hR)
      refine ⟨⟨fun base w0 a w hA hS => hps.run (Le.ag (Le.app hpk hs) hA) (hS.rk hMM) ?_⟩⟩
      refine ⟨(e, v) :: E', M', hA.put hps.lt _, hS, rfl, hs.cons (hE1 (e, v) (List.mem_of_getElem? hfi)), ?_, fun h => hm1 (by simpa [hci] using h), fun h => ?_⟩
      · intro j p hj hdj
        by_cases hji : j = i
        · subst hji; rw [hfi] at hj; cases hj; exact get_eq
        · have hdj' : done j = true := by simpa [hji] using hdj
          rw [get_ne (fun e' => hdis j i p (e, v) hj hfi hji e'.symm)]
          exact hd j p hj hdj'
      · obtain ⟨v2, M2, k1, k2, k3⟩ := hm2 (by simpa [hci] using h)
        exact ⟨v2, M2, by rw [get_ne (hdd i (e, v) hfi)]; exact k1, k2, k3⟩
  · intro done E' M' ⟨hs, hd, _, hc2⟩ hall
    obtain ⟨v, M2, hv, hR, hrk⟩ := hc2 (hall c hcn)
    refine ⟨(d, v) :: (somes full ++ E), M2, ?_, hrk, hG v M2 hR⟩
    have h0 : Le E' (somes full ++ E) := Le.app (fun p hp => by
      obtain ⟨j, hj, hjp⟩ := List.mem_iff_getElem.1 (mem_somes hp)
      exact hd j p (by rw [List.getElem?_eq_getElem hj, hjp]) (hall j (by omega))) hs
    exact Le.app (A := [(d, v)]) (fun p hp => by rw [List.mem_singleton] at hp; subst hp; exact hv) h0
  · have e : ∀ m, m ≤ l.toArray.size → left (Array.replicate l.toArray.size false) m = m := by
      intro m
      induction m with
      | zero => intro _; rfl
      | succ m ih =>
        intro hm'
        have : (Array.replicate l.toArray.size false).getD m true = false := by
          have hs : m < l.length := by simp at hm'; omega
          simp [Array.getD_eq_getD_getElem?, hs]
        simp only [left, ih (by omega), this]
        simp
    have := e l.toArray.size (Nat.le_refl _)
    simpa using this
end
end Go.Proofs.Ytjkpfliaflmppaa.Vm

namespace Go.Proofs.Ytjkpfliaflmppaa.Vm
open Go Go.RowKit
theorem b2s {P : Program} {w : World} (f : Value → ByteArray → Sem (ForInStep ByteArray)) (hf : ∀ (y : Int) s, f (.int .u8 y) s = pure (.yield (s.push (UInt8.ofNat y.toNat)))) (ys : List Int) (s0 : ByteArray) :
    (forIn (ints .u8 ys) s0 f).run P w = .ok (ys.foldl (fun s y => s.push (UInt8.ofNat y.toNat)) s0) w := by
  induction ys generalizing s0 with
  | nil => simp [ints]
  | cons y ys ih => 
    simp only [ints, List.map_cons, List.forIn_cons, List.foldl_cons, hf] at ih ⊢
    have h := ih (s0.push (UInt8.ofNat y.toNat))
    simpa using h
theorem run_b2s {a : Addr} {n c : Nat} {ys : List Int} {P : Program} {w : World} (h : (loadCells a n).run P w = .ok (ints .u8 ys).toArray w) :
    (Conv.bytesToString (.slice (some a) n c)).run P w = .ok (.string (ys.foldl (fun s y => s.push (UInt8.ofNat y.toNat)) ByteArray.empty)) w := by
  unfold Conv.bytesToString
  simp [h]
  rw [b2s _ (fun y s => rfl)]
  simp
theorem P_toStr {P : Program} {N : Fm} {E : Env} {M : Mem} {t t2 e : TypeId} {x : Operand} {b o n cap : Nat} {own : Bool} {l : List Value} {ys : List Int} (ht : Und P t (.slice e)) (he : Und P e (.int .u8)) (ht2 : Und P t2 .string) (hx : ev E x = some (.slice (some ⟨b, o, none⟩) n cap))
    (hm : (⟨own, b, o, l⟩ : Sg) ∈ M) (hl : l.take n = ints .u8 ys) (hn : n ≤ l.length) : Pure P N E M (.convert t t2 x) (.string (ys.foldl (fun s y => s.push (UInt8.ofNat y.toNat)) ByteArray.empty)) := by
  constructor
  intro pr base w0 a w hA hS d ty pos after g
  have h1 : (loadCells ⟨b, o, none⟩ n).run P w = .ok (ints .u8 ys).toArray w := by
    have := run_loadCells (P := P) (i := 0) (n := n) (hS.seg _ hm) (by simpa using hn)
    rw [← hl]
    simpa using this
  have h2 := run_b2s (c := cap) h1
  simp [execOp, hA.eval hx, convert, ht.run, ht2.run, he.run, h2]
theorem P_eqStr {P : Program} {N : Fm} {E : Env} {M : Mem} {t t2 : TypeId} {x y : Operand} {s : ByteArray} (ht : Und P t .string) (hx : ev E x = some (.string s)) (hy : ev E y = some (.string s)) : Pure P N E M (.binOp .eql t x y t2) (.bool true) := by
  constructor
  intro pr base w0 a w hA hS d ty pos after g
  simp [execOp, hA.eval hx, hA.eval hy, binOp, eqGuard, Op.stringOp, ht.run]
end Go.Proofs.Ytjkpfliaflmppaa.Vm
