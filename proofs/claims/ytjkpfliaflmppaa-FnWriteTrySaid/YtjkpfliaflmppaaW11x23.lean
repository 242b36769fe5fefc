/- Drawn regions: operations that only read, one call among them, one operation that hands the call's result on, and one operation that comes last of all. No condition. -/
import Derived.Test.YtjkpfliaflmppaaW11x11

namespace Go.Proofs.Ytjkpfliaflmppaa.Vm
open Go Go.RowKit

/-- Operations that only read, but for the call at place c, and the one at q that hands its result on. -/
def QMd (P : Program) (N : Fm) (l : List Oper) (E : Env) (M : Mem) (c d q e : Nat) (R : Value → Mem → Prop) (K : UEnv → Prop) : Nat → UEnv → List (List Nat) → List Oper → Prop
  | _, done, _, [] => K done
  | i, done, ws, o :: rest =>
    if i = c then CallAt P N l (pick done (ws.headD []) ++ E) M o d R ∧ QMd P N l E M c d q e R K (i + 1) (done ++ [none]) ws.tail rest
    else if i = q then (∀ v, PS P N l [(d, v)] M o e v) ∧ QMd P N l E M c d q e R K (i + 1) (done ++ [none]) ws.tail rest
    else ∃ e' v, PS P N l (pick done (ws.headD []) ++ E) M o e' v ∧ QMd P N l E M c d q e R K (i + 1) (done ++ [some (e', v)]) ws.tail rest
structure QM (P : Program) (N : Fm) (l : List Oper) (E : Env) (M : Mem) (c d q e : Nat) (R : Value → Mem → Prop) (K : UEnv → Prop) (i : Nat) (done : UEnv) (ws : List (List Nat)) (rest : List Oper) : Prop where
  out : QMd P N l E M c d q e R K i done ws rest

section
variable {P : Program} {N : Fm} {Fin : Post} {k : List Kn} {E : Env} {M : Mem} {l : List Oper} {c d q e : Nat} {R : Value → Mem → Prop} {K : UEnv → Prop} {i : Nat} {done : UEnv} {w : List Nat} {ws : List (List Nat)} {o : Oper} {rest : List Oper} {e' : Nat} {v : Value}

theorem QM_nil (h : K done) : QM P N l E M c d q e R K i done ws [] := ⟨h⟩
theorem mm (hi : Nat.beq i c = false) (hj : Nat.beq i q = false) (h : PS P N l (pick done w ++ E) M o e' v) (h2 : QM P N l E M c d q e R K (i + 1) (done ++ [some (e', v)]) ws rest) : QM P N l E M c d q e R K i done (w :: ws) (o :: rest) := by
  have hne : i ≠ c := fun e => by subst e; rw [Nat.beq_refl] at hi; cases hi
  have hnq : i ≠ q := fun e => by subst e; rw [Nat.beq_refl] at hj; cases hj
  refine ⟨?_⟩
  unfold QMd
  rw [if_neg hne, if_neg hnq]
  exact ⟨e', v, h, h2.out⟩
theorem mpure {op : Op} {ty : TypeId} {pos : String} {after : Array Edge} {g : Option (Nat × Bool)} (hi : Nat.beq i c = false) (hj : Nat.beq i q = false) (hp : Pure P N (pick done w ++ E) M op v) (hg : On (pick done w ++ E) l g) (hd : Nat.blt e' N.n = true)
    (h2 : QM P N l E M c d q e R K (i + 1) (done ++ [some (e', v)]) ws rest) : QM P N l E M c d q e R K i done (w :: ws) (⟨some e', op, ty, pos, after, g⟩ :: rest) := mm hi hj ⟨rfl, hd, .inl ⟨hg, hp⟩⟩ h2
theorem mq (hq : i = q) (hcq : Nat.beq c q = false) (h : ∀ v, PS P N l [(d, v)] M o e v) (h2 : QM P N l E M c d q e R K (i + 1) (done ++ [none]) ws rest) : QM P N l E M c d q e R K i done (w :: ws) (o :: rest) := by
  subst hq
  have hne : i ≠ c := fun e => by subst e; rw [Nat.beq_refl] at hcq; cases hcq
  refine ⟨?_⟩
  unfold QMd
  rw [if_neg hne, if_pos rfl]
  exact ⟨h, h2.out⟩
theorem mcall {f0 : Operand} {xs : List Operand} {ts : Array TypeId} {f : FuncId} {first captured : Array Value} {vs : List Value} {ty : TypeId} {pos : String} {after : Array Edge} {g : Option (Nat × Bool)}
    (hc : ev (pick done w ++ E) f0 = some (.func (.func f) first captured)) (hx : evs (pick done w ++ E) xs = some vs) (hf : Callable P f) (hg : On (pick done w ++ E) l g) (hd : Nat.blt d N.n = true)
    (hR : HC P f (first ++ vs.toArray ++ captured) M R) (h2 : QM P N l E M c d q e R K (c + 1) (done ++ [none]) ws rest) :
    QM P N l E M c d q e R K c done (w :: ws) (⟨some d, .call { callee := .value f0, args := xs.toArray, argTypes := ts }, ty, pos, after, g⟩ :: rest) := by
  refine ⟨?_⟩
  unfold QMd
  rw [if_pos rfl]
  refine ⟨⟨fun base w0 a w1 hA hS F hF => ?_, hd⟩, h2.out⟩
  unfold wpList
  rw [if_pos (On.wanted (o := ⟨some d, .call { callee := .value f0, args := xs.toArray, argTypes := ts }, ty, pos, after, g⟩) hg hA)]
  refine .inl ?_
  unfold Oper.wp
  have hr : (execOp a.eval ⟨some d, .call { callee := .value f0, args := xs.toArray, argTypes := ts }, ty, pos, after, g⟩).run P w1 = .ok (.enter f (first ++ vs.toArray ++ captured)) w1 := by
    have e : xs.toArray.map a.eval = vs.toArray := by simp [hA.evals hx]
    simp [execOp, resolve, e, hA.eval hc, Deferred.ofValue, invoke, run_callFunc hf]
  rw [hr]
  refine (hR.out base w0 w1 hS).mono fun e w' ⟨u, M', he, hS', hu⟩ => ?_
  subst he
  exact hF _ _ _ hu hS'

theorem QM_all {rest : List Oper} : ∀ {i0 : Nat} {done : UEnv} {ws : List (List Nat)}, QMd P N l E M c d q e R K i0 done ws rest → ∃ more : UEnv, more.length = rest.length ∧ K (done ++ more) ∧
    ∀ i (hi : i < rest.length) (hm : i < more.length), (i0 + i = c → more[i] = none ∧ CallAt P N l (pick (done ++ more.take i) (ws.getD i []) ++ E) M rest[i] d R) ∧
      (i0 + i ≠ c → i0 + i = q → more[i] = none ∧ ∀ v, PS P N l [(d, v)] M rest[i] e v) ∧ (i0 + i ≠ c → i0 + i ≠ q → ∃ e v, more[i] = some (e, v) ∧ PS P N l (pick (done ++ more.take i) (ws.getD i []) ++ E) M rest[i] e v) := by
  induction rest with
  | nil => intro i0 done ws h; exact ⟨[], rfl, by rw [List.append_nil]; exact h, fun i hi => absurd hi (Nat.not_lt_zero _)⟩
  | cons o rest ih =>
    intro i0 done ws h
    have ehd : ws.headD [] = ws.getD 0 [] := by cases ws <;> rfl
    have etl : ∀ i, ws.tail.getD i [] = ws.getD (i + 1) [] := by intro i; cases ws <;> simp
    unfold QMd at h
    split at h
    · rename_i hc
      obtain ⟨h1, h2⟩ := h
      obtain ⟨more, k1, k2, k3⟩ := ih h2
      refine ⟨none :: more, by simp [k1], by simpa using k2, fun i hi hm => ?_⟩
      cases i with
      | zero => exact ⟨fun _ => ⟨rfl, by rw [ehd] at h1; simpa using h1⟩, fun hne => absurd hc hne, fun hne => absurd hc hne⟩
      | succ i =>
        have := k3 i (by simpa using hi) (by simpa using hm)
        rw [etl] at this
        rw [show i0 + (i + 1) = i0 + 1 + i by omega]
        simpa using this
    · rename_i hc
      split at h
      · rename_i hq
        obtain ⟨h1, h2⟩ := h
        obtain ⟨more, k1, k2, k3⟩ := ih h2
        refine ⟨none :: more, by simp [k1], by simpa using k2, fun i hi hm => ?_⟩
        cases i with
        | zero => exact ⟨fun hne => absurd hne hc, fun _ _ => ⟨rfl, h1⟩, fun _ hne => absurd hq hne⟩
        | succ i =>
          have := k3 i (by simpa using hi) (by simpa using hm)
          rw [etl] at this
          rw [show i0 + (i + 1) = i0 + 1 + i by omega]
          simpa using this
      · rename_i hq
        obtain ⟨e, v, h1, h2⟩ := h
        obtain ⟨more, k1, k2, k3⟩ := ih h2
        refine ⟨some (e, v) :: more, by simp [k1], by simpa using k2, fun i hi hm => ?_⟩
        cases i with
        | zero => exact ⟨fun hne => absurd hne hc, fun _ hne => absurd hne hq, fun _ _ => ⟨e, v, rfl, by rw [ehd] at h1; simpa using h1⟩⟩
        | succ i =>
          have := k3 i (by simpa using hi) (by simpa using hm)
          rw [etl] at this
          rw [show i0 + (i + 1) = i0 + 1 + i by omega]
          simpa using this

theorem W_region_callm {id : Nat} (n c d q e : Nat) (R : Value → Mem → Prop) (hn : l.length = n + 1) (hcn : c < n) (hqn : q < n) (hcq2 : Nat.beq c q = false) (hm : P.follows .mixedOrders = true) (ws : List (List Nat)) (hcq : ((ws.getD q []).any fun x => Nat.beq x c) = true) (hw : ((List.range l.length).all fun i => (ws.getD i []).all fun j => Region.waitsFor .any l.toArray i j) = true)
    (hac : earlierB l.toArray = true) (hcov : covB ws n = true) (hRM : ∀ v M', R v M' → Rk M' M)
    (h : QM P N l E M c d q e R (fun done => chkU E (some (d, undef) :: some (e, undef) :: done) = true ∧ ∀ v M', R v M' → WO false P N (fun x E2 M2 => x = .normal ∧ G false P N Fin .normal k E2 M2) l (l.drop n) [] ((d, v) :: (e, v) :: (somes done ++ E)) M') 0 [] ws (l.take n)) : W false P N Fin (.region id l.toArray true) k E M := by
  obtain ⟨full, hlen, ⟨hchk, hG⟩, hq⟩ := QM_all h.out
  simp only [List.nil_append] at hchk hG hq
  have hlen' : full.length = n := by rw [hlen, List.length_take]; omega
  obtain ⟨hf1, hf2⟩ := chkU_spec hchk
  have hE1 : ∀ p, some p ∈ full → E.get? p.1 = none := fun p hp => hf1 p (.tail _ (.tail _ hp))
  have hEd : E.get? d = none := hf1 (d, undef) (.head _)
  have hEe : E.get? e = none := hf1 (e, undef) (.tail _ (.head _))
  have hde : d ≠ e := fun he => hf2 0 1 (d, undef) (e, undef) (by simp) (by simp) (by omega) he
  have hdis : ∀ (i j : Nat) (p q : Nat × Value), full[i]? = some (some p) → full[j]? = some (some q) → i ≠ j → p.1 ≠ q.1 := fun i j p q hi hj hij => hf2 (i + 2) (j + 2) p q (by simpa using hi) (by simpa using hj) (by omega)
  have hdd : ∀ (i : Nat) (p : Nat × Value), full[i]? = some (some p) → p.1 ≠ d := fun i p hi => hf2 (i + 2) 0 p (d, undef) (by simpa using hi) (by simp) (by omega)
  have hde2 : ∀ (i : Nat) (p : Nat × Value), full[i]? = some (some p) → p.1 ≠ e := fun i p hi => hf2 (i + 2) 1 p (e, undef) (by simpa using hi) (by simp) (by omega)
  have hcqm : c ∈ ws.getD q [] := by
    obtain ⟨x, hx, hxc⟩ := List.any_eq_true.1 hcq
    have := Nat.eq_of_beq_eq_true hxc; subst this; exact hx
  have hcq' : c ≠ q := fun he => by rw [he, Nat.beq_refl] at hcq2; cases hcq2
  refine W_region_inv2 hm ws hw hac (fun done E' M' => (∀ i, done i = true → ∀ j ∈ ws.getD i [], done j = true) ∧
    (done n = false → Le E' E ∧ (∀ (i : Nat) (p : Nat × Value), full[i]? = some (some p) → done i = true → E'.get? p.1 = some p.2) ∧
      (done c = false → Rk M' M) ∧ (done c = true → ∃ v M2, E'.get? d = some v ∧ R v M2 ∧ Rk M' M2 ∧ (done q = true → E'.get? e = some v))) ∧ (done n = true → G false P N Fin .normal k E' M'))
    ⟨fun i h => (by cases h), fun _ => ⟨fun _ _ h => h, fun i p _ h => (by cases h), fun _ => .rfl, fun h => (by cases h)⟩, fun h => (by cases h)⟩ ?_ ?_
  · intro i hi done E' M' ⟨hcl, hA1, hA2⟩ hno hdone
    have hcl' : ∀ i', (if i' = i then true else done i') = true → ∀ j ∈ ws.getD i' [], (if j = i then true else done j) = true := by
      intro i' hi' j hj
      by_cases hji : j = i
      · simp [hji]
      · rw [if_neg hji]
        by_cases hii : i' = i
        · subst hii; exact hdone j hj
        · rw [if_neg hii] at hi'; exact hcl i' hi' j hj
    have hone : (l.drop i).take 1 = [l[i]] := by rw [List.drop_eq_getElem_cons hi]; rfl
    rw [hone]
    by_cases hin : i = n
    · subst hin
      obtain ⟨hs, hd, _, hc2⟩ := hA1 hno
      have hall := cov_all hcov hcl hdone i
      have hlast : l.drop i = [l[i]] := by
        rw [List.drop_eq_getElem_cons hi, List.drop_eq_nil_of_le (by omega)]
      rw [hlast] at hG
      obtain ⟨v, M2, hv, hR, hrk, hve⟩ := hc2 (hall c (by omega) hcn)
      have hve := hve (hall q (by omega) hqn)
      have hle : Le E' ((d, v) :: (e, v) :: (somes full ++ E)) := by
        have h0 : Le E' (somes full ++ E) := Le.app (fun p hp => by
          obtain ⟨j, hj, hjp⟩ := List.mem_iff_getElem.1 (mem_somes hp)
          exact hd j p (by rw [List.getElem?_eq_getElem hj, hjp]) (hall j (by omega) (by omega))) hs
        exact Le.app (A := [(d, v), (e, v)]) (fun p hp => by simp only [List.mem_cons, List.not_mem_nil, or_false] at hp; rcases hp with rfl | rfl; exact hv; exact hve) h0
      refine ⟨⟨fun base w0 a w hA hS => ?_⟩⟩
      refine wpList1_mono (fun a2 w2 hx => ?_) (fun x a2 w2 hne hx => ?_) ((hG v M2 hR).out.out base w0 a w (hle.ag hA) (hS.rk hrk))
      · obtain ⟨E2, M3, q1, q2, _, q3⟩ := hx
        exact ⟨E2, M3, q1, q2, rfl, hcl', fun h => (by simp at h), fun _ => q3⟩
      · obtain ⟨E2, M3, q1, q2, q3, _⟩ := hx
        exact hne q3
    · have hno2 : done n = false := by
        cases hdn : done n with
        | false => rfl
        | true => have := cov_all hcov hcl (hcl n hdn) n i (by omega) (by omega); rw [this] at hno; cases hno
      obtain ⟨hs, hd, hm1, hm2⟩ := hA1 hno2
      have hif : i < full.length := by omega
      have hit : i < (l.take n).length := by rw [List.length_take]; omega
      obtain ⟨hqc, hqq, hqp⟩ := hq i hit hif
      rw [Nat.zero_add] at hqc hqq hqp
      have hli : (l.take n)[i] = l[i] := List.getElem_take
      have hfi : full[i]? = some full[i] := List.getElem?_eq_getElem hif
      have hni : ¬ n = i := fun e => hin e.symm
      have hpk : ∀ p ∈ pick (full.take i) (ws.getD i []), E'.get? p.1 = some p.2 := by
        intro p hp
        obtain ⟨j, hj, hjp⟩ := mem_pick hp
        refine hd j p ?_ (hdone j hj)
        rw [List.getElem?_take] at hjp
        split at hjp
        · exact hjp
        · cases hjp
      by_cases hic : i = c
      · obtain ⟨hnone, hcall⟩ := hqc hic
        rw [hli] at hcall
        subst hic
        refine ⟨⟨fun base w0 a w hA hS => hcall.out base w0 a w (Le.ag (Le.app hpk hs) hA) (hS.rk (hm1 hno)) _ fun v M2 w' hR hS' => ?_⟩⟩
        refine ⟨(d, v) :: E', M2, hA.put hcall.hd _, hS', rfl, hcl', fun _ => ⟨hs.cons hEd, ?_, fun h => (by simp at h), fun _ => ⟨v, M2, get_eq, hR, .rfl, fun hdq => ?_⟩⟩, fun h => (by simp [hni, hno2] at h)⟩
        rotate_left
        · have hdq' : done q = true := by simpa [show ¬ q = i from fun he => hcq' he.symm] using hdq
          have := hcl q hdq' i hcqm
          rw [this] at hno; cases hno
        intro j p hj hdj
        by_cases hji : j = i
        · subst hji; rw [hfi, hnone] at hj; cases hj
        · have hdj' : done j = true := by simpa [hji] using hdj
          rw [get_ne (fun e => hdd j p hj e.symm)]
          exact hd j p hj hdj'
      · by_cases hiq : i = q
        · obtain ⟨hnone, hps⟩ := hqq hic hiq
          subst hiq
          obtain ⟨v, M2, k1, k2, k3, _⟩ := hm2 (hdone c hcqm)
          have hps := hps v
          rw [hli] at hps
          refine ⟨⟨fun base w0 a w hA hS => hps.run (Le.ag (Le.app (A := [(d, v)]) (B := []) (fun p hp => by rw [List.mem_singleton] at hp; subst hp; exact k1) (fun _ _ h => by cases h)) hA) (hS.rk (.trans k3 (hRM v M2 k2))) ?_⟩⟩
          refine ⟨(e, v) :: E', M', hA.put hps.lt _, hS, rfl, hcl', fun _ => ⟨hs.cons hEe, ?_, fun h => hm1 (by simpa [hcq'] using h), fun h => ⟨v, M2, by rw [get_ne (Ne.symm hde)]; exact k1, k2, k3, fun _ => get_eq⟩⟩, fun h => (by simp [hni, hno2] at h)⟩
          intro j p hj hdj
          by_cases hji : j = i
          · subst hji; rw [hfi, hnone] at hj; cases hj
          · have hdj' : done j = true := by simpa [hji] using hdj
            rw [get_ne (fun h => hde2 j p hj h.symm)]
            exact hd j p hj hdj'
        · obtain ⟨e', v, hev, hps⟩ := hqp hic hiq
          rw [hli] at hps
          have hci : ¬ c = i := fun h => hic h.symm
          rw [hev] at hfi
          have hMM : Rk M' M := by
            cases hdc : done c with
            | false => exact hm1 hdc
            | true => obtain ⟨v2, M2, _, hR, hrk, _⟩ := hm2 hdc; exact .trans hrk (hRM v2 M2 hR)
          refine ⟨⟨fun base w0 a w hA hS => hps.run (Le.ag (Le.app hpk hs) hA) (hS.rk hMM) ?_⟩⟩
          refine ⟨(e', v) :: E', M', hA.put hps.lt _, hS, rfl, hcl', fun _ => ⟨hs.cons (hE1 (e', v) (List.mem_of_getElem? hfi)), ?_, fun h => hm1 (by simpa [hci] using h), fun h => ?_⟩, fun h => (by simp [hni, hno2] at h)⟩
          · intro j p hj hdj
            by_cases hji : j = i
            · subst hji; rw [hfi] at hj; cases hj; exact get_eq
            · have hdj' : done j = true := by simpa [hji] using hdj
              rw [get_ne (fun h => hdis j i p (e', v) hj hfi hji h.symm)]
              exact hd j p hj hdj'
          · obtain ⟨v2, M2, k1, k2, k3, k4⟩ := hm2 (by simpa [hci] using h)
            exact ⟨v2, M2, by rw [get_ne (hdd i (e', v) hfi)]; exact k1, k2, k3, fun h => by rw [get_ne (hde2 i (e', v) hfi)]; exact k4 (by simpa [show ¬ q = i from fun he => hiq he.symm] using h)⟩
  · intro done E' M' ⟨hcl, hA1, hA2⟩ hall
    exact ⟨E', M', fun _ _ h => h, .rfl, hA2 (hall n (by omega))⟩
end
end Go.Proofs.Ytjkpfliaflmppaa.Vm
