/- Drawn regions: quiet operations, and one that comes last of all; a struct stored as it stands. No condition. Drawn regions: operations that only read, one call among them, and one operation that comes last of all. No condition. Drawn regions with a call: what is done stands with the last one first, so that it is found at once. No condition. -/
import Derived.Test.YtjkpfliaflmppaaW11x06

namespace Go.Proofs.Ytjkpfliaflmppaa.Vm
open Go Go.RowKit

/-- Each operation below n is waited for by a later one. -/
def covB (ws : List (List Nat)) (n : Nat) : Bool := (List.range n).all fun i => (List.range (n + 1)).any fun j => Nat.blt i j && (ws.getD j []).any fun x => Nat.beq x i
theorem covB_spec {ws : List (List Nat)} {n : Nat} (h : covB ws n = true) : ∀ i, i < n → ∃ j, i < j ∧ j ≤ n ∧ i ∈ ws.getD j [] := by
  intro i hi
  have h1 := List.all_eq_true.1 h i (List.mem_range.2 hi)
  obtain ⟨j, hj, h2⟩ := List.any_eq_true.1 h1
  rw [Bool.and_eq_true] at h2
  obtain ⟨h3, h4⟩ := h2
  obtain ⟨x, hx, h5⟩ := List.any_eq_true.1 h4
  have := Nat.eq_of_beq_eq_true h5
  subst this
  exact ⟨j, by simpa [Nat.blt_eq] using h3, by have := List.mem_range.1 hj; omega, hx⟩
theorem cov_all {ws : List (List Nat)} {n : Nat} (h : covB ws n = true) {done : Nat → Bool} (hc : ∀ i, done i = true → ∀ j ∈ ws.getD i [], done j = true) (hl : ∀ j ∈ ws.getD n [], done j = true) : ∀ m i, n - i ≤ m → i < n → done i = true := by
  intro m
  induction m with
  | zero => intro i h1 h2; omega
  | succ m ih =>
    intro i h1 h2
    obtain ⟨j, hj1, hj2, hj3⟩ := covB_spec h i h2
    by_cases hjn : j = n
    · subst hjn; exact hl i hj3
    · exact hc j (ih j (by omega) (by omega)) i hj3

theorem wpList1_mono {P : Program} {ops : Array Oper} {F F' : Exit → Act → World → Prop} {o : Oper} {a : Act} {w : World} (hF : ∀ a w, F .normal a w → F' .normal a w) (hno : ∀ e a w, e ≠ .normal → ¬ F e a w)
    (h : wpList P ops F [o] a w) : wpList P ops F' [o] a w := by
  have key : ∀ a w, wpList P ops F [] a w → wpList P ops F' [] a w := fun a w h => hF a w h
  unfold wpList at h ⊢
  split
  · rename_i hw
    rw [if_pos hw] at h
    rcases h with h | ⟨_, a2, w2, h2⟩
    · exact .inl (wp_other key hno h)
    · exact absurd h2 (hno _ _ _ (by simp))
  · rename_i hw
    rw [if_neg hw] at h
    exact key _ _ h

section
variable {P : Program} {N : Fm} {Fin : Post} {k : List Kn} {E : Env} {M : Mem} {l : List Oper}

/-- A struct stored as it stands. -/
theorem QS_storeAgg {K : UEnv → Prop} {done : UEnv} {w : List Nat} {ws : List (List Nat)} {rest : List Oper} {t : TypeId} {p x : Operand} {b o n : Nat} {c cs : List Value} {M0 : Mem} {ty : TypeId} {pos : String} {after : Array Edge} {g : Option (Nat × Bool)} (hn : Cel P t n) (hn0 : 0 < n)
    (hp : ev (pick done w ++ E) p = some (.pointer (some ⟨b, o, none⟩))) (hx : ev (pick done w ++ E) x = some (.agg cs.toArray)) (hcs : cs.length = n) (hv : ∀ v ∈ cs, v.oneCell' = true) (hg : On (pick done w ++ E) l g)
    (hm : Take1 M ⟨true, b, o, c⟩ M0) (hb : Rk (⟨true, b, o, c⟩ :: M0) M) (hl : c.length = n) (hc : c = cs) (h : QS P N l E M K (done ++ [none]) ws rest) : QS P N l E M K done (w :: ws) (⟨none, .store t p x, ty, pos, after, g⟩ :: rest) := by
  subst hc
  refine QS_of (u := none) ⟨fun base w0 a w1 hA hS F hF => ?_, fun _ h => by cases h⟩ h
  unfold wpList
  rw [if_pos (On.wanted (o := ⟨none, .store t p x, ty, pos, after, g⟩) hg hA)]
  refine .inl ?_
  unfold Oper.wp
  obtain ⟨I, hI, hs⟩ := size_of hn.out hn0
  obtain ⟨w', h1, h2⟩ := run_storeCells (P := P) (i := 0) c 0 c w1 (hS.rk (.cons hm .rfl)) hv (by omega)
  have hr : (execOp a.eval ⟨none, .store t p x, ty, pos, after, g⟩).run P w1 = .ok .skip w' := by
    simp only [execOp, Instr.storeAt, Instr.sureAddr, hA.eval hp, hA.eval hx]
    simp at h1
    simp [storeVar, Value.cells, sizeOf, typeInfo, hI, hs, hcs, h1]
  rw [hr]
  have e : putAt c 0 c = c := by
    have := putAt_append c [] c (Nat.le_refl _)
    simpa using this
  rw [e] at h2
  exact hF _ (h2.rk hb)

theorem W_region_last {id : Nat} (n : Nat) (hn : l.length = n + 1) (hm : P.follows .mixedOrders = true) (ws : List (List Nat)) (hw : ((List.range l.length).all fun i => (ws.getD i []).all fun j => Region.waitsFor .any l.toArray i j) = true)
    (hac : earlierB l.toArray = true) (hcov : covB ws n = true)
    (h : QS P N l E M (fun done => chkU E done = true ∧ WO false P N (fun e E2 M2 => e = .normal ∧ G false P N Fin .normal k E2 M2) l (l.drop n) [] (somes done ++ E) M) [] ws (l.take n)) : W false P N Fin (.region id l.toArray true) k E M := by
  obtain ⟨full, hlen, ⟨hc, hG⟩, hq⟩ := QS_all h.out
  simp only [List.nil_append] at hc hG hq
  have hlen' : full.length = n := by rw [hlen, List.length_take]; omega
  obtain ⟨hf1, hf2⟩ := chkU_spec hc
  refine W_region_inv2 hm ws hw hac (fun done E' M' => (∀ i, done i = true → ∀ j ∈ ws.getD i [], done j = true) ∧
    (done n = false → Le E' E ∧ (∀ (i : Nat) (p : Nat × Value), full[i]? = some (some p) → done i = true → E'.get? p.1 = some p.2) ∧ Rk M' M) ∧ (done n = true → G false P N Fin .normal k E' M'))
    ⟨fun i h => (by cases h), fun _ => ⟨fun _ _ h => h, fun i p _ h => (by cases h), .rfl⟩, fun h => (by cases h)⟩ ?_ ?_
  · intro i hi done E' M' ⟨hcl, hA1, hA2⟩ hno hdone
    have hcl' : ∀ i', (if i' = i then true else done i') = true → ∀ j ∈ ws.getD i' [], (if j = i then true else done j) = true := by
      intro i' hi' j hj
      by_cases hji : j = i
      · simp [hji]
      · rw [if_neg hji]
        by_cases hii : i' = i
        · subst hii; exact hdone j hj
        · rw [if_neg hii] at hi'; exact hcl i' hi' j hj
    have hone : (l.drop i).take 1 = [l[i]] := by rw [List.drop_eq_getElem_cons hi]; rfl
    rw [hone]
    by_cases hin : i = n
    · subst hin
      obtain ⟨hs, hd, hrk⟩ := hA1 hno
      have hall := cov_all hcov hcl hdone i
      have hlast : l.drop i = [l[i]] := by
        rw [List.drop_eq_getElem_cons hi, List.drop_eq_nil_of_le (by omega)]
      rw [hlast] at hG
      have hle : Le E' (somes full ++ E) := Le.app (fun p hp => by
        obtain ⟨j, hj, hjp⟩ := List.mem_iff_getElem.1 (mem_somes hp)
        exact hd j p (by rw [List.getElem?_eq_getElem hj, hjp]) (hall j (by omega) (by omega))) hs
      refine ⟨⟨fun base w0 a w hA hS => ?_⟩⟩
      refine wpList1_mono (fun a2 w2 hx => ?_) (fun e a2 w2 hne hx => ?_) (hG.out.out base w0 a w (hle.ag hA) (hS.rk hrk))
      · obtain ⟨E2, M2, q1, q2, _, q3⟩ := hx
        exact ⟨E2, M2, q1, q2, rfl, hcl', fun h => (by simp at h), fun _ => q3⟩
      · obtain ⟨E2, M2, q1, q2, q3, _⟩ := hx
        exact hne q3
    · have hno2 : done n = false := by
        cases hdn : done n with
        | false => rfl
        | true => have := cov_all hcov hcl (hcl n hdn) n i (by omega) (by omega); rw [this] at hno; cases hno
      obtain ⟨hs, hd, hrk⟩ := hA1 hno2
      have hif : i < full.length := by omega
      have hit : i < (l.take n).length := by rw [List.length_take]; omega
      have hqt := hq i hit hif
      have hli : (l.take n)[i] = l[i] := List.getElem_take
      rw [hli] at hqt
      have hfi : full[i]? = some full[i] := List.getElem?_eq_getElem hif
      generalize full[i] = u at hqt hfi
      refine ⟨⟨fun base w0 a w hA hS => hqt.out base w0 a w (Le.ag (Le.app (fun p hp => ?_) hs) hA) (hS.rk hrk) _ fun w' hS' => ?_⟩⟩
      · obtain ⟨j, hj, hjp⟩ := mem_pick hp
        refine hd j p ?_ (hdone j hj)
        rw [List.getElem?_take] at hjp
        split at hjp
        · exact hjp
        · cases hjp
      · have hni : ¬ n = i := fun e => hin e.symm
        cases u with
        | none =>
          refine ⟨E', M, hA, hS', rfl, hcl', fun _ => ⟨hs, ?_, .rfl⟩, fun h => (by simp [hni, hno2] at h)⟩
          intro j p hj hdj
          by_cases hji : j = i
          · subst hji; rw [hfi] at hj; cases hj
          · exact hd j p hj (by simpa [hji] using hdj)
        | some q =>
          obtain ⟨d, v⟩ := q
          refine ⟨(d, v) :: E', M, hA.put (hqt.hd _ rfl) _, hS', rfl, hcl', fun _ => ⟨hs.cons (hf1 (d, v) (List.mem_of_getElem? hfi)), ?_, .rfl⟩, fun h => (by simp [hni, hno2] at h)⟩
          intro j p hj hdj
          by_cases hji : j = i
          · subst hji; rw [hfi] at hj; cases hj; exact get_eq
          · have hdj' : done j = true := by simpa [hji] using hdj
            rw [get_ne (fun e => hf2 j i p (d, v) hj hfi hji e.symm)]
            exact hd j p hj hdj'
  · intro done E' M' ⟨hcl, hA1, hA2⟩ hall
    exact ⟨E', M', fun _ _ h => h, .rfl, hA2 (hall n (by omega))⟩

/-- A result, wherever it lies. -/
structure ResV (P : Program) (N : Fm) (E : Env) (M : Mem) (r : ResultVar) (v : Value) : Prop where
  out : ∀ pr base w0 w a, Ag N E a → Sim pr base w0 w M → (resAt a.tmps r).run P w = .ok v w
theorem ResV.tmp {t : Nat} {v : Value} (h : E.get? t = some v) : ResV P N E M (.tmp t) v := ⟨fun pr base w0 w a hA hS => by
  have h3 := hA.val _ _ h
  simp [resAt, Array.getD_eq_getD_getElem?, h3]⟩
theorem ResV.agg {p t b n : Nat} {own : Bool} {cs : List Value} (h : E.get? p = some (.pointer (some ⟨b, 0, none⟩))) (hm : (⟨own, b, 0, cs⟩ : Sg) ∈ M) (ht : AggT P t) (hn : Cel P t n) (hn0 : 0 < n) (hc : cs.length = n) : ResV P N E M (.cell p t) (.agg cs.toArray) :=
  ⟨fun pr base w0 w a hA hS => by
    have h3 := hA.val _ _ h
    obtain ⟨I, hI, hs⟩ := size_of hn.out hn0
    have h1 := run_loadCells (P := P) (i := 0) (n := n) (hS.seg _ hm) (by simp only; omega)
    simp only [List.drop_zero, ← hc, List.take_length] at h1
    obtain ⟨D, ht, hD⟩ := ht.out
    cases D <;> simp [isAggD] at hD <;> simp [resAt, Array.getD_eq_getD_getElem?, h3, asAddr, loadVar, isAgg, run_under ht, sizeOf, typeInfo, hI, hs, ← hc] <;> (simp at h1; simp [h1])⟩
def ResG (P : Program) (N : Fm) (E : Env) (M : Mem) : List ResultVar → List Value → Prop
  | [], [] => True
  | r :: rs, v :: vs => ResV P N E M r v ∧ ResG P N E M rs vs
  | _, _ => False
theorem mapM_resG {pr : Bool} {base : Nat} {w0 w : World} {a : Act} (h : Ag N E a) (hS : Sim pr base w0 w M) : ∀ (rs : List ResultVar) (vs : List Value), ResG P N E M rs vs → (rs.mapM (resAt a.tmps)).run P w = .ok vs w
  | [], [], _ => by simp
  | [], v :: vs, hv => by simp [ResG] at hv
  | r :: rs, [], hv => by simp [ResG] at hv
  | r :: rs, v :: vs, hv => by
    have h4 := mapM_resG h hS rs vs hv.2
    have h5 := hv.1.out _ _ _ _ _ h hS
    rw [List.mapM_cons, Sem.run_bind, h5, Result.andThen_ok, Sem.run_bind, h4]
    rfl
def EndsR (P : Program) (N : Fm) (rs : List ResultVar) (R : Value → Mem → Prop) : Post
  | .normal, E, M | .ret, E, M => ∃ vs, ResG P N E M rs vs ∧ R (tupled vs) M
  | _, _, _ => False

theorem HC_of_WR {pr : Bool} {f : FuncId} {fn : Func} {c : Code} {vs : List Value} {R : Value → Mem → Prop} {rs : List ResultVar} {n : Nat} (hf : P.funcs[f]? = some fn) (hb : fn.body = some c) (hN : fn.ntmps = n)
    (hrs : fn.results.toList = rs) (hs : Nat.ble vs.length n = true) (h : W pr P ⟨n, []⟩ (EndsR P ⟨n, []⟩ rs R) c [] (zipEnv 0 vs) M) : HCp pr P f vs.toArray M R := by
  constructor
  intro base w0 w hS
  have hle : vs.length ≤ n := by simpa using hs
  have hend : ∀ (a : Act) (E' : Env) (M' : Mem) (w' : World), Ag ⟨n, []⟩ E' a → Sim pr base w0 w' M' → (∃ vs, ResG P ⟨n, []⟩ E' M' rs vs ∧ R (tupled vs) M') →
      a.defers = [] ∧ ∃ v, (results fn a.tmps).run P w' = .ok v w' ∧ ∃ v' M', Ending.returned v = .returned v' ∧ Sim pr base w0 w' M' ∧ R v' M' := by
    intro a E' M' w' hA' hS' ⟨us, h1, h2⟩
    refine ⟨hA'.defers, tupled us, ?_, _, M', rfl, hS', h2⟩
    rw [results_eq, Sem.run_bind]
    have h3 : (fn.results.mapM (resAt a.tmps)).run P w' = .ok us.toArray w' := by
      rw [Array.mapM_eq_mapM_toList]
      simp only [Sem.run_map, hrs, mapM_resG hA' hS' _ _ h1]
      rfl
    rw [h3]
    match us with
    | [] => simp [tupled]
    | [u] => simp [tupled]
    | u :: u2 :: us => simp [tupled]
  refine calls_of_wp hf hb (wp_mono (h.out.out base w0 _ w ⟨rfl, by simp [hN]; omega, fun i v hv => ?_⟩ hS) ?_)
  · obtain ⟨h1, h2⟩ := zipEnv_get vs 0 i v hv
    simp only [Nat.sub_zero] at h2
    have hi : i < vs.length := by
      rcases Nat.lt_or_ge i vs.length with h | h
      · exact h
      · simp [List.getElem?_eq_none h] at h2
    rw [Array.getElem?_append_left (by simpa using hi)]
    simpa using h2
  · intro e a w' ⟨E', M', hA', hS', hq⟩
    cases e with
    | normal => exact hend a E' M' w' hA' hS' hq
    | ret => exact hend a E' M' w' hA' hS' hq
    | _ => exact hq.elim
end
end Go.Proofs.Ytjkpfliaflmppaa.Vm

namespace Go.Proofs.Ytjkpfliaflmppaa.Vm
open Go Go.RowKit

/-- The operation at n is a call with this contract. -/
structure CallAt (P : Program) (N : Fm) (l : List Oper) (E : Env) (M : Mem) (o : Oper) (d : Nat) (R : Value → Mem → Prop) : Prop where
  out : ∀ base w0 a w, Ag N E a → Sim false base w0 w M → ∀ F : Exit → Act → World → Prop, (∀ v M' w', R v M' → Sim false base w0 w' M' → F .normal (a.put (some d) v) w') → wpList P l.toArray F [o] a w
  hd : Nat.blt d N.n = true

/-- Operations that only read, but for the call at place c. -/
def QCd (P : Program) (N : Fm) (l : List Oper) (E : Env) (M : Mem) (c d : Nat) (R : Value → Mem → Prop) (K : UEnv → Prop) : Nat → UEnv → List (List Nat) → List Oper → Prop
  | _, done, _, [] => K done
  | i, done, ws, o :: rest =>
    if i = c then CallAt P N l (pick done (ws.headD []) ++ E) M o d R ∧ QCd P N l E M c d R K (i + 1) (done ++ [none]) ws.tail rest
    else ∃ e v, PS P N l (pick done (ws.headD []) ++ E) M o e v ∧ QCd P N l E M c d R K (i + 1) (done ++ [some (e, v)]) ws.tail rest
structure QC (P : Program) (N : Fm) (l : List Oper) (E : Env) (M : Mem) (c d : Nat) (R : Value → Mem → Prop) (K : UEnv → Prop) (i : Nat) (done : UEnv) (ws : List (List Nat)) (rest : List Oper) : Prop where
  out : QCd P N l E M c d R K i done ws rest

section
variable {P : Program} {N : Fm} {Fin : Post} {k : List Kn} {E : Env} {M : Mem} {l : List Oper} {c d : Nat} {R : Value → Mem → Prop} {K : UEnv → Prop} {i : Nat} {done : UEnv} {w : List Nat} {ws : List (List Nat)} {o : Oper} {rest : List Oper} {e : Nat} {v : Value}

theorem isQC (h : QC P N l E M c d R K i done ws rest) : QC P N l E M c d R K i done ws rest := h
theorem QC_nil (h : K done) : QC P N l E M c d R K i done ws [] := ⟨h⟩
theorem cc (hi : Nat.beq i c = false) (h : PS P N l (pick done w ++ E) M o e v) (h2 : QC P N l E M c d R K (i + 1) (done ++ [some (e, v)]) ws rest) : QC P N l E M c d R K i done (w :: ws) (o :: rest) := by
  have hne : i ≠ c := fun e => by subst e; rw [Nat.beq_refl] at hi; cases hi
  refine ⟨?_⟩
  unfold QCd
  rw [if_neg hne]
  exact ⟨e, v, h, h2.out⟩
theorem cb {b : BinOp} {kd : IntKind} {p q : Int} {A B : Prop} (hi : Nat.beq i c = false) (h : bin2 N.n l (pick done w ++ E) o = some (e, b, kd, p, kd, q)) [hy : YesI b p q A B]
    (h1 : A → QC P N l E M c d R K (i + 1) (done ++ [some (e, .bool true)]) ws rest) (h2 : B → QC P N l E M c d R K (i + 1) (done ++ [some (e, .bool false)]) ws rest) : QC P N l E M c d R K i done (w :: ws) (o :: rest) := by
  obtain ⟨r, hr, hA, hB⟩ := hy.out
  have := ps_cmp (P := P) (M := M) h hr
  cases r
  · exact cc hi this (h2 (hB rfl))
  · exact cc hi this (h1 (hA rfl))
theorem cpure {op : Op} {ty : TypeId} {pos : String} {after : Array Edge} {g : Option (Nat × Bool)} (hi : Nat.beq i c = false) (hp : Pure P N (pick done w ++ E) M op v) (hg : On (pick done w ++ E) l g) (hd : Nat.blt e N.n = true)
    (h2 : QC P N l E M c d R K (i + 1) (done ++ [some (e, v)]) ws rest) : QC P N l E M c d R K i done (w :: ws) (⟨some e, op, ty, pos, after, g⟩ :: rest) := cc hi ⟨rfl, hd, .inl ⟨hg, hp⟩⟩ h2
theorem ccall {f0 : Operand} {xs : List Operand} {ts : Array TypeId} {f : FuncId} {first captured : Array Value} {vs : List Value} {ty : TypeId} {pos : String} {after : Array Edge} {g : Option (Nat × Bool)}
    (hc : ev (pick done w ++ E) f0 = some (.func (.func f) first captured)) (hx : evs (pick done w ++ E) xs = some vs) (hf : Callable P f) (hg : On (pick done w ++ E) l g) (hd : Nat.blt d N.n = true)
    (hR : HC P f (first ++ vs.toArray ++ captured) M R) (h2 : QC P N l E M c d R K (c + 1) (done ++ [none]) ws rest) :
    QC P N l E M c d R K c done (w :: ws) (⟨some d, .call { callee := .value f0, args := xs.toArray, argTypes := ts }, ty, pos, after, g⟩ :: rest) := by
  refine ⟨?_⟩
  unfold QCd
  rw [if_pos rfl]
  refine ⟨⟨fun base w0 a w1 hA hS F hF => ?_, hd⟩, h2.out⟩
  unfold wpList
  rw [if_pos (On.wanted (o := ⟨some d, .call { callee := .value f0, args := xs.toArray, argTypes := ts }, ty, pos, after, g⟩) hg hA)]
  refine .inl ?_
  unfold Oper.wp
  have hr : (execOp a.eval ⟨some d, .call { callee := .value f0, args := xs.toArray, argTypes := ts }, ty, pos, after, g⟩).run P w1 = .ok (.enter f (first ++ vs.toArray ++ captured)) w1 := by
    have e : xs.toArray.map a.eval = vs.toArray := by simp [hA.evals hx]
    simp [execOp, resolve, e, hA.eval hc, Deferred.ofValue, invoke, run_callFunc hf]
  rw [hr]
  refine (hR.out base w0 w1 hS).mono fun e w' ⟨u, M', he, hS', hu⟩ => ?_
  subst he
  exact hF _ _ _ hu hS'

/-- An operation that only reads, as it is carried out. -/
theorem PS.run (h : PS P N l E M o e v) {base : Nat} {w0 : World} {a : Act} {w : World} (hA : Ag N E a) (hS : Sim false base w0 w M) {F : Exit → Act → World → Prop} (hF : F .normal (a.put (some e) v) w) : wpList P l.toArray F [o] a w := by
  obtain ⟨dst, op, ty, pos, after, g⟩ := o
  obtain ⟨h1, hl, ⟨hg, hp⟩ | ⟨hg, rfl⟩⟩ := h
  · simp only at h1; subst h1
    unfold wpList
    rw [if_pos (On.wanted (o := ⟨some e, op, ty, pos, after, g⟩) hg hA)]
    refine .inl ?_
    unfold Oper.wp
    rw [hp.out false base w0 a w hA hS]
    exact hF
  · simp only at h1; subst h1
    unfold wpList
    rw [if_neg (by rw [Off.wanted (o := ⟨some e, op, ty, pos, after, g⟩) hg hA]; simp)]
    exact hF

theorem QC_all {rest : List Oper} : ∀ {i0 : Nat} {done : UEnv} {ws : List (List Nat)}, QCd P N l E M c d R K i0 done ws rest → ∃ more : UEnv, more.length = rest.length ∧ K (done ++ more) ∧
    ∀ i (hi : i < rest.length) (hm : i < more.length), (i0 + i = c → more[i] = none ∧ CallAt P N l (pick (done ++ more.take i) (ws.getD i []) ++ E) M rest[i] d R) ∧
      (i0 + i ≠ c → ∃ e v, more[i] = some (e, v) ∧ PS P N l (pick (done ++ more.take i) (ws.getD i []) ++ E) M rest[i] e v) := by
  induction rest with
  | nil => intro i0 done ws h; exact ⟨[], rfl, by rw [List.append_nil]; exact h, fun i hi => absurd hi (Nat.not_lt_zero _)⟩
  | cons o rest ih =>
    intro i0 done ws h
    have ehd : ws.headD [] = ws.getD 0 [] := by cases ws <;> rfl
    have etl : ∀ i, ws.tail.getD i [] = ws.getD (i + 1) [] := by intro i; cases ws <;> simp
    unfold QCd at h
    split at h
    · rename_i hc
      obtain ⟨h1, h2⟩ := h
      obtain ⟨more, k1, k2, k3⟩ := ih h2
      refine ⟨none :: more, by simp [k1], by simpa using k2, fun i hi hm => ?_⟩
      cases i with
      | zero => exact ⟨fun _ => ⟨rfl, by rw [ehd] at h1; simpa using h1⟩, fun hne => absurd hc hne⟩
      | succ i =>
        have := k3 i (by simpa using hi) (by simpa using hm)
        rw [etl] at this
        rw [show i0 + (i + 1) = i0 + 1 + i by omega]
        simpa using this
    · rename_i hc
      obtain ⟨e, v, h1, h2⟩ := h
      obtain ⟨more, k1, k2, k3⟩ := ih h2
      refine ⟨some (e, v) :: more, by simp [k1], by simpa using k2, fun i hi hm => ?_⟩
      cases i with
      | zero => exact ⟨fun hne => absurd hne hc, fun _ => ⟨e, v, rfl, by rw [ehd] at h1; simpa using h1⟩⟩
      | succ i =>
        have := k3 i (by simpa using hi) (by simpa using hm)
        rw [etl] at this
        rw [show i0 + (i + 1) = i0 + 1 + i by omega]
        simpa using this

theorem W_region_call {id : Nat} (n c d : Nat) (R : Value → Mem → Prop) (hn : l.length = n + 1) (hcn : c < n) (hm : P.follows .mixedOrders = true) (ws : List (List Nat)) (hw : ((List.range l.length).all fun i => (ws.getD i []).all fun j => Region.waitsFor .any l.toArray i j) = true)
    (hac : earlierB l.toArray = true) (hcov : covB ws n = true) (hRM : ∀ v M', R v M' → Rk M' M)
    (h : QC P N l E M c d R (fun done => chkU E (some (d, undef) :: done) = true ∧ ∀ v M', R v M' → WO false P N (fun e E2 M2 => e = .normal ∧ G false P N Fin .normal k E2 M2) l (l.drop n) [] ((d, v) :: (somes done ++ E)) M') 0 [] ws (l.take n)) : W false P N Fin (.region id l.toArray true) k E M := by
  obtain ⟨full, hlen, ⟨hchk, hG⟩, hq⟩ := QC_all h.out
  simp only [List.nil_append] at hchk hG hq
  have hlen' : full.length = n := by rw [hlen, List.length_take]; omega
  obtain ⟨hf1, hf2⟩ := chkU_spec hchk
  have hE1 : ∀ p, some p ∈ full → E.get? p.1 = none := fun p hp => hf1 p (.tail _ hp)
  have hEd : E.get? d = none := hf1 (d, undef) (.head _)
  have hdis : ∀ (i j : Nat) (p q : Nat × Value), full[i]? = some (some p) → full[j]? = some (some q) → i ≠ j → p.1 ≠ q.1 := fun i j p q hi hj hij => hf2 (i + 1) (j + 1) p q (by simpa using hi) (by simpa using hj) (by omega)
  have hdd : ∀ (i : Nat) (p : Nat × Value), full[i]? = some (some p) → p.1 ≠ d := fun i p hi => hf2 (i + 1) 0 p (d, undef) (by simpa using hi) (by simp) (by omega)
  refine W_region_inv2 hm ws hw hac (fun done E' M' => (∀ i, done i = true → ∀ j ∈ ws.getD i [], done j = true) ∧
    (done n = false → Le E' E ∧ (∀ (i : Nat) (p : Nat × Value), full[i]? = some (some p) → done i = true → E'.get? p.1 = some p.2) ∧
      (done c = false → Rk M' M) ∧ (done c = true → ∃ v M2, E'.get? d = some v ∧ R v M2 ∧ Rk M' M2)) ∧ (done n = true → G false P N Fin .normal k E' M'))
    ⟨fun i h => (by cases h), fun _ => ⟨fun _ _ h => h, fun i p _ h => (by cases h), fun _ => .rfl, fun h => (by cases h)⟩, fun h => (by cases h)⟩ ?_ ?_
  · intro i hi done E' M' ⟨hcl, hA1, hA2⟩ hno hdone
    have hcl' : ∀ i', (if i' = i then true else done i') = true → ∀ j ∈ ws.getD i' [], (if j = i then true else done j) = true := by
      intro i' hi' j hj
      by_cases hji : j = i
      · simp [hji]
      · rw [if_neg hji]
        by_cases hii : i' = i
        · subst hii; exact hdone j hj
        · rw [if_neg hii] at hi'; exact hcl i' hi' j hj
    have hone : (l.drop i).take 1 = [l[i]] := by rw [List.drop_eq_getElem_cons hi]; rfl
    rw [hone]
    by_cases hin : i = n
    · subst hin
      obtain ⟨hs, hd, _, hc2⟩ := hA1 hno
      have hall := cov_all hcov hcl hdone i
      have hlast : l.drop i = [l[i]] := by
        rw [List.drop_eq_getElem_cons hi, List.drop_eq_nil_of_le (by omega)]
      rw [hlast] at hG
      obtain ⟨v, M2, hv, hR, hrk⟩ := hc2 (hall c (by omega) hcn)
      have hle : Le E' ((d, v) :: (somes full ++ E)) := by
        have h0 : Le E' (somes full ++ E) := Le.app (fun p hp => by
          obtain ⟨j, hj, hjp⟩ := List.mem_iff_getElem.1 (mem_somes hp)
          exact hd j p (by rw [List.getElem?_eq_getElem hj, hjp]) (hall j (by omega) (by omega))) hs
        exact Le.app (A := [(d, v)]) (fun p hp => by rw [List.mem_singleton] at hp; subst hp; exact hv) h0
      refine ⟨⟨fun base w0 a w hA hS => ?_⟩⟩
      refine wpList1_mono (fun a2 w2 hx => ?_) (fun e a2 w2 hne hx => ?_) ((hG v M2 hR).out.out base w0 a w (hle.ag hA) (hS.rk hrk))
      · obtain ⟨E2, M3, q1, q2, _, q3⟩ := hx
        exact ⟨E2, M3, q1, q2, rfl, hcl', fun h => (by simp at h), fun _ => q3⟩
      · obtain ⟨E2, M3, q1, q2, q3, _⟩ := hx
        exact hne q3
    · have hno2 : done n = false := by
        cases hdn : done n with
        | false => rfl
        | true => have := cov_all hcov hcl (hcl n hdn) n i (by omega) (by omega); rw [this] at hno; cases hno
      obtain ⟨hs, hd, hm1, hm2⟩ := hA1 hno2
      have hif : i < full.length := by omega
      have hit : i < (l.take n).length := by rw [List.length_take]; omega
      obtain ⟨hqc, hqp⟩ := hq i hit hif
      rw [Nat.zero_add] at hqc hqp
      have hli : (l.take n)[i] = l[i] := List.getElem_take
      have hfi : full[i]? = some full[i] := List.getElem?_eq_getElem hif
      have hni : ¬ n = i := fun e => hin e.symm
      have hpk : ∀ p ∈ pick (full.take i) (ws.getD i []), E'.get? p.1 = some p.2 := by
        intro p hp
        obtain ⟨j, hj, hjp⟩ := mem_pick hp
        refine hd j p ?_ (hdone j hj)
        rw [List.getElem?_take] at hjp
        split at hjp
        · exact hjp
        · cases hjp
      by_cases hic : i = c
      · obtain ⟨hnone, hcall⟩ := hqc hic
        rw [hli] at hcall
        subst hic
        refine ⟨⟨fun base w0 a w hA hS => hcall.out base w0 a w (Le.ag (Le.app hpk hs) hA) (hS.rk (hm1 hno)) _ fun v M2 w' hR hS' => ?_⟩⟩
        refine ⟨(d, v) :: E', M2, hA.put hcall.hd _, hS', rfl, hcl', fun _ => ⟨hs.cons hEd, ?_, fun h => (by simp at h), fun _ => ⟨v, M2, get_eq, hR, .rfl⟩⟩, fun h => (by simp [hni, hno2] at h)⟩
        intro j p hj hdj
        by_cases hji : j = i
        · subst hji; rw [hfi, hnone] at hj; cases hj
        · have hdj' : done j = true := by simpa [hji] using hdj
          rw [get_ne (fun e => hdd j p hj e.symm)]
          exact hd j p hj hdj'
      · obtain ⟨e, v, hev, hps⟩ := hqp hic
        rw [hli] at hps
        have hci : ¬ c = i := fun e => hic e.symm
        rw [hev] at hfi
        have hMM : Rk M' M := by
          cases hdc : done c with
          | false => exact hm1 hdc
          | true => obtain ⟨v2, M2, _, hR, hrk⟩ := hm2 hdc; exact .trans hrk (hRM v2 M2 hR)
        refine ⟨⟨fun base w0 a w hA hS => hps.run (Le.ag (Le.app hpk hs) hA) (hS.rk hMM) ?_⟩⟩
        refine ⟨(e, v) :: E', M', hA.put hps.lt _, hS, rfl, hcl', fun _ => ⟨hs.cons (hE1 (e, v) (List.mem_of_getElem? hfi)), ?_, fun h => hm1 (by simpa [hci] using h), fun h => ?_⟩, fun h => (by simp [hni, hno2] at h)⟩
        · intro j p hj hdj
          by_cases hji : j = i
          · subst hji; rw [hfi] at hj; cases hj; exact get_eq
          · have hdj' : done j = true := by simpa [hji] using hdj
            rw [get_ne (fun e' => hdis j i p (e, v) hj hfi hji e'.symm)]
            exact hd j p hj hdj'
        · obtain ⟨v2, M2, k1, k2, k3⟩ := hm2 (by simpa [hci] using h)
          exact ⟨v2, M2, by rw [get_ne (hdd i (e, v) hfi)]; exact k1, k2, k3⟩
  · intro done E' M' ⟨hcl, hA1, hA2⟩ hall
    exact ⟨E', M', fun _ _ h => h, .rfl, hA2 (hall n (by omega))⟩
end
end Go.Proofs.Ytjkpfliaflmppaa.Vm

namespace Go.Proofs.Ytjkpfliaflmppaa.Vm
open Go Go.RowKit

def pickR (i : Nat) (done : UEnv) : List Nat → Env
  | [] => []
  | j :: js => bif Nat.blt j i then (match done[i - (j + 1)]? with
    | some (some p) => p :: pickR i done js
    | _ => pickR i done js) else pickR i done js
theorem pickR_eq {i : Nat} {done : UEnv} (h : done.length = i) : ∀ js, pickR i done js = pick done.reverse js
  | [] => rfl
  | j :: js => by
    have ih := pickR_eq h js
    simp only [pickR, pick]
    cases hb : Nat.blt j i with
    | true =>
      have hj : j < i := by simpa [Nat.blt_eq] using hb
      have e : done.reverse[j]? = done[i - (j + 1)]? := by
        rw [List.getElem?_reverse (by omega)]
        congr 1
        omega
      rw [e, cond_true, ih]
      generalize done[i - (j + 1)]? = z
      rcases z with _ | (_ | p) <;> rfl
    | false =>
      have hj : ¬ j < i := fun hlt => by
        have : Nat.blt j i = true := by simpa [Nat.blt_eq] using hlt
        rw [this] at hb; cases hb
      have e : done.reverse[j]? = none := by simp; omega
      rw [e, cond_false, ih]

structure QD (P : Program) (N : Fm) (l : List Oper) (E : Env) (M : Mem) (c d : Nat) (R : Value → Mem → Prop) (K : UEnv → Prop) (i : Nat) (done : UEnv) (ws : List (List Nat)) (rest : List Oper) : Prop where
  out : done.length = i → QC P N l E M c d R K i done.reverse ws rest

section
variable {P : Program} {N : Fm} {Fin : Post} {k : List Kn} {E : Env} {M : Mem} {l : List Oper} {c d : Nat} {R : Value → Mem → Prop} {K : UEnv → Prop} {i : Nat} {done : UEnv} {w : List Nat} {ws : List (List Nat)} {o : Oper} {rest : List Oper} {e : Nat} {v : Value}

theorem isQD (h : QD P N l E M c d R K i done ws rest) : QD P N l E M c d R K i done ws rest := h
theorem QD_start (h : QD P N l E M c d R K 0 [] ws rest) : QC P N l E M c d R K 0 [] ws rest := h.out rfl
theorem QD_nil (h : K done.reverse) : QD P N l E M c d R K i done ws [] := ⟨fun _ => QC_nil h⟩
theorem dd (hi : Nat.beq i c = false) (h : PS P N l (pickR i done w ++ E) M o e v) (h2 : QD P N l E M c d R K (i + 1) (some (e, v) :: done) ws rest) : QD P N l E M c d R K i done (w :: ws) (o :: rest) := by
  refine ⟨fun hl => cc hi (by rw [pickR_eq hl] at h; exact h) ?_⟩
  have := h2.out (by simp [hl])
  rwa [List.reverse_cons] at this
theorem db {b : BinOp} {kd : IntKind} {p q : Int} {A B : Prop} (hi : Nat.beq i c = false) (h : bin2 N.n l (pickR i done w ++ E) o = some (e, b, kd, p, kd, q)) [hy : YesI b p q A B]
    (h1 : A → QD P N l E M c d R K (i + 1) (some (e, .bool true) :: done) ws rest) (h2 : B → QD P N l E M c d R K (i + 1) (some (e, .bool false) :: done) ws rest) : QD P N l E M c d R K i done (w :: ws) (o :: rest) := by
  obtain ⟨r, hr, hA, hB⟩ := hy.out
  have := ps_cmp (P := P) (M := M) h hr
  cases r
  · exact dd hi this (h2 (hB rfl))
  · exact dd hi this (h1 (hA rfl))
theorem dpure {op : Op} {ty : TypeId} {pos : String} {after : Array Edge} {g : Option (Nat × Bool)} (hi : Nat.beq i c = false) (hp : Pure P N (pickR i done w ++ E) M op v) (hg : On (pickR i done w ++ E) l g) (hd : Nat.blt e N.n = true)
    (h2 : QD P N l E M c d R K (i + 1) (some (e, v) :: done) ws rest) : QD P N l E M c d R K i done (w :: ws) (⟨some e, op, ty, pos, after, g⟩ :: rest) := dd hi ⟨rfl, hd, .inl ⟨hg, hp⟩⟩ h2
theorem dcall {f0 : Operand} {xs : List Operand} {ts : Array TypeId} {f : FuncId} {first captured : Array Value} {vs : List Value} {ty : TypeId} {pos : String} {after : Array Edge} {g : Option (Nat × Bool)} (hi : i = c)
    (hc : ev (pickR i done w ++ E) f0 = some (.func (.func f) first captured)) (hx : evs (pickR i done w ++ E) xs = some vs) (hf : Callable P f) (hg : On (pickR i done w ++ E) l g) (hd : Nat.blt d N.n = true)
    (hR : HC P f (first ++ vs.toArray ++ captured) M R) (h2 : QD P N l E M c d R K (i + 1) (none :: done) ws rest) :
    QD P N l E M c d R K i done (w :: ws) (⟨some d, .call { callee := .value f0, args := xs.toArray, argTypes := ts }, ty, pos, after, g⟩ :: rest) := by
  subst hi
  refine ⟨fun hl => ?_⟩
  rw [pickR_eq hl] at hc hx hg
  refine ccall hc hx hf hg hd hR ?_
  have := h2.out (by simp [hl])
  rwa [List.reverse_cons] at this
end
end Go.Proofs.Ytjkpfliaflmppaa.Vm
