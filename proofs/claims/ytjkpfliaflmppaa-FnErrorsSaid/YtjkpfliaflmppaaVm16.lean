/- Drawn regions: quiet operations, and one that comes last of all; a struct stored as it stands. No condition. -/
import Derived.Test.YtjkpfliaflmppaaVm15
namespace Go.Proofs.Ytjkpfliaflmppaa.Vm
open Go Go.RowKit

/-- Each operation below n is waited for by a later one. -/
def covB (ws : List (List Nat)) (n : Nat) : Bool := (List.range n).all fun i => (List.range (n + 1)).any fun j => Nat.blt i j && (ws.getD j []).any fun x => Nat.beq x i
theorem covB_spec {ws : List (List Nat)} {n : Nat} (h : covB ws n = true) : ∀ i, i < n → ∃ j, i < j ∧ j ≤ n ∧ i ∈ ws.getD j [] := by
  intro i hi
  have h1 := List.all_eq_true.1 h i (List.mem_range.2 hi)
  obtain ⟨j, hj, h2⟩ := List.any_eq_true.1 h1
  rw [Bool.and_eq_true] at h2
  obtain ⟨h3, h4⟩ := h2
  obtain ⟨x, hx, h5⟩ := List.any_eq_true.1 h4
  have := Nat.eq_of_beq_eq_true h5
  subst this
  exact ⟨j, by simpa [Nat.blt_eq] using h3, by have := List.mem_range.1 hj; omega, hx⟩
theorem cov_all {ws : List (List Nat)} {n : Nat} (h : covB ws n = true) {done : Nat → Bool} (hc : ∀ i, done i = true → ∀ j ∈ ws.getD i [], done j = true) (hl : ∀ j ∈ ws.getD n [], done j = true) : ∀ m i, n - i ≤ m → i < n → done i = true := by
  intro m
  induction m with
  | zero => intro i h1 h2; omega
  | succ m ih =>
    intro i h1 h2
    obtain ⟨j, hj1, hj2, hj3⟩ := covB_spec h i h2
    by_cases hjn : j = n
    · subst hjn; exact hl i hj3
    · exact hc j (ih j (by omega) (by omega)) i hj3

theorem wpList1_mono {P : Program} {ops : Array Oper} {F F' : Exit → Act → World → Prop} {o : Oper} {a : Act} {w : World} (hF : ∀ a w, F .normal a w → F' .normal a w) (hno : ∀ e a w, e ≠ .normal → ¬ F e a w)
    (h : wpList P ops F [o] a w) : wpList P ops F' [o] a w := by
  have key : ∀ a w, wpList P ops F [] a w → wpList P ops F' [] a w := fun a w h => hF a w h
  unfold wpList at h ⊢
  split
  · rename_i hw
    rw [if_pos hw] at h
    rcases h with h | ⟨_, a2, w2, h2⟩
    · exact .inl (wp_other key hno h)
    · exact absurd h2 (hno _ _ _ (by simp))
  · rename_i hw
    rw [if_neg hw] at h
    exact key _ _ h

section
variable {P : Program} {N : Fm} {Fin : Post} {k : List Kn} {E : Env} {M : Mem} {l : List Oper}

/-- A struct stored as it stands. -/
theorem QS_storeAgg {K : UEnv → Prop} {done : UEnv} {w : List Nat} {ws : List (List Nat)} {rest : List Oper} {t : TypeId} {p x : Operand} {b o n : Nat} {c cs : List Value} {M0 : Mem} {ty : TypeId} {pos : String} {after : Array Edge} {g : Option (Nat × Bool)} (hn : Cel P t n) (hn0 : 0 < n)
    (hp : ev (pick done w ++ E) p = some (.pointer (some ⟨b, o, none⟩))) (hx : ev (pick done w ++ E) x = some (.agg cs.toArray)) (hcs : cs.length = n) (hv : ∀ v ∈ cs, v.oneCell' = true) (hg : On (pick done w ++ E) l g)
    (hm : Take1 M ⟨true, b, o, c⟩ M0) (hb : Rk (⟨true, b, o, c⟩ :: M0) M) (hl : c.length = n) (hc : c = cs) (h : QS P N l E M K (done ++ [none]) ws rest) : QS P N l E M K done (w :: ws) (⟨none, .store t p x, ty, pos, after, g⟩ :: rest) := by
  subst hc
  refine QS_of (u := none) ⟨fun base w0 a w1 hA hS F hF => ?_, fun _ h => by cases h⟩ h
  unfold wpList
  rw [if_pos (On.wanted (o := ⟨none, .store t p x, ty, pos, after, g⟩) hg hA)]
  refine .inl ?_
  unfold Oper.wp
  obtain ⟨I, hI, hs⟩ := size_of hn.out hn0
  obtain ⟨w', h1, h2⟩ := run_storeCells (P := P) (i := 0) c 0 c w1 (hS.rk (.cons hm .rfl)) hv (by omega)
  have hr : (execOp a.eval ⟨none, .store t p x, ty, pos, after, g⟩).run P w1 = .ok .skip w' := by
    simp only [execOp, Instr.storeAt, Instr.sureAddr, hA.eval hp, hA.eval hx]
    simp at h1
    simp [storeVar, Value.cells, sizeOf, typeInfo, hI, hs, hcs, h1]
  rw [hr]
  have e : putAt c 0 c = c := by
    have := putAt_append c [] c (Nat.le_refl _)
    simpa using this
  rw [e] at h2
  exact hF _ (h2.rk hb)

theorem W_region_last {id : Nat} (n : Nat) (hn : l.length = n + 1) (hm : P.follows .mixedOrders = true) (ws : List (List Nat)) (hw : ((List.range l.length).all fun i => (ws.getD i []).all fun j => Region.waitsFor .any l.toArray i j) = true)
    (hac : earlierB l.toArray = true) (hcov : covB ws n = true)
    (h : QS P N l E M (fun done => chkU E done = true ∧ WO false P N (fun e E2 M2 => e = .normal ∧ G false P N Fin .normal k E2 M2) l (l.drop n) [] (somes done ++ E) M) [] ws (l.take n)) : W false P N Fin (.region id l.toArray true) k E M := by
  obtain ⟨full, hlen, ⟨hc, hG⟩, hq⟩ := QS_all h.out
  simp only [List.nil_append] at hc hG hq
  have hlen' : full.length = n := by rw [hlen, List.length_take]; omega
  obtain ⟨hf1, hf2⟩ := chkU_spec hc
  refine W_region_inv2 hm ws hw hac (fun done E' M' => (∀ i, done i = true → ∀ j ∈ ws.getD i [], done j = true) ∧
    (done n = false → Le E' E ∧ (∀ (i : Nat) (p : Nat × Value), full[i]? = some (some p) → done i = true → E'.get? p.1 = some p.2) ∧ Rk M' M) ∧ (done n = true → G false P N Fin .normal k E' M'))
    ⟨fun i h => (by cases h), fun _ => ⟨fun _ _ h => h, fun i p _ h => (by cases h), .rfl⟩, fun h => (by cases h)⟩ ?_ ?_
  · intro i hi done E' M' ⟨hcl, hA1, hA2⟩ hno hdone
    have hcl' : ∀ i', (if i' = i then true else done i') = true → ∀ j ∈ ws.getD i' [], (if j = i then true else done j) = true := by
      intro i' hi' j hj
      by_cases hji : j = i
      · simp [hji]
      · rw [if_neg hji]
        by_cases hii : i' = i
        · subst hii; exact hdone j hj
        · rw [if_neg hii] at hi'; exact hcl i' hi' j hj
    have hone : (l.drop i).take 1 = [l[i]] := by rw [List.drop_eq_getElem_cons hi]; rfl
    rw [hone]
    by_cases hin : i = n
    · subst hin
      obtain ⟨hs, hd, hrk⟩ := hA1 hno
      have hall := cov_all hcov hcl hdone i
      have hlast : l.drop i = [l[i]] := by
        rw [List.drop_eq_getElem_cons hi, List.drop_eq_nil_of_le (by omega)]
      rw [hlast] at hG
      have hle : Le E' (somes full ++ E) := Le.app (fun p hp => by
        obtain ⟨j, hj, hjp⟩ := List.mem_iff_getElem.1 (mem_somes hp)
        exact hd j p (by rw [List.getElem?_eq_getElem hj, hjp]) (hall j (by omega) (by omega))) hs
      refine ⟨⟨fun base w0 a w hA hS => ?_⟩⟩
      refine wpList1_mono (fun a2 w2 hx => ?_) (fun e a2 w2 hne hx => ?_) (hG.out.out base w0 a w (hle.ag hA) (hS.rk hrk))
      · obtain ⟨E2, M2, q1, q2, _, q3⟩ := hx
        exact ⟨E2, M2, q1, q2, rfl, hcl', fun h => (by simp at h), fun _ => q3⟩
      · obtain ⟨E2, M2, q1, q2, q3, _⟩ := hx
        exact hne q3
    · have hno2 : done n = false := by
        cases hdn : done n with
        | false => rfl
        | true => have := cov_all hcov hcl (hcl n hdn) n i (by omega) (by omega); rw [this] at hno; cases hno
      obtain ⟨hs, hd, hrk⟩ := hA1 hno2
      have hif : i < full.length := by omega
      have hit : i < (l.take n).length := by rw [List.length_take]; omega
      have hqt := hq i hit hif
      have hli : (l.take n)[i] = l[i] := List.getElem_take
      rw [hli] at hqt
      have hfi : full[i]? = some full[i] := List.getElem?_eq_getElem hif
      generalize full[i] = u at hqt hfi
      refine ⟨⟨fun base w0 a w hA hS => hqt.out base w0 a w (Le.ag (Le.app (fun p hp => ?_) hs) hA) (hS.rk hrk) _ fun w' hS' => ?_⟩⟩
      · obtain ⟨j, hj, hjp⟩ := mem_pick hp
        refine hd j p ?_ (hdone j hj)
        rw [List.getElem?_take] at hjp
        split at hjp
        · exact hjp
        · cases hjp
      · have hni : ¬ n = i := fun e => hin e.symm
        cases u with
        | none =>
          refine ⟨E', M, hA, hS', rfl, hcl', fun _ => ⟨hs, ?_, .rfl⟩, fun h => (by simp [hni, hno2] at h)⟩
          intro j p hj hdj
          by_cases hji : j = i
          · subst hji; rw [hfi] at hj; cases hj
          · exact hd j p hj (by simpa [hji] using hdj)
        | some q =>
          obtain ⟨d, v⟩ := q
          refine ⟨(d, v) :: E', M, hA.put (hqt.hd _ rfl) _, hS', rfl, hcl', fun _ => ⟨hs.cons (hf1 (d, v) (List.mem_of_getElem? hfi)), ?_, .rfl⟩, fun h => (by simp [hni, hno2] at h)⟩
          intro j p hj hdj
          by_cases hji : j = i
          · subst hji; rw [hfi] at hj; cases hj; exact get_eq
          · have hdj' : done j = true := by simpa [hji] using hdj
            rw [get_ne (fun e => hf2 j i p (d, v) hj hfi hji e.symm)]
            exact hd j p hj hdj'
  · intro done E' M' ⟨hcl, hA1, hA2⟩ hall
    exact ⟨E', M', fun _ _ h => h, .rfl, hA2 (hall n (by omega))⟩

/-- A result, wherever it lies. -/
structure ResV (P : Program) (N : Fm) (E : Env) (M : Mem) (r : ResultVar) (v : Value) : Prop where
  out : ∀ pr base w0 w a, Ag N E a → Sim pr base w0 w M → (resAt a.tmps r).run P w = .ok v w
theorem ResV.tmp {t : Nat} {v : Value} (h : E.get? t = some v) : ResV P N E M (.tmp t) v := ⟨fun pr base w0 w a hA hS => by
  have h3 := hA.val _ _ h
  simp [resAt, Array.getD_eq_getD_getElem?, h3]⟩
theorem ResV.agg {p t b n : Nat} {own : Bool} {cs : List Value} (h : E.get? p = some (.pointer (some ⟨b, 0, none⟩))) (hm : (⟨own, b, 0, cs⟩ : Sg) ∈ M) (ht : AggT P t) (hn : Cel P t n) (hn0 : 0 < n) (hc : cs.length = n) : ResV P N E M (.cell p t) (.agg cs.toArray) :=
  ⟨fun pr base w0 w a hA hS => by
    have h3 := hA.val _ _ h
    obtain ⟨I, hI, hs⟩ := size_of hn.out hn0
    have h1 := run_loadCells (P := P) (i := 0) (n := n) (hS.seg _ hm) (by simp only; omega)
    simp only [List.drop_zero, ← hc, List.take_length] at h1
    obtain ⟨D, ht, hD⟩ := ht.out
    cases D <;> simp [isAggD] at hD <;> simp [resAt, Array.getD_eq_getD_getElem?, h3, asAddr, loadVar, isAgg, run_under ht, sizeOf, typeInfo, hI, hs, ← hc] <;> (simp at h1; simp [h1])⟩
def ResG (P : Program) (N : Fm) (E : Env) (M : Mem) : List ResultVar → List Value → Prop
  | [], [] => True
  | r :: rs, v :: vs => ResV P N E M r v ∧ ResG P N E M rs vs
  | _, _ => False
theorem mapM_resG {pr : Bool} {base : Nat} {w0 w : World} {a : Act} (h : Ag N E a) (hS : Sim pr base w0 w M) : ∀ (rs : List ResultVar) (vs : List Value), ResG P N E M rs vs → (rs.mapM (resAt a.tmps)).run P w = .ok vs w
  | [], [], _ => by simp
  | [], v :: vs, hv => by simp [ResG] at hv
  | r :: rs, [], hv => by simp [ResG] at hv
  | r :: rs, v :: vs, hv => by
    have h4 := mapM_resG h hS rs vs hv.2
    have h5 := hv.1.out _ _ _ _ _ h hS
    rw [List.mapM_cons, Sem.run_bind, h5, Result.andThen_ok, Sem.run_bind, h4]
    rfl
def EndsR (P : Program) (N : Fm) (rs : List ResultVar) (R : Value → Mem → Prop) : Post
  | .normal, E, M | .ret, E, M => ∃ vs, ResG P N E M rs vs ∧ R (tupled vs) M
  | _, _, _ => False

theorem HC_of_WR {pr : Bool} {f : FuncId} {fn : Func} {c : Code} {vs : List Value} {R : Value → Mem → Prop} {rs : List ResultVar} {n : Nat} (hf : P.funcs[f]? = some fn) (hb : fn.body = some c) (hN : fn.ntmps = n)
    (hrs : fn.results.toList = rs) (hs : Nat.ble vs.length n = true) (h : W pr P ⟨n, []⟩ (EndsR P ⟨n, []⟩ rs R) c [] (zipEnv 0 vs) M) : HCp pr P f vs.toArray M R := by
  constructor
  intro base w0 w hS
  have hle : vs.length ≤ n := by simpa using hs
  have hend : ∀ (a : Act) (E' : Env) (M' : Mem) (w' : World), Ag ⟨n, []⟩ E' a → Sim pr base w0 w' M' → (∃ vs, ResG P ⟨n, []⟩ E' M' rs vs ∧ R (tupled vs) M') →
      a.defers = [] ∧ ∃ v, (results fn a.tmps).run P w' = .ok v w' ∧ ∃ v' M', Ending.returned v = .returned v' ∧ Sim pr base w0 w' M' ∧ R v' M' := by
    intro a E' M' w' hA' hS' ⟨us, h1, h2⟩
    refine ⟨hA'.defers, tupled us, ?_, _, M', rfl, hS', h2⟩
    rw [results_eq, Sem.run_bind]
    have h3 : (fn.results.mapM (resAt a.tmps)).run P w' = .ok us.toArray w' := by
      rw [Array.mapM_eq_mapM_toList]
      simp only [Sem.run_map, hrs, mapM_resG hA' hS' _ _ h1]
      rfl
    rw [h3]
    match us with
    | [] => simp [tupled]
    | [u] => simp [tupled]
    | u :: u2 :: us => simp [tupled]
  refine calls_of_wp hf hb (wp_mono (h.out.out base w0 _ w ⟨rfl, by simp [hN]; omega, fun i v hv => ?_⟩ hS) ?_)
  · obtain ⟨h1, h2⟩ := zipEnv_get vs 0 i v hv
    simp only [Nat.sub_zero] at h2
    have hi : i < vs.length := by
      rcases Nat.lt_or_ge i vs.length with h | h
      · exact h
      · simp [List.getElem?_eq_none h] at h2
    rw [Array.getElem?_append_left (by simpa using hi)]
    simpa using h2
  · intro e a w' ⟨E', M', hA', hS', hq⟩
    cases e with
    | normal => exact hend a E' M' w' hA' hS' hq
    | ret => exact hend a E' M' w' hA' hS' hq
    | _ => exact hq.elim
end
end Go.Proofs.Ytjkpfliaflmppaa.Vm
