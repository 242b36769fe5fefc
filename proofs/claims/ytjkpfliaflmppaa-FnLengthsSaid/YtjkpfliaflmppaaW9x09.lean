/- Drawn regions: operations that only read, a store among them (at c), and a forced chain from n on. No condition. Pointers held against nil. No condition. -/
import Derived.Test.YtjkpfliaflmppaaW9x08

namespace Go.Proofs.Ytjkpfliaflmppaa.Vm
open Go Go.RowKit

/-- The operation turns M to M1 and puts nothing. -/
structure PutAt (P : Program) (N : Fm) (l : List Oper) (E : Env) (M M1 : Mem) (o : Oper) : Prop where
  out : ∀ base w0 a w, Ag N E a → Sim false base w0 w M → ∀ F : Exit → Act → World → Prop, (∀ w', Sim false base w0 w' M1 → F .normal a w') → wpList P l.toArray F [o] a w

/-- Operations that only read (those that may come behind the store: no memory), and a store at c. -/
def QPd (P : Program) (N : Fm) (l : List Oper) (E : Env) (M M1 : Mem) (late : Nat → Bool) (c : Nat) (K : UEnv → Prop) : Nat → UEnv → List (List Nat) → List Oper → Prop
  | _, done, _, [] => K done
  | i, done, ws, o :: rest =>
    if i = c then PutAt P N l (pick done (ws.headD []) ++ E) M M1 o ∧ QPd P N l E M M1 late c K (i + 1) (done ++ [none]) ws.tail rest
    else ∃ e v, PS P N l (pick done (ws.headD []) ++ E) (bif late i then [] else M) o e v ∧ QPd P N l E M M1 late c K (i + 1) (done ++ [some (e, v)]) ws.tail rest
structure QP (P : Program) (N : Fm) (l : List Oper) (E : Env) (M M1 : Mem) (late : Nat → Bool) (c : Nat) (K : UEnv → Prop) (i : Nat) (done : UEnv) (ws : List (List Nat)) (rest : List Oper) : Prop where
  out : QPd P N l E M M1 late c K i done ws rest

section
variable {P : Program} {N : Fm} {Fin : Post} {k : List Kn} {E : Env} {M M1 : Mem} {l : List Oper} {late : Nat → Bool} {c : Nat} {K : UEnv → Prop} {i : Nat} {done : UEnv} {w : List Nat} {ws : List (List Nat)} {o : Oper} {rest : List Oper} {e : Nat} {v : Value}

theorem isQP (h : QP P N l E M M1 late c K i done ws rest) : QP P N l E M M1 late c K i done ws rest := h
theorem QP_nil (h : K done) : QP P N l E M M1 late c K i done ws [] := ⟨h⟩
theorem pe (hi : Nat.beq i c = false) (hl : late i = false) (h : PS P N l (pick done w ++ E) M o e v) (h2 : QP P N l E M M1 late c K (i + 1) (done ++ [some (e, v)]) ws rest) : QP P N l E M M1 late c K i done (w :: ws) (o :: rest) := by
  have hne : i ≠ c := fun e => by subst e; rw [Nat.beq_refl] at hi; cases hi
  refine ⟨?_⟩
  unfold QPd
  rw [if_neg hne]
  exact ⟨e, v, by rw [hl]; exact h, h2.out⟩
theorem pl (hi : Nat.beq i c = false) (hl : late i = true) (h : PS P N l (pick done w ++ E) [] o e v) (h2 : QP P N l E M M1 late c K (i + 1) (done ++ [some (e, v)]) ws rest) : QP P N l E M M1 late c K i done (w :: ws) (o :: rest) := by
  have hne : i ≠ c := fun e => by subst e; rw [Nat.beq_refl] at hi; cases hi
  refine ⟨?_⟩
  unfold QPd
  rw [if_neg hne]
  exact ⟨e, v, by rw [hl]; exact h, h2.out⟩
theorem pepure {op : Op} {ty : TypeId} {pos : String} {after : Array Edge} {g : Option (Nat × Bool)} (hi : Nat.beq i c = false) (hl : late i = false) (hp : Pure P N (pick done w ++ E) M op v) (hg : On (pick done w ++ E) l g) (hd : Nat.blt e N.n = true)
    (h2 : QP P N l E M M1 late c K (i + 1) (done ++ [some (e, v)]) ws rest) : QP P N l E M M1 late c K i done (w :: ws) (⟨some e, op, ty, pos, after, g⟩ :: rest) := pe hi hl ⟨rfl, hd, .inl ⟨hg, hp⟩⟩ h2
theorem pput (hi : i = c) (h : PutAt P N l (pick done w ++ E) M M1 o) (h2 : QP P N l E M M1 late c K (i + 1) (done ++ [none]) ws rest) : QP P N l E M M1 late c K i done (w :: ws) (o :: rest) := by
  refine ⟨?_⟩
  unfold QPd
  rw [if_pos hi]
  exact ⟨h, h2.out⟩
/-- The same, with the last one first. -/
structure QR (P : Program) (N : Fm) (l : List Oper) (E : Env) (M M1 : Mem) (late : Nat → Bool) (c : Nat) (K : UEnv → Prop) (i : Nat) (done : UEnv) (ws : List (List Nat)) (rest : List Oper) : Prop where
  out : done.length = i → QP P N l E M M1 late c K i done.reverse ws rest
theorem isQR (h : QR P N l E M M1 late c K i done ws rest) : QR P N l E M M1 late c K i done ws rest := h
theorem QR_start (h : QR P N l E M M1 late c K 0 [] ws rest) : QP P N l E M M1 late c K 0 [] ws rest := h.out rfl
theorem QR_nil (h : K done.reverse) : QR P N l E M M1 late c K i done ws [] := ⟨fun _ => QP_nil h⟩
theorem re (hi : Nat.beq i c = false) (hl : late i = false) (h : PS P N l (pickR i done w ++ E) M o e v) (h2 : QR P N l E M M1 late c K (i + 1) (some (e, v) :: done) ws rest) : QR P N l E M M1 late c K i done (w :: ws) (o :: rest) := by
  refine ⟨fun hn => pe hi hl (by rw [pickR_eq hn] at h; exact h) ?_⟩
  have := h2.out (by simp [hn])
  rwa [List.reverse_cons] at this
theorem rl (hi : Nat.beq i c = false) (hl : late i = true) (h : PS P N l (pickR i done w ++ E) [] o e v) (h2 : QR P N l E M M1 late c K (i + 1) (some (e, v) :: done) ws rest) : QR P N l E M M1 late c K i done (w :: ws) (o :: rest) := by
  refine ⟨fun hn => pl hi hl (by rw [pickR_eq hn] at h; exact h) ?_⟩
  have := h2.out (by simp [hn])
  rwa [List.reverse_cons] at this
theorem repure {op : Op} {ty : TypeId} {pos : String} {after : Array Edge} {g : Option (Nat × Bool)} (hi : Nat.beq i c = false) (hl : late i = false) (hp : Pure P N (pickR i done w ++ E) M op v) (hg : On (pickR i done w ++ E) l g) (hd : Nat.blt e N.n = true)
    (h2 : QR P N l E M M1 late c K (i + 1) (some (e, v) :: done) ws rest) : QR P N l E M M1 late c K i done (w :: ws) (⟨some e, op, ty, pos, after, g⟩ :: rest) := re hi hl ⟨rfl, hd, .inl ⟨hg, hp⟩⟩ h2
theorem rput (hi : i = c) (h : PutAt P N l (pickR i done w ++ E) M M1 o) (h2 : QR P N l E M M1 late c K (i + 1) (none :: done) ws rest) : QR P N l E M M1 late c K i done (w :: ws) (o :: rest) := by
  refine ⟨fun hn => pput hi (by rw [pickR_eq hn] at h; exact h) ?_⟩
  have := h2.out (by simp [hn])
  rwa [List.reverse_cons] at this
theorem PutAt_storeAgg {t : TypeId} {p x : Operand} {b o n i : Nat} {c cs : List Value} {M0 : Mem} {ty : TypeId} {pos : String} {after : Array Edge} {g : Option (Nat × Bool)} (hn : Cel P t n) (hn0 : 0 < n) (hp : ev E p = some (.pointer (some ⟨b, o + i, none⟩)))
    (hx : ev E x = some (.agg cs.toArray)) (hcs : cs.length = n) (hv : ∀ v ∈ cs, v.oneCell' = true) (hg : On E l g) (hm : Take1 M ⟨true, b, o, c⟩ M0) (hl : i + n ≤ c.length) :
    PutAt P N l E M (⟨true, b, o, putAt c i cs⟩ :: M0) ⟨none, .store t p x, ty, pos, after, g⟩ := by
  refine ⟨fun base w0 a w1 hA hS F hF => ?_⟩
  unfold wpList
  rw [if_pos (On.wanted (o := ⟨none, .store t p x, ty, pos, after, g⟩) hg hA)]
  refine .inl ?_
  unfold Oper.wp
  obtain ⟨I, hI, hs⟩ := size_of hn.out hn0
  obtain ⟨w', h1, h2⟩ := run_storeCells (P := P) (i := i) cs 0 c w1 (hS.rk (.cons hm .rfl)) hv (by omega)
  have hr : (execOp a.eval ⟨none, .store t p x, ty, pos, after, g⟩).run P w1 = .ok .skip w' := by
    simp only [execOp, Instr.storeAt, Instr.sureAddr, hA.eval hp, hA.eval hx]
    have h1 := h1
    simp [storeVar, Value.cells, sizeOf, typeInfo, hI, hs, hcs, h1]
  rw [hr]
  exact hF _ h2

theorem QP_all {rest : List Oper} : ∀ {i0 : Nat} {done : UEnv} {ws : List (List Nat)}, QPd P N l E M M1 late c K i0 done ws rest → ∃ more : UEnv, more.length = rest.length ∧ K (done ++ more) ∧
    ∀ i (hi : i < rest.length) (hm : i < more.length), (i0 + i = c → more[i] = none ∧ PutAt P N l (pick (done ++ more.take i) (ws.getD i []) ++ E) M M1 rest[i]) ∧
      (i0 + i ≠ c → ∃ e v, more[i] = some (e, v) ∧ PS P N l (pick (done ++ more.take i) (ws.getD i []) ++ E) (bif late (i0 + i) then [] else M) rest[i] e v) := by
  induction rest with
  | nil => intro i0 done ws h; exact ⟨[], rfl, by rw [List.append_nil]; exact h, fun i hi => absurd hi (Nat.not_lt_zero _)⟩
  | cons o rest ih =>
    intro i0 done ws h
    have ehd : ws.headD [] = ws.getD 0 [] := by cases ws <;> rfl
    have etl : ∀ i, ws.tail.getD i [] = ws.getD (i + 1) [] := by intro i; cases ws <;> simp
    unfold QPd at h
    split at h
    · rename_i hc
      obtain ⟨h1, h2⟩ := h
      obtain ⟨more, k1, k2, k3⟩ := ih h2
      refine ⟨none :: more, by simp [k1], by simpa using k2, fun i hi hm => ?_⟩
      cases i with
      | zero => exact ⟨fun _ => ⟨rfl, by rw [ehd] at h1; simpa using h1⟩, fun hne => absurd hc hne⟩
      | succ i =>
        have := k3 i (by simpa using hi) (by simpa using hm)
        rw [etl] at this
        rw [show i0 + (i + 1) = i0 + 1 + i by omega]
        simpa using this
    · rename_i hc
      obtain ⟨e, v, h1, h2⟩ := h
      obtain ⟨more, k1, k2, k3⟩ := ih h2
      refine ⟨some (e, v) :: more, by simp [k1], by simpa using k2, fun i hi hm => ?_⟩
      cases i with
      | zero => exact ⟨fun hne => absurd hne hc, fun _ => ⟨e, v, rfl, by rw [ehd] at h1; simpa using h1⟩⟩
      | succ i =>
        have := k3 i (by simpa using hi) (by simpa using hm)
        rw [etl] at this
        rw [show i0 + (i + 1) = i0 + 1 + i by omega]
        simpa using this

/-- Whoever may come behind the store is late. -/
def lateB (ws : List (List Nat)) (late : Nat → Bool) (c n : Nat) : Bool := (List.range n).all fun i => Nat.beq i c || late i || (ws.getD c []).any fun x => Nat.beq x i
theorem W_region_put {E : Env} {M : Mem} {id : Nat} (n c : Nat) (late : Nat → Bool) (M1 : Mem) (hn : n < l.length) (hcn : c < n) (hm : P.follows .mixedOrders = true) (ws : List (List Nat)) (hw : ((List.range l.length).all fun i => (ws.getD i []).all fun j => Region.waitsFor .any l.toArray i j) = true)
    (hac : earlierB l.toArray = true) (hcov : covB ws n = true) (hchain : chainB ws n l.length = true) (hseq : Region.seqB .any l.toArray (l.drop n).length n (canonA n l.length) = true) (hlate : lateB ws late c n = true)
    (h : QP P N l E M M1 late c (fun done => chkU E done = true ∧ WO false P N Fin l (l.drop n) k (somes done ++ E) M1) 0 [] ws (l.take n)) : W false P N Fin (.region id l.toArray true) k E M := by
  obtain ⟨full, hlen, ⟨hchk, hG⟩, hq⟩ := QP_all h.out
  simp only [List.nil_append] at hchk hG hq
  have hlen' : full.length = n := by rw [hlen, List.length_take]; omega
  obtain ⟨hf1, hf2⟩ := chkU_spec hchk
  have hrep : ∀ i, (Array.replicate l.toArray.size false).getD i false = false := fun i => getD_replicate_false _ _
  refine W_region_any hm (OA_pre n hn ws hw hac hcov hchain hseq (fun done E' M' => Le E' E ∧ (∀ (i : Nat) (p : Nat × Value), full[i]? = some (some p) → done i = true → E'.get? p.1 = some p.2) ∧ (done c = true → ∀ j ∈ ws.getD c [], done j = true) ∧
      (done c = false → Rk M' M) ∧ (done c = true → Rk M' M1)) ?_ ?_ l.toArray.size (Array.replicate l.toArray.size false) E M (by simp) ?_ (fun j _ => hrep j) (fun i hi => (by rw [hrep] at hi; cases hi))
      ⟨fun _ _ h => h, fun i p _ h => (by dsimp only at h; rw [hrep] at h; cases h), fun h => (by dsimp only at h; rw [hrep] at h; cases h), fun _ => .rfl, fun h => (by dsimp only at h; rw [hrep] at h; cases h)⟩)
  · intro i hi done E' M' ⟨hs, hd, hcl, hm1, hm2⟩ hno hdone
    have hil : i < l.length := by omega
    have hone : (l.drop i).take 1 = [l[i]] := by rw [List.drop_eq_getElem_cons hil]; rfl
    rw [hone]
    have hif : i < full.length := by omega
    have hit : i < (l.take n).length := by rw [List.length_take]; omega
    obtain ⟨hqc, hqp⟩ := hq i hit hif
    rw [Nat.zero_add] at hqc hqp
    have hli : (l.take n)[i] = l[i] := List.getElem_take
    have hfi : full[i]? = some full[i] := List.getElem?_eq_getElem hif
    have hpk : ∀ p ∈ pick (full.take i) (ws.getD i []), E'.get? p.1 = some p.2 := by
      intro p hp
      obtain ⟨j, hj, hjp⟩ := mem_pick hp
      refine hd j p ?_ (hdone j hj)
      rw [List.getElem?_take] at hjp
      split at hjp
      · exact hjp
      · cases hjp
    by_cases hic : i = c
    · obtain ⟨hnone, hput⟩ := hqc hic
      rw [hli] at hput
      subst hic
      refine ⟨⟨fun base w0 a w hA hS => hput.out base w0 a w (Le.ag (Le.app hpk hs) hA) (hS.rk (hm1 hno)) _ fun w' hS' => ?_⟩⟩
      refine ⟨E', M1, hA, hS', rfl, hs, ?_, fun _ j hj => ?_, fun h => (by simp at h), fun _ => .rfl⟩
      · intro j p hj hdj
        by_cases hji : j = i
        · subst hji; rw [hfi, hnone] at hj; cases hj
        · exact hd j p hj (by simpa [hji] using hdj)
      · have := hdone j hj
        by_cases hji : j = i <;> simp [hji, this]
    · obtain ⟨e, v, hev, hps⟩ := hqp hic
      rw [hli] at hps
      have hci : ¬ c = i := fun e => hic e.symm
      rw [hev] at hfi
      have hMM : Rk M' (bif late i then [] else M) := by
        cases hl : late i with
        | true => exact Rk.nil
        | false =>
          cases hdc : done c with
          | false => exact hm1 hdc
          | true =>
            exfalso
            have h3 := List.all_eq_true.1 hlate i (List.mem_range.2 hi)
            have hb : Nat.beq i c = false := by
              cases hb : Nat.beq i c with
              | false => rfl
              | true => exact absurd (Nat.eq_of_beq_eq_true hb) hic
            rw [hb, hl, Bool.false_or, Bool.false_or] at h3
            obtain ⟨x, hx, h5⟩ := List.any_eq_true.1 h3
            have := Nat.eq_of_beq_eq_true h5
            subst this
            rw [hcl hdc x hx] at hno
            cases hno
      refine ⟨⟨fun base w0 a w hA hS => hps.run (Le.ag (Le.app hpk hs) hA) (hS.rk hMM) ?_⟩⟩
      refine ⟨(e, v) :: E', M', hA.put hps.lt _, hS, rfl, hs.cons (hf1 (e, v) (List.mem_of_getElem? hfi)), ?_, fun h j hj => ?_, fun h => hm1 (by simpa [hci] using h), fun h => hm2 (by simpa [hci] using h)⟩
      · intro j p hj hdj
        by_cases hji : j = i
        · subst hji; rw [hfi] at hj; cases hj; exact get_eq
        · have hdj' : done j = true := by simpa [hji] using hdj
          rw [get_ne (fun e' => hf2 j i p (e, v) hj hfi hji e'.symm)]
          exact hd j p hj hdj'
      · have := hcl (by simpa [hci] using h) j hj
        by_cases hji : j = i <;> simp [hji, this]
  · intro done E' M' ⟨hs, hd, _, _, hc2⟩ hall
    refine ⟨somes full ++ E, M1, ?_, hc2 (hall c hcn), hG⟩
    exact Le.app (fun p hp => by
      obtain ⟨j, hj, hjp⟩ := List.mem_iff_getElem.1 (mem_somes hp)
      exact hd j p (by rw [List.getElem?_eq_getElem hj, hjp]) (hall j (by omega))) hs
  · have e : ∀ m, m ≤ l.toArray.size → left (Array.replicate l.toArray.size false) m = m := by
      intro m
      induction m with
      | zero => intro _; rfl
      | succ m ih =>
        intro hm'
        have : (Array.replicate l.toArray.size false).getD m true = false := by
          have hs : m < l.length := by simp at hm'; omega
          simp [Array.getD_eq_getD_getElem?, hs]
        simp only [left, ih (by omega), this]
        simp
    have := e l.toArray.size (Nat.le_refl _)
    simpa using this
end
end Go.Proofs.Ytjkpfliaflmppaa.Vm

namespace Go.Proofs.Ytjkpfliaflmppaa.Vm
open Go Go.RowKit
theorem run_equalIn_pnil {P : Program} {t e : TypeId} (ht : Und P t (.pointer e)) (dp : Nat) (a : Option Addr) (w : World) :
    (Op.equalIn (dp + 1) t (.pointer a) (.pointer none)).run P w = .ok a.isNone w := by
  cases a <;> simp [Op.equalIn, ht.run]
theorem P_pnil {P : Program} {N : Fm} {E : Env} {M : Mem} {t e t2 : TypeId} {x : Operand} {a : Option Addr} (ht : Und P t (.pointer e)) (hx : ev E x = some (.pointer a)) : Pure P N E M (.binOp .eql t x (.const (.pointer none)) t2) (.bool a.isNone) := by
  constructor
  intro pr base w0 ac w hA hS d ty pos after g
  have h1 : (Op.equal t (.pointer a) (.pointer none)).run P w = .ok a.isNone w := run_equalIn_pnil ht 9999 a w
  have h2 : (eqGuard .eql t x (.const (.pointer none)) (.pointer a) (.pointer none)).run P w = .ok () w := by simp [eqGuard]
  have h3 : binOp .eql t (.pointer a) (.pointer none) = (do pure (.bool (← Op.equal t (.pointer a) (.pointer none)))) := rfl
  have he : ac.eval (.const (.pointer none)) = .pointer none := rfl
  simp only [execOp, hA.eval hx, he, h3]
  simp [h1, h2]
end Go.Proofs.Ytjkpfliaflmppaa.Vm
