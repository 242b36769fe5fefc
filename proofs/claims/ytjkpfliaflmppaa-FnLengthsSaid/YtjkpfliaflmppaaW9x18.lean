/- Drawn regions with two operations that make memory (the second one waits for the first), and a forced chain behind; making a slice as the one such operation. No condition. append to a slice that does not begin where its block does, where there is no room; max. No condition. -/
import Derived.Test.YtjkpfliaflmppaaW9x14
import Derived.Test.YtjkpfliaflmppaaW9x08

namespace Go.Proofs.Ytjkpfliaflmppaa.Vm
open Go Go.RowKit

theorem ev_le {E' A : Env} (h : Le E' A) {x : Operand} {v : Value} (hx : ev A x = some v) : ev E' x = some v := by
  cases x with
  | tmp t => exact h t v hx
  | _ => exact hx
theorem evps_le {E' A : Env} (h : Le E' A) : ∀ {xs : List (Nat × Operand)} {vs : List (Nat × Value)}, evps A xs = some vs → evps E' xs = some vs
  | [], _, hx => hx
  | (i, x) :: xs, vs, hx => by
    simp only [evps] at hx ⊢
    cases h1 : ev A x with
    | none => rw [h1] at hx; cases hx
    | some v =>
      cases h2 : evps A xs with
      | none => rw [h1, h2] at hx; cases hx
      | some us =>
        rw [h1, h2] at hx
        rw [ev_le h h1, evps_le h h2]
        exact hx
theorem On_le {E' A : Env} (h : Le E' A) {l : List Oper} {g : Option (Nat × Bool)} (hg : On A l g) : On E' l g := by
  cases g with
  | none => trivial
  | some p => obtain ⟨d, h1, h2⟩ := hg; exact ⟨d, h1, h _ _ h2⟩

/-- The operation makes memory: what its result and the memory are. -/
structure SpAt (P : Program) (N : Fm) (l : List Oper) (A : Env) (M : Mem) (o : Oper) (d : Nat) (R : Value → Mem → Prop) : Prop where
  out : ∀ E' M', Le E' A → Rk M' M → WO false P N (fun e E2 M2 => e = .normal ∧ ∃ v M3, E2 = (d, v) :: E' ∧ R v M3 ∧ Rk M2 M3) l [o] [] E' M'
def QEd (P : Program) (N : Fm) (l : List Oper) (E : Env) (M : Mem) (c1 d1 : Nat) (R1 : Value → Mem → Prop) (c2 d2 : Nat) (R2 : Value → Value → Mem → Prop) (K : UEnv → Prop) : Nat → UEnv → List (List Nat) → List Oper → Prop
  | _, done, _, [] => K done
  | i, done, ws, o :: rest =>
    if i = c1 then SpAt P N l (pick done (ws.headD []) ++ E) M o d1 R1 ∧ QEd P N l E M c1 d1 R1 c2 d2 R2 K (i + 1) (done ++ [none]) ws.tail rest
    else if i = c2 then (∀ v M2, R1 v M2 → SpAt P N l ((d1, v) :: (pick done (ws.headD []) ++ E)) M2 o d2 (R2 v)) ∧ QEd P N l E M c1 d1 R1 c2 d2 R2 K (i + 1) (done ++ [none]) ws.tail rest
    else ∃ e v, PS P N l (pick done (ws.headD []) ++ E) M o e v ∧ QEd P N l E M c1 d1 R1 c2 d2 R2 K (i + 1) (done ++ [some (e, v)]) ws.tail rest
/-- .. what is done with the last one first. -/
structure QE (P : Program) (N : Fm) (l : List Oper) (E : Env) (M : Mem) (c1 d1 : Nat) (R1 : Value → Mem → Prop) (c2 d2 : Nat) (R2 : Value → Value → Mem → Prop) (K : UEnv → Prop) (i : Nat) (done : UEnv) (ws : List (List Nat)) (rest : List Oper) : Prop where
  out : done.length = i → QEd P N l E M c1 d1 R1 c2 d2 R2 K i done.reverse ws rest

section
variable {P : Program} {N : Fm} {Fin : Post} {k : List Kn} {E : Env} {M : Mem} {l : List Oper} {c1 d1 c2 d2 : Nat} {R1 : Value → Mem → Prop} {R2 : Value → Value → Mem → Prop} {K : UEnv → Prop} {i : Nat} {done : UEnv} {w : List Nat} {ws : List (List Nat)} {o : Oper} {rest : List Oper} {e : Nat} {v : Value}

theorem isQE (h : QE P N l E M c1 d1 R1 c2 d2 R2 K i done ws rest) : QE P N l E M c1 d1 R1 c2 d2 R2 K i done ws rest := h
theorem QE_nil (h : K done.reverse) : QE P N l E M c1 d1 R1 c2 d2 R2 K i done ws [] := ⟨fun _ => h⟩
theorem hh (hi : Nat.beq i c1 = false) (hi2 : Nat.beq i c2 = false) (h : PS P N l (pickR i done w ++ E) M o e v) (h2 : QE P N l E M c1 d1 R1 c2 d2 R2 K (i + 1) (some (e, v) :: done) ws rest) : QE P N l E M c1 d1 R1 c2 d2 R2 K i done (w :: ws) (o :: rest) := by
  have hne : i ≠ c1 := fun e => by subst e; rw [Nat.beq_refl] at hi; cases hi
  have hne2 : i ≠ c2 := fun e => by subst e; rw [Nat.beq_refl] at hi2; cases hi2
  refine ⟨fun hl => ?_⟩
  unfold QEd
  rw [if_neg hne, if_neg hne2]
  rw [pickR_eq hl] at h
  have := h2.out (by simp [hl])
  rw [List.reverse_cons] at this
  exact ⟨e, v, h, this⟩
theorem hb {b : BinOp} {kd : IntKind} {p q : Int} {A B : Prop} (hi : Nat.beq i c1 = false) (hi2 : Nat.beq i c2 = false) (h : bin2 N.n l (pickR i done w ++ E) o = some (e, b, kd, p, kd, q)) [hy : YesI b p q A B]
    (h1 : A → QE P N l E M c1 d1 R1 c2 d2 R2 K (i + 1) (some (e, .bool true) :: done) ws rest) (h2 : B → QE P N l E M c1 d1 R1 c2 d2 R2 K (i + 1) (some (e, .bool false) :: done) ws rest) : QE P N l E M c1 d1 R1 c2 d2 R2 K i done (w :: ws) (o :: rest) := by
  obtain ⟨r, hr, hA, hB⟩ := hy.out
  have := ps_cmp (P := P) (M := M) h hr
  cases r
  · exact hh hi hi2 this (h2 (hB rfl))
  · exact hh hi hi2 this (h1 (hA rfl))
theorem hpure {op : Op} {ty : TypeId} {pos : String} {after : Array Edge} {g : Option (Nat × Bool)} (hi : Nat.beq i c1 = false) (hi2 : Nat.beq i c2 = false) (hp : Pure P N (pickR i done w ++ E) M op v) (hg : On (pickR i done w ++ E) l g) (hd : Nat.blt e N.n = true)
    (h2 : QE P N l E M c1 d1 R1 c2 d2 R2 K (i + 1) (some (e, v) :: done) ws rest) : QE P N l E M c1 d1 R1 c2 d2 R2 K i done (w :: ws) (⟨some e, op, ty, pos, after, g⟩ :: rest) := hh hi hi2 ⟨rfl, hd, .inl ⟨hg, hp⟩⟩ h2
theorem hsp1 (hi : i = c1) (h : SpAt P N l (pickR i done w ++ E) M o d1 R1) (h2 : QE P N l E M c1 d1 R1 c2 d2 R2 K (i + 1) (none :: done) ws rest) : QE P N l E M c1 d1 R1 c2 d2 R2 K i done (w :: ws) (o :: rest) := by
  subst hi
  refine ⟨fun hl => ?_⟩
  unfold QEd
  rw [if_pos rfl]
  rw [pickR_eq hl] at h
  have := h2.out (by simp [hl])
  rw [List.reverse_cons] at this
  exact ⟨h, this⟩
theorem hsp2 (hi : i = c2) (hi1 : Nat.beq i c1 = false) (h : ∀ v M2, R1 v M2 → SpAt P N l ((d1, v) :: (pickR i done w ++ E)) M2 o d2 (R2 v)) (h2 : QE P N l E M c1 d1 R1 c2 d2 R2 K (i + 1) (none :: done) ws rest) : QE P N l E M c1 d1 R1 c2 d2 R2 K i done (w :: ws) (o :: rest) := by
  subst hi
  have hne : i ≠ c1 := fun e => by subst e; rw [Nat.beq_refl] at hi1; cases hi1
  refine ⟨fun hl => ?_⟩
  unfold QEd
  rw [if_neg hne, if_pos rfl]
  rw [pickR_eq hl] at h
  have := h2.out (by simp [hl])
  rw [List.reverse_cons] at this
  exact ⟨h, this⟩

theorem s_build {t T : TypeId} {n d : Nat} {A : Env} {xs : List (Nat × Operand)} {vs : List (Nat × Value)} {c : List Value} {ty : TypeId} {pos : String} {after : Array Edge} {g : Option (Nat × Bool)} (hx : evps A xs = some vs)
    (hr : ∀ w, (Instr.buildSlice t n vs.toArray).run P w = .ok (.slice (some ⟨w.heap.size, 0, none⟩) n n) (w.alloc (.cells c.toArray T))) (hg : On A l g) (hd : Nat.blt d N.n = true) :
    SpAt P N l A M ⟨some d, .buildSlice t n xs.toArray, ty, pos, after, g⟩ d (fun v M' => ∃ b, v = .slice (some ⟨b, 0, none⟩) n n ∧ M' = ⟨true, b, 0, c⟩ :: M) :=
  ⟨fun E' M' hle hrk => O_buildSlice (evps_le hle hx) hr (On_le hle hg) hd fun b => O_nil ⟨⟨rfl, _, _, rfl, ⟨b, rfl, rfl⟩, .cons .head hrk⟩⟩⟩
theorem s_append {t e : TypeId} {I : TypeInfo} {z : Value} {s x : Operand} {t2 e2 : TypeId} {sv : Value} {bx ox n cx size d : Nat} {ownx : Bool} {lx xs : List Value} {m M0 : Mem} {len : Nat} {A : Env} {ty : TypeId} {pos : String} {after : Array Edge} {g : Option (Nat × Bool)} (ht : Und P t (.slice e)) (ht2 : Und P t2 (.slice e2))
    (hI : P.info? e = some I) (hsz : I.size = size) (hs0 : 0 < size) (hb0 : 0 < I.bytes) (hz : I.zero = some z) (hzs : z.cells.size = size) (hs : ev A s = some sv) (hx : ev A x = some (.slice (some ⟨bx, ox, none⟩) n cx))
    (hown : Own sv size xs m) (hM : Rk M (m ++ M0)) (hlen : xs.length = len * size) (hm : (⟨ownx, bx, ox, lx⟩ : Sg) ∈ M0) (hn : n * size ≤ lx.length) (hv : ∀ v ∈ lx, v.oneCell' = true) (hn0 : 0 < n ∨ sv ≠ .slice none 0 0)
    (hroom : (2 * (len + n) + 192) * I.bytes ≤ 281474976710656) (hg : On A l g) (hd : Nat.blt d N.n = true) :
    SpAt P N l A M ⟨some d, .call { callee := .builtin .append, args := #[s, x], argTypes := #[t, t2] }, ty, pos, after, g⟩ d
      (fun v M' => ∃ b cap sp, ((xs ++ lx.take (n * size)) ++ sp).length = cap * size ∧ v = .slice (some ⟨b, 0, none⟩) (len + n) cap ∧ M' = ⟨true, b, 0, (xs ++ lx.take (n * size)) ++ sp⟩ :: M0) :=
  ⟨fun E' M' hle hrk => O_append ht ht2 hI hsz hs0 hb0 hz hzs (ev_le hle hs) (ev_le hle hx) hown (hrk.trans hM) hlen hm hn hv hn0 hroom (On_le hle hg) hd fun b cap sp hh => O_nil ⟨⟨rfl, _, _, rfl, ⟨b, cap, sp, hh, rfl, rfl⟩, .rfl⟩⟩⟩
theorem QE_all {rest : List Oper} : ∀ {i0 : Nat} {done : UEnv} {ws : List (List Nat)}, QEd P N l E M c1 d1 R1 c2 d2 R2 K i0 done ws rest → ∃ more : UEnv, more.length = rest.length ∧ K (done ++ more) ∧
    ∀ i (hi : i < rest.length) (hm : i < more.length), (i0 + i = c1 → more[i] = none ∧ SpAt P N l (pick (done ++ more.take i) (ws.getD i []) ++ E) M rest[i] d1 R1) ∧
      (i0 + i ≠ c1 → i0 + i = c2 → more[i] = none ∧ ∀ v M2, R1 v M2 → SpAt P N l ((d1, v) :: (pick (done ++ more.take i) (ws.getD i []) ++ E)) M2 rest[i] d2 (R2 v)) ∧
      (i0 + i ≠ c1 → i0 + i ≠ c2 → ∃ e v, more[i] = some (e, v) ∧ PS P N l (pick (done ++ more.take i) (ws.getD i []) ++ E) M rest[i] e v) := by
  induction rest with
  | nil => intro i0 done ws h; exact ⟨[], rfl, by rw [List.append_nil]; exact h, fun i hi => absurd hi (Nat.not_lt_zero _)⟩
  | cons o rest ih =>
    intro i0 done ws h
    have ehd : ws.headD [] = ws.getD 0 [] := by cases ws <;> rfl
    have etl : ∀ i, ws.tail.getD i [] = ws.getD (i + 1) [] := by intro i; cases ws <;> simp
    unfold QEd at h
    split at h
    · rename_i hc
      obtain ⟨h1, h2⟩ := h
      obtain ⟨more, k1, k2, k3⟩ := ih h2
      refine ⟨none :: more, by simp [k1], by simpa using k2, fun i hi hm => ?_⟩
      cases i with
      | zero => exact ⟨fun _ => ⟨rfl, by rw [ehd] at h1; simpa using h1⟩, fun hne => absurd hc hne, fun hne => absurd hc hne⟩
      | succ i =>
        have := k3 i (by simpa using hi) (by simpa using hm)
        rw [etl] at this
        rw [show i0 + (i + 1) = i0 + 1 + i by omega]
        simpa using this
    · rename_i hc
      split at h
      · rename_i hc2
        obtain ⟨h1, h2⟩ := h
        obtain ⟨more, k1, k2, k3⟩ := ih h2
        refine ⟨none :: more, by simp [k1], by simpa using k2, fun i hi hm => ?_⟩
        cases i with
        | zero => exact ⟨fun hne => absurd hne hc, fun _ _ => ⟨rfl, by rw [ehd] at h1; simpa using h1⟩, fun _ hne => absurd hc2 hne⟩
        | succ i =>
          have := k3 i (by simpa using hi) (by simpa using hm)
          rw [etl] at this
          rw [show i0 + (i + 1) = i0 + 1 + i by omega]
          simpa using this
      · rename_i hc2
        obtain ⟨e, v, h1, h2⟩ := h
        obtain ⟨more, k1, k2, k3⟩ := ih h2
        refine ⟨some (e, v) :: more, by simp [k1], by simpa using k2, fun i hi hm => ?_⟩
        cases i with
        | zero => exact ⟨fun hne => absurd hne hc, fun _ hne => absurd hne hc2, fun _ _ => ⟨e, v, rfl, by rw [ehd] at h1; simpa using h1⟩⟩
        | succ i =>
          have := k3 i (by simpa using hi) (by simpa using hm)
          rw [etl] at this
          rw [show i0 + (i + 1) = i0 + 1 + i by omega]
          simpa using this
end

/-- What holds when it is done may be weakened. -/
theorem O_fin {P : Program} {N : Fm} {Q Q' : Env → Mem → Prop} {l : List Oper} {o : Oper} {E : Env} {M : Mem} (h : WO false P N (fun e E2 M2 => e = .normal ∧ Q E2 M2) l [o] [] E M) (hQ : ∀ E2 M2, Q E2 M2 → Q' E2 M2) :
    WO false P N (fun e E2 M2 => e = .normal ∧ Q' E2 M2) l [o] [] E M := by
  refine ⟨⟨fun base w0 a w hA hS => wpList1_mono ?_ ?_ (h.out.out base w0 a w hA hS)⟩⟩
  · rintro a w ⟨E2, M2, h1, h2, h3, h4⟩
    exact ⟨E2, M2, h1, h2, h3, hQ _ _ h4⟩
  · rintro e a w hne ⟨E2, M2, _, _, h3, _⟩
    exact hne h3
section
variable {P : Program} {N : Fm} {Fin : Post} {k : List Kn} {l : List Oper}
/-- Operations that only read, two among them that make memory (at c1, c2), and a forced chain from n on. -/
theorem W_region_sp2 {E : Env} {M : Mem} {id : Nat} (n c1 d1 : Nat) (R1 : Value → Mem → Prop) (c2 d2 : Nat) (R2 : Value → Value → Mem → Prop) (hn : n < l.length) (hcn : c2 < n) (hc12 : c1 < c2) (hm : P.follows .mixedOrders = true) (ws : List (List Nat)) (hw : ((List.range l.length).all fun i => (ws.getD i []).all fun j => Region.waitsFor .any l.toArray i j) = true)
    (hac : earlierB l.toArray = true) (hcov : covB ws n = true) (hchain : chainB ws n l.length = true) (hseq : Region.seqB .any l.toArray (l.drop n).length n (canonA n l.length) = true) (hc1w : c1 ∈ ws.getD c2 []) (hRM : ∀ v M', R1 v M' → Rk M' M) (hRM2 : ∀ v M', R1 v M' → ∀ v2 M2, R2 v v2 M2 → Rk M2 M)
    (h : QE P N l E M c1 d1 R1 c2 d2 R2 (fun done => chkU E (some (d2, undef) :: some (d1, undef) :: done) = true ∧ ∀ v M', R1 v M' → ∀ v2 M2, R2 v v2 M2 → WO false P N Fin l (l.drop n) k ((d2, v2) :: (d1, v) :: (somes done ++ E)) M2) 0 [] ws (l.take n)) : W false P N Fin (.region id l.toArray true) k E M := by
  obtain ⟨full, hlen, ⟨hchk, hG⟩, hq⟩ := QE_all (h.out rfl)
  simp only [List.reverse_nil, List.nil_append] at hchk hG hq
  have hlen' : full.length = n := by rw [hlen, List.length_take]; omega
  obtain ⟨hf1, hf2⟩ := chkU_spec hchk
  have hE1 : ∀ p, some p ∈ full → E.get? p.1 = none := fun p hp => hf1 p (.tail _ (.tail _ hp))
  have hEd : E.get? d1 = none := hf1 (d1, undef) (.tail _ (.head _))
  have hEd2 : E.get? d2 = none := hf1 (d2, undef) (.head _)
  have hd12 : d2 ≠ d1 := hf2 0 1 (d2, undef) (d1, undef) rfl rfl (by omega)
  have hdis : ∀ (i j : Nat) (p q : Nat × Value), full[i]? = some (some p) → full[j]? = some (some q) → i ≠ j → p.1 ≠ q.1 := fun i j p q hi hj hij => hf2 (i + 2) (j + 2) p q (by simpa using hi) (by simpa using hj) (by omega)
  have hdd : ∀ (i : Nat) (p : Nat × Value), full[i]? = some (some p) → p.1 ≠ d1 := fun i p hi => hf2 (i + 2) 1 p (d1, undef) (by simpa using hi) (by simp) (by omega)
  have hdd2 : ∀ (i : Nat) (p : Nat × Value), full[i]? = some (some p) → p.1 ≠ d2 := fun i p hi => hf2 (i + 2) 0 p (d2, undef) (by simpa using hi) (by simp) (by omega)
  have hrep : ∀ i, (Array.replicate l.toArray.size false).getD i false = false := fun i => getD_replicate_false _ _
  refine W_region_any hm (OA_pre n hn ws hw hac hcov hchain hseq (fun done E' M' => Le E' E ∧ (∀ (i : Nat) (p : Nat × Value), full[i]? = some (some p) → done i = true → E'.get? p.1 = some p.2) ∧
      (done c1 = false → done c2 = false ∧ Rk M' M) ∧ (done c1 = true → done c2 = false → ∃ v M2, E'.get? d1 = some v ∧ R1 v M2 ∧ Rk M' M2) ∧ (done c2 = true → ∃ v M1 v2 M2, E'.get? d1 = some v ∧ E'.get? d2 = some v2 ∧ R1 v M1 ∧ R2 v v2 M2 ∧ Rk M' M2)) ?_ ?_ l.toArray.size (Array.replicate l.toArray.size false) E M (by simp) ?_ (fun j _ => hrep j) (fun i hi => (by rw [hrep] at hi; cases hi))
      ⟨fun _ _ h => h, fun i p _ h => (by dsimp only at h; rw [hrep] at h; cases h), fun _ => ⟨hrep _, .rfl⟩, fun h => (by dsimp only at h; rw [hrep] at h; cases h), fun h => (by dsimp only at h; rw [hrep] at h; cases h)⟩)
  · intro i hi done E' M' ⟨hs, hd, hm1, hm2, hm3⟩ hno hdone
    have hil : i < l.length := by omega
    have hone : (l.drop i).take 1 = [l[i]] := by rw [List.drop_eq_getElem_cons hil]; rfl
    rw [hone]
    have hif : i < full.length := by omega
    have hit : i < (l.take n).length := by rw [List.length_take]; omega
    obtain ⟨hqc, hqc2, hqp⟩ := hq i hit hif
    rw [Nat.zero_add] at hqc hqc2 hqp
    have hli : (l.take n)[i] = l[i] := List.getElem_take
    have hfi : full[i]? = some full[i] := List.getElem?_eq_getElem hif
    have hpk : ∀ p ∈ pick (full.take i) (ws.getD i []), E'.get? p.1 = some p.2 := by
      intro p hp
      obtain ⟨j, hj, hjp⟩ := mem_pick hp
      refine hd j p ?_ (hdone j hj)
      rw [List.getElem?_take] at hjp
      split at hjp
      · exact hjp
      · cases hjp
    by_cases hic : i = c1
    · obtain ⟨hnone, hcall⟩ := hqc hic
      rw [hli] at hcall
      subst hic
      obtain ⟨hn2, hrk⟩ := hm1 hno
      have h1 := hcall.out E' M' (Le.app hpk hs) hrk
      refine O_fin h1 ?_
      rintro E2 M2 ⟨v, M3, rfl, hR, hrk2⟩
      have hne : ¬ c2 = i := by omega
      refine ⟨hs.cons hEd, ?_, fun h => (by simp at h), fun _ _ => ⟨v, M3, get_eq, hR, hrk2⟩, fun h => (by dsimp only at h; rw [if_neg hne, hn2] at h; cases h)⟩
      intro j p hj hdj
      by_cases hji : j = i
      · subst hji; rw [hfi, hnone] at hj; cases hj
      · have hdj' : done j = true := by simpa [hji] using hdj
        rw [get_ne (fun e => hdd j p hj e.symm)]
        exact hd j p hj hdj'
    · by_cases hic2 : i = c2
      · obtain ⟨hnone, hcall⟩ := hqc2 hic hic2
        subst hic2
        have hc1t : done c1 = true := hdone c1 hc1w
        obtain ⟨v, M2, k1, k2, k3⟩ := hm2 hc1t hno
        have h0 := hcall v M2 k2
        rw [hli] at h0
        have h1 := h0.out E' M' (Le.app (A := [(d1, v)]) (fun p hp => by rw [List.mem_singleton] at hp; subst hp; exact k1) (Le.app hpk hs)) k3
        refine O_fin h1 ?_
        rintro E2 M3 ⟨v2, M4, rfl, hR, hrk2⟩
        have hne : ¬ c1 = i := fun e => hic e.symm
        refine ⟨hs.cons hEd2, ?_, fun h => (by dsimp only at h; rw [if_neg hne, hc1t] at h; cases h), fun _ h => (by simp at h), fun _ => ⟨v, M2, v2, M4, by rw [get_ne hd12]; exact k1, get_eq, k2, hR, hrk2⟩⟩
        intro j p hj hdj
        by_cases hji : j = i
        · subst hji; rw [hfi, hnone] at hj; cases hj
        · have hdj' : done j = true := by simpa [hji] using hdj
          rw [get_ne (fun e => hdd2 j p hj e.symm)]
          exact hd j p hj hdj'
      · obtain ⟨e, v, hev, hps⟩ := hqp hic hic2
        rw [hli] at hps
        have hci : ¬ c1 = i := fun e => hic e.symm
        have hci2 : ¬ c2 = i := fun e => hic2 e.symm
        rw [hev] at hfi
        have hMM : Rk M' M := by
          cases hdc : done c1 with
          | false => exact (hm1 hdc).2
          | true =>
            cases hdc2 : done c2 with
            | false => obtain ⟨v2, M2, _, hR, hrk⟩ := hm2 hdc hdc2; exact .trans hrk (hRM v2 M2 hR)
            | true => obtain ⟨v1, M1, v2, M2, _, _, hR, hR2, hrk⟩ := hm3 hdc2; exact .trans hrk (hRM2 v1 M1 hR v2 M2 hR2)
        refine ⟨⟨fun base w0 a w hA hS => hps.run (Le.ag (Le.app hpk hs) hA) (hS.rk hMM) ?_⟩⟩
        refine ⟨(e, v) :: E', M', hA.put hps.lt _, hS, rfl, hs.cons (hE1 (e, v) (List.mem_of_getElem? hfi)), ?_, fun h => ?_, fun h h' => ?_, fun h => ?_⟩
        · intro j p hj hdj
          by_cases hji : j = i
          · subst hji; rw [hfi] at hj; cases hj; exact get_eq
          · have hdj' : done j = true := by simpa [hji] using hdj
            rw [get_ne (fun e' => hdis j i p (e, v) hj hfi hji e'.symm)]
            exact hd j p hj hdj'
        · dsimp only; rw [if_neg hci2]
          exact hm1 (by simpa [hci] using h)
        · obtain ⟨v2, M2, k1, k2, k3⟩ := hm2 (by simpa [hci] using h) (by simpa [hci2] using h')
          exact ⟨v2, M2, by rw [get_ne (hdd i (e, v) hfi)]; exact k1, k2, k3⟩
        · obtain ⟨v1, M1, v2, M2, k1, k2, k3, k4, k5⟩ := hm3 (by simpa [hci2] using h)
          exact ⟨v1, M1, v2, M2, by rw [get_ne (hdd i (e, v) hfi)]; exact k1, by rw [get_ne (hdd2 i (e, v) hfi)]; exact k2, k3, k4, k5⟩
  · intro done E' M' ⟨hs, hd, _, _, hc2⟩ hall
    obtain ⟨v, M1, v2, M2, hv, hv2, hR, hR2, hrk⟩ := hc2 (hall c2 hcn)
    refine ⟨(d2, v2) :: (d1, v) :: (somes full ++ E), M2, ?_, hrk, hG v M1 hR v2 M2 hR2⟩
    have h0 : Le E' (somes full ++ E) := Le.app (fun p hp => by
      obtain ⟨j, hj, hjp⟩ := List.mem_iff_getElem.1 (mem_somes hp)
      exact hd j p (by rw [List.getElem?_eq_getElem hj, hjp]) (hall j (by omega))) hs
    exact Le.app (A := [(d2, v2), (d1, v)]) (fun p hp => by
      rcases List.mem_cons.1 hp with rfl | hp
      · exact hv2
      · rw [List.mem_singleton] at hp; subst hp; exact hv) h0
  · have e : ∀ m, m ≤ l.toArray.size → left (Array.replicate l.toArray.size false) m = m := by
      intro m
      induction m with
      | zero => intro _; rfl
      | succ m ih =>
        intro hm'
        have : (Array.replicate l.toArray.size false).getD m true = false := by
          have hs : m < l.length := by simp at hm'; omega
          simp [Array.getD_eq_getD_getElem?, hs]
        simp only [left, ih (by omega), this]
        simp
    have := e l.toArray.size (Nat.le_refl _)
    simpa using this
end


section
variable {P : Program} {N : Fm} {E : Env} {M : Mem} {l : List Oper} {c d : Nat} {K : UEnv → Prop} {i : Nat} {done : UEnv} {w : List Nat} {ws : List (List Nat)} {rest : List Oper}
/-- A slice is made (in the place of the one call). -/
theorem dbuild {t T : TypeId} {n : Nat} {xs : List (Nat × Operand)} {vs : List (Nat × Value)} {cs : List Value} {ty : TypeId} {pos : String} {after : Array Edge} {g : Option (Nat × Bool)} (hi : i = c) (hx : evps (pickR i done w ++ E) xs = some vs)
    (hr : ∀ w, (Instr.buildSlice t n vs.toArray).run P w = .ok (.slice (some ⟨w.heap.size, 0, none⟩) n n) (w.alloc (.cells cs.toArray T))) (hg : On (pickR i done w ++ E) l g) (hd : Nat.blt d N.n = true)
    (h2 : QD P N l E M c d (fun v M' => ∃ b, v = .slice (some ⟨b, 0, none⟩) n n ∧ M' = ⟨true, b, 0, cs⟩ :: M) K (i + 1) (none :: done) ws rest) :
    QD P N l E M c d (fun v M' => ∃ b, v = .slice (some ⟨b, 0, none⟩) n n ∧ M' = ⟨true, b, 0, cs⟩ :: M) K i done (w :: ws) (⟨some d, .buildSlice t n xs.toArray, ty, pos, after, g⟩ :: rest) := by
  subst hi
  refine ⟨fun hl => ?_⟩
  rw [pickR_eq hl] at hx hg
  have h3 := (h2.out (by simp [hl])).out
  rw [List.reverse_cons] at h3
  refine ⟨?_⟩
  unfold QCd
  rw [if_pos rfl]
  refine ⟨⟨fun base w0 a w1 hA hS F hF => ?_, hd⟩, h3⟩
  unfold wpList
  rw [if_pos (On.wanted (o := ⟨some d, .buildSlice t n xs.toArray, ty, pos, after, g⟩) hg hA)]
  refine .inl ?_
  unfold Oper.wp
  have e : (xs.toArray.map fun (i, x) => (i, a.eval x)) = vs.toArray := by
    have : xs.toArray.map (fun p : Nat × Operand => (p.1, a.eval p.2)) = vs.toArray := by simp [hA.evalps hx]
    exact this
  have h1 : (execOp a.eval ⟨some d, .buildSlice t n xs.toArray, ty, pos, after, g⟩).run P w1 = .ok (.value (.slice (some ⟨w1.heap.size, 0, none⟩) n n)) (w1.alloc (.cells cs.toArray T)) := by
    simp only [execOp, e]
    simp [hr]
  rw [h1]
  exact hF _ _ _ ⟨w1.heap.size, rfl, rfl⟩ (hS.alloc cs.toArray _)
end

section
variable {P : Program} {N : Fm} {Fin : Post} {Q : Post} {k : List Kn} {E A : Env} {M : Mem} {ops rest : List Oper} {d : Nat} {ty : TypeId} {pos : String} {after : Array Edge} {g : Option (Nat × Bool)}
theorem OL_appendAt {t e : TypeId} {I : TypeInfo} {z : Value} {s x : Operand} {t2 e2 : TypeId} {sv : Value} {bx ox n cx size : Nat} {ownx : Bool} {l0 lx xs : List Value} {o0 ii : Nat} {m M0 : Mem} {len : Nat} (ht : Und P t (.slice e)) (ht2 : Und P t2 (.slice e2))
    (hI : P.info? e = some I) (hsz : I.size = size) (hs0 : 0 < size) (hb0 : 0 < I.bytes) (hz : I.zero = some z) (hzs : z.cells.size = size) (hs : ev E s = some sv) (hx : ev E x = some (.slice (some ⟨bx, ox, none⟩) n cx))
    (hown : Own sv size xs m) (hM : Rk M (m ++ M0)) (hlen : xs.length = len * size) (hm : (⟨ownx, bx, o0, l0⟩ : Sg) ∈ M0) (hox : ox = o0 + ii) (hlx : lx = l0.drop ii) (hn : ii + n * size ≤ l0.length) (hv : ∀ v ∈ lx.take (n * size), v.oneCell' = true) (hn0 : 0 < n ∨ sv ≠ .slice none 0 0)
    (hroom : (2 * (len + n) + 192) * I.bytes ≤ 281474976710656) (hg : On E ops g) (hd : Nat.blt d N.n = true)
    (h : ∀ b cap sp, ((xs ++ lx.take (n * size)) ++ sp).length = cap * size → OL false P N ops Q rest ((d, .slice (some ⟨b, 0, none⟩) (len + n) cap) :: E) (⟨true, b, 0, (xs ++ lx.take (n * size)) ++ sp⟩ :: M0)) :
    OL false P N ops Q (⟨some d, .call { callee := .builtin .append, args := #[s, x], argTypes := #[t, t2] }, ty, pos, after, g⟩ :: rest) E M := by
  subst hox
  subst hlx
  constructor
  intro base w0 a w hA hS
  unfold wpList
  rw [if_pos (On.wanted (o := ⟨some d, .call { callee := .builtin .append, args := #[s, x], argTypes := #[t, t2] }, ty, pos, after, g⟩) hg hA)]
  refine .inl ?_
  unfold Oper.wp
  have hS1 := hS.rk hM
  have hx1 : (loadCells ⟨bx, (o0 + ii), none⟩ (n * size)).run P w = .ok ((l0.drop ii).take (n * size)).toArray w := by
    have := run_loadCells (P := P) (i := ii) (n := n * size) (hS1.seg _ (List.mem_append_right _ hm)) (by simpa using hn)
    simpa using this
  have hx2 : (loadCells ⟨bx, (o0 + ii), none⟩ (n * size)).run P w.drew = .ok ((l0.drop ii).take (n * size)).toArray w.drew := by
    have := run_loadCells (P := P) (i := ii) (n := n * size) ((hS1.drew).seg _ (List.mem_append_right _ hm)) (by simpa using hn)
    simpa using this
  have hyl : ((l0.drop ii).take (n * size)).length = n * size := by rw [List.length_take, List.length_drop]; omega
  have hM0 : Sim false base w0 w M0 := by
    refine hS1.of_mem (fun _ h => List.mem_append_right _ h) ?_
    exact hS1.dis.sublist (List.sublist_append_right m M0)
  have key : ∃ w' b cap sp, (Builtin.append_ #[t, t2] ty #[sv, .slice (some ⟨bx, (o0 + ii), none⟩) n cx]).run P w = .ok (.slice (some ⟨b, 0, none⟩) (len + n) cap) w' ∧
      ((xs ++ (l0.drop ii).take (n * size)) ++ sp).length = cap * size ∧ Sim false base w0 w' (⟨true, b, 0, (xs ++ (l0.drop ii).take (n * size)) ++ sp⟩ :: M0) := by
    have grown : ∀ q, len + n ≤ q → ((xs ++ (l0.drop ii).take (n * size)) ++ (Builtin.zeroCells z.cells (q - (len + n))).toList).length = q * size ∧
        Sim false base w0 (w.drew.alloc (.cells (xs.toArray ++ ((l0.drop ii).take (n * size)).toArray ++ Builtin.zeroCells z.cells (q - (len + n))) e)) (⟨true, w.heap.size, 0, (xs ++ (l0.drop ii).take (n * size)) ++ (Builtin.zeroCells z.cells (q - (len + n))).toList⟩ :: M0) := by
      intro q hq
      refine ⟨?_, ?_⟩
      · simp only [List.length_append, hyl, hlen, Array.length_toList, zeroCells_length, hzs]
        rw [← Nat.add_mul, ← Nat.add_mul]
        congr 1
        omega
      · have := (Sim.drew hM0).alloc (xs.toArray ++ ((l0.drop ii).take (n * size)).toArray ++ Builtin.zeroCells z.cells (q - (len + n))) e
        simpa using this
    rcases hown with ⟨rfl, rfl, rfl⟩ | ⟨b, len', cap, sp, rfl, rfl, hl', hc'⟩
    · have hl0 : len = 0 := by
        rcases Nat.eq_zero_or_pos len with h | h
        · exact h
        · have := Nat.mul_pos h hs0; simp at hlen; omega
      subst hl0
      have hn1 : 0 < n := by
        rcases hn0 with h | h
        · exact h
        · exact absurd rfl h
      obtain ⟨q, hq, hr⟩ := run_append_grow (ty := ty) (P := P) (sb := none) (cap := 0) (xs := []) (cx := cx) ht ht2 hI hsz hb0 hz (by omega) (by simp [Builtin.firstCells]) hx2 hroom
      exact ⟨_, _, q, _, hr, (grown q hq).1, (grown q hq).2⟩
    · have hll : len' = len := Nat.eq_of_mul_eq_mul_right hs0 (by omega)
      subst hll
      by_cases hfit : len' + n ≤ cap
      · obtain ⟨w', h1, h2⟩ := run_append_fit (ty := ty) (P := P) (cx := cx) ht ht2 hI hsz hfit hl' hc' hyl hx1 hS1 hv
        refine ⟨w', b, cap, _, h1, ?_, h2⟩
        simp only [List.length_append, List.length_drop, hyl] at hc' ⊢
        have h0 : len' * size + n * size ≤ cap * size := by rw [← Nat.add_mul]; exact Nat.mul_le_mul_right _ hfit
        omega
      · have hfirst : (Builtin.firstCells size len' (.slice (some ⟨b, 0, none⟩) len' cap)).run P w.drew = .ok xs.toArray w.drew := by
          have := run_loadCells (P := P) (i := 0) (n := len' * size) ((hS1.drew).seg _ (.head _)) (by simp; omega)
          simp only [Nat.add_zero, List.drop_zero] at this
          simp only [Builtin.firstCells]
          have e : (xs ++ sp).take (len' * size) = xs := by rw [← hl']; simp
          rw [e] at this
          exact this
        obtain ⟨q, hq, hr⟩ := run_append_grow (ty := ty) (P := P) (cx := cx) ht ht2 hI hsz hb0 hz (by omega) hfirst hx2 hroom
        exact ⟨_, _, q, _, hr, (grown q hq).1, (grown q hq).2⟩
  obtain ⟨w', b, cap, sp, h1, h2, h3⟩ := key
  have hr : (execOp a.eval ⟨some d, .call { callee := .builtin .append, args := #[s, x], argTypes := #[t, t2] }, ty, pos, after, g⟩).run P w = .ok (.value (.slice (some ⟨b, 0, none⟩) (len + n) cap)) w' := by
    simp [execOp, resolve, invoke, builtin, hA.eval hs, hA.eval hx, h1]
  rw [hr]
  exact (h b cap sp h2).out base w0 _ _ (hA.put hd _) h3

theorem O_appendAt {t e : TypeId} {I : TypeInfo} {z : Value} {s x : Operand} {t2 e2 : TypeId} {sv : Value} {bx ox n cx size : Nat} {ownx : Bool} {l0 lx xs : List Value} {o0 ii : Nat} {m M0 : Mem} {len : Nat} (ht : Und P t (.slice e)) (ht2 : Und P t2 (.slice e2))
    (hI : P.info? e = some I) (hsz : I.size = size) (hs0 : 0 < size) (hb0 : 0 < I.bytes) (hz : I.zero = some z) (hzs : z.cells.size = size) (hs : ev E s = some sv) (hx : ev E x = some (.slice (some ⟨bx, ox, none⟩) n cx))
    (hown : Own sv size xs m) (hM : Rk M (m ++ M0)) (hlen : xs.length = len * size) (hm : (⟨ownx, bx, o0, l0⟩ : Sg) ∈ M0) (hox : ox = o0 + ii) (hlx : lx = l0.drop ii) (hn : ii + n * size ≤ l0.length) (hv : ∀ v ∈ lx.take (n * size), v.oneCell' = true) (hn0 : 0 < n ∨ sv ≠ .slice none 0 0)
    (hroom : (2 * (len + n) + 192) * I.bytes ≤ 281474976710656) (hg : On E ops g) (hd : Nat.blt d N.n = true)
    (h : ∀ b cap sp, ((xs ++ lx.take (n * size)) ++ sp).length = cap * size → WO false P N Fin ops rest k ((d, .slice (some ⟨b, 0, none⟩) (len + n) cap) :: E) (⟨true, b, 0, (xs ++ lx.take (n * size)) ++ sp⟩ :: M0)) :
    WO false P N Fin ops (⟨some d, .call { callee := .builtin .append, args := #[s, x], argTypes := #[t, t2] }, ty, pos, after, g⟩ :: rest) k E M :=
  ⟨OL_appendAt ht ht2 hI hsz hs0 hb0 hz hzs hs hx hown hM hlen hm hox hlx hn hv hn0 hroom hg hd fun b cap sp hh => (h b cap sp hh).out⟩
theorem s_appendAt {t e : TypeId} {I : TypeInfo} {z : Value} {s x : Operand} {t2 e2 : TypeId} {sv : Value} {bx ox n cx size : Nat} {ownx : Bool} {l0 lx xs : List Value} {o0 ii : Nat} {m M0 : Mem} {len : Nat} (ht : Und P t (.slice e)) (ht2 : Und P t2 (.slice e2))
    (hI : P.info? e = some I) (hsz : I.size = size) (hs0 : 0 < size) (hb0 : 0 < I.bytes) (hz : I.zero = some z) (hzs : z.cells.size = size) (hs : ev A s = some sv) (hx : ev A x = some (.slice (some ⟨bx, ox, none⟩) n cx))
    (hown : Own sv size xs m) (hM : Rk M (m ++ M0)) (hlen : xs.length = len * size) (hm : (⟨ownx, bx, o0, l0⟩ : Sg) ∈ M0) (hox : ox = o0 + ii) (hlx : lx = l0.drop ii) (hn : ii + n * size ≤ l0.length) (hv : ∀ v ∈ lx.take (n * size), v.oneCell' = true) (hn0 : 0 < n ∨ sv ≠ .slice none 0 0)
    (hroom : (2 * (len + n) + 192) * I.bytes ≤ 281474976710656) (hg : On A ops g) (hd : Nat.blt d N.n = true) :
    SpAt P N ops A M ⟨some d, .call { callee := .builtin .append, args := #[s, x], argTypes := #[t, t2] }, ty, pos, after, g⟩ d
      (fun v M' => ∃ b cap sp, ((xs ++ lx.take (n * size)) ++ sp).length = cap * size ∧ v = .slice (some ⟨b, 0, none⟩) (len + n) cap ∧ M' = ⟨true, b, 0, (xs ++ lx.take (n * size)) ++ sp⟩ :: M0) :=
  ⟨fun E' M' hle hrk => O_appendAt ht ht2 hI hsz hs0 hb0 hz hzs (ev_le hle hs) (ev_le hle hx) hown (hrk.trans hM) hlen hm hox hlx hn hv hn0 hroom (On_le hle hg) hd fun b cap sp hh => O_nil ⟨⟨rfl, _, _, rfl, ⟨b, cap, sp, hh, rfl, rfl⟩, .rfl⟩⟩⟩
theorem s_pure {op : Op} {v : Value} {R : Value → Mem → Prop} (hp : ∀ E' M', Le E' A → Pure P N E' M' op v) (hg : On A ops g) (hd : Nat.blt d N.n = true) (hR : R v M) : SpAt P N ops A M ⟨some d, op, ty, pos, after, g⟩ d R :=
  ⟨fun E' M' hle hrk => O_pure (hp E' M' hle) (On_le hle hg) hd (O_nil ⟨⟨rfl, _, _, rfl, hR, hrk⟩⟩)⟩
theorem SpAt.mono {o : Oper} {R R' : Value → Mem → Prop} (h : SpAt P N ops A M o d R) (hR : ∀ v M', R v M' → R' v M') : SpAt P N ops A M o d R' :=
  ⟨fun E' M' hle hrk => O_fin (h.out E' M' hle hrk) fun E2 M2 ⟨v, M3, h1, h2, h3⟩ => ⟨v, M3, h1, hR v M3 h2, h3⟩⟩
end
end Go.Proofs.Ytjkpfliaflmppaa.Vm

namespace Go.Proofs.Ytjkpfliaflmppaa.Vm
open Go Go.RowKit

section
variable {P : Program} {N : Fm} {Fin : Post} {Q : Post} {k : List Kn} {E A : Env} {M : Mem} {ops rest : List Oper} {d : Nat} {ty : TypeId} {pos : String} {after : Array Edge} {g : Option (Nat × Bool)}

theorem P_max {x y : Operand} {ts : Array TypeId} {kd kd' : IntKind} {p q : Int} (hx : ev E x = some (.int kd p)) (hy : ev E y = some (.int kd' q)) :
    Pure P N E M (.call { callee := .builtin .max, args := #[x, y], argTypes := ts }) (.int kd (if q > p then q else p)) := by
  constructor
  intro pr bs w0 a w hA hS d ty pos after g
  simp [execOp, resolve, invoke, builtin, hA.eval hx, hA.eval hy, Builtin.max_, Builtin.max2]

theorem O_appendGrow {t e : TypeId} {I : TypeInfo} {z : Value} {s x : Operand} {t2 e2 : TypeId} {b ob bx ox n cx size len cap o0 ii : Nat} {ownx own0 : Bool} {l0 lx xs : List Value} (ht : Und P t (.slice e)) (ht2 : Und P t2 (.slice e2))
    (hI : P.info? e = some I) (hsz : I.size = size) (hb0 : 0 < I.bytes) (hz : I.zero = some z) (hzs : z.cells.size = size) (hs : ev E s = some (.slice (some ⟨b, ob, none⟩) len cap)) (hx : ev E x = some (.slice (some ⟨bx, ox, none⟩) n cx))
    (hm0 : (⟨own0, b, o0, l0⟩ : Sg) ∈ M) (hob : ob = o0 + ii) (hxs : xs = (l0.drop ii).take (len * size)) (hin : ii + len * size ≤ l0.length) (hm : (⟨ownx, bx, ox, lx⟩ : Sg) ∈ M) (hn : n * size ≤ lx.length) (hcap : cap < len + n)
    (hroom : (2 * (len + n) + 192) * I.bytes ≤ 281474976710656) (hg : On E ops g) (hd : Nat.blt d N.n = true)
    (h : ∀ b cap sp, ((xs ++ lx.take (n * size)) ++ sp).length = cap * size → len + n ≤ cap → WO false P N Fin ops rest k ((d, .slice (some ⟨b, 0, none⟩) (len + n) cap) :: E) (⟨true, b, 0, (xs ++ lx.take (n * size)) ++ sp⟩ :: M)) :
    WO false P N Fin ops (⟨some d, .call { callee := .builtin .append, args := #[s, x], argTypes := #[t, t2] }, ty, pos, after, g⟩ :: rest) k E M := by
  subst hob
  refine ⟨⟨?_⟩⟩
  intro base w0 a w hA hS
  unfold wpList
  rw [if_pos (On.wanted (o := ⟨some d, .call { callee := .builtin .append, args := #[s, x], argTypes := #[t, t2] }, ty, pos, after, g⟩) hg hA)]
  refine .inl ?_
  unfold Oper.wp
  have hx2 : (loadCells ⟨bx, ox, none⟩ (n * size)).run P w.drew = .ok (lx.take (n * size)).toArray w.drew := by
    have := run_loadCells (P := P) (i := 0) (n := n * size) ((hS.drew).seg _ hm) (by simpa using hn)
    simpa using this
  have hyl : (lx.take (n * size)).length = n * size := by rw [List.length_take]; omega
  have hxl : xs.length = len * size := by rw [hxs, List.length_take, List.length_drop]; omega
  have hfirst : (Builtin.firstCells size len (.slice (some ⟨b, o0 + ii, none⟩) len cap)).run P w.drew = .ok xs.toArray w.drew := by
    have := run_loadCells (P := P) (i := ii) (n := len * size) ((hS.drew).seg _ hm0) (by simpa using hin)
    simp only [Builtin.firstCells]
    rw [hxs]
    exact this
  obtain ⟨q, hq, hr⟩ := run_append_grow (ty := ty) (P := P) (cx := cx) ht ht2 hI hsz hb0 hz hcap hfirst hx2 hroom
  have hr2 : (execOp a.eval ⟨some d, .call { callee := .builtin .append, args := #[s, x], argTypes := #[t, t2] }, ty, pos, after, g⟩).run P w = .ok (.value (.slice (some ⟨w.heap.size, 0, none⟩) (len + n) q)) (w.drew.alloc (.cells (xs.toArray ++ (lx.take (n * size)).toArray ++ Builtin.zeroCells z.cells (q - (len + n))) e)) := by
    simp [execOp, resolve, invoke, builtin, hA.eval hs, hA.eval hx, hr]
  rw [hr2]
  have h3 := (Sim.drew hS).alloc (xs.toArray ++ (lx.take (n * size)).toArray ++ Builtin.zeroCells z.cells (q - (len + n))) e
  refine (h w.heap.size q (Builtin.zeroCells z.cells (q - (len + n))).toList ?_ hq).out.out base w0 _ _ (hA.put hd _) ?_
  · simp only [List.length_append, hyl, hxl, Array.length_toList, zeroCells_length, hzs]
    rw [← Nat.add_mul, ← Nat.add_mul]
    congr 1
    omega
  · simpa using h3
end
end Go.Proofs.Ytjkpfliaflmppaa.Vm
