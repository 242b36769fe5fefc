/- Drawn regions: operations that only read, a store among them (at c), and a forced chain from n on. No condition. sort.Interface of codes, by symbols and by counts: Len, Less, Swap walked. For at most 100 codes. -/
import Derived.Test.YtjkpfliaflmppaaW6x08
import Derived.Test.YtjkpfliaflmppaaW6x04
import Derived.Test.YtjkpfliaflmppaaW6x07

namespace Go.Proofs.Ytjkpfliaflmppaa.Vm
open Go Go.RowKit

/-- The operation turns M to M1 and puts nothing. -/
structure PutAt (P : Program) (N : Fm) (l : List Oper) (E : Env) (M M1 : Mem) (o : Oper) : Prop where
  out : ∀ base w0 a w, Ag N E a → Sim false base w0 w M → ∀ F : Exit → Act → World → Prop, (∀ w', Sim false base w0 w' M1 → F .normal a w') → wpList P l.toArray F [o] a w

/-- Operations that only read (those that may come behind the store: no memory), and a store at c. -/
def QPd (P : Program) (N : Fm) (l : List Oper) (E : Env) (M M1 : Mem) (late : Nat → Bool) (c : Nat) (K : UEnv → Prop) : Nat → UEnv → List (List Nat) → List Oper → Prop
  | _, done, _, [] => K done
  | i, done, ws, o :: rest =>
    if i = c then PutAt P N l (pick done (ws.headD []) ++ E) M M1 o ∧ QPd P N l E M M1 late c K (i + 1) (done ++ [none]) ws.tail rest
    else ∃ e v, PS P N l (pick done (ws.headD []) ++ E) (bif late i then [] else M) o e v ∧ QPd P N l E M M1 late c K (i + 1) (done ++ [some (e, v)]) ws.tail rest
structure QP (P : Program) (N : Fm) (l : List Oper) (E : Env) (M M1 : Mem) (late : Nat → Bool) (c : Nat) (K : UEnv → Prop) (i : Nat) (done : UEnv) (ws : List (List Nat)) (rest : List Oper) : Prop where
  out : QPd P N l E M M1 late c K i done ws rest

section
variable {P : Program} {N : Fm} {Fin : Post} {k : List Kn} {E : Env} {M M1 : Mem} {l : List Oper} {late : Nat → Bool} {c : Nat} {K : UEnv → Prop} {i : Nat} {done : UEnv} {w : List Nat} {ws : List (List Nat)} {o : Oper} {rest : List Oper} {e : Nat} {v : Value}

theorem isQP (h : QP P N l E M M1 late c K i done ws rest) : QP P N l E M M1 late c K i done ws rest := h
theorem QP_nil (h : K done) : QP P N l E M M1 late c K i done ws [] := ⟨h⟩
theorem pe (hi : Nat.beq i c = false) (hl : late i = false) (h : PS P N l (pick done w ++ E) M o e v) (h2 : QP P N l E M M1 late c K (i + 1) (done ++ [some (e, v)]) ws rest) : QP P N l E M M1 late c K i done (w :: ws) (o :: rest) := by
  have hne : i ≠ c := fun e => by subst e; rw [Nat.beq_refl] at hi; cases hi
  refine ⟨?_⟩
  unfold QPd
  rw [if_neg hne]
  exact ⟨e, v, by rw [hl]; exact h, h2.out⟩
theorem pl (hi : Nat.beq i c = false) (hl : late i = true) (h : PS P N l (pick done w ++ E) [] o e v) (h2 : QP P N l E M M1 late c K (i + 1) (done ++ [some (e, v)]) ws rest) : QP P N l E M M1 late c K i done (w :: ws) (o :: rest) := by
  have hne : i ≠ c := fun e => by subst e; rw [Nat.beq_refl] at hi; cases hi
  refine ⟨?_⟩
  unfold QPd
  rw [if_neg hne]
  exact ⟨e, v, by rw [hl]; exact h, h2.out⟩
theorem pepure {op : Op} {ty : TypeId} {pos : String} {after : Array Edge} {g : Option (Nat × Bool)} (hi : Nat.beq i c = false) (hl : late i = false) (hp : Pure P N (pick done w ++ E) M op v) (hg : On (pick done w ++ E) l g) (hd : Nat.blt e N.n = true)
    (h2 : QP P N l E M M1 late c K (i + 1) (done ++ [some (e, v)]) ws rest) : QP P N l E M M1 late c K i done (w :: ws) (⟨some e, op, ty, pos, after, g⟩ :: rest) := pe hi hl ⟨rfl, hd, .inl ⟨hg, hp⟩⟩ h2
theorem pput (hi : i = c) (h : PutAt P N l (pick done w ++ E) M M1 o) (h2 : QP P N l E M M1 late c K (i + 1) (done ++ [none]) ws rest) : QP P N l E M M1 late c K i done (w :: ws) (o :: rest) := by
  refine ⟨?_⟩
  unfold QPd
  rw [if_pos hi]
  exact ⟨h, h2.out⟩
/-- The same, with the last one first. -/
structure QR (P : Program) (N : Fm) (l : List Oper) (E : Env) (M M1 : Mem) (late : Nat → Bool) (c : Nat) (K : UEnv → Prop) (i : Nat) (done : UEnv) (ws : List (List Nat)) (rest : List Oper) : Prop where
  out : done.length = i → QP P N l E M M1 late c K i done.reverse ws rest
theorem isQR (h : QR P N l E M M1 late c K i done ws rest) : QR P N l E M M1 late c K i done ws rest := h
theorem QR_start (h : QR P N l E M M1 late c K 0 [] ws rest) : QP P N l E M M1 late c K 0 [] ws rest := h.out rfl
theorem QR_nil (h : K done.reverse) : QR P N l E M M1 late c K i done ws [] := ⟨fun _ => QP_nil h⟩
theorem re (hi : Nat.beq i c = false) (hl : late i = false) (h : PS P N l (pickR i done w ++ E) M o e v) (h2 : QR P N l E M M1 late c K (i + 1) (some (e, v) :: done) ws rest) : QR P N l E M M1 late c K i done (w :: ws) (o :: rest) := by
  refine ⟨fun hn => pe hi hl (by rw [pickR_eq hn] at h; exact h) ?_⟩
  have := h2.out (by simp [hn])
  rwa [List.reverse_cons] at this
theorem rl (hi : Nat.beq i c = false) (hl : late i = true) (h : PS P N l (pickR i done w ++ E) [] o e v) (h2 : QR P N l E M M1 late c K (i + 1) (some (e, v) :: done) ws rest) : QR P N l E M M1 late c K i done (w :: ws) (o :: rest) := by
  refine ⟨fun hn => pl hi hl (by rw [pickR_eq hn] at h; exact h) ?_⟩
  have := h2.out (by simp [hn])
  rwa [List.reverse_cons] at this
theorem repure {op : Op} {ty : TypeId} {pos : String} {after : Array Edge} {g : Option (Nat × Bool)} (hi : Nat.beq i c = false) (hl : late i = false) (hp : Pure P N (pickR i done w ++ E) M op v) (hg : On (pickR i done w ++ E) l g) (hd : Nat.blt e N.n = true)
    (h2 : QR P N l E M M1 late c K (i + 1) (some (e, v) :: done) ws rest) : QR P N l E M M1 late c K i done (w :: ws) (⟨some e, op, ty, pos, after, g⟩ :: rest) := re hi hl ⟨rfl, hd, .inl ⟨hg, hp⟩⟩ h2
theorem rput (hi : i = c) (h : PutAt P N l (pickR i done w ++ E) M M1 o) (h2 : QR P N l E M M1 late c K (i + 1) (none :: done) ws rest) : QR P N l E M M1 late c K i done (w :: ws) (o :: rest) := by
  refine ⟨fun hn => pput hi (by rw [pickR_eq hn] at h; exact h) ?_⟩
  have := h2.out (by simp [hn])
  rwa [List.reverse_cons] at this
theorem PutAt_storeAgg {t : TypeId} {p x : Operand} {b o n i : Nat} {c cs : List Value} {M0 : Mem} {ty : TypeId} {pos : String} {after : Array Edge} {g : Option (Nat × Bool)} (hn : Cel P t n) (hn0 : 0 < n) (hp : ev E p = some (.pointer (some ⟨b, o + i, none⟩)))
    (hx : ev E x = some (.agg cs.toArray)) (hcs : cs.length = n) (hv : ∀ v ∈ cs, v.oneCell' = true) (hg : On E l g) (hm : Take1 M ⟨true, b, o, c⟩ M0) (hl : i + n ≤ c.length) :
    PutAt P N l E M (⟨true, b, o, putAt c i cs⟩ :: M0) ⟨none, .store t p x, ty, pos, after, g⟩ := by
  refine ⟨fun base w0 a w1 hA hS F hF => ?_⟩
  unfold wpList
  rw [if_pos (On.wanted (o := ⟨none, .store t p x, ty, pos, after, g⟩) hg hA)]
  refine .inl ?_
  unfold Oper.wp
  obtain ⟨I, hI, hs⟩ := size_of hn.out hn0
  obtain ⟨w', h1, h2⟩ := run_storeCells (P := P) (i := i) cs 0 c w1 (hS.rk (.cons hm .rfl)) hv (by omega)
  have hr : (execOp a.eval ⟨none, .store t p x, ty, pos, after, g⟩).run P w1 = .ok .skip w' := by
    simp only [execOp, Instr.storeAt, Instr.sureAddr, hA.eval hp, hA.eval hx]
    have h1 := h1
    simp [storeVar, Value.cells, sizeOf, typeInfo, hI, hs, hcs, h1]
  rw [hr]
  exact hF _ h2

theorem QP_all {rest : List Oper} : ∀ {i0 : Nat} {done : UEnv} {ws : List (List Nat)}, QPd P N l E M M1 late c K i0 done ws rest → ∃ more : UEnv, more.length = rest.length ∧ K (done ++ more) ∧
    ∀ i (hi : i < rest.length) (hm : i < more.length), (i0 + i = c → more[i] = none ∧ PutAt P N l (pick (done ++ more.take i) (ws.getD i []) ++ E) M M1 rest[i]) ∧
      (i0 + i ≠ c → ∃ e v, more[i] = some (e, v) ∧ PS P N l (pick (done ++ more.take i) (ws.getD i []) ++ E) (bif late (i0 + i) then [] else M) rest[i] e v) := by
  induction rest with
  | nil => intro i0 done ws h; exact ⟨[], rfl, by rw [List.append_nil]; exact h, fun i hi => absurd hi (Nat.not_lt_zero _)⟩
  | cons o rest ih =>
    intro i0 done ws h
    have ehd : ws.headD [] = ws.getD 0 [] := by cases ws <;> rfl
    have etl : ∀ i, ws.tail.getD i [] = ws.getD (i + 1) [] := by intro i; cases ws <;> simp
    unfold QPd at h
    split at h
    · rename_i hc
      obtain ⟨h1, h2⟩ := h
      obtain ⟨more, k1, k2, k3⟩ := ih h2
      refine ⟨none :: more, by simp [k1], by simpa using k2, fun i hi hm => ?_⟩
      cases i with
      | zero => exact ⟨fun _ => ⟨rfl, by rw [ehd] at h1; simpa using h1⟩, fun hne => absurd hc hne⟩
      | succ i =>
        have := k3 i (by simpa using hi) (by simpa using hm)
        rw [etl] at this
        rw [show i0 + (i + 1) = i0 + 1 + i by omega]
        simpa using this
    · rename_i hc
      obtain ⟨e, v, h1, h2⟩ := h
      obtain ⟨more, k1, k2, k3⟩ := ih h2
      refine ⟨some (e, v) :: more, by simp [k1], by simpa using k2, fun i hi hm => ?_⟩
      cases i with
      | zero => exact ⟨fun hne => absurd hne hc, fun _ => ⟨e, v, rfl, by rw [ehd] at h1; simpa using h1⟩⟩
      | succ i =>
        have := k3 i (by simpa using hi) (by simpa using hm)
        rw [etl] at this
        rw [show i0 + (i + 1) = i0 + 1 + i by omega]
        simpa using this

/-- Whoever may come behind the store is late. -/
def lateB (ws : List (List Nat)) (late : Nat → Bool) (c n : Nat) : Bool := (List.range n).all fun i => Nat.beq i c || late i || (ws.getD c []).any fun x => Nat.beq x i
theorem W_region_put {E : Env} {M : Mem} {id : Nat} (n c : Nat) (late : Nat → Bool) (M1 : Mem) (hn : n < l.length) (hcn : c < n) (hm : P.follows .mixedOrders = true) (ws : List (List Nat)) (hw : ((List.range l.length).all fun i => (ws.getD i []).all fun j => Region.waitsFor .any l.toArray i j) = true)
    (hac : earlierB l.toArray = true) (hcov : covB ws n = true) (hchain : chainB ws n l.length = true) (hseq : Region.seqB .any l.toArray (l.drop n).length n (canonA n l.length) = true) (hlate : lateB ws late c n = true)
    (h : QP P N l E M M1 late c (fun done => chkU E done = true ∧ WO false P N Fin l (l.drop n) k (somes done ++ E) M1) 0 [] ws (l.take n)) : W false P N Fin (.region id l.toArray true) k E M := by
  obtain ⟨full, hlen, ⟨hchk, hG⟩, hq⟩ := QP_all h.out
  simp only [List.nil_append] at hchk hG hq
  have hlen' : full.length = n := by rw [hlen, List.length_take]; omega
  obtain ⟨hf1, hf2⟩ := chkU_spec hchk
  have hrep : ∀ i, (Array.replicate l.toArray.size false).getD i false = false := fun i => getD_replicate_false _ _
  refine W_region_any hm (OA_pre n hn ws hw hac hcov hchain hseq (fun done E' M' => Le E' E ∧ (∀ (i : Nat) (p : Nat × Value), full[i]? = some (some p) → done i = true → E'.get? p.1 = some p.2) ∧ (done c = true → ∀ j ∈ ws.getD c [], done j = true) ∧
      (done c = false → Rk M' M) ∧ (done c = true → Rk M' M1)) ?_ ?_ l.toArray.size (Array.replicate l.toArray.size false) E M (by simp) ?_ (fun j _ => hrep j) (fun i hi => (by rw [hrep] at hi; cases hi))
      ⟨fun _ _ h => h, fun i p _ h => (by dsimp only at h; rw [hrep] at h; cases h), fun h => (by dsimp only at h; rw [hrep] at h; cases h), fun _ => .rfl, fun h => (by dsimp only at h; rw [hrep] at h; cases h)⟩)
  · intro i hi done E' M' ⟨hs, hd, hcl, hm1, hm2⟩ hno hdone
    have hil : i < l.length := by omega
    have hone : (l.drop i).take 1 = [l[i]] := by rw [List.drop_eq_getElem_cons hil]; rfl
    rw [hone]
    have hif : i < full.length := by omega
    have hit : i < (l.take n).length := by rw [List.length_take]; omega
    obtain ⟨hqc, hqp⟩ := hq i hit hif
    rw [Nat.zero_add] at hqc hqp
    have hli : (l.take n)[i] = l[i] := List.getElem_take
    have hfi : full[i]? = some full[i] := List.getElem?_eq_getElem hif
    have hpk : ∀ p ∈ pick (full.take i) (ws.getD i []), E'.get? p.1 = some p.2 := by
      intro p hp
      obtain ⟨j, hj, hjp⟩ := mem_pick hp
      refine hd j p ?_ (hdone j hj)
      rw [List.getElem?_take] at hjp
      split at hjp
      · exact hjp
      · cases hjp
    by_cases hic : i = c
    · obtain ⟨hnone, hput⟩ := hqc hic
      rw [hli] at hput
      subst hic
      refine ⟨⟨fun base w0 a w hA hS => hput.out base w0 a w (Le.ag (Le.app hpk hs) hA) (hS.rk (hm1 hno)) _ fun w' hS' => ?_⟩⟩
      refine ⟨E', M1, hA, hS', rfl, hs, ?_, fun _ j hj => ?_, fun h => (by simp at h), fun _ => .rfl⟩
      · intro j p hj hdj
        by_cases hji : j = i
        · subst hji; rw [hfi, hnone] at hj; cases hj
        · exact hd j p hj (by simpa [hji] using hdj)
      · have := hdone j hj
        by_cases hji : j = i <;> simp [hji, this]
    · obtain ⟨e, v, hev, hps⟩ := hqp hic
      rw [hli] at hps
      have hci : ¬ c = i := fun e => hic e.symm
      rw [hev] at hfi
      have hMM : Rk M' (bif late i then [] else M) := by
        cases hl : late i with
        | true => exact Rk.nil
        | false =>
          cases hdc : done c with
          | false => exact hm1 hdc
          | true =>
            exfalso
            have h3 := List.all_eq_true.1 hlate i (List.mem_range.2 hi)
            have hb : Nat.beq i c = false := by
              cases hb : Nat.beq i c with
              | false => rfl
              | true => exact absurd (Nat.eq_of_beq_eq_true hb) hic
            rw [hb, hl, Bool.false_or, Bool.false_or] at h3
            obtain ⟨x, hx, h5⟩ := List.any_eq_true.1 h3
            have := Nat.eq_of_beq_eq_true h5
            subst this
            rw [hcl hdc x hx] at hno
            cases hno
      refine ⟨⟨fun base w0 a w hA hS => hps.run (Le.ag (Le.app hpk hs) hA) (hS.rk hMM) ?_⟩⟩
      refine ⟨(e, v) :: E', M', hA.put hps.lt _, hS, rfl, hs.cons (hf1 (e, v) (List.mem_of_getElem? hfi)), ?_, fun h j hj => ?_, fun h => hm1 (by simpa [hci] using h), fun h => hm2 (by simpa [hci] using h)⟩
      · intro j p hj hdj
        by_cases hji : j = i
        · subst hji; rw [hfi] at hj; cases hj; exact get_eq
        · have hdj' : done j = true := by simpa [hji] using hdj
          rw [get_ne (fun e' => hf2 j i p (e, v) hj hfi hji e'.symm)]
          exact hd j p hj hdj'
      · have := hcl (by simpa [hci] using h) j hj
        by_cases hji : j = i <;> simp [hji, this]
  · intro done E' M' ⟨hs, hd, _, _, hc2⟩ hall
    refine ⟨somes full ++ E, M1, ?_, hc2 (hall c hcn), hG⟩
    exact Le.app (fun p hp => by
      obtain ⟨j, hj, hjp⟩ := List.mem_iff_getElem.1 (mem_somes hp)
      exact hd j p (by rw [List.getElem?_eq_getElem hj, hjp]) (hall j (by omega))) hs
  · have e : ∀ m, m ≤ l.toArray.size → left (Array.replicate l.toArray.size false) m = m := by
      intro m
      induction m with
      | zero => intro _; rfl
      | succ m ih =>
        intro hm'
        have : (Array.replicate l.toArray.size false).getD m true = false := by
          have hs : m < l.length := by simp at hm'; omega
          simp [Array.getD_eq_getD_getElem?, hs]
        simp only [left, ih (by omega), this]
        simp
    have := e l.toArray.size (Nat.le_refl _)
    simpa using this
end
end Go.Proofs.Ytjkpfliaflmppaa.Vm

namespace Go.Proofs.Ytjkpfliaflmppaa.Pc
open Go Go.RowKit Go.Proofs.Ytjkpfliaflmppaa.Vm

/-- Codes behind a sort.Interface. -/
structure Dat (d : Value) (l0 : List Cd) (key : Cd → Nat) (row : List Cd → Sg) where
  fN : FuncId
  fL : FuncId
  fS : FuncId
  w : Value
  mN : ∀ w', (callMethod d "Len" [].toArray).run Try.prog w' = .ok (.enter fN #[w]) w'
  mL : ∀ (i j : Int) w', (callMethod d "Less" [.int .i64 i, .int .i64 j].toArray).run Try.prog w' = .ok (.enter fL #[w, .int .i64 i, .int .i64 j]) w'
  mS : ∀ (i j : Int) w', (callMethod d "Swap" [.int .i64 i, .int .i64 j].toArray).run Try.prog w' = .ok (.enter fS #[w, .int .i64 i, .int .i64 j]) w'
  len : ∀ M, HC Try.prog fN #[w] M (fun v M' => v = .int .i64 l0.length ∧ M' = M)
  less : ∀ (cs : List Cd) (i j : Int) F, cs.Perm l0 → 0 ≤ i → i < l0.length → 0 ≤ j → j < l0.length → HC Try.prog fL #[w, .int .i64 i, .int .i64 j] (row cs :: F)
    (fun v M' => M' = row cs :: F ∧ ((v = .bool true ∧ kk key cs i < kk key cs j) ∨ (v = .bool false ∧ kk key cs j ≤ kk key cs i)))
  swap : ∀ (cs : List Cd) (i j : Int) F, cs.Perm l0 → 0 ≤ i → i < l0.length → 0 ≤ j → j < l0.length → HC Try.prog fS #[w, .int .i64 i, .int .i64 j] (row cs :: F) (fun _ M' => M' = row (swp cs i j) :: F)
  most : l0.length ≤ 100

def rowC (b : Nat) (sp : List Value) (cs : List Cd) : Sg := ⟨true, b, 0, codesV cs ++ sp⟩
theorem meth152 (s : Value) (w : World) : (callMethod (.iface 153 s) "Len" [].toArray).run Try.prog w = .ok (.enter 152 #[s]) w := by kernel_rfl
theorem meth153 (s : Value) (i j : Int) (w : World) : (callMethod (.iface 153 s) "Less" [.int .i64 i, .int .i64 j].toArray).run Try.prog w = .ok (.enter 153 #[s, .int .i64 i, .int .i64 j]) w := by kernel_rfl
theorem meth154 (s : Value) (i j : Int) (w : World) : (callMethod (.iface 153 s) "Swap" [.int .i64 i, .int .i64 j].toArray).run Try.prog w = .ok (.enter 154 #[s, .int .i64 i, .int .i64 j]) w := by kernel_rfl
theorem meth155 (s : Value) (w : World) : (callMethod (.iface 160 s) "Len" [].toArray).run Try.prog w = .ok (.enter 155 #[s]) w := by kernel_rfl
theorem meth156 (s : Value) (i j : Int) (w : World) : (callMethod (.iface 160 s) "Less" [.int .i64 i, .int .i64 j].toArray).run Try.prog w = .ok (.enter 156 #[s, .int .i64 i, .int .i64 j]) w := by kernel_rfl
theorem meth157 (s : Value) (i j : Int) (w : World) : (callMethod (.iface 160 s) "Swap" [.int .i64 i, .int .i64 j].toArray).run Try.prog w = .ok (.enter 157 #[s, .int .i64 i, .int .i64 j]) w := by kernel_rfl

theorem len152_c (ad : Option Addr) (n cap : Nat) (M : Mem) : HC Try.prog 152 #[.slice ad n cap] M (fun v M' => v = .int .i64 n ∧ M' = M) := by
  refine HC_of_W (fn := Try.f152) Try.func152 rfl rfl rfl rfl ?_
  repeat' (first | (refine isO ?_; first | refine oo (Pc rfl) ?_ | refine oo (Pa rfl (by omega) (by omega)) ?_ | (refine ob rfl ?_ ?_ <;> intro hq <;> try (exfalso; omega)) | refine oo (Pi rfl (by omega)) ?_ | refine oo (Pl rfl) ?_ | refine oo (Px rfl rfl) ?_ | refine oo (Pj rfl (by omega) (by omega)) ?_ | refine oo (Pk rfl (by omega) (by omega)) ?_ | refine oo (Pf rfl) ?_ | refine oo (Pv rfl (by omega) (by omega)) ?_ | refine oo (Pn rfl) ?_ | refine oo (Pm rfl) ?_ | refine os rfl rfl ?_ | refine ot rfl (by omega) ?_ | refine O_nil ?_) | refine wo rfl ?_ | refine wc rfl ?_ | refine wg rfl ?_ | refine go rfl ?_ | refine gc rfl ?_ | refine gg rfl ?_)
  exact G_fin ⟨_, rfl, rfl, rfl⟩
theorem len155_c (ad : Option Addr) (n cap : Nat) (M : Mem) : HC Try.prog 155 #[.slice ad n cap] M (fun v M' => v = .int .i64 n ∧ M' = M) := by
  refine HC_of_W (fn := Try.f155) Try.func155 rfl rfl rfl rfl ?_
  repeat' (first | (refine isO ?_; first | refine oo (Pc rfl) ?_ | refine oo (Pa rfl (by omega) (by omega)) ?_ | (refine ob rfl ?_ ?_ <;> intro hq <;> try (exfalso; omega)) | refine oo (Pi rfl (by omega)) ?_ | refine oo (Pl rfl) ?_ | refine oo (Px rfl rfl) ?_ | refine oo (Pj rfl (by omega) (by omega)) ?_ | refine oo (Pk rfl (by omega) (by omega)) ?_ | refine oo (Pf rfl) ?_ | refine oo (Pv rfl (by omega) (by omega)) ?_ | refine oo (Pn rfl) ?_ | refine oo (Pm rfl) ?_ | refine os rfl rfl ?_ | refine ot rfl (by omega) ?_ | refine O_nil ?_) | refine wo rfl ?_ | refine wc rfl ?_ | refine wg rfl ?_ | refine go rfl ?_ | refine gc rfl ?_ | refine gg rfl ?_)
  exact G_fin ⟨_, rfl, rfl, rfl⟩

theorem codesV_f (cs : List Cd) (sp : List Value) (i : Nat) (h : i < cs.length) : (codesV cs ++ sp)[i * 4]? = some (.int .u32 (cs.getD i Cd.zero).sym) := by
  have := codesV_get cs sp i 0 h (by omega)
  simpa [Cd.cells] using this
theorem codesV_f1 (cs : List Cd) (sp : List Value) (i : Nat) (h : i < cs.length) : (codesV cs ++ sp)[i * 4 + 1]? = some (.int .u32 (cs.getD i Cd.zero).cnt) := by
  have := codesV_get cs sp i 1 h (by omega)
  simpa [Cd.cells] using this

theorem less153_c (b cap : Nat) (sp : List Value) (cs : List Cd) (i j : Int) (F : Mem) (h0 : 0 ≤ i) (h1 : i < cs.length) (h2 : 0 ≤ j) (h3 : j < cs.length) :
    HC Try.prog 153 #[.slice (some ⟨b, 0, none⟩) cs.length cap, .int .i64 i, .int .i64 j] (rowC b sp cs :: F)
    (fun v M' => M' = rowC b sp cs :: F ∧ ((v = .bool true ∧ kk Cd.sym cs i < kk Cd.sym cs j) ∨ (v = .bool false ∧ kk Cd.sym cs j ≤ kk Cd.sym cs i))) := by
  have e1 := codesV_f cs sp i.toNat (by omega)
  have e2 := codesV_f cs sp j.toNat (by omega)
  unfold kk rowC
  generalize (cs.getD i.toNat Cd.zero).sym = x at *
  generalize (cs.getD j.toNat Cd.zero).sym = y at *
  refine HC_of_W (fn := Try.f153) Try.func153 rfl rfl rfl rfl ?_
  repeat' (first | (refine isO ?_; first | refine oo (Pc rfl) ?_ | refine oo (Pa rfl (by omega) (by omega)) ?_ | (refine ob rfl ?_ ?_ <;> intro hq <;> try (exfalso; omega)) | refine oo (Pi rfl (by omega)) ?_ | refine oo (Pl rfl) ?_ | refine oo (Px rfl rfl) ?_ | refine oo (Pj rfl (by omega) (by omega)) ?_ | refine oo (Pk rfl (by omega) (by omega)) ?_ | refine oo (Pf rfl) ?_ | refine oo (Pv rfl (by omega) (by omega)) ?_ | refine oo (Pn rfl) ?_ | refine oo (Pm rfl) ?_ | refine os rfl rfl ?_ | refine ot rfl (by omega) ?_ | refine O_nil ?_) | refine wo rfl ?_ | refine wc rfl ?_ | refine wg rfl ?_ | refine go rfl ?_ | refine gc rfl ?_ | refine gg rfl ?_)
  refine W_region_still Tb.mixed (by kernel_rfl) ?_
  repeat' (first | (refine isS ?_; first | refine ss (Pc rfl) ?_ | refine ss (Pa rfl (by omega) (by omega)) ?_ | (refine sb rfl ?_ ?_ <;> intro hq <;> try (exfalso; omega)) | refine ss (Pi rfl (by omega)) ?_ | refine ss (Pl rfl) ?_ | refine ss (Px rfl rfl) ?_ | refine ss (Pj rfl (by omega) (by omega)) ?_ | refine ss (Pk rfl (by omega) (by omega)) ?_ | refine ss (Pf rfl) ?_ | refine ss (Pv rfl (by omega) (by omega)) ?_ | refine ss (Pn rfl) ?_ | refine ss (Pm rfl) ?_ | refine OS_nil ?_))
  refine OS_pure (P_loadAt (o := 0) (n := i.toNat * 4) Tb.p40 rfl rfl (.head _) e1) trivial rfl ?_
  repeat' (first | (refine isS ?_; first | refine ss (Pc rfl) ?_ | refine ss (Pa rfl (by omega) (by omega)) ?_ | (refine sb rfl ?_ ?_ <;> intro hq <;> try (exfalso; omega)) | refine ss (Pi rfl (by omega)) ?_ | refine ss (Pl rfl) ?_ | refine ss (Px rfl rfl) ?_ | refine ss (Pj rfl (by omega) (by omega)) ?_ | refine ss (Pk rfl (by omega) (by omega)) ?_ | refine ss (Pf rfl) ?_ | refine ss (Pv rfl (by omega) (by omega)) ?_ | refine ss (Pn rfl) ?_ | refine ss (Pm rfl) ?_ | refine OS_nil ?_))
  refine OS_pure (P_loadAt (o := 0) (n := j.toNat * 4) Tb.p40 rfl rfl (.head _) e2) trivial rfl ?_
  repeat' (first | (refine isS ?_; first | refine ss (Pc rfl) ?_ | refine ss (Pa rfl (by omega) (by omega)) ?_ | (refine sb rfl ?_ ?_ <;> intro hq <;> try (exfalso; omega)) | refine ss (Pi rfl (by omega)) ?_ | refine ss (Pl rfl) ?_ | refine ss (Px rfl rfl) ?_ | refine ss (Pj rfl (by omega) (by omega)) ?_ | refine ss (Pk rfl (by omega) (by omega)) ?_ | refine ss (Pf rfl) ?_ | refine ss (Pv rfl (by omega) (by omega)) ?_ | refine ss (Pn rfl) ?_ | refine ss (Pm rfl) ?_ | refine OS_nil ?_))
  · repeat' (first | (refine isO ?_; first | refine oo (Pc rfl) ?_ | refine oo (Pa rfl (by omega) (by omega)) ?_ | (refine ob rfl ?_ ?_ <;> intro hq <;> try (exfalso; omega)) | refine oo (Pi rfl (by omega)) ?_ | refine oo (Pl rfl) ?_ | refine oo (Px rfl rfl) ?_ | refine oo (Pj rfl (by omega) (by omega)) ?_ | refine oo (Pk rfl (by omega) (by omega)) ?_ | refine oo (Pf rfl) ?_ | refine oo (Pv rfl (by omega) (by omega)) ?_ | refine oo (Pn rfl) ?_ | refine oo (Pm rfl) ?_ | refine os rfl rfl ?_ | refine ot rfl (by omega) ?_ | refine O_nil ?_) | refine wo rfl ?_ | refine wc rfl ?_ | refine wg rfl ?_ | refine go rfl ?_ | refine gc rfl ?_ | refine gg rfl ?_)
    exact G_fin ⟨_, rfl, rfl, .inl ⟨rfl, by omega⟩⟩
  · repeat' (first | (refine isO ?_; first | refine oo (Pc rfl) ?_ | refine oo (Pa rfl (by omega) (by omega)) ?_ | (refine ob rfl ?_ ?_ <;> intro hq <;> try (exfalso; omega)) | refine oo (Pi rfl (by omega)) ?_ | refine oo (Pl rfl) ?_ | refine oo (Px rfl rfl) ?_ | refine oo (Pj rfl (by omega) (by omega)) ?_ | refine oo (Pk rfl (by omega) (by omega)) ?_ | refine oo (Pf rfl) ?_ | refine oo (Pv rfl (by omega) (by omega)) ?_ | refine oo (Pn rfl) ?_ | refine oo (Pm rfl) ?_ | refine os rfl rfl ?_ | refine ot rfl (by omega) ?_ | refine O_nil ?_) | refine wo rfl ?_ | refine wc rfl ?_ | refine wg rfl ?_ | refine go rfl ?_ | refine gc rfl ?_ | refine gg rfl ?_)
    exact G_fin ⟨_, rfl, rfl, .inr ⟨rfl, by omega⟩⟩

theorem putAt_code (cs : List Cd) (sp : List Value) (i : Nat) (h : i < cs.length) (c : Cd) : putAt (codesV cs ++ sp) (i * 4) c.cells = codesV (cs.set i c) ++ sp := by
  obtain ⟨p, q, h1, h2, h3, h4⟩ := codesV_at cs sp i h
  have e : cs.set i c = cs.take i ++ c :: cs.drop (i + 1) := by rw [List.set_eq_take_append_cons_drop, if_pos h]
  rw [h1, ← h2, putAt_append c.cells p _ (by simp [Cd.cells]), e, codesV_append, codesV_cons, h3, h4]
  simp [Cd.cells]
theorem swap_cells (cs : List Cd) (sp : List Value) (i j : Int) (h0 : 0 ≤ i) (h1 : i < cs.length) (h2 : 0 ≤ j) (h3 : j < cs.length) :
    putAt (putAt (codesV cs ++ sp) (i.toNat * 4) (cs.getD j.toNat Cd.zero).cells) (j.toNat * 4) (cs.getD i.toNat Cd.zero).cells = codesV (swp cs i j) ++ sp := by
  rw [putAt_code cs sp _ (by omega), putAt_code _ sp _ (by rw [List.length_set]; omega)]
  rfl
def lateS (i : Nat) : Bool := !(Nat.beq i 7 || Nat.beq i 11)
def wsS : List (List Nat) := [[], [], [], [], [], [], [4, 5], [6], [], [], [8, 9], [10], [0, 1], [12, 7, 11], [2, 3, 13], [14]]
theorem swap154_c (b cap : Nat) (sp : List Value) (cs : List Cd) (i j : Int) (F : Mem) (h0 : 0 ≤ i) (h1 : i < cs.length) (h2 : 0 ≤ j) (h3 : j < cs.length) :
    HC Try.prog 154 #[.slice (some ⟨b, 0, none⟩) cs.length cap, .int .i64 i, .int .i64 j] (rowC b sp cs :: F) (fun _ M' => M' = rowC b sp (swp cs i j) :: F) := by
  have e1 := codesV_block cs sp i.toNat (by omega)
  have e2 := codesV_block cs sp j.toNat (by omega)
  have e3 := swap_cells cs sp i j h0 h1 h2 h3
  have hl : (codesV cs ++ sp).length = cs.length * 4 + sp.length := by rw [List.length_append, codesV_length]
  refine HC_of_W (fn := Try.f154) Try.func154 rfl rfl rfl rfl ?_
  unfold rowC
  refine W_region_put 14 13 lateS (⟨true, b, 0, putAt (codesV cs ++ sp) (i.toNat * 4) (cs.getD j.toNat Cd.zero).cells⟩ :: F) (by decide) (by decide) Tb.mixed wsS (by kernel_rfl) (by kernel_rfl) (by kernel_rfl) (by kernel_rfl) (by kernel_rfl) (by kernel_rfl) ?_
  simp only [List.take_succ_cons, List.take_zero, List.drop_succ_cons, List.drop_zero]
  unfold wsS
  refine QR_start ?_
  repeat' (first | (refine isQR ?_; first | refine re rfl rfl (Pc rfl) ?_ | refine rl rfl rfl (Pc rfl) ?_ | refine re rfl rfl (Pj rfl (by omega) (by omega)) ?_ | refine rl rfl rfl (Pj rfl (by omega) (by omega)) ?_ | (refine QR_nil ⟨rfl, ?_⟩; simp only [List.reverse_cons, List.reverse_nil, List.nil_append, List.cons_append, somes])))
  refine repure rfl rfl (P_loadAggAt (o := 0) (i := j.toNat * 4) (cs := (cs.getD j.toNat Cd.zero).cells) Tb.a146 Tb.c146 (by decide) rfl rfl (.head _) (by rw [hl]; omega) e2) trivial rfl ?_
  repeat' (first | (refine isQR ?_; first | refine re rfl rfl (Pc rfl) ?_ | refine rl rfl rfl (Pc rfl) ?_ | refine re rfl rfl (Pj rfl (by omega) (by omega)) ?_ | refine rl rfl rfl (Pj rfl (by omega) (by omega)) ?_ | (refine QR_nil ⟨rfl, ?_⟩; simp only [List.reverse_cons, List.reverse_nil, List.nil_append, List.cons_append, somes])))
  refine repure rfl rfl (P_loadAggAt (o := 0) (i := i.toNat * 4) (cs := (cs.getD i.toNat Cd.zero).cells) Tb.a146 Tb.c146 (by decide) rfl rfl (.head _) (by rw [hl]; omega) e1) trivial rfl ?_
  repeat' (first | (refine isQR ?_; first | refine re rfl rfl (Pc rfl) ?_ | refine rl rfl rfl (Pc rfl) ?_ | refine re rfl rfl (Pj rfl (by omega) (by omega)) ?_ | refine rl rfl rfl (Pj rfl (by omega) (by omega)) ?_ | (refine QR_nil ⟨rfl, ?_⟩; simp only [List.reverse_cons, List.reverse_nil, List.nil_append, List.cons_append, somes])))
  refine rput rfl (PutAt_storeAgg (o := 0) (i := i.toNat * 4) (M0 := F) (c := codesV cs ++ sp) (cs := (cs.getD j.toNat Cd.zero).cells) (n := 4) (b := b) Tb.c146 (by decide) rfl rfl rfl (Cd.cells_one _) trivial .head (by rw [hl]; omega)) ?_
  repeat' (first | (refine isQR ?_; first | refine re rfl rfl (Pc rfl) ?_ | refine rl rfl rfl (Pc rfl) ?_ | refine re rfl rfl (Pj rfl (by omega) (by omega)) ?_ | refine rl rfl rfl (Pj rfl (by omega) (by omega)) ?_ | (refine QR_nil ⟨rfl, ?_⟩; simp only [List.reverse_cons, List.reverse_nil, List.nil_append, List.cons_append, somes])))
  repeat' (first | (refine isO ?_; first | refine oo (Pc rfl) ?_ | refine oo (Pa rfl (by omega) (by omega)) ?_ | (refine ob rfl ?_ ?_ <;> intro hq <;> try (exfalso; omega)) | refine oo (Pi rfl (by omega)) ?_ | refine oo (Pl rfl) ?_ | refine oo (Px rfl rfl) ?_ | refine oo (Pj rfl (by omega) (by omega)) ?_ | refine oo (Pk rfl (by omega) (by omega)) ?_ | refine oo (Pf rfl) ?_ | refine oo (Pv rfl (by omega) (by omega)) ?_ | refine oo (Pn rfl) ?_ | refine oo (Pm rfl) ?_ | refine os rfl rfl ?_ | refine ot rfl (by omega) ?_ | refine O_nil ?_) | refine wo rfl ?_ | refine wc rfl ?_ | refine wg rfl ?_ | refine go rfl ?_ | refine gc rfl ?_ | refine gg rfl ?_)
  refine O_storeAgg (o := 0) (i := j.toNat * 4) Tb.c146 (by decide) rfl rfl rfl (Cd.cells_one _) trivial .head (by rw [putAt_length, hl]; omega) ?_
  repeat' (first | (refine isO ?_; first | refine oo (Pc rfl) ?_ | refine oo (Pa rfl (by omega) (by omega)) ?_ | (refine ob rfl ?_ ?_ <;> intro hq <;> try (exfalso; omega)) | refine oo (Pi rfl (by omega)) ?_ | refine oo (Pl rfl) ?_ | refine oo (Px rfl rfl) ?_ | refine oo (Pj rfl (by omega) (by omega)) ?_ | refine oo (Pk rfl (by omega) (by omega)) ?_ | refine oo (Pf rfl) ?_ | refine oo (Pv rfl (by omega) (by omega)) ?_ | refine oo (Pn rfl) ?_ | refine oo (Pm rfl) ?_ | refine os rfl rfl ?_ | refine ot rfl (by omega) ?_ | refine O_nil ?_) | refine wo rfl ?_ | refine wc rfl ?_ | refine wg rfl ?_ | refine go rfl ?_ | refine gc rfl ?_ | refine gg rfl ?_)
  exact G_fin ⟨_, rfl, by rw [e3]⟩

def cntKey (c : Cd) : Nat := c.cnt * 4294967296 + c.sym
theorem less156_c (b cap : Nat) (sp : List Value) (cs : List Cd) (i j : Int) (F : Mem) (hs : ∀ c ∈ cs, c.sym < 4294967296) (h0 : 0 ≤ i) (h1 : i < cs.length) (h2 : 0 ≤ j) (h3 : j < cs.length) :
    HC Try.prog 156 #[.slice (some ⟨b, 0, none⟩) cs.length cap, .int .i64 i, .int .i64 j] (rowC b sp cs :: F)
    (fun v M' => M' = rowC b sp cs :: F ∧ ((v = .bool true ∧ kk cntKey cs i < kk cntKey cs j) ∨ (v = .bool false ∧ kk cntKey cs j ≤ kk cntKey cs i))) := by
  have e1 := codesV_f cs sp i.toNat (by omega)
  have e2 := codesV_f cs sp j.toNat (by omega)
  have e3 := codesV_f1 cs sp i.toNat (by omega)
  have e4 := codesV_f1 cs sp j.toNat (by omega)
  have m1 := hs (cs.getD i.toNat Cd.zero) (by have : i.toNat < cs.length := by omega
                                              simp [this])
  have m2 := hs (cs.getD j.toNat Cd.zero) (by have : j.toNat < cs.length := by omega
                                              simp [this])
  unfold kk rowC cntKey
  generalize (cs.getD i.toNat Cd.zero).sym = x at *
  generalize (cs.getD j.toNat Cd.zero).sym = y at *
  generalize (cs.getD i.toNat Cd.zero).cnt = p at *
  generalize (cs.getD j.toNat Cd.zero).cnt = q at *
  refine HC_of_W (fn := Try.f156) Try.func156 rfl rfl rfl rfl ?_
  repeat' (first | (refine isO ?_; first | refine oo (Pc rfl) ?_ | refine oo (Pa rfl (by omega) (by omega)) ?_ | (refine ob rfl ?_ ?_ <;> intro hq <;> try (exfalso; omega)) | refine oo (Pi rfl (by omega)) ?_ | refine oo (Pl rfl) ?_ | refine oo (Px rfl rfl) ?_ | refine oo (Pj rfl (by omega) (by omega)) ?_ | refine oo (Pk rfl (by omega) (by omega)) ?_ | refine oo (Pf rfl) ?_ | refine oo (Pv rfl (by omega) (by omega)) ?_ | refine oo (Pn rfl) ?_ | refine oo (Pm rfl) ?_ | refine os rfl rfl ?_ | refine ot rfl (by omega) ?_ | refine O_nil ?_) | refine wo rfl ?_ | refine wc rfl ?_ | refine wg rfl ?_ | refine go rfl ?_ | refine gc rfl ?_ | refine gg rfl ?_)
  refine W_region_still Tb.mixed (by kernel_rfl) ?_
  repeat' (first | (refine isS ?_; first | refine ss (Pc rfl) ?_ | refine ss (Pa rfl (by omega) (by omega)) ?_ | (refine sb rfl ?_ ?_ <;> intro hq <;> try (exfalso; omega)) | refine ss (Pi rfl (by omega)) ?_ | refine ss (Pl rfl) ?_ | refine ss (Px rfl rfl) ?_ | refine ss (Pj rfl (by omega) (by omega)) ?_ | refine ss (Pk rfl (by omega) (by omega)) ?_ | refine ss (Pf rfl) ?_ | refine ss (Pv rfl (by omega) (by omega)) ?_ | refine ss (Pn rfl) ?_ | refine ss (Pm rfl) ?_ | refine OS_nil ?_))
  refine OS_pure (P_loadAt (o := 0) (n := i.toNat * 4 + 1) Tb.p40 rfl (by omega) (.head _) e3) trivial rfl ?_
  repeat' (first | (refine isS ?_; first | refine ss (Pc rfl) ?_ | refine ss (Pa rfl (by omega) (by omega)) ?_ | (refine sb rfl ?_ ?_ <;> intro hq <;> try (exfalso; omega)) | refine ss (Pi rfl (by omega)) ?_ | refine ss (Pl rfl) ?_ | refine ss (Px rfl rfl) ?_ | refine ss (Pj rfl (by omega) (by omega)) ?_ | refine ss (Pk rfl (by omega) (by omega)) ?_ | refine ss (Pf rfl) ?_ | refine ss (Pv rfl (by omega) (by omega)) ?_ | refine ss (Pn rfl) ?_ | refine ss (Pm rfl) ?_ | refine OS_nil ?_))
  refine OS_pure (P_loadAt (o := 0) (n := j.toNat * 4 + 1) Tb.p40 rfl (by omega) (.head _) e4) trivial rfl ?_
  repeat' (first | (refine isS ?_; first | refine ss (Pc rfl) ?_ | refine ss (Pa rfl (by omega) (by omega)) ?_ | (refine sb rfl ?_ ?_ <;> intro hq <;> try (exfalso; omega)) | refine ss (Pi rfl (by omega)) ?_ | refine ss (Pl rfl) ?_ | refine ss (Px rfl rfl) ?_ | refine ss (Pj rfl (by omega) (by omega)) ?_ | refine ss (Pk rfl (by omega) (by omega)) ?_ | refine ss (Pf rfl) ?_ | refine ss (Pv rfl (by omega) (by omega)) ?_ | refine ss (Pn rfl) ?_ | refine ss (Pm rfl) ?_ | refine OS_nil ?_))
  · repeat' (first | (refine isO ?_; first | refine oo (Pc rfl) ?_ | refine oo (Pa rfl (by omega) (by omega)) ?_ | (refine ob rfl ?_ ?_ <;> intro hq <;> try (exfalso; omega)) | refine oo (Pi rfl (by omega)) ?_ | refine oo (Pl rfl) ?_ | refine oo (Px rfl rfl) ?_ | refine oo (Pj rfl (by omega) (by omega)) ?_ | refine oo (Pk rfl (by omega) (by omega)) ?_ | refine oo (Pf rfl) ?_ | refine oo (Pv rfl (by omega) (by omega)) ?_ | refine oo (Pn rfl) ?_ | refine oo (Pm rfl) ?_ | refine os rfl rfl ?_ | refine ot rfl (by omega) ?_ | refine O_nil ?_) | refine wo rfl ?_ | refine wc rfl ?_ | refine wg rfl ?_ | refine go rfl ?_ | refine gc rfl ?_ | refine gg rfl ?_)
    exact G_fin ⟨_, rfl, rfl, .inl ⟨rfl, by omega⟩⟩
  refine OS_pure (P_loadAt (o := 0) (n := i.toNat * 4 + 1) Tb.p40 rfl (by omega) (.head _) e3) (by first | exact trivial | exact ⟨_, rfl, rfl⟩) rfl ?_
  repeat' (first | (refine isS ?_; first | refine ss (Pc rfl) ?_ | refine ss (Pa rfl (by omega) (by omega)) ?_ | (refine sb rfl ?_ ?_ <;> intro hq <;> try (exfalso; omega)) | refine ss (Pi rfl (by omega)) ?_ | refine ss (Pl rfl) ?_ | refine ss (Px rfl rfl) ?_ | refine ss (Pj rfl (by omega) (by omega)) ?_ | refine ss (Pk rfl (by omega) (by omega)) ?_ | refine ss (Pf rfl) ?_ | refine ss (Pv rfl (by omega) (by omega)) ?_ | refine ss (Pn rfl) ?_ | refine ss (Pm rfl) ?_ | refine OS_nil ?_))
  refine OS_pure (P_loadAt (o := 0) (n := j.toNat * 4 + 1) Tb.p40 rfl (by omega) (.head _) e4) (by first | exact trivial | exact ⟨_, rfl, rfl⟩) rfl ?_
  repeat' (first | (refine isS ?_; first | refine ss (Pc rfl) ?_ | refine ss (Pa rfl (by omega) (by omega)) ?_ | (refine sb rfl ?_ ?_ <;> intro hq <;> try (exfalso; omega)) | refine ss (Pi rfl (by omega)) ?_ | refine ss (Pl rfl) ?_ | refine ss (Px rfl rfl) ?_ | refine ss (Pj rfl (by omega) (by omega)) ?_ | refine ss (Pk rfl (by omega) (by omega)) ?_ | refine ss (Pf rfl) ?_ | refine ss (Pv rfl (by omega) (by omega)) ?_ | refine ss (Pn rfl) ?_ | refine ss (Pm rfl) ?_ | refine OS_nil ?_))
  · refine OS_pure (P_loadAt (o := 0) (n := i.toNat * 4) Tb.p40 rfl rfl (.head _) e1) (by first | exact trivial | exact ⟨_, rfl, rfl⟩) rfl ?_
    repeat' (first | (refine isS ?_; first | refine ss (Pc rfl) ?_ | refine ss (Pa rfl (by omega) (by omega)) ?_ | (refine sb rfl ?_ ?_ <;> intro hq <;> try (exfalso; omega)) | refine ss (Pi rfl (by omega)) ?_ | refine ss (Pl rfl) ?_ | refine ss (Px rfl rfl) ?_ | refine ss (Pj rfl (by omega) (by omega)) ?_ | refine ss (Pk rfl (by omega) (by omega)) ?_ | refine ss (Pf rfl) ?_ | refine ss (Pv rfl (by omega) (by omega)) ?_ | refine ss (Pn rfl) ?_ | refine ss (Pm rfl) ?_ | refine OS_nil ?_))
    refine OS_pure (P_loadAt (o := 0) (n := j.toNat * 4) Tb.p40 rfl rfl (.head _) e2) (by first | exact trivial | exact ⟨_, rfl, rfl⟩) rfl ?_
    repeat' (first | (refine isS ?_; first | refine ss (Pc rfl) ?_ | refine ss (Pa rfl (by omega) (by omega)) ?_ | (refine sb rfl ?_ ?_ <;> intro hq <;> try (exfalso; omega)) | refine ss (Pi rfl (by omega)) ?_ | refine ss (Pl rfl) ?_ | refine ss (Px rfl rfl) ?_ | refine ss (Pj rfl (by omega) (by omega)) ?_ | refine ss (Pk rfl (by omega) (by omega)) ?_ | refine ss (Pf rfl) ?_ | refine ss (Pv rfl (by omega) (by omega)) ?_ | refine ss (Pn rfl) ?_ | refine ss (Pm rfl) ?_ | refine OS_nil ?_))
    · repeat' (first | (refine isO ?_; first | refine oo (Pc rfl) ?_ | refine oo (Pa rfl (by omega) (by omega)) ?_ | (refine ob rfl ?_ ?_ <;> intro hq <;> try (exfalso; omega)) | refine oo (Pi rfl (by omega)) ?_ | refine oo (Pl rfl) ?_ | refine oo (Px rfl rfl) ?_ | refine oo (Pj rfl (by omega) (by omega)) ?_ | refine oo (Pk rfl (by omega) (by omega)) ?_ | refine oo (Pf rfl) ?_ | refine oo (Pv rfl (by omega) (by omega)) ?_ | refine oo (Pn rfl) ?_ | refine oo (Pm rfl) ?_ | refine os rfl rfl ?_ | refine ot rfl (by omega) ?_ | refine O_nil ?_) | refine wo rfl ?_ | refine wc rfl ?_ | refine wg rfl ?_ | refine go rfl ?_ | refine gc rfl ?_ | refine gg rfl ?_)
      exact G_fin ⟨_, rfl, rfl, .inl ⟨rfl, by omega⟩⟩
    · repeat' (first | (refine isO ?_; first | refine oo (Pc rfl) ?_ | refine oo (Pa rfl (by omega) (by omega)) ?_ | (refine ob rfl ?_ ?_ <;> intro hq <;> try (exfalso; omega)) | refine oo (Pi rfl (by omega)) ?_ | refine oo (Pl rfl) ?_ | refine oo (Px rfl rfl) ?_ | refine oo (Pj rfl (by omega) (by omega)) ?_ | refine oo (Pk rfl (by omega) (by omega)) ?_ | refine oo (Pf rfl) ?_ | refine oo (Pv rfl (by omega) (by omega)) ?_ | refine oo (Pn rfl) ?_ | refine oo (Pm rfl) ?_ | refine os rfl rfl ?_ | refine ot rfl (by omega) ?_ | refine O_nil ?_) | refine wo rfl ?_ | refine wc rfl ?_ | refine wg rfl ?_ | refine go rfl ?_ | refine gc rfl ?_ | refine gg rfl ?_)
      exact G_fin ⟨_, rfl, rfl, .inr ⟨rfl, by omega⟩⟩
  · repeat' (first | (refine isO ?_; first | refine oo (Pc rfl) ?_ | refine oo (Pa rfl (by omega) (by omega)) ?_ | (refine ob rfl ?_ ?_ <;> intro hq <;> try (exfalso; omega)) | refine oo (Pi rfl (by omega)) ?_ | refine oo (Pl rfl) ?_ | refine oo (Px rfl rfl) ?_ | refine oo (Pj rfl (by omega) (by omega)) ?_ | refine oo (Pk rfl (by omega) (by omega)) ?_ | refine oo (Pf rfl) ?_ | refine oo (Pv rfl (by omega) (by omega)) ?_ | refine oo (Pn rfl) ?_ | refine oo (Pm rfl) ?_ | refine os rfl rfl ?_ | refine ot rfl (by omega) ?_ | refine O_nil ?_) | refine wo rfl ?_ | refine wc rfl ?_ | refine wg rfl ?_ | refine go rfl ?_ | refine gc rfl ?_ | refine gg rfl ?_)
    exact G_fin ⟨_, rfl, rfl, .inr ⟨rfl, by omega⟩⟩
theorem swap157_c (b cap : Nat) (sp : List Value) (cs : List Cd) (i j : Int) (F : Mem) (h0 : 0 ≤ i) (h1 : i < cs.length) (h2 : 0 ≤ j) (h3 : j < cs.length) :
    HC Try.prog 157 #[.slice (some ⟨b, 0, none⟩) cs.length cap, .int .i64 i, .int .i64 j] (rowC b sp cs :: F) (fun _ M' => M' = rowC b sp (swp cs i j) :: F) := by
  have e1 := codesV_block cs sp i.toNat (by omega)
  have e2 := codesV_block cs sp j.toNat (by omega)
  have e3 := swap_cells cs sp i j h0 h1 h2 h3
  have hl : (codesV cs ++ sp).length = cs.length * 4 + sp.length := by rw [List.length_append, codesV_length]
  refine HC_of_W (fn := Try.f157) Try.func157 rfl rfl rfl rfl ?_
  unfold rowC
  refine W_region_put 14 13 lateS (⟨true, b, 0, putAt (codesV cs ++ sp) (i.toNat * 4) (cs.getD j.toNat Cd.zero).cells⟩ :: F) (by decide) (by decide) Tb.mixed wsS (by kernel_rfl) (by kernel_rfl) (by kernel_rfl) (by kernel_rfl) (by kernel_rfl) (by kernel_rfl) ?_
  simp only [List.take_succ_cons, List.take_zero, List.drop_succ_cons, List.drop_zero]
  unfold wsS
  refine QR_start ?_
  repeat' (first | (refine isQR ?_; first | refine re rfl rfl (Pc rfl) ?_ | refine rl rfl rfl (Pc rfl) ?_ | refine re rfl rfl (Pj rfl (by omega) (by omega)) ?_ | refine rl rfl rfl (Pj rfl (by omega) (by omega)) ?_ | (refine QR_nil ⟨rfl, ?_⟩; simp only [List.reverse_cons, List.reverse_nil, List.nil_append, List.cons_append, somes])))
  refine repure rfl rfl (P_loadAggAt (o := 0) (i := j.toNat * 4) (cs := (cs.getD j.toNat Cd.zero).cells) Tb.a146 Tb.c146 (by decide) rfl rfl (.head _) (by rw [hl]; omega) e2) trivial rfl ?_
  repeat' (first | (refine isQR ?_; first | refine re rfl rfl (Pc rfl) ?_ | refine rl rfl rfl (Pc rfl) ?_ | refine re rfl rfl (Pj rfl (by omega) (by omega)) ?_ | refine rl rfl rfl (Pj rfl (by omega) (by omega)) ?_ | (refine QR_nil ⟨rfl, ?_⟩; simp only [List.reverse_cons, List.reverse_nil, List.nil_append, List.cons_append, somes])))
  refine repure rfl rfl (P_loadAggAt (o := 0) (i := i.toNat * 4) (cs := (cs.getD i.toNat Cd.zero).cells) Tb.a146 Tb.c146 (by decide) rfl rfl (.head _) (by rw [hl]; omega) e1) trivial rfl ?_
  repeat' (first | (refine isQR ?_; first | refine re rfl rfl (Pc rfl) ?_ | refine rl rfl rfl (Pc rfl) ?_ | refine re rfl rfl (Pj rfl (by omega) (by omega)) ?_ | refine rl rfl rfl (Pj rfl (by omega) (by omega)) ?_ | (refine QR_nil ⟨rfl, ?_⟩; simp only [List.reverse_cons, List.reverse_nil, List.nil_append, List.cons_append, somes])))
  refine rput rfl (PutAt_storeAgg (o := 0) (i := i.toNat * 4) (M0 := F) (c := codesV cs ++ sp) (cs := (cs.getD j.toNat Cd.zero).cells) (n := 4) (b := b) Tb.c146 (by decide) rfl rfl rfl (Cd.cells_one _) trivial .head (by rw [hl]; omega)) ?_
  repeat' (first | (refine isQR ?_; first | refine re rfl rfl (Pc rfl) ?_ | refine rl rfl rfl (Pc rfl) ?_ | refine re rfl rfl (Pj rfl (by omega) (by omega)) ?_ | refine rl rfl rfl (Pj rfl (by omega) (by omega)) ?_ | (refine QR_nil ⟨rfl, ?_⟩; simp only [List.reverse_cons, List.reverse_nil, List.nil_append, List.cons_append, somes])))
  repeat' (first | (refine isO ?_; first | refine oo (Pc rfl) ?_ | refine oo (Pa rfl (by omega) (by omega)) ?_ | (refine ob rfl ?_ ?_ <;> intro hq <;> try (exfalso; omega)) | refine oo (Pi rfl (by omega)) ?_ | refine oo (Pl rfl) ?_ | refine oo (Px rfl rfl) ?_ | refine oo (Pj rfl (by omega) (by omega)) ?_ | refine oo (Pk rfl (by omega) (by omega)) ?_ | refine oo (Pf rfl) ?_ | refine oo (Pv rfl (by omega) (by omega)) ?_ | refine oo (Pn rfl) ?_ | refine oo (Pm rfl) ?_ | refine os rfl rfl ?_ | refine ot rfl (by omega) ?_ | refine O_nil ?_) | refine wo rfl ?_ | refine wc rfl ?_ | refine wg rfl ?_ | refine go rfl ?_ | refine gc rfl ?_ | refine gg rfl ?_)
  refine O_storeAgg (o := 0) (i := j.toNat * 4) Tb.c146 (by decide) rfl rfl rfl (Cd.cells_one _) trivial .head (by rw [putAt_length, hl]; omega) ?_
  repeat' (first | (refine isO ?_; first | refine oo (Pc rfl) ?_ | refine oo (Pa rfl (by omega) (by omega)) ?_ | (refine ob rfl ?_ ?_ <;> intro hq <;> try (exfalso; omega)) | refine oo (Pi rfl (by omega)) ?_ | refine oo (Pl rfl) ?_ | refine oo (Px rfl rfl) ?_ | refine oo (Pj rfl (by omega) (by omega)) ?_ | refine oo (Pk rfl (by omega) (by omega)) ?_ | refine oo (Pf rfl) ?_ | refine oo (Pv rfl (by omega) (by omega)) ?_ | refine oo (Pn rfl) ?_ | refine oo (Pm rfl) ?_ | refine os rfl rfl ?_ | refine ot rfl (by omega) ?_ | refine O_nil ?_) | refine wo rfl ?_ | refine wc rfl ?_ | refine wg rfl ?_ | refine go rfl ?_ | refine gc rfl ?_ | refine gg rfl ?_)
  exact G_fin ⟨_, rfl, by rw [e3]⟩

def datSym (b cap : Nat) (sp : List Value) (l0 : List Cd) (hn : l0.length ≤ 100) : Dat (.iface 153 (.slice (some ⟨b, 0, none⟩) l0.length cap)) l0 Cd.sym (rowC b sp) where
  fN := 152
  fL := 153
  fS := 154
  w := .slice (some ⟨b, 0, none⟩) l0.length cap
  mN := meth152 _
  mL := meth153 _
  mS := meth154 _
  len := len152_c _ _ _
  less := fun cs i j F hp h0 h1 h2 h3 => by
    have e := hp.length_eq
    rw [← e] at h1 h3 ⊢
    exact less153_c b cap sp cs i j F h0 h1 h2 h3
  swap := fun cs i j F hp h0 h1 h2 h3 => by
    have e := hp.length_eq
    rw [← e] at h1 h3 ⊢
    exact swap154_c b cap sp cs i j F h0 h1 h2 h3
  most := hn
def datCnt (b cap : Nat) (sp : List Value) (l0 : List Cd) (hn : l0.length ≤ 100) (hs : ∀ c ∈ l0, c.sym < 4294967296) : Dat (.iface 160 (.slice (some ⟨b, 0, none⟩) l0.length cap)) l0 cntKey (rowC b sp) where
  fN := 155
  fL := 156
  fS := 157
  w := .slice (some ⟨b, 0, none⟩) l0.length cap
  mN := meth155 _
  mL := meth156 _
  mS := meth157 _
  len := len155_c _ _ _
  less := fun cs i j F hp h0 h1 h2 h3 => by
    have e := hp.length_eq
    rw [← e] at h1 h3 ⊢
    exact less156_c b cap sp cs i j F (fun c hc => hs c (hp.mem_iff.1 hc)) h0 h1 h2 h3
  swap := fun cs i j F hp h0 h1 h2 h3 => by
    have e := hp.length_eq
    rw [← e] at h1 h3 ⊢
    exact swap157_c b cap sp cs i j F h0 h1 h2 h3
  most := hn
end Go.Proofs.Ytjkpfliaflmppaa.Pc
