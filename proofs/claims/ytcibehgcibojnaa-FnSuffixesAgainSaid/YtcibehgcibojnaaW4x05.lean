/- Drawn regions: operations in any order up to place n, a forced chain from there on. No condition. Bytes turned to strings. No condition. Drawn regions: operations that only read, a store among them (at c), and a forced chain from n on. No condition. Pointers held against nil. No condition. Calls that may panic: contracts with both endings; an index that is out of range. No condition. Paths that meet again; append in place. No condition. Drawn regions with two operations that make memory (the second one waits for the first), and a forced chain behind; making a slice as the one such operation. No condition. append to a slice that does not begin where its block does, where there is no room; max. No condition. -/
import Derived.Test.YtcibehgcibojnaaW4x04

namespace Go.Proofs.Ytcibehgcibojnaa.Vm
open Go Go.RowKit
def chainB (ws : List (List Nat)) (n len : Nat) : Bool := (List.range len).all fun j => !Nat.blt n j || (ws.getD j []).any fun x => Nat.beq x (j - 1)
def canonL (n : Nat) : Nat → List Bool
  | 0 => []
  | m + 1 => canonL n m ++ [Nat.blt m n]
def canonA (n len : Nat) : Array Bool := (canonL n len).toArray
theorem canonL_length (n : Nat) : ∀ m, (canonL n m).length = m
  | 0 => rfl
  | m + 1 => by simp [canonL, canonL_length n m]
theorem canonL_get (n : Nat) : ∀ m i, i < m → (canonL n m)[i]? = some (Nat.blt i n)
  | m + 1, i, h => by
    simp only [canonL]
    by_cases hi : i < m
    · rw [List.getElem?_append_left (by rw [canonL_length]; exact hi)]; exact canonL_get n m i hi
    · obtain rfl : i = m := by omega
      rw [List.getElem?_append_right (by rw [canonL_length]; omega), canonL_length]; simp
theorem left_canon {listed : Array Bool} {n : Nat} (h1 : ∀ i, i < n → listed.getD i true = true) : ∀ m, (∀ j, n ≤ j → j < m → listed.getD j true = false) → left listed m = m - n
  | 0, _ => by simp [left]
  | m + 1, h2 => by
    simp only [left]
    rw [left_canon h1 m (fun j hj hm => h2 j hj (by omega))]
    by_cases hm : m < n
    · rw [if_pos (h1 m hm)]; omega
    · have := h2 m (by omega) (by omega)
      rw [this]; simp; omega
section
variable {P : Program} {N : Fm} {Fin : Post} {k : List Kn} {l : List Oper}
theorem OA_pre (n : Nat) (hn : n < l.length) (ws : List (List Nat)) (hw : ((List.range l.length).all fun i => (ws.getD i []).all fun j => Region.waitsFor .any l.toArray i j) = true)
    (hac : earlierB l.toArray = true) (hcov : covB ws n = true) (hchain : chainB ws n l.length = true) (hseq : Region.seqB .any l.toArray (l.drop n).length n (canonA n l.length) = true)
    (I : (Nat → Bool) → Env → Mem → Prop)
    (hstep : ∀ i, i < n → ∀ (done : Nat → Bool) E M, I done E M → done i = false → (∀ j ∈ ws.getD i [], done j = true) →
      WO false P N (fun e E2 M2 => e = .normal ∧ I (fun j => if j = i then true else done j) E2 M2) l ((l.drop i).take 1) [] E M)
    (hend : ∀ (done : Nat → Bool) E M, I done E M → (∀ i, i < n → done i = true) → ∃ E2 M2, Le E E2 ∧ Rk M M2 ∧ WO false P N Fin l (l.drop n) k E2 M2) :
    ∀ f listed E M, listed.size = l.length → left listed l.length = f → (∀ j, n ≤ j → listed.getD j false = false) → (∀ i, listed.getD i false = true → ∀ j ∈ ws.getD i [], listed.getD j false = true) →
      I (fun j => listed.getD j false) E M → OA P N Fin k l f listed E M := by
  have both : ∀ {listed : Array Bool} {i : Nat}, listed.size = l.length → i < l.length → listed.getD i true = listed.getD i false := by
    intro listed i hs hi; simp [show i < listed.size by omega]
  have hfin : ∀ f listed E M, listed.size = l.length → left listed l.length = f → (∀ j, n ≤ j → listed.getD j false = false) → (∀ i, i < n → listed.getD i false = true) → I (fun j => listed.getD j false) E M → OA P N Fin k l f listed E M := by
    intro f listed E M hsz hf hno hall hI
    obtain ⟨E2, M2, q1, q2, q3⟩ := hend _ E M hI hall
    have hl : listed = canonA n l.length := by
      apply Array.ext
      · simp [canonA, canonL_length, hsz]
      · intro i h1 h2
        have e1 : listed[i] = listed.getD i false := by simp [h1]
        have e2 : (canonA n l.length)[i] = Nat.blt i n := by
          have := canonL_get n l.length i (by omega)
          simp only [canonA, List.getElem_toArray]
          exact (List.getElem?_eq_some_iff.1 this).2
        rw [e1, e2]
        by_cases hi : i < n
        · rw [hall i hi]; simpa [Nat.blt_eq] using hi
        · rw [hno i (by omega)]
          cases hb : Nat.blt i n with
          | false => rfl
          | true => exact absurd (by simpa [Nat.blt_eq] using hb) hi
    have hlf : (l.drop n).length = f := by
      rw [List.length_drop, ← hf]
      exact (left_canon (fun i hi => by rw [both hsz (by omega)]; exact hall i hi) l.length (fun j hj hm => by rw [both hsz hm]; exact hno j hj)).symm
    subst hl
    refine OA_seq n hseq hlf ?_
    exact ⟨⟨fun base w0 a w hA hS => q3.out.out base w0 a w (q1.ag hA) (hS.rk q2)⟩⟩
  intro f
  induction f with
  | zero =>
    intro listed E M hsz hf hno hcl hI
    refine hfin 0 listed E M hsz hf hno (fun i hi => ?_) hI
    cases hl : listed.getD i true with
    | true => rw [both hsz (by omega)] at hl; exact hl
    | false =>
      have := left_set hl (by omega) l.length (by omega)
      omega
  | succ f ih =>
    intro listed E M hsz hf hno hcl hI
    by_cases hall : ∀ i, i < n → listed.getD i false = true
    · exact hfin _ listed E M hsz hf hno hall hI
    refine ⟨fun base w0 a w hA hS => ⟨fun hr => ?_, fun i hi => ?_⟩⟩
    · exfalso
      exact hall fun i hi => by rw [← both hsz (by omega)]; exact none_left hac (by simpa using hsz) hr i (by simp; omega)
    · obtain ⟨h1, o, ho, hdep⟩ := mem_ready.1 hi
      have hil : i < l.length := by have := (Array.getElem?_eq_some_iff.1 ho).1; simpa using this
      have his : i < listed.size := by omega
      have hdo : listed.getD i false = false := getD_both h1
      have hws : ∀ j ∈ ws.getD i [], listed.getD j false = true := by
        intro j hj
        have h2 := List.all_eq_true.1 (List.all_eq_true.1 hw i (List.mem_range.2 hil)) j hj
        obtain ⟨o', ho', e, he, hb, hon⟩ := Region.waitsFor_spec h2
        obtain rfl : o' = o := Option.some.inj (ho'.symm.trans ho)
        rw [← hon]
        exact hdep e he hb
      have hin : i < n := by
        rcases Nat.lt_trichotomy i n with h | h | h
        · exact h
        · exfalso
          subst h
          exact hall fun j hj => cov_all hcov hcl hws i j (by omega) hj
        · exfalso
          have h3 := List.all_eq_true.1 hchain i (List.mem_range.2 hil)
          have h4 : Nat.blt n i = true := by simpa [Nat.blt_eq] using h
          rw [h4] at h3
          simp only [Bool.not_true, Bool.false_or] at h3
          obtain ⟨x, hx, h5⟩ := List.any_eq_true.1 h3
          have := Nat.eq_of_beq_eq_true h5
          subst this
          have h6 := hws _ hx
          rw [hno (i - 1) (by omega)] at h6
          cases h6
      have h := hstep i hin _ E M hI hdo hws
      have h1' := h.out.out base w0 a w hA hS
      have hone : (l.drop i).take 1 = [l[i]] := by rw [List.drop_eq_getElem_cons hil]; rfl
      rw [hone] at h1'
      unfold wpOp
      rw [show l.toArray[i]? = some l[i] by simp [hil]]
      have key : ∀ a2 w2, wpList P l.toArray (Lift false base N w0 (post false P N (fun e E2 M2 => e = .normal ∧ I (fun j => if j = i then true else listed.getD j false) E2 M2) [])) [] a2 w2 →
          wpAny P .any l.toArray (Lift false base N w0 (post false P N Fin k)) f (listed.setIfInBounds i true) a2 w2 := by
        intro a2 w2 h2
        obtain ⟨E2, M2, hA2, hS2, _, hI2⟩ := h2
        have e2 : (fun j => (listed.setIfInBounds i true).getD j false) = fun j => if j = i then true else listed.getD j false := by
          funext j
          by_cases hij : i = j
          · subst hij; simp [his]
          · rw [getD_set_ne false hij, if_neg (Ne.symm hij)]
        have e3 : ∀ j, (listed.setIfInBounds i true).getD j false = if j = i then true else listed.getD j false := fun j => congrFun e2 j
        refine (ih (listed.setIfInBounds i true) E2 M2 (by simpa using hsz) (by have := left_set h1 his l.length hil; omega) (fun j hj => ?_) (fun i' hi' j hj => ?_) ?_).out base w0 a2 w2 hA2 hS2
        · rw [e3, if_neg (by omega)]; exact hno j hj
        · rw [e3] at hi' ⊢
          by_cases hji : j = i
          · rw [if_pos hji]
          · rw [if_neg hji]
            by_cases hii : i' = i
            · subst hii; exact hws j hj
            · rw [if_neg hii] at hi'; exact hcl i' hi' j hj
        · rw [e2]; exact hI2
      unfold wpList at h1'
      have hnn : ∀ e a w, e ≠ .normal → ¬ Lift false base N w0 (post false P N (fun e E2 M2 => e = .normal ∧ I (fun j => if j = i then true else listed.getD j false) E2 M2) []) e a w := by
        rintro e a w hne ⟨E2, M2, _, _, h3, _⟩
        exact hne h3
      dsimp only
      split
      · rename_i hw'
        rw [if_pos hw'] at h1'
        rcases h1' with h1' | ⟨_, a2, w2, h2⟩
        · exact .inl (wp_other key hnn h1')
        · exact absurd h2 (hnn _ _ _ (by simp))
      · rename_i hw'
        rw [if_neg hw'] at h1'
        exact key _ _ h1'
end
end Go.Proofs.Ytcibehgcibojnaa.Vm

namespace Go.Proofs.Ytcibehgcibojnaa.Vm
open Go Go.RowKit
theorem b2s {P : Program} {w : World} (f : Value → ByteArray → Sem (ForInStep ByteArray)) (hf : ∀ (y : Int) s, f (.int .u8 y) s = pure (.yield (s.push (UInt8.ofNat y.toNat)))) (ys : List Int) (s0 : ByteArray) :
    (forIn (ints .u8 ys) s0 f).run P w = .ok (ys.foldl (fun s y => s.push (UInt8.ofNat y.toNat)) s0) w := by
  induction ys generalizing s0 with
  | nil => simp [ints]
  | cons y ys ih =>
    simp only [ints, List.map_cons, List.forIn_cons, List.foldl_cons, hf] at ih ⊢
    have h := ih (s0.push (UInt8.ofNat y.toNat))
    simpa using h
theorem run_b2s {a : Addr} {n c : Nat} {ys : List Int} {P : Program} {w : World} (h : (loadCells a n).run P w = .ok (ints .u8 ys).toArray w) :
    (Conv.bytesToString (.slice (some a) n c)).run P w = .ok (.string (ys.foldl (fun s y => s.push (UInt8.ofNat y.toNat)) ByteArray.empty)) w := by
  unfold Conv.bytesToString
  simp [h]
  rw [b2s _ (fun y s => rfl)]
  simp
end Go.Proofs.Ytcibehgcibojnaa.Vm

namespace Go.Proofs.Ytcibehgcibojnaa.Vm
open Go Go.RowKit
structure PutAt (P : Program) (N : Fm) (l : List Oper) (E : Env) (M M1 : Mem) (o : Oper) : Prop where
  out : ∀ base w0 a w, Ag N E a → Sim false base w0 w M → ∀ F : Exit → Act → World → Prop, (∀ w', Sim false base w0 w' M1 → F .normal a w') → wpList P l.toArray F [o] a w
def QPd (P : Program) (N : Fm) (l : List Oper) (E : Env) (M M1 : Mem) (late : Nat → Bool) (c : Nat) (K : UEnv → Prop) : Nat → UEnv → List (List Nat) → List Oper → Prop
  | _, done, _, [] => K done
  | i, done, ws, o :: rest =>
    if i = c then PutAt P N l (pick done (ws.headD []) ++ E) M M1 o ∧ QPd P N l E M M1 late c K (i + 1) (done ++ [none]) ws.tail rest
    else ∃ e v, PS P N l (pick done (ws.headD []) ++ E) (bif late i then [] else M) o e v ∧ QPd P N l E M M1 late c K (i + 1) (done ++ [some (e, v)]) ws.tail rest
structure QP (P : Program) (N : Fm) (l : List Oper) (E : Env) (M M1 : Mem) (late : Nat → Bool) (c : Nat) (K : UEnv → Prop) (i : Nat) (done : UEnv) (ws : List (List Nat)) (rest : List Oper) : Prop where
  out : QPd P N l E M M1 late c K i done ws rest
section
variable {P : Program} {N : Fm} {Fin : Post} {k : List Kn} {E : Env} {M M1 : Mem} {l : List Oper} {late : Nat → Bool} {c : Nat} {K : UEnv → Prop} {i : Nat} {done : UEnv} {w : List Nat} {ws : List (List Nat)} {o : Oper} {rest : List Oper} {e : Nat} {v : Value}
theorem pl (hi : Nat.beq i c = false) (hl : late i = true) (h : PS P N l (pick done w ++ E) [] o e v) (h2 : QP P N l E M M1 late c K (i + 1) (done ++ [some (e, v)]) ws rest) : QP P N l E M M1 late c K i done (w :: ws) (o :: rest) := by
  have hne : i ≠ c := fun e => by subst e; rw [Nat.beq_refl] at hi; cases hi
  refine ⟨?_⟩
  unfold QPd
  rw [if_neg hne]
  exact ⟨e, v, by rw [hl]; exact h, h2.out⟩
structure QR (P : Program) (N : Fm) (l : List Oper) (E : Env) (M M1 : Mem) (late : Nat → Bool) (c : Nat) (K : UEnv → Prop) (i : Nat) (done : UEnv) (ws : List (List Nat)) (rest : List Oper) : Prop where
  out : done.length = i → QP P N l E M M1 late c K i done.reverse ws rest
end
end Go.Proofs.Ytcibehgcibojnaa.Vm

namespace Go.Proofs.Ytcibehgcibojnaa.Vm
open Go Go.RowKit
end Go.Proofs.Ytcibehgcibojnaa.Vm

namespace Go.Proofs.Ytcibehgcibojnaa.Vm
open Go Go.RowKit
structure HX (P : Program) (f : FuncId) (args : Array Value) (M : Mem) (R : Value → Mem → Prop) (X : Mem → Prop) : Prop where
  out : ∀ base w0 w, Sim false base w0 w M → Calls P f args w fun e w' => (∃ v M', e = .returned v ∧ Sim false base w0 w' M' ∧ R v M') ∨ (∃ t x M', e = .panicked [{ v := .iface t x, recovered := false }] ∧ Sim false base w0 w' M' ∧ X M')
def EndsX (rs : List ResultVar) (R : Value → Mem → Prop) (X : Mem → Prop) : Post
  | .normal, E, M | .ret, E, M => ∃ v, resOf E rs = some v ∧ R v M
  | .panic ch, _, M => (∃ t x, ch = [{ v := .iface t x, recovered := false }]) ∧ X M
  | _, _, _ => False
section
variable {P : Program} {N : Fm} {Fin : Post} {k : List Kn} {E : Env} {M : Mem}
variable {ops : List Oper} {rest : List Oper} {d : Nat} {op : Op} {ty : TypeId} {pos : String} {after : Array Edge} {g : Option (Nat × Bool)} {v : Value}
theorem HX_of_HC {f : FuncId} {args : Array Value} {R : Value → Mem → Prop} {X : Mem → Prop} (h : HC P f args M R) : HX P f args M R X :=
  ⟨fun base w0 w hS => (h.out base w0 w hS).mono fun _ _ h => .inl h⟩
theorem HX.mono {f : FuncId} {args : Array Value} {R R' : Value → Mem → Prop} {X X' : Mem → Prop} (h : HX P f args M R X) (hr : ∀ v M', R v M' → R' v M') (hx : ∀ M', X M' → X' M') : HX P f args M R' X' :=
  ⟨fun base w0 w hS => (h.out base w0 w hS).mono fun _ _ h => h.imp (fun ⟨v, M', h1, h2, h3⟩ => ⟨v, M', h1, h2, hr _ _ h3⟩) fun ⟨t, x, M', h1, h2, h3⟩ => ⟨t, x, M', h1, h2, hx _ h3⟩⟩
theorem HX.take {f : FuncId} {args : Array Value} {R : Value → Mem → Prop} {X : Mem → Prop} {L : Mem} (ht : Rk M L) (h : HX P f args L R X) : HX P f args M R X :=
  ⟨fun base w0 w hS => h.out base w0 w (hS.rk ht)⟩
theorem HX_of_W {f : FuncId} {fn : Func} {c : Code} {vs : List Value} {R : Value → Mem → Prop} {X : Mem → Prop} {rs : List ResultVar} {n : Nat} (hf : P.funcs[f]? = some fn) (hb : fn.body = some c) (hN : fn.ntmps = n)
    (hrs : fn.results.toList = rs) (hs : Nat.ble vs.length n = true) (h : W false P ⟨n, []⟩ (EndsX rs R X) c [] (zipEnv 0 vs) M) : HX P f vs.toArray M R X := by
  constructor
  intro base w0 w hS
  have hle : vs.length ≤ n := by simpa using hs
  refine calls_of_wp hf hb (wp_mono (h.out.out base w0 _ w ⟨rfl, by simp [hN]; omega, fun i v hv => ?_⟩ hS) ?_)
  · obtain ⟨h1, h2⟩ := zipEnv_get vs 0 i v hv
    simp only [Nat.sub_zero] at h2
    have hi : i < vs.length := by
      rcases Nat.lt_or_ge i vs.length with h | h
      · exact h
      · simp [List.getElem?_eq_none h] at h2
    rw [Array.getElem?_append_left (by simpa using hi)]
    simpa using h2
  · intro e a w' ⟨E', M', hA', hS', hq⟩
    cases e with
    | normal =>
      obtain ⟨v, hv, hR⟩ := hq
      exact ⟨hA'.defers, v, run_results hA' (by rw [hrs]; exact hv), .inl ⟨v, M', rfl, hS', hR⟩⟩
    | ret =>
      obtain ⟨v, hv, hR⟩ := hq
      exact ⟨hA'.defers, v, run_results hA' (by rw [hrs]; exact hv), .inl ⟨v, M', rfl, hS', hR⟩⟩
    | panic ch =>
      obtain ⟨⟨t, x, rfl⟩, hX⟩ := hq
      exact ⟨hA'.defers, .inr ⟨t, x, M', rfl, hS', hX⟩⟩
    | _ => exact hq.elim
theorem post_pan {ch : List PanicEntry} : ∀ (k : List Kn), Fin (.panic ch) E M → post false P N Fin k (.panic ch) E M
  | [], h => h
  | .code _ :: k, h => post_pan k h
  | .blk _ :: k, h => post_pan k h
  | .stop _ :: k, h => post_pan k h
theorem O_callX {c : Operand} {xs : List Operand} {ts : Array TypeId} {f : FuncId} {first captured : Array Value} {vs : List Value} {R : Value → Mem → Prop} {X : Mem → Prop}
    (hc : ev E c = some (.func (.func f) first captured)) (hx : evs E xs = some vs) (hf : Callable P f) (hg : On E ops g) (hd : Nat.blt d N.n = true)
    (hR : HX P f (first ++ vs.toArray ++ captured) M R X) (h : ∀ v M', R v M' → WO false P N Fin ops rest k ((d, v) :: E) M') (hp : ∀ t x M', X M' → Fin (.panic [{ v := .iface t x, recovered := false }]) E M') :
    WO false P N Fin ops (⟨some d, .call { callee := .value c, args := xs.toArray, argTypes := ts }, ty, pos, after, g⟩ :: rest) k E M := by
  refine ⟨⟨fun base w0 a w hA hS => ?_⟩⟩
  unfold wpList
  rw [if_pos (On.wanted (o := ⟨some d, .call { callee := .value c, args := xs.toArray, argTypes := ts }, ty, pos, after, g⟩) hg hA)]
  refine .inl ?_
  unfold Oper.wp
  have hr : (execOp a.eval ⟨some d, .call { callee := .value c, args := xs.toArray, argTypes := ts }, ty, pos, after, g⟩).run P w = .ok (.enter f (first ++ vs.toArray ++ captured)) w := by
    have e : xs.toArray.map a.eval = vs.toArray := by simp [hA.evals hx]
    simp [execOp, resolve, e, hA.eval hc, Deferred.ofValue, invoke, run_callFunc hf]
  rw [hr]
  refine (hR.out base w0 w hS).mono fun e w' he => ?_
  rcases he with ⟨v, M', rfl, hS', hv⟩ | ⟨t, x, M', rfl, hS', hX⟩
  · exact (h v M' hv).out.out base w0 _ w' (hA.put hd v) hS'
  · exact ⟨E, M', hA, hS', post_pan k (hp t x M' hX)⟩
end
end Go.Proofs.Ytcibehgcibojnaa.Vm

namespace Go.Proofs.Ytcibehgcibojnaa.Vm
open Go Go.RowKit
section
variable {pr : Bool} {P : Program} {N : Fm} {Fin : Post} {k : List Kn} {E : Env} {M : Mem}
variable {ops : List Oper} {rest : List Oper} {d : Nat} {op : Op} {ty : TypeId} {pos : String} {after : Array Edge} {g : Option (Nat × Bool)} {v : Value}
end
end Go.Proofs.Ytcibehgcibojnaa.Vm

namespace Go.Proofs.Ytcibehgcibojnaa.Vm
open Go Go.RowKit
theorem ev_le {E' A : Env} (h : Le E' A) {x : Operand} {v : Value} (hx : ev A x = some v) : ev E' x = some v := by
  cases x with
  | tmp t => exact h t v hx
  | _ => exact hx
theorem evps_le {E' A : Env} (h : Le E' A) : ∀ {xs : List (Nat × Operand)} {vs : List (Nat × Value)}, evps A xs = some vs → evps E' xs = some vs
  | [], _, hx => hx
  | (i, x) :: xs, vs, hx => by
    simp only [evps] at hx ⊢
    cases h1 : ev A x with
    | none => rw [h1] at hx; cases hx
    | some v =>
      cases h2 : evps A xs with
      | none => rw [h1, h2] at hx; cases hx
      | some us =>
        rw [h1, h2] at hx
        rw [ev_le h h1, evps_le h h2]
        exact hx
theorem On_le {E' A : Env} (h : Le E' A) {l : List Oper} {g : Option (Nat × Bool)} (hg : On A l g) : On E' l g := by
  cases g with
  | none => trivial
  | some p => obtain ⟨d, h1, h2⟩ := hg; exact ⟨d, h1, h _ _ h2⟩
structure SpAt (P : Program) (N : Fm) (l : List Oper) (A : Env) (M : Mem) (o : Oper) (d : Nat) (R : Value → Mem → Prop) : Prop where
  out : ∀ E' M', Le E' A → Rk M' M → WO false P N (fun e E2 M2 => e = .normal ∧ ∃ v M3, E2 = (d, v) :: E' ∧ R v M3 ∧ Rk M2 M3) l [o] [] E' M'
def QEd (P : Program) (N : Fm) (l : List Oper) (E : Env) (M : Mem) (c1 d1 : Nat) (R1 : Value → Mem → Prop) (c2 d2 : Nat) (R2 : Value → Value → Mem → Prop) (K : UEnv → Prop) : Nat → UEnv → List (List Nat) → List Oper → Prop
  | _, done, _, [] => K done
  | i, done, ws, o :: rest =>
    if i = c1 then SpAt P N l (pick done (ws.headD []) ++ E) M o d1 R1 ∧ QEd P N l E M c1 d1 R1 c2 d2 R2 K (i + 1) (done ++ [none]) ws.tail rest
    else if i = c2 then (∀ v M2, R1 v M2 → SpAt P N l ((d1, v) :: (pick done (ws.headD []) ++ E)) M2 o d2 (R2 v)) ∧ QEd P N l E M c1 d1 R1 c2 d2 R2 K (i + 1) (done ++ [none]) ws.tail rest
    else ∃ e v, PS P N l (pick done (ws.headD []) ++ E) M o e v ∧ QEd P N l E M c1 d1 R1 c2 d2 R2 K (i + 1) (done ++ [some (e, v)]) ws.tail rest
structure QE (P : Program) (N : Fm) (l : List Oper) (E : Env) (M : Mem) (c1 d1 : Nat) (R1 : Value → Mem → Prop) (c2 d2 : Nat) (R2 : Value → Value → Mem → Prop) (K : UEnv → Prop) (i : Nat) (done : UEnv) (ws : List (List Nat)) (rest : List Oper) : Prop where
  out : done.length = i → QEd P N l E M c1 d1 R1 c2 d2 R2 K i done.reverse ws rest
section
variable {P : Program} {N : Fm} {Fin : Post} {k : List Kn} {E : Env} {M : Mem} {l : List Oper} {c1 d1 c2 d2 : Nat} {R1 : Value → Mem → Prop} {R2 : Value → Value → Mem → Prop} {K : UEnv → Prop} {i : Nat} {done : UEnv} {w : List Nat} {ws : List (List Nat)} {o : Oper} {rest : List Oper} {e : Nat} {v : Value}
theorem isQE (h : QE P N l E M c1 d1 R1 c2 d2 R2 K i done ws rest) : QE P N l E M c1 d1 R1 c2 d2 R2 K i done ws rest := h
theorem QE_nil (h : K done.reverse) : QE P N l E M c1 d1 R1 c2 d2 R2 K i done ws [] := ⟨fun _ => h⟩
theorem hh (hi : Nat.beq i c1 = false) (hi2 : Nat.beq i c2 = false) (h : PS P N l (pickR i done w ++ E) M o e v) (h2 : QE P N l E M c1 d1 R1 c2 d2 R2 K (i + 1) (some (e, v) :: done) ws rest) : QE P N l E M c1 d1 R1 c2 d2 R2 K i done (w :: ws) (o :: rest) := by
  have hne : i ≠ c1 := fun e => by subst e; rw [Nat.beq_refl] at hi; cases hi
  have hne2 : i ≠ c2 := fun e => by subst e; rw [Nat.beq_refl] at hi2; cases hi2
  refine ⟨fun hl => ?_⟩
  unfold QEd
  rw [if_neg hne, if_neg hne2]
  rw [pickR_eq hl] at h
  have := h2.out (by simp [hl])
  rw [List.reverse_cons] at this
  exact ⟨e, v, h, this⟩
theorem hb {b : BinOp} {kd : IntKind} {p q : Int} {A B : Prop} (hi : Nat.beq i c1 = false) (hi2 : Nat.beq i c2 = false) (h : bin2 N.n l (pickR i done w ++ E) o = some (e, b, kd, p, kd, q)) [hy : YesI b p q A B]
    (h1 : A → QE P N l E M c1 d1 R1 c2 d2 R2 K (i + 1) (some (e, .bool true) :: done) ws rest) (h2 : B → QE P N l E M c1 d1 R1 c2 d2 R2 K (i + 1) (some (e, .bool false) :: done) ws rest) : QE P N l E M c1 d1 R1 c2 d2 R2 K i done (w :: ws) (o :: rest) := by
  obtain ⟨r, hr, hA, hB⟩ := hy.out
  have := ps_cmp (P := P) (M := M) h hr
  cases r
  · exact hh hi hi2 this (h2 (hB rfl))
  · exact hh hi hi2 this (h1 (hA rfl))
theorem hsp1 (hi : i = c1) (h : SpAt P N l (pickR i done w ++ E) M o d1 R1) (h2 : QE P N l E M c1 d1 R1 c2 d2 R2 K (i + 1) (none :: done) ws rest) : QE P N l E M c1 d1 R1 c2 d2 R2 K i done (w :: ws) (o :: rest) := by
  subst hi
  refine ⟨fun hl => ?_⟩
  unfold QEd
  rw [if_pos rfl]
  rw [pickR_eq hl] at h
  have := h2.out (by simp [hl])
  rw [List.reverse_cons] at this
  exact ⟨h, this⟩
theorem hsp2 (hi : i = c2) (hi1 : Nat.beq i c1 = false) (h : ∀ v M2, R1 v M2 → SpAt P N l ((d1, v) :: (pickR i done w ++ E)) M2 o d2 (R2 v)) (h2 : QE P N l E M c1 d1 R1 c2 d2 R2 K (i + 1) (none :: done) ws rest) : QE P N l E M c1 d1 R1 c2 d2 R2 K i done (w :: ws) (o :: rest) := by
  subst hi
  have hne : i ≠ c1 := fun e => by subst e; rw [Nat.beq_refl] at hi1; cases hi1
  refine ⟨fun hl => ?_⟩
  unfold QEd
  rw [if_neg hne, if_pos rfl]
  rw [pickR_eq hl] at h
  have := h2.out (by simp [hl])
  rw [List.reverse_cons] at this
  exact ⟨h, this⟩
theorem s_build {t T : TypeId} {n d : Nat} {A : Env} {xs : List (Nat × Operand)} {vs : List (Nat × Value)} {c : List Value} {ty : TypeId} {pos : String} {after : Array Edge} {g : Option (Nat × Bool)} (hx : evps A xs = some vs)
    (hr : ∀ w, (Instr.buildSlice t n vs.toArray).run P w = .ok (.slice (some ⟨w.heap.size, 0, none⟩) n n) (w.alloc (.cells c.toArray T))) (hg : On A l g) (hd : Nat.blt d N.n = true) :
    SpAt P N l A M ⟨some d, .buildSlice t n xs.toArray, ty, pos, after, g⟩ d (fun v M' => ∃ b, v = .slice (some ⟨b, 0, none⟩) n n ∧ M' = ⟨true, b, 0, c⟩ :: M) :=
  ⟨fun E' M' hle hrk => O_buildSlice (evps_le hle hx) hr (On_le hle hg) hd fun b => O_nil ⟨⟨rfl, _, _, rfl, ⟨b, rfl, rfl⟩, .cons .head hrk⟩⟩⟩
theorem QE_all {rest : List Oper} : ∀ {i0 : Nat} {done : UEnv} {ws : List (List Nat)}, QEd P N l E M c1 d1 R1 c2 d2 R2 K i0 done ws rest → ∃ more : UEnv, more.length = rest.length ∧ K (done ++ more) ∧
    ∀ i (hi : i < rest.length) (hm : i < more.length), (i0 + i = c1 → more[i] = none ∧ SpAt P N l (pick (done ++ more.take i) (ws.getD i []) ++ E) M rest[i] d1 R1) ∧
      (i0 + i ≠ c1 → i0 + i = c2 → more[i] = none ∧ ∀ v M2, R1 v M2 → SpAt P N l ((d1, v) :: (pick (done ++ more.take i) (ws.getD i []) ++ E)) M2 rest[i] d2 (R2 v)) ∧
      (i0 + i ≠ c1 → i0 + i ≠ c2 → ∃ e v, more[i] = some (e, v) ∧ PS P N l (pick (done ++ more.take i) (ws.getD i []) ++ E) M rest[i] e v) := by
  induction rest with
  | nil => intro i0 done ws h; exact ⟨[], rfl, by rw [List.append_nil]; exact h, fun i hi => absurd hi (Nat.not_lt_zero _)⟩
  | cons o rest ih =>
    intro i0 done ws h
    have ehd : ws.headD [] = ws.getD 0 [] := by cases ws <;> rfl
    have etl : ∀ i, ws.tail.getD i [] = ws.getD (i + 1) [] := by intro i; cases ws <;> simp
    unfold QEd at h
    split at h
    · rename_i hc
      obtain ⟨h1, h2⟩ := h
      obtain ⟨more, k1, k2, k3⟩ := ih h2
      refine ⟨none :: more, by simp [k1], by simpa using k2, fun i hi hm => ?_⟩
      cases i with
      | zero => exact ⟨fun _ => ⟨rfl, by rw [ehd] at h1; simpa using h1⟩, fun hne => absurd hc hne, fun hne => absurd hc hne⟩
      | succ i =>
        have := k3 i (by simpa using hi) (by simpa using hm)
        rw [etl] at this
        rw [show i0 + (i + 1) = i0 + 1 + i by omega]
        simpa using this
    · rename_i hc
      split at h
      · rename_i hc2
        obtain ⟨h1, h2⟩ := h
        obtain ⟨more, k1, k2, k3⟩ := ih h2
        refine ⟨none :: more, by simp [k1], by simpa using k2, fun i hi hm => ?_⟩
        cases i with
        | zero => exact ⟨fun hne => absurd hne hc, fun _ _ => ⟨rfl, by rw [ehd] at h1; simpa using h1⟩, fun _ hne => absurd hc2 hne⟩
        | succ i =>
          have := k3 i (by simpa using hi) (by simpa using hm)
          rw [etl] at this
          rw [show i0 + (i + 1) = i0 + 1 + i by omega]
          simpa using this
      · rename_i hc2
        obtain ⟨e, v, h1, h2⟩ := h
        obtain ⟨more, k1, k2, k3⟩ := ih h2
        refine ⟨some (e, v) :: more, by simp [k1], by simpa using k2, fun i hi hm => ?_⟩
        cases i with
        | zero => exact ⟨fun hne => absurd hne hc, fun _ hne => absurd hne hc2, fun _ _ => ⟨e, v, rfl, by rw [ehd] at h1; simpa using h1⟩⟩
        | succ i =>
          have := k3 i (by simpa using hi) (by simpa using hm)
          rw [etl] at this
          rw [show i0 + (i + 1) = i0 + 1 + i by omega]
          simpa using this
end
theorem O_fin {P : Program} {N : Fm} {Q Q' : Env → Mem → Prop} {l : List Oper} {o : Oper} {E : Env} {M : Mem} (h : WO false P N (fun e E2 M2 => e = .normal ∧ Q E2 M2) l [o] [] E M) (hQ : ∀ E2 M2, Q E2 M2 → Q' E2 M2) :
    WO false P N (fun e E2 M2 => e = .normal ∧ Q' E2 M2) l [o] [] E M := by
  refine ⟨⟨fun base w0 a w hA hS => wpList1_mono ?_ ?_ (h.out.out base w0 a w hA hS)⟩⟩
  · rintro a w ⟨E2, M2, h1, h2, h3, h4⟩
    exact ⟨E2, M2, h1, h2, h3, hQ _ _ h4⟩
  · rintro e a w hne ⟨E2, M2, _, _, h3, _⟩
    exact hne h3
section
variable {P : Program} {N : Fm} {Fin : Post} {k : List Kn} {l : List Oper}
theorem W_region_sp2 {E : Env} {M : Mem} {id : Nat} (n c1 d1 : Nat) (R1 : Value → Mem → Prop) (c2 d2 : Nat) (R2 : Value → Value → Mem → Prop) (hn : n < l.length) (hcn : c2 < n) (hc12 : c1 < c2) (hm : P.follows .mixedOrders = true) (ws : List (List Nat)) (hw : ((List.range l.length).all fun i => (ws.getD i []).all fun j => Region.waitsFor .any l.toArray i j) = true)
    (hac : earlierB l.toArray = true) (hcov : covB ws n = true) (hchain : chainB ws n l.length = true) (hseq : Region.seqB .any l.toArray (l.drop n).length n (canonA n l.length) = true) (hc1w : c1 ∈ ws.getD c2 []) (hRM : ∀ v M', R1 v M' → Rk M' M) (hRM2 : ∀ v M', R1 v M' → ∀ v2 M2, R2 v v2 M2 → Rk M2 M)
    (h : QE P N l E M c1 d1 R1 c2 d2 R2 (fun done => chkU E (some (d2, undef) :: some (d1, undef) :: done) = true ∧ ∀ v M', R1 v M' → ∀ v2 M2, R2 v v2 M2 → WO false P N Fin l (l.drop n) k ((d2, v2) :: (d1, v) :: (somes done ++ E)) M2) 0 [] ws (l.take n)) : W false P N Fin (.region id l.toArray true) k E M := by
  obtain ⟨full, hlen, ⟨hchk, hG⟩, hq⟩ := QE_all (h.out rfl)
  simp only [List.reverse_nil, List.nil_append] at hchk hG hq
  have hlen' : full.length = n := by rw [hlen, List.length_take]; omega
  obtain ⟨hf1, hf2⟩ := chkU_spec hchk
  have hE1 : ∀ p, some p ∈ full → E.get? p.1 = none := fun p hp => hf1 p (.tail _ (.tail _ hp))
  have hEd : E.get? d1 = none := hf1 (d1, undef) (.tail _ (.head _))
  have hEd2 : E.get? d2 = none := hf1 (d2, undef) (.head _)
  have hd12 : d2 ≠ d1 := hf2 0 1 (d2, undef) (d1, undef) rfl rfl (by omega)
  have hdis : ∀ (i j : Nat) (p q : Nat × Value), full[i]? = some (some p) → full[j]? = some (some q) → i ≠ j → p.1 ≠ q.1 := fun i j p q hi hj hij => hf2 (i + 2) (j + 2) p q (by simpa using hi) (by simpa using hj) (by omega)
  have hdd : ∀ (i : Nat) (p : Nat × Value), full[i]? = some (some p) → p.1 ≠ d1 := fun i p hi => hf2 (i + 2) 1 p (d1, undef) (by simpa using hi) (by simp) (by omega)
  have hdd2 : ∀ (i : Nat) (p : Nat × Value), full[i]? = some (some p) → p.1 ≠ d2 := fun i p hi => hf2 (i + 2) 0 p (d2, undef) (by simpa using hi) (by simp) (by omega)
  have hrep : ∀ i, (Array.replicate l.toArray.size false).getD i false = false := fun i => getD_replicate_false _ _
  refine W_region_any hm (OA_pre n hn ws hw hac hcov hchain hseq (fun done E' M' => Le E' E ∧ (∀ (i : Nat) (p : Nat × Value), full[i]? = some (some p) → done i = true → E'.get? p.1 = some p.2) ∧
      (done c1 = false → done c2 = false ∧ Rk M' M) ∧ (done c1 = true → done c2 = false → ∃ v M2, E'.get? d1 = some v ∧ R1 v M2 ∧ Rk M' M2) ∧ (done c2 = true → ∃ v M1 v2 M2, E'.get? d1 = some v ∧ E'.get? d2 = some v2 ∧ R1 v M1 ∧ R2 v v2 M2 ∧ Rk M' M2)) ?_ ?_ l.toArray.size (Array.replicate l.toArray.size false) E M (by simp) ?_ (fun j _ => hrep j) (fun i hi => (by rw [hrep] at hi; cases hi))
      ⟨fun _ _ h => h, fun i p _ h => (by dsimp only at h; rw [hrep] at h; cases h), fun _ => ⟨hrep _, .rfl⟩, fun h => (by dsimp only at h; rw [hrep] at h; cases h), fun h => (by dsimp only at h; rw [hrep] at h; cases h)⟩)
  · intro i hi done E' M' ⟨hs, hd, hm1, hm2, hm3⟩ hno hdone
    have hil : i < l.length := by omega
    have hone : (l.drop i).take 1 = [l[i]] := by rw [List.drop_eq_getElem_cons hil]; rfl
    rw [hone]
    have hif : i < full.length := by omega
    have hit : i < (l.take n).length := by rw [List.length_take]; omega
    obtain ⟨hqc, hqc2, hqp⟩ := hq i hit hif
    rw [Nat.zero_add] at hqc hqc2 hqp
    have hli : (l.take n)[i] = l[i] := List.getElem_take
    have hfi : full[i]? = some full[i] := List.getElem?_eq_getElem hif
    have hpk : ∀ p ∈ pick (full.take i) (ws.getD i []), E'.get? p.1 = some p.2 := by
      intro p hp
      obtain ⟨j, hj, hjp⟩ := mem_pick hp
      refine hd j p ?_ (hdone j hj)
      rw [List.getElem?_take] at hjp
      split at hjp
      · exact hjp
      · cases hjp
    by_cases hic : i = c1
    · obtain ⟨hnone, hcall⟩ := hqc hic
      rw [hli] at hcall
      subst hic
      obtain ⟨hn2, hrk⟩ := hm1 hno
      have h1 := hcall.out E' M' (Le.app hpk hs) hrk
      refine O_fin h1 ?_
      rintro E2 M2 ⟨v, M3, rfl, hR, hrk2⟩
      have hne : ¬ c2 = i := by omega
      refine ⟨hs.cons hEd, ?_, fun h => (by simp at h), fun _ _ => ⟨v, M3, get_eq, hR, hrk2⟩, fun h => (by dsimp only at h; rw [if_neg hne, hn2] at h; cases h)⟩
      intro j p hj hdj
      by_cases hji : j = i
      · subst hji; rw [hfi, hnone] at hj; cases hj
      · have hdj' : done j = true := by simpa [hji] using hdj
        rw [get_ne (fun e => hdd j p hj e.symm)]
        exact hd j p hj hdj'
    · by_cases hic2 : i = c2
      · obtain ⟨hnone, hcall⟩ := hqc2 hic hic2
        subst hic2
        have hc1t : done c1 = true := hdone c1 hc1w
        obtain ⟨v, M2, k1, k2, k3⟩ := hm2 hc1t hno
        have h0 := hcall v M2 k2
        rw [hli] at h0
        have h1 := h0.out E' M' (Le.app (A := [(d1, v)]) (fun p hp => by rw [List.mem_singleton] at hp; subst hp; exact k1) (Le.app hpk hs)) k3
        refine O_fin h1 ?_
        rintro E2 M3 ⟨v2, M4, rfl, hR, hrk2⟩
        have hne : ¬ c1 = i := fun e => hic e.symm
        refine ⟨hs.cons hEd2, ?_, fun h => (by dsimp only at h; rw [if_neg hne, hc1t] at h; cases h), fun _ h => (by simp at h), fun _ => ⟨v, M2, v2, M4, by rw [get_ne hd12]; exact k1, get_eq, k2, hR, hrk2⟩⟩
        intro j p hj hdj
        by_cases hji : j = i
        · subst hji; rw [hfi, hnone] at hj; cases hj
        · have hdj' : done j = true := by simpa [hji] using hdj
          rw [get_ne (fun e => hdd2 j p hj e.symm)]
          exact hd j p hj hdj'
      · obtain ⟨e, v, hev, hps⟩ := hqp hic hic2
        rw [hli] at hps
        have hci : ¬ c1 = i := fun e => hic e.symm
        have hci2 : ¬ c2 = i := fun e => hic2 e.symm
        rw [hev] at hfi
        have hMM : Rk M' M := by
          cases hdc : done c1 with
          | false => exact (hm1 hdc).2
          | true =>
            cases hdc2 : done c2 with
            | false => obtain ⟨v2, M2, _, hR, hrk⟩ := hm2 hdc hdc2; exact .trans hrk (hRM v2 M2 hR)
            | true => obtain ⟨v1, M1, v2, M2, _, _, hR, hR2, hrk⟩ := hm3 hdc2; exact .trans hrk (hRM2 v1 M1 hR v2 M2 hR2)
        refine ⟨⟨fun base w0 a w hA hS => hps.run (Le.ag (Le.app hpk hs) hA) (hS.rk hMM) ?_⟩⟩
        refine ⟨(e, v) :: E', M', hA.put hps.lt _, hS, rfl, hs.cons (hE1 (e, v) (List.mem_of_getElem? hfi)), ?_, fun h => ?_, fun h h' => ?_, fun h => ?_⟩
        · intro j p hj hdj
          by_cases hji : j = i
          · subst hji; rw [hfi] at hj; cases hj; exact get_eq
          · have hdj' : done j = true := by simpa [hji] using hdj
            rw [get_ne (fun e' => hdis j i p (e, v) hj hfi hji e'.symm)]
            exact hd j p hj hdj'
        · dsimp only; rw [if_neg hci2]
          exact hm1 (by simpa [hci] using h)
        · obtain ⟨v2, M2, k1, k2, k3⟩ := hm2 (by simpa [hci] using h) (by simpa [hci2] using h')
          exact ⟨v2, M2, by rw [get_ne (hdd i (e, v) hfi)]; exact k1, k2, k3⟩
        · obtain ⟨v1, M1, v2, M2, k1, k2, k3, k4, k5⟩ := hm3 (by simpa [hci2] using h)
          exact ⟨v1, M1, v2, M2, by rw [get_ne (hdd i (e, v) hfi)]; exact k1, by rw [get_ne (hdd2 i (e, v) hfi)]; exact k2, k3, k4, k5⟩
  · intro done E' M' ⟨hs, hd, _, _, hc2⟩ hall
    obtain ⟨v, M1, v2, M2, hv, hv2, hR, hR2, hrk⟩ := hc2 (hall c2 hcn)
    refine ⟨(d2, v2) :: (d1, v) :: (somes full ++ E), M2, ?_, hrk, hG v M1 hR v2 M2 hR2⟩
    have h0 : Le E' (somes full ++ E) := Le.app (fun p hp => by
      obtain ⟨j, hj, hjp⟩ := List.mem_iff_getElem.1 (mem_somes hp)
      exact hd j p (by rw [List.getElem?_eq_getElem hj, hjp]) (hall j (by omega))) hs
    exact Le.app (A := [(d2, v2), (d1, v)]) (fun p hp => by
      rcases List.mem_cons.1 hp with rfl | hp
      · exact hv2
      · rw [List.mem_singleton] at hp; subst hp; exact hv) h0
  · have e : ∀ m, m ≤ l.toArray.size → left (Array.replicate l.toArray.size false) m = m := by
      intro m
      induction m with
      | zero => intro _; rfl
      | succ m ih =>
        intro hm'
        have : (Array.replicate l.toArray.size false).getD m true = false := by
          have hs : m < l.length := by simp at hm'; omega
          simp [Array.getD_eq_getD_getElem?, hs]
        simp only [left, ih (by omega), this]
        simp
    have := e l.toArray.size (Nat.le_refl _)
    simpa using this
end
section
variable {P : Program} {N : Fm} {E : Env} {M : Mem} {l : List Oper} {c d : Nat} {K : UEnv → Prop} {i : Nat} {done : UEnv} {w : List Nat} {ws : List (List Nat)} {rest : List Oper}
end
section
variable {P : Program} {N : Fm} {Fin : Post} {Q : Post} {k : List Kn} {E A : Env} {M : Mem} {ops rest : List Oper} {d : Nat} {ty : TypeId} {pos : String} {after : Array Edge} {g : Option (Nat × Bool)}
theorem OL_appendAt {t e : TypeId} {I : TypeInfo} {z : Value} {s x : Operand} {t2 e2 : TypeId} {sv : Value} {bx ox n cx size : Nat} {ownx : Bool} {l0 lx xs : List Value} {o0 ii : Nat} {m M0 : Mem} {len : Nat} (ht : Und P t (.slice e)) (ht2 : Und P t2 (.slice e2))
    (hI : P.info? e = some I) (hsz : I.size = size) (hs0 : 0 < size) (hb0 : 0 < I.bytes) (hz : I.zero = some z) (hzs : z.cells.size = size) (hs : ev E s = some sv) (hx : ev E x = some (.slice (some ⟨bx, ox, none⟩) n cx))
    (hown : Own sv size xs m) (hM : Rk M (m ++ M0)) (hlen : xs.length = len * size) (hm : (⟨ownx, bx, o0, l0⟩ : Sg) ∈ M0) (hox : ox = o0 + ii) (hlx : lx = l0.drop ii) (hn : ii + n * size ≤ l0.length) (hv : ∀ v ∈ lx.take (n * size), v.oneCell' = true) (hn0 : 0 < n ∨ sv ≠ .slice none 0 0)
    (hroom : (2 * (len + n) + 192) * I.bytes ≤ 281474976710656) (hg : On E ops g) (hd : Nat.blt d N.n = true)
    (h : ∀ b cap sp, ((xs ++ lx.take (n * size)) ++ sp).length = cap * size → OL false P N ops Q rest ((d, .slice (some ⟨b, 0, none⟩) (len + n) cap) :: E) (⟨true, b, 0, (xs ++ lx.take (n * size)) ++ sp⟩ :: M0)) :
    OL false P N ops Q (⟨some d, .call { callee := .builtin .append, args := #[s, x], argTypes := #[t, t2] }, ty, pos, after, g⟩ :: rest) E M := by
  subst hox
  subst hlx
  constructor
  intro base w0 a w hA hS
  unfold wpList
  rw [if_pos (On.wanted (o := ⟨some d, .call { callee := .builtin .append, args := #[s, x], argTypes := #[t, t2] }, ty, pos, after, g⟩) hg hA)]
  refine .inl ?_
  unfold Oper.wp
  have hS1 := hS.rk hM
  have hx1 : (loadCells ⟨bx, (o0 + ii), none⟩ (n * size)).run P w = .ok ((l0.drop ii).take (n * size)).toArray w := by
    have := run_loadCells (P := P) (i := ii) (n := n * size) (hS1.seg _ (List.mem_append_right _ hm)) (by simpa using hn)
    simpa using this
  have hx2 : (loadCells ⟨bx, (o0 + ii), none⟩ (n * size)).run P w.drew = .ok ((l0.drop ii).take (n * size)).toArray w.drew := by
    have := run_loadCells (P := P) (i := ii) (n := n * size) ((hS1.drew).seg _ (List.mem_append_right _ hm)) (by simpa using hn)
    simpa using this
  have hyl : ((l0.drop ii).take (n * size)).length = n * size := by rw [List.length_take, List.length_drop]; omega
  have hM0 : Sim false base w0 w M0 := by
    refine hS1.of_mem (fun _ h => List.mem_append_right _ h) ?_
    exact hS1.dis.sublist (List.sublist_append_right m M0)
  have key : ∃ w' b cap sp, (Builtin.append_ #[t, t2] ty #[sv, .slice (some ⟨bx, (o0 + ii), none⟩) n cx]).run P w = .ok (.slice (some ⟨b, 0, none⟩) (len + n) cap) w' ∧
      ((xs ++ (l0.drop ii).take (n * size)) ++ sp).length = cap * size ∧ Sim false base w0 w' (⟨true, b, 0, (xs ++ (l0.drop ii).take (n * size)) ++ sp⟩ :: M0) := by
    have grown : ∀ q, len + n ≤ q → ((xs ++ (l0.drop ii).take (n * size)) ++ (Builtin.zeroCells z.cells (q - (len + n))).toList).length = q * size ∧
        Sim false base w0 (w.drew.alloc (.cells (xs.toArray ++ ((l0.drop ii).take (n * size)).toArray ++ Builtin.zeroCells z.cells (q - (len + n))) e)) (⟨true, w.heap.size, 0, (xs ++ (l0.drop ii).take (n * size)) ++ (Builtin.zeroCells z.cells (q - (len + n))).toList⟩ :: M0) := by
      intro q hq
      refine ⟨?_, ?_⟩
      · simp only [List.length_append, hyl, hlen, Array.length_toList, zeroCells_length, hzs]
        rw [← Nat.add_mul, ← Nat.add_mul]
        congr 1
        omega
      · have := (Sim.drew hM0).alloc (xs.toArray ++ ((l0.drop ii).take (n * size)).toArray ++ Builtin.zeroCells z.cells (q - (len + n))) e
        simpa using this
    rcases hown with ⟨rfl, rfl, rfl⟩ | ⟨b, len', cap, sp, rfl, rfl, hl', hc'⟩
    · have hl0 : len = 0 := by
        rcases Nat.eq_zero_or_pos len with h | h
        · exact h
        · have := Nat.mul_pos h hs0; simp at hlen; omega
      subst hl0
      have hn1 : 0 < n := by
        rcases hn0 with h | h
        · exact h
        · exact absurd rfl h
      obtain ⟨q, hq, hr⟩ := run_append_grow (ty := ty) (P := P) (sb := none) (cap := 0) (xs := []) (cx := cx) ht ht2 hI hsz hb0 hz (by omega) (by simp [Builtin.firstCells]) hx2 hroom
      exact ⟨_, _, q, _, hr, (grown q hq).1, (grown q hq).2⟩
    · have hll : len' = len := Nat.eq_of_mul_eq_mul_right hs0 (by omega)
      subst hll
      by_cases hfit : len' + n ≤ cap
      · obtain ⟨w', h1, h2⟩ := run_append_fit (ty := ty) (P := P) (cx := cx) ht ht2 hI hsz hfit hl' hc' hyl hx1 hS1 hv
        refine ⟨w', b, cap, _, h1, ?_, h2⟩
        simp only [List.length_append, List.length_drop, hyl] at hc' ⊢
        have h0 : len' * size + n * size ≤ cap * size := by rw [← Nat.add_mul]; exact Nat.mul_le_mul_right _ hfit
        omega
      · have hfirst : (Builtin.firstCells size len' (.slice (some ⟨b, 0, none⟩) len' cap)).run P w.drew = .ok xs.toArray w.drew := by
          have := run_loadCells (P := P) (i := 0) (n := len' * size) ((hS1.drew).seg _ (.head _)) (by simp; omega)
          simp only [Nat.add_zero, List.drop_zero] at this
          simp only [Builtin.firstCells]
          have e : (xs ++ sp).take (len' * size) = xs := by rw [← hl']; simp
          rw [e] at this
          exact this
        obtain ⟨q, hq, hr⟩ := run_append_grow (ty := ty) (P := P) (cx := cx) ht ht2 hI hsz hb0 hz (by omega) hfirst hx2 hroom
        exact ⟨_, _, q, _, hr, (grown q hq).1, (grown q hq).2⟩
  obtain ⟨w', b, cap, sp, h1, h2, h3⟩ := key
  have hr : (execOp a.eval ⟨some d, .call { callee := .builtin .append, args := #[s, x], argTypes := #[t, t2] }, ty, pos, after, g⟩).run P w = .ok (.value (.slice (some ⟨b, 0, none⟩) (len + n) cap)) w' := by
    simp [execOp, resolve, invoke, builtin, hA.eval hs, hA.eval hx, h1]
  rw [hr]
  exact (h b cap sp h2).out base w0 _ _ (hA.put hd _) h3
theorem O_appendAt {t e : TypeId} {I : TypeInfo} {z : Value} {s x : Operand} {t2 e2 : TypeId} {sv : Value} {bx ox n cx size : Nat} {ownx : Bool} {l0 lx xs : List Value} {o0 ii : Nat} {m M0 : Mem} {len : Nat} (ht : Und P t (.slice e)) (ht2 : Und P t2 (.slice e2))
    (hI : P.info? e = some I) (hsz : I.size = size) (hs0 : 0 < size) (hb0 : 0 < I.bytes) (hz : I.zero = some z) (hzs : z.cells.size = size) (hs : ev E s = some sv) (hx : ev E x = some (.slice (some ⟨bx, ox, none⟩) n cx))
    (hown : Own sv size xs m) (hM : Rk M (m ++ M0)) (hlen : xs.length = len * size) (hm : (⟨ownx, bx, o0, l0⟩ : Sg) ∈ M0) (hox : ox = o0 + ii) (hlx : lx = l0.drop ii) (hn : ii + n * size ≤ l0.length) (hv : ∀ v ∈ lx.take (n * size), v.oneCell' = true) (hn0 : 0 < n ∨ sv ≠ .slice none 0 0)
    (hroom : (2 * (len + n) + 192) * I.bytes ≤ 281474976710656) (hg : On E ops g) (hd : Nat.blt d N.n = true)
    (h : ∀ b cap sp, ((xs ++ lx.take (n * size)) ++ sp).length = cap * size → WO false P N Fin ops rest k ((d, .slice (some ⟨b, 0, none⟩) (len + n) cap) :: E) (⟨true, b, 0, (xs ++ lx.take (n * size)) ++ sp⟩ :: M0)) :
    WO false P N Fin ops (⟨some d, .call { callee := .builtin .append, args := #[s, x], argTypes := #[t, t2] }, ty, pos, after, g⟩ :: rest) k E M :=
  ⟨OL_appendAt ht ht2 hI hsz hs0 hb0 hz hzs hs hx hown hM hlen hm hox hlx hn hv hn0 hroom hg hd fun b cap sp hh => (h b cap sp hh).out⟩
theorem s_appendAt {t e : TypeId} {I : TypeInfo} {z : Value} {s x : Operand} {t2 e2 : TypeId} {sv : Value} {bx ox n cx size : Nat} {ownx : Bool} {l0 lx xs : List Value} {o0 ii : Nat} {m M0 : Mem} {len : Nat} (ht : Und P t (.slice e)) (ht2 : Und P t2 (.slice e2))
    (hI : P.info? e = some I) (hsz : I.size = size) (hs0 : 0 < size) (hb0 : 0 < I.bytes) (hz : I.zero = some z) (hzs : z.cells.size = size) (hs : ev A s = some sv) (hx : ev A x = some (.slice (some ⟨bx, ox, none⟩) n cx))
    (hown : Own sv size xs m) (hM : Rk M (m ++ M0)) (hlen : xs.length = len * size) (hm : (⟨ownx, bx, o0, l0⟩ : Sg) ∈ M0) (hox : ox = o0 + ii) (hlx : lx = l0.drop ii) (hn : ii + n * size ≤ l0.length) (hv : ∀ v ∈ lx.take (n * size), v.oneCell' = true) (hn0 : 0 < n ∨ sv ≠ .slice none 0 0)
    (hroom : (2 * (len + n) + 192) * I.bytes ≤ 281474976710656) (hg : On A ops g) (hd : Nat.blt d N.n = true) :
    SpAt P N ops A M ⟨some d, .call { callee := .builtin .append, args := #[s, x], argTypes := #[t, t2] }, ty, pos, after, g⟩ d
      (fun v M' => ∃ b cap sp, ((xs ++ lx.take (n * size)) ++ sp).length = cap * size ∧ v = .slice (some ⟨b, 0, none⟩) (len + n) cap ∧ M' = ⟨true, b, 0, (xs ++ lx.take (n * size)) ++ sp⟩ :: M0) :=
  ⟨fun E' M' hle hrk => O_appendAt ht ht2 hI hsz hs0 hb0 hz hzs (ev_le hle hs) (ev_le hle hx) hown (hrk.trans hM) hlen hm hox hlx hn hv hn0 hroom (On_le hle hg) hd fun b cap sp hh => O_nil ⟨⟨rfl, _, _, rfl, ⟨b, cap, sp, hh, rfl, rfl⟩, .rfl⟩⟩⟩
theorem s_pure {op : Op} {v : Value} {R : Value → Mem → Prop} (hp : ∀ E' M', Le E' A → Pure P N E' M' op v) (hg : On A ops g) (hd : Nat.blt d N.n = true) (hR : R v M) : SpAt P N ops A M ⟨some d, op, ty, pos, after, g⟩ d R :=
  ⟨fun E' M' hle hrk => O_pure (hp E' M' hle) (On_le hle hg) hd (O_nil ⟨⟨rfl, _, _, rfl, hR, hrk⟩⟩)⟩
theorem SpAt.mono {o : Oper} {R R' : Value → Mem → Prop} (h : SpAt P N ops A M o d R) (hR : ∀ v M', R v M' → R' v M') : SpAt P N ops A M o d R' :=
  ⟨fun E' M' hle hrk => O_fin (h.out E' M' hle hrk) fun E2 M2 ⟨v, M3, h1, h2, h3⟩ => ⟨v, M3, h1, hR v M3 h2, h3⟩⟩
end
end Go.Proofs.Ytcibehgcibojnaa.Vm

namespace Go.Proofs.Ytcibehgcibojnaa.Vm
open Go Go.RowKit
section
variable {P : Program} {N : Fm} {Fin : Post} {Q : Post} {k : List Kn} {E A : Env} {M : Mem} {ops rest : List Oper} {d : Nat} {ty : TypeId} {pos : String} {after : Array Edge} {g : Option (Nat × Bool)}
end
end Go.Proofs.Ytcibehgcibojnaa.Vm
