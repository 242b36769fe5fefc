/- More rules of the engine: rows split and put together, methods called through interfaces, copy, make with room to spare. No condition. A function that defers one call, which does nothing in the end. No condition. Regions that draw their order and hold one operation that writes, in their middle. No condition. Regions that draw their order, walked order by order. No condition. Regions that draw their order, walked by what holds of each set of operations done. No condition. -/
import Derived.Test.YtjkpfliaflmppaaW9x04
import Derived.Recover

namespace Go.Proofs.Ytjkpfliaflmppaa.Vm
open Go Go.RowKit

theorem Rk.app {M L : Mem} (m : Mem) (h : Rk M L) : Rk (m ++ M) (m ++ L) := by
  induction m with
  | nil => exact h
  | cons s m ih => exact .cons .head ih
theorem Rk.left (m M : Mem) : Rk (M ++ m) M := by
  induction M with
  | nil => exact .nil
  | cons s M ih => exact .cons .head ih
theorem Rk.right (m M : Mem) : Rk (m ++ M) M := by
  induction m with
  | nil => exact .rfl
  | cons s m ih => exact .drop ih

theorem Sim.split {pr : Bool} {base : Nat} {w0 w : World} {M : Mem} {own : Bool} {b o o2 : Nat} {xs ys : List Value} (h : Sim pr base w0 w (⟨own, b, o, xs ++ ys⟩ :: M)) (ho : o2 = o + xs.length) :
    Sim pr base w0 w (⟨own, b, o, xs⟩ :: ⟨own, b, o2, ys⟩ :: M) := by
  subst ho
  obtain ⟨c, T, lo, hi, hh, h1, h2, h3⟩ := h.seg _ (.head _)
  simp only [List.length_append] at h1 h2 h3
  have hd := h.dis
  cases hd with
  | cons hd1 hd2 =>
    refine ⟨h.bel, h.hb, ?_, ?_, h.same⟩
    · intro s hs
      cases hs with
      | head =>
        refine ⟨c, T, lo, hi, hh, by simp only; omega, fun i hi => ?_, fun ho => ⟨(h3 ho).1, fun i hi => (h3 ho).2 i (by simp only at hi; omega)⟩⟩
        have := h2 i (by simp only at hi; omega)
        rw [List.getElem?_append_left hi] at this
        exact this
      | tail _ hs =>
        cases hs with
        | head =>
          refine ⟨c, T, lo, hi, hh, by simp only; omega, fun i hi => ?_, fun ho => ⟨(h3 ho).1, fun i hi => ?_⟩⟩
          · have := h2 (xs.length + i) (by simp only at hi; omega)
            rw [List.getElem?_append_right (by omega), Nat.add_sub_cancel_left] at this
            rw [Nat.add_assoc]; exact this
          · have := (h3 ho).2 (xs.length + i) (by simp only at hi; omega)
            simp only at this ⊢
            omega
        | tail _ hs => exact h.seg s (.tail _ hs)
    · refine .cons (fun t ht => ?_) (.cons (fun t ht => ?_) hd2)
      · cases ht with
        | head => exact .inr (.inr (.inl (Nat.le_refl _)))
        | tail _ ht =>
          have := hd1 t ht
          unfold Sg.apart at *
          simp only [List.length_append] at this ⊢
          rcases this with h | h | h | h
          · exact .inl h
          · exact .inr (.inl h)
          · exact .inr (.inr (.inl (by omega)))
          · exact .inr (.inr (.inr (by omega)))
      · have := hd1 t ht
        unfold Sg.apart at *
        simp only [List.length_append] at this ⊢
        rcases this with h | h | h | h
        · exact .inl h
        · exact .inr (.inl h)
        · exact .inr (.inr (.inl (by omega)))
        · exact .inr (.inr (.inr (by omega)))

section
variable {pr : Bool} {P : Program} {N : Fm} {Fin : Post} {k : List Kn} {E : Env} {M : Mem} {Q : Post}
variable {ops : List Oper} {rest : List Oper} {d : Nat} {op : Op} {ty : TypeId} {pos : String} {after : Array Edge} {g : Option (Nat × Bool)} {v : Value}

theorem O_split {own : Bool} {b o o2 : Nat} {xs ys l : List Value} (hl : l = xs ++ ys) (ho : o2 = o + xs.length) (h : WO pr P N Fin ops rest k E (⟨own, b, o, xs⟩ :: ⟨own, b, o2, ys⟩ :: M)) :
    WO pr P N Fin ops rest k E (⟨own, b, o, l⟩ :: M) := by
  subst hl
  exact ⟨⟨fun base w0 a w hA hS => h.out.out base w0 a w hA (hS.split ho)⟩⟩

/-! ### Methods called through interfaces -/

theorem OL_invoke {r : Operand} {nm : String} {rv : Value} {xs : List Operand} {ts : Array TypeId} {f : FuncId} {args : Array Value} {vs : List Value} {R : Value → Mem → Prop}
    (hc : ev E r = some rv) (hx : evs E xs = some vs) (hm : ∀ w, (callMethod rv nm vs.toArray).run P w = .ok (.enter f args) w) (hg : On E ops g) (hd : Nat.blt d N.n = true)
    (hR : HC P f args M R) (h : ∀ v M', R v M' → OL false P N ops Q rest ((d, v) :: E) M') :
    OL false P N ops Q (⟨some d, .call { callee := .invoke r nm, args := xs.toArray, argTypes := ts }, ty, pos, after, g⟩ :: rest) E M := by
  constructor
  intro base w0 a w hA hS
  unfold wpList
  rw [if_pos (On.wanted (o := ⟨some d, .call { callee := .invoke r nm, args := xs.toArray, argTypes := ts }, ty, pos, after, g⟩) hg hA)]
  refine .inl ?_
  unfold Oper.wp
  have hr : (execOp a.eval ⟨some d, .call { callee := .invoke r nm, args := xs.toArray, argTypes := ts }, ty, pos, after, g⟩).run P w = .ok (.enter f args) w := by
    have e : xs.toArray.map a.eval = vs.toArray := by simp [hA.evals hx]
    simp [execOp, resolve, e, hA.eval hc, invoke]
    exact hm w
  rw [hr]
  refine (hR.out base w0 w hS).mono fun e w' ⟨v, M', he, hS', hv⟩ => ?_
  subst he
  exact (h v M' hv).out base w0 _ w' (hA.put hd v) hS'

theorem O_invoke {r : Operand} {nm : String} {rv : Value} {xs : List Operand} {ts : Array TypeId} {f : FuncId} {args : Array Value} {vs : List Value} {R : Value → Mem → Prop}
    (hc : ev E r = some rv) (hx : evs E xs = some vs) (hm : ∀ w, (callMethod rv nm vs.toArray).run P w = .ok (.enter f args) w) (hg : On E ops g) (hd : Nat.blt d N.n = true)
    (hR : HC P f args M R) (h : ∀ v M', R v M' → WO false P N Fin ops rest k ((d, v) :: E) M') :
    WO false P N Fin ops (⟨some d, .call { callee := .invoke r nm, args := xs.toArray, argTypes := ts }, ty, pos, after, g⟩ :: rest) k E M := ⟨OL_invoke hc hx hm hg hd hR fun v M' hv => (h v M' hv).out⟩

/-! ### copy -/

/-- 'copy' of n elements' cells ys into a row from place i on. -/
theorem run_copy {t e t2 ty : TypeId} {I : TypeInfo} {base : Nat} {w0 : World} {b o bx ox ln cn n lx cx size i : Nat} {l ys : List Value} {w : World} (ht : Und P t (.slice e))
    (hI : P.info? e = some I) (hsz : I.size = size) (hn : min lx ln = n) (hx : (loadCells ⟨bx, ox, none⟩ (n * size)).run P w = .ok ys.toArray w)
    (hS : Sim false base w0 w (⟨true, b, o, l⟩ :: M)) (hv : ∀ v ∈ ys, v.oneCell' = true) (hl : i + ys.length ≤ l.length) :
    ∃ w', (Builtin.copy_ #[t, t2] ty #[.slice (some ⟨b, o + i, none⟩) ln cn, .slice (some ⟨bx, ox, none⟩) lx cx]).run P w = .ok (.int .i64 n) w' ∧ Sim false base w0 w' (⟨true, b, o, putAt l i ys⟩ :: M) := by
  obtain ⟨w', h1, h2⟩ := run_storeCells (P := P) (i := i) ys 0 l w hS hv (by omega)
  refine ⟨w', ?_, h2⟩
  unfold Builtin.copy_
  have hn' : Nat.min lx ln = n := hn
  simp [ht.run, sizeOf, typeInfo, hI, hsz, Builtin.lenOf, Builtin.firstCells, hn', hx, h1, goInt]

/-- 'copy' where one of both is empty. -/
theorem run_copy0 {t e t2 ty : TypeId} {I : TypeInfo} {bd bs : Option Addr} {ln cn lx cx : Nat} {w : World} (ht : Und P t (.slice e))
    (hI : P.info? e = some I) (hn : min lx ln = 0) :
    (Builtin.copy_ #[t, t2] ty #[.slice bd ln cn, .slice bs lx cx]).run P w = .ok (.int .i64 0) w := by
  unfold Builtin.copy_
  have hn' : Nat.min lx ln = 0 := hn
  cases bd <;> cases bs <;> simp [ht.run, sizeOf, typeInfo, hI, Builtin.lenOf, Builtin.firstCells, hn', goInt, loadCells, loadCellsFrom, storeCells]

theorem P_copy0 {t e t2 : TypeId} {I : TypeInfo} {x y : Operand} {bd bs : Option Addr} {ln cn lx cx : Nat} (ht : Und P t (.slice e)) (hI : P.info? e = some I)
    (hx : ev E x = some (.slice bd ln cn)) (hy : ev E y = some (.slice bs lx cx)) (hn : min lx ln = 0) :
    Pure P N E M (.call { callee := .builtin .copy, args := #[x, y], argTypes := #[t, t2] }) (.int .i64 0) := by
  constructor
  intro pr base w0 a w hA hS d ty pos after g
  simp [execOp, resolve, invoke, builtin, hA.eval hx, hA.eval hy, run_copy0 ht hI hn]

theorem O_copy {t e t2 : TypeId} {I : TypeInfo} {x y : Operand} {b o p bx ox px ln cn n lx cx size i j : Nat} {l l' lsrc : List Value} {ownx : Bool} {M0 : Mem} (ht : Und P t (.slice e))
    (hI : P.info? e = some I) (hsz : I.size = size) (hx : ev E x = some (.slice (some ⟨b, p, none⟩) ln cn)) (hy : ev E y = some (.slice (some ⟨bx, px, none⟩) lx cx)) (hn : min lx ln = n)
    (hp : p = o + i) (hpx : px = ox + j) (hm : Take1 M ⟨true, b, o, l⟩ M0) (hmx : (⟨ownx, bx, ox, lsrc⟩ : Sg) ∈ M) (hj : j + n * size ≤ lsrc.length) (hv : ∀ v ∈ lsrc, v.oneCell' = true)
    (hl : i + n * size ≤ l.length) (hl' : putAt l i ((lsrc.drop j).take (n * size)) = l') (hg : On E ops g) (hd : Nat.blt d N.n = true)
    (h : WO false P N Fin ops rest k ((d, .int .i64 n) :: E) (⟨true, b, o, l'⟩ :: M0)) :
    WO false P N Fin ops (⟨some d, .call { callee := .builtin .copy, args := #[x, y], argTypes := #[t, t2] }, ty, pos, after, g⟩ :: rest) k E M := by
  subst hp; subst hpx; subst hl'
  refine ⟨⟨?_⟩⟩
  intro base w0 a w hA hS
  unfold wpList
  rw [if_pos (On.wanted (o := ⟨some d, .call { callee := .builtin .copy, args := #[x, y], argTypes := #[t, t2] }, ty, pos, after, g⟩) hg hA)]
  refine .inl ?_
  unfold Oper.wp
  have h1 := run_loadCells (P := P) (hS.seg _ hmx) hj
  have hlen : i + ((lsrc.drop j).take (n * size)).length ≤ l.length := by
    have : ((lsrc.drop j).take (n * size)).length ≤ n * size := List.length_take_le _ _
    omega
  obtain ⟨w', h2, h3⟩ := run_copy (P := P) (t2 := t2) (ty := ty) (o := o) (i := i) (cn := cn) (cx := cx) (ys := (lsrc.drop j).take (n * size)) ht hI hsz hn h1 (hS.rk (.cons hm .rfl)) (fun v hv' => hv v (List.mem_of_mem_drop (List.mem_of_mem_take hv'))) hlen
  have hr : (execOp a.eval ⟨some d, .call { callee := .builtin .copy, args := #[x, y], argTypes := #[t, t2] }, ty, pos, after, g⟩).run P w = .ok (.value (.int .i64 n)) w' := by
    simp [execOp, resolve, invoke, builtin, hA.eval hx, hA.eval hy, h2]
  rw [hr]
  exact h.out.out base w0 _ _ (hA.put hd _) h3

/-! ### make with room to spare, empty structs, slices held against nil -/

theorem O_makeCap {t e : TypeId} {I : TypeInfo} {x y : Operand} {kd kd2 : IntKind} {n c : Nat} {v : Value} (ht : Und P t (.slice e)) (hI : P.info? e = some I) (hs : I.size = 1) (hz : I.zero = some v)
    (hv : v.cells = #[v]) (hx : ev E x = some (.int kd (n : Int))) (hy : ev E y = some (.int kd2 (c : Int))) (hn : n ≤ c) (hc : 0 < c) (h1 : I.bytes * c ≤ 281474976710656) (h2 : c ≤ 9223372036854775807) (hg : On E ops g) (hd : Nat.blt d N.n = true)
    (h : ∀ b, WO false P N Fin ops rest k ((d, .slice (some ⟨b, 0, none⟩) n c) :: E) (⟨true, b, 0, List.replicate c v⟩ :: M)) : WO false P N Fin ops (⟨some d, .makeSlice t x y, ty, pos, after, g⟩ :: rest) k E M := by
  refine ⟨⟨?_⟩⟩
  intro base w0 a w hA hS
  unfold wpList
  rw [if_pos (On.wanted (o := ⟨some d, .makeSlice t x y, ty, pos, after, g⟩) hg hA)]
  refine .inl ?_
  unfold Oper.wp
  have hw : ∀ z : Nat, z ≤ c → IntKind.i64.wrap (z : Int) = z := fun z hz => wrap_id (k := .i64) (by simp only [IntKind.min, IntKind.signed, IntKind.bits]; omega) (by simp [IntKind.max, IntKind.signed, IntKind.bits]; omega)
  have hr : (execOp a.eval ⟨some d, .makeSlice t x y, ty, pos, after, g⟩).run P w = .ok (.value (.slice (some ⟨w.heap.size, 0, none⟩) n c)) (w.alloc (.cells (Array.replicate c v) e)) := by
    have c2 : ¬ (281474976710656 : Int) < I.bytes * c := by
      have : (I.bytes : Int) * c = ((I.bytes * c : Nat) : Int) := by simp
      omega
    have c3 : ¬ (c : Int) < n := by omega
    have c4 : ¬ c < n := by omega
    have hc0 : ¬ c = 0 := by omega
    have hc2 : ¬ (c : Int) < 0 := by omega
    have hn2 : ¬ (n : Int) < 0 := by omega
    simp [execOp, Instr.makeSlice, hA.eval hx, hA.eval hy, ht.run, asInt, asIntOf, typeInfo, hI, hw n hn, hw c (Nat.le_refl _), c2, c3, c4, sizeOf, hs, hc0, hc2, hn2, newRow, zeroValue, hz, hv, range_map_const]
  rw [hr]
  have := hS.alloc (Array.replicate c v) e
  simp only [Array.toList_replicate] at this
  exact (h w.heap.size).out.out base w0 _ _ (hA.put hd _) this

/-- A struct without cells. -/
theorem P_load_empty {t : TypeId} {I : TypeInfo} {x : Operand} {ad : Addr} (ht : AggT P t) (hI : P.info? t = some I) (hs : I.size = 0) (hx : ev E x = some (.pointer (some ad))) : Pure P N E M (.load t x) (.agg #[]) := by
  constructor
  intro pr base w0 a w hA hS d ty pos after g
  obtain ⟨D, ht, hD⟩ := ht.out
  cases D <;> simp [isAggD] at hD <;> simp [execOp, Instr.loadAt, Instr.sureAddr, hA.eval hx, loadVar, isAgg, run_under ht, sizeOf, typeInfo, hI, hs, loadCells, loadCellsFrom]

/-- Is the slice nil? -/
def NilS : Value → Bool → Prop
  | .slice none _ _, r => r = true
  | .slice (some _) _ _, r => r = false
  | _, _ => False

theorem run_equalIn_snil {t e : TypeId} (ht : Und P t (.slice e)) (dp : Nat) (v : Value) (r : Bool) (hr : NilS v r) (w : World) :
    (Op.equalIn (dp + 1) t v (.slice none 0 0)).run P w = .ok r w := by
  match v, hr with
  | .slice none l c, hr => simp [NilS] at hr; subst hr; simp [Op.equalIn, ht.run]
  | .slice (some ad) l c, hr => simp [NilS] at hr; subst hr; simp [Op.equalIn, ht.run]

theorem P_snil {t e t2 : TypeId} {x : Operand} {v : Value} {r : Bool} (ht : Und P t (.slice e)) (hx : ev E x = some v) (hr : NilS v r) : Pure P N E M (.binOp .eql t x (.const (.slice none 0 0)) t2) (.bool r) := by
  constructor
  intro pr base w0 a w hA hS d ty pos after g
  have h1 : (Op.equal t v (.slice none 0 0)).run P w = .ok r w := run_equalIn_snil ht 9999 v r hr w
  have h2 : (eqGuard .eql t x (.const (.slice none 0 0)) v (.slice none 0 0)).run P w = .ok () w := by cases v <;> simp [NilS] at hr <;> simp [eqGuard]
  have h3 : binOp .eql t v (.slice none 0 0) = (do pure (.bool (← Op.equal t v (.slice none 0 0)))) := by cases v <;> simp [NilS] at hr <;> rfl
  have he : a.eval (.const (.slice none 0 0)) = .slice none 0 0 := rfl
  simp only [execOp, hA.eval hx, he, h3]
  simp [h1, h2]
end
end Go.Proofs.Ytjkpfliaflmppaa.Vm

namespace Go.Proofs.Ytjkpfliaflmppaa.Vm
open Go Go.RowKit

section
variable {pr : Bool} {P : Program} {M : Mem}

/-- What a deferred call leaves as it was. -/
def Idle (P : Program) (g : FuncId) : Prop := ∀ w, CallsD P g #[] .returning w fun e u' w' => e = .returned (.tuple #[]) ∧ u' = .returning ∧ w' = w

theorem HC_of_W_defer {f gf : FuncId} {fn : Func} {c0 c : Code} {id : Nat} {ty : TypeId} {pos : String} {after : Array Edge} {vs : List Value} {R : Value → Mem → Prop} {rs : List ResultVar} {n : Nat}
    (hf : P.funcs[f]? = some fn) (hb : fn.body = some (.seq c0 (.seq (.region id #[⟨none, .defer { callee := .value (.func gf), args := #[], argTypes := #[] }, ty, pos, after, none⟩] false) c))) (hN : fn.ntmps = n)
    (hrs : fn.results.toList = rs) (hs : Nat.ble vs.length n = true) (hi : Idle P gf) (hc : Callable P gf)
    (h : W pr P ⟨n, []⟩ (fun e E M => e = .normal ∧ W pr P ⟨n, [⟨.fn (.func gf) #[], #[]⟩]⟩ (Ends rs R) c [] E M) c0 [] (zipEnv 0 vs) M) : HCp pr P f vs.toArray M R := by
  constructor
  intro base w0 w hS
  have hle : vs.length ≤ n := by simpa using hs
  refine calls_of_wp_defers hf hb (wp_seq (wp_mono (h.out.out base w0 _ w ⟨rfl, by simp [hN]; omega, fun i v hv => ?_⟩ hS) ?_))
  · obtain ⟨h1, h2⟩ := zipEnv_get vs 0 i v hv
    simp only [Nat.sub_zero] at h2
    have hi : i < vs.length := by
      rcases Nat.lt_or_ge i vs.length with h | h
      · exact h
      · simp [List.getElem?_eq_none h] at h2
    rw [Array.getElem?_append_left (by simpa using hi)]
    simpa using h2
  · rintro e a w' ⟨E', M', hA', hS', rfl, hW⟩
    show Code.wp P _ _ a w'
    refine wp_seq (wp_region ?_)
    have hA2 : Ag ⟨n, [⟨.fn (.func gf) #[], #[]⟩]⟩ E' { a with defers := ⟨.fn (.func gf) #[], #[]⟩ :: a.defers } := ⟨by rw [hA'.defers], hA'.size, hA'.val⟩
    have hfin := wp_mono (hW.out.out base w0 _ w' hA2 hS') (Q' := bodyPostD P fn fun e w' => ∃ v M', e = .returned v ∧ Sim pr base w0 w' M' ∧ R v M') (by
      rintro e a2 w2 ⟨E2, M2, hA3, hS3, hq⟩
      have hend : (∃ v, resOf E2 rs = some v ∧ R v M2) → Leaves P fn a2.tmps (fun e w' => ∃ v M', e = .returned v ∧ Sim pr base w0 w' M' ∧ R v M') a2.defers .returning w2 := by
        rintro ⟨v, hv, hR⟩
        rw [hA3.defers]
        refine leaves_cons (f := gf) (args := #[]) (by simp) (by simp [invoke, run_callFunc hc]) ?_
        refine (hi w2).mono ?_
        rintro e u' w'' ⟨rfl, rfl, rfl⟩
        exact ⟨v, run_results hA3 (by rw [hrs]; exact hv), v, M2, rfl, hS3, hR⟩
      cases e with
      | normal => exact hend hq
      | ret => exact hend hq
      | _ => exact hq.elim)
    show wpOps P _ _ [0] a w'
    simp only [wpOps, List.getElem?_toArray, List.getElem?_cons_zero]
    rw [if_pos (by simp [Region.wanted])]
    refine .inl ?_
    unfold Oper.wp
    have hr : (execOp a.eval ⟨none, .defer { callee := .value (.func gf), args := #[], argTypes := #[] }, ty, pos, after, none⟩).run P w' = .ok (.defer ⟨.fn (.func gf) #[], #[]⟩) w' := by
      simp [execOp, resolve, Deferred.ofValue, Act.eval]
    rw [hr]
    exact hfin
end

/-- A row of cells in which one is another. -/
inductive SetAt : List Value → Nat → Value → List Value → Prop where
  | zero {u v : Value} {l : List Value} : SetAt (u :: l) 0 v (v :: l)
  | succ {x v : Value} {n : Nat} {l l' : List Value} : SetAt l n v l' → SetAt (x :: l) (n + 1) v (x :: l')
theorem SetAt.eq {l l' : List Value} {n : Nat} {v : Value} (h : SetAt l n v l') : l' = l.set n v ∧ n < l.length := by
  induction h with
  | zero => exact ⟨rfl, by simp⟩
  | succ _ ih => exact ⟨by rw [ih.1]; rfl, by simpa using ih.2⟩

section
variable {P : Program} {N : Fm} {Fin : Post} {k : List Kn} {E : Env} {M : Mem}
variable {ops : List Oper} {rest : List Oper} {ty : TypeId} {pos : String} {after : Array Edge} {g : Option (Nat × Bool)}
inductive UpdC : Mem → Nat → Nat → Nat → Value → Mem → Prop where
  | head {M : Mem} {b o n : Nat} {v : Value} {l l' : List Value} : SetAt l n v l' → UpdC (⟨true, b, o, l⟩ :: M) b o n v (⟨true, b, o, l'⟩ :: M)
  | tail {M M' : Mem} {x : Sg} {b o n : Nat} {v : Value} : UpdC M b o n v M' → UpdC (x :: M) b o n v (x :: M')
theorem UpdC.upd {M M' : Mem} {b o n : Nat} {v : Value} (h : UpdC M b o n v M') : ∃ l l', SetAt l n v l' ∧ Upd1 M ⟨true, b, o, l⟩ l' M' := by
  induction h with
  | head hs => exact ⟨_, _, hs, .head⟩
  | tail _ ih => obtain ⟨l, l', h1, h2⟩ := ih; exact ⟨l, l', h1, .tail h2⟩
theorem O_storeC {t : TypeId} {p x : Operand} {b o n : Nat} {v : Value} {M' : Mem} (ht : Cel P t 1) (hp : ev E p = some (.pointer (some ⟨b, o + n, none⟩))) (hx : ev E x = some v)
    (hv : v.oneCell' = true) (hg : On E ops g) (hu : UpdC M b o n v M') (h : WO false P N Fin ops rest k E M') : WO false P N Fin ops (⟨none, .store t p x, ty, pos, after, g⟩ :: rest) k E M := by
  obtain ⟨l, l', hs, hu⟩ := hu.upd
  obtain ⟨h1, h2⟩ := hs.eq
  subst h1
  exact O_store ht hp hx hv hg h2 hu h
end

section
variable {P : Program} {N : Fm} {E : Env} {M : Mem}
/-- A slice expression, its result told as one likes it. -/
theorem P_slice1E {t e : TypeId} {x : Operand} {lo hi : Option Operand} {b o len cap o' len' cap' : Nat} {l h : Int} (ht : Und P t (.slice e)) (he : Cel P e 1)
    (hx : ev E x = some (.slice (some ⟨b, o, none⟩) len cap)) (hl : bnd E lo 0 l) (hh : bnd E hi len h) (h0 : 0 ≤ l) (h1 : l ≤ h) (h2 : h ≤ cap) (h3 : l < cap) (ho : o + l.toNat = o') (hn : h.toNat - l.toNat = len') (hc : cap - l.toNat = cap') :
    Pure P N E M (.slice t x lo hi none) (.slice (some ⟨b, o', none⟩) len' cap') := by
  subst ho; subst hn; subst hc
  exact P_slice1 ht he hx hl hh h0 h1 h2 h3
/-- .. of an array. -/
theorem P_sliceA1E {t e : TypeId} {x : Operand} {lo hi : Option Operand} {b o len o' len' cap' : Nat} {l h : Int} (ht : Und P t (.array len e)) (he : Cel P e 1)
    (hx : ev E x = some (.pointer (some ⟨b, o, none⟩))) (hl : bnd E lo 0 l) (hh : bnd E hi len h) (h0 : 0 ≤ l) (h1 : l ≤ h) (h2 : h ≤ len) (h3 : l < len) (ho : o + l.toNat = o') (hn : h.toNat - l.toNat = len') (hc : len - l.toNat = cap') :
    Pure P N E M (.slice t x lo hi none) (.slice (some ⟨b, o', none⟩) len' cap') := by
  subst ho; subst hn; subst hc
  have := P_sliceA (N := N) (M := M) ht he (by omega) hx hl hh h0 h1 h2 h3
  simpa using this
end
end Go.Proofs.Ytjkpfliaflmppaa.Vm

namespace Go.Proofs.Ytjkpfliaflmppaa.Vm
open Go Go.RowKit

section
variable {P : Program} {ops : Array Oper} {md : Region.Mode} {w : World}

/-- Each operation behind n waits for one at n or behind it. -/
def behindB (md : Region.Mode) (ops : Array Oper) (n : Nat) : Bool :=
  (List.range ops.size).all fun t => decide (t ≤ n) || (List.range t).any fun i => decide (n ≤ i) && Region.waitsFor md ops t i

theorem waits2 {n : Nat} {listed : Array Bool} (hs : Region.sinkB md ops n = true) (hc : behindB md ops n = true) (hn : n < ops.size) (inv : HeadInv md ops n listed) :
    ∀ (d i : Nat), n - i = d → i < n → listed.getD i true = false → ∀ t, n ≤ t → t ∉ Region.ready md ops listed := by
  intro d
  induction d using Nat.strongRecOn with
  | _ d ih =>
    intro i hd hi hun t ht hr
    obtain ⟨_, ot, hot, hall⟩ := mem_ready.1 hr
    have htlt : t < ops.size := (Array.getElem?_eq_some_iff.1 hot).1
    by_cases htn : t = n
    · subst htn
      obtain ⟨j, hj, hj2⟩ := List.any_eq_true.1 (List.all_eq_true.1 hs i (List.mem_range.2 hi))
      simp only [Bool.and_eq_true, decide_eq_true_eq] at hj2
      obtain ⟨oj, hoj, e, he, hb, hon⟩ := Region.waitsFor_spec hj2.2
      have hjle : j ≤ t := by have := List.mem_range.1 hj; omega
      by_cases hjt : j = t
      · subst hjt
        obtain rfl : oj = ot := Option.some.inj (hoj.symm.trans hot)
        have h2 := hall e he hb
        rw [hon, getD_both hun] at h2
        cases h2
      · cases hl : listed.getD j false with
        | true =>
          have h2 := inv.closed j oj hoj hl e he hb
          rw [hon, getD_both hun] at h2
          cases h2
        | false =>
          have hjs : j < listed.size := by rw [inv.size]; omega
          exact ih (t - j) (by omega) j rfl (by omega) (getD_in hjs hl) t (Nat.le_refl _) hr
    · have h1 := List.all_eq_true.1 hc t (List.mem_range.2 htlt)
      simp only [Bool.or_eq_true, decide_eq_true_eq] at h1
      rcases h1 with h1 | h1
      · omega
      · obtain ⟨j, hj, hj2⟩ := List.any_eq_true.1 h1
        simp only [Bool.and_eq_true, decide_eq_true_eq] at hj2
        have hjt := List.mem_range.1 hj
        obtain ⟨o', ho', e, he, hb, hon⟩ := Region.waitsFor_spec hj2.2
        obtain rfl : o' = ot := Option.some.inj (ho'.symm.trans hot)
        have h2 := hall e he hb
        rw [hon, getD_both (inv.tail j hj2.1 (by omega))] at h2
        cases h2

theorem head_first {n i : Nat} {oi : Oper} {v : Value} {L : Array Bool → Act → Prop} (hi : ops[i]? = some oi) (hsel : ∀ (j : Nat) (o : Oper) cs b, ops[j]? = some o → o.op ≠ .select cs b)
    (hs : Region.sinkB md ops n = true) (hc : behindB md ops n = true) (hn : n < ops.size) (hin : i < n)
    (hdone : ∀ listed a, L listed a → ∀ j ∈ Region.ready md ops listed, n ≤ j) :
    ∀ (f : Nat) (listed : Array Bool) (a : Act), HeadInv md ops n listed →
      (∀ j oj, ops[j]? = some oj → j ≠ i → listed.getD j true = false → (∀ e ∈ oj.after, Region.binds md e = true → e.on ≠ i) → oi.apart ops oj = true) →
      i ∈ Region.ready md ops listed → YieldsAt P ops w oi v a →
      wpAnyL P md ops w n L f (listed.setIfInBounds i true) (a.put oi.dst v) → wpAnyL P md ops w n L (f + 1) listed a := by
  intro f
  induction f with
  | zero =>
    intro listed a inv _ hr hy H
    have hun := (mem_ready.1 hr).1
    refine ⟨fun h => (by rw [h] at hr; cases hr), fun j hj => ?_⟩
    have hjn : j < n := by
      rcases Nat.lt_or_ge j n with h | h
      · exact h
      · exact absurd hj (waits2 hs hc hn inv _ i rfl hin hun j h)
    refine ⟨hjn, ?_⟩
    by_cases hji : j = i
    · subst hji; exact hy.stOp hi H
    · have := hdone _ _ H j (ready_mono hj hji)
      omega
  | succ f ih =>
    intro listed a inv hfree hr hy H
    have hun := (mem_ready.1 hr).1
    refine ⟨fun h => (by rw [h] at hr; cases hr), fun j hj => ?_⟩
    have hjn : j < n := by
      rcases Nat.lt_or_ge j n with h | h
      · exact h
      · exact absurd hj (waits2 hs hc hn inv _ i rfl hin hun j h)
    refine ⟨hjn, ?_⟩
    by_cases hji : j = i
    · subst hji; exact hy.stOp hi H
    · have h1 := (H.2 j (ready_mono hj hji)).2
      obtain ⟨hjun, oj, hoj, hall⟩ := mem_ready.1 hj
      have hnot : ∀ e ∈ oj.after, Region.binds md e = true → e.on ≠ i := fun e he hb heq => by
        have h1 := hall e he hb
        rw [heq, getD_both hun] at h1
        cases h1
      have h2 := stOp_put hoj (hfree j oj hoj hji hjun hnot) (fun cs b => hsel i oi cs b hi) (fun cs b => hsel j oj cs b hoj) hy h1
      have hfree' : ∀ k ok, ops[k]? = some ok → k ≠ i → (listed.setIfInBounds j true).getD k true = false →
          (∀ e ∈ ok.after, Region.binds md e = true → e.on ≠ i) → oi.apart ops ok = true := fun k ok hk hki hun hno => by
        refine hfree k ok hk hki ?_ hno
        by_cases hjk : j = k
        · subst hjk; exact hjun
        · rw [getD_set_ne true hjk] at hun; exact hun
      refine stOp_mono (fun a' h3 => ih (listed.setIfInBounds j true) a' (inv.set hj hjn) hfree' (ready_mono hr (Ne.symm hji)) h3.1 ?_) h2
      rw [Array.setIfInBounds_comm _ _ hji]
      exact h3.2

def headB (md : Region.Mode) (ops : Array Oper) (B : Array Bool → Bool) : Nat → Nat → Array Bool → Bool
  | 0, _, listed => B listed
  | f + 1, k, listed => (Region.ready md ops listed).contains k && Region.free md ops listed k && headB md ops B f (k + 1) (listed.setIfInBounds k true)

theorem head_lex {n : Nat} {B : Array Bool → Bool} {Lq : Act → Prop} (hsel : Region.noSelect ops = true) (hs : Region.sinkB md ops n = true) (hc : behindB md ops n = true) (hn : n < ops.size)
    (hBr : ∀ listed, B listed = true → ∀ j ∈ Region.ready md ops listed, n ≤ j) :
    ∀ (l : List Oper) (k : Nat) (listed : Array Bool) (a : Act), (∀ j, j < l.length → l[j]? = ops[k + j]?) → k + l.length = n → HeadInv md ops n listed →
    headB md ops B l.length k listed = true → wpStill P ops w Lq l a →
    wpAnyL P md ops w n (fun listed' a' => B listed' = true ∧ Lq a') l.length listed a
  | [], k, listed, a, _, hk, _, hB, h => ⟨hB, h⟩
  | o :: l, k, listed, a, hl, hk, inv, hB, h => by
    have h0 : ops[k]? = some o := by simpa using (hl 0 (by simp)).symm
    simp only [List.length_cons, headB, Bool.and_eq_true] at hB
    obtain ⟨⟨hr, hf⟩, hB'⟩ := hB
    have hkn : k < n := by simp only [List.length_cons] at hk; omega
    have hr' : k ∈ Region.ready md ops listed := by simpa using hr
    have hst : stOp P ops w k (wpStill P ops w Lq l) a := by unfold stOp; simp only [h0]; exact h
    obtain ⟨v, hy, hK⟩ := yieldsAt_of_stOp h0 hst
    exact head_first h0 (Region.noSelect_spec hsel) hs hc hn hkn (fun listed' a' hL => hBr _ hL.1) l.length listed a inv (Region.free_spec h0 hf) hr' hy
      (head_lex hsel hs hc hn hBr l (k + 1) _ _ (fun j hj => by have := hl (j + 1) (by simp; omega); simpa [Nat.add_assoc, Nat.add_comm 1 j] using this) (by simp only [List.length_cons] at hk; omega) (inv.set hr' hkn) hB' hK)

/-- The n-th operation stands alone; those ahead of it and those behind it may be done in the text's order. -/
def midB (md : Region.Mode) (ops : Array Oper) (n : Nat) : Bool :=
  Region.noSelect ops && decide (n < ops.size) && Region.sinkB md ops n && behindB md ops n &&
    headB md ops (fun listed => (Region.ready md ops listed == [n]) && Region.lexFrom md ops (ops.size - (n + 1)) (n + 1) (listed.setIfInBounds n true)) n 0 (Array.replicate ops.size false)

theorem wp_region_mid {id : Nat} {Q : Exit → Act → World → Prop} {a : Act} {l : List Oper} (n : Nat) (hm : P.follows .mixedOrders = true) (hB : midB .any l.toArray n = true)
    (h : wpStill P l.toArray { w with drawn := w.drawn + 1 } (fun a' => wpOp P l.toArray Q n (fun a2 w2 => wpStill P l.toArray w2 (fun a3 => Q .normal a3 w2) (l.drop (n + 1)) a2) a' { w with drawn := w.drawn + 1 }) (l.take n) a) :
    (Code.region id l.toArray true).wp P Q a w := by
  simp only [midB, Bool.and_eq_true, decide_eq_true_eq] at hB
  obtain ⟨⟨⟨⟨hsel, hn⟩, hs⟩, hc⟩, hlex⟩ := hB
  have hn' : n < l.length := by simpa using hn
  have htl : (l.take n).length = n := by simp; omega
  have hdl : (l.drop (n + 1)).length = l.toArray.size - (n + 1) := by simp
  have inv0 : HeadInv .any l.toArray n (Array.replicate l.toArray.size false) :=
    ⟨by simp, fun j oj _ hl => (by rw [getD_replicate_false] at hl; cases hl), fun t _ ht => getD_in (by simpa using ht) (getD_replicate_false _ _)⟩
  have H := head_lex (md := .any) hsel hs hc hn (B := fun listed => (Region.ready .any l.toArray listed == [n]) && Region.lexFrom .any l.toArray (l.toArray.size - (n + 1)) (n + 1) (listed.setIfInBounds n true)) (fun listed hb j hj => by
    simp only [Bool.and_eq_true, beq_iff_eq] at hb
    rw [hb.1] at hj
    have : j = n := by simpa using hj
    omega) (l.take n) 0 _ a (fun j hj => by
    have hj' : j < n := by rw [htl] at hj; exact hj
    simp [hj']) (by simpa using htl) inv0 (by rw [htl]; exact hlex) h
  refine wp_region_any hm ?_
  have := wpAny_of_head (Q' := Q) (g := l.toArray.size - n) (fun listed a' hL => by
    obtain ⟨hb, hq⟩ := hL
    rw [Bool.and_eq_true, beq_iff_eq] at hb
    rw [show l.toArray.size - n = (l.toArray.size - (n + 1)) + 1 by omega]
    refine ⟨fun h0 => (by rw [hb.1] at h0; cases h0), fun i hi => ?_⟩
    rw [hb.1] at hi
    obtain rfl : i = n := by simpa using hi
    refine wpOp_mono (fun a2 w2 h2 => ?_) hq
    have h3 := wpAnyS_lex (md := .any) hsel (l.drop (i + 1)) (i + 1) (listed.setIfInBounds i true) a2 (fun j => by simp [List.getElem?_drop]) (by rw [hdl]; exact hb.2) h2
    rw [hdl] at h3
    exact wpAny_of_still (fun a4 h4 => h4) _ _ _ h3) _ _ _ H
  rw [htl, show n + (l.toArray.size - n) = l.toArray.size by omega] at this
  exact this
end

theorem wp_other {P : Program} {o : Oper} {a : Act} {w : World} {K K' : Act → World → Prop} {Q Q' : Exit → Act → World → Prop} (h : ∀ a w, K a w → K' a w) (hq : ∀ e a w, e ≠ .normal → ¬ Q e a w)
    (hh : o.wp P a w K Q) : o.wp P a w K' Q' := by
  unfold Oper.wp at *
  generalize (execOp a.eval o).run P w = r at *
  cases r with
  | ok n w' =>
    cases n <;> simp only [Oper.upon] at hh ⊢ <;>
      first
        | exact h _ _ hh
        | exact Calls.mono hh (fun e w'' he => by
            cases e with
            | returned v => exact h _ _ he
            | panicked c => exact absurd he (hq _ _ _ (by simp))
            | outgrown => obtain ⟨a2, w2, h2⟩ := he; exact absurd h2 (hq _ _ _ (by simp)))
        | exact Rows.mono hh (fun _ _ he => h _ _ he)
  | halt x w' => cases x <;> simp only [Oper.upon] at hh ⊢ <;> exact absurd hh (hq _ _ _ (by simp))

section
variable {P : Program} {N : Fm} {Fin : Post} {k : List Kn} {E : Env} {M : Mem}

theorem W_region_mid {id : Nat} {l : List Oper} (n : Nat) (hm : P.follows .mixedOrders = true) (hB : midB .any l.toArray n = true)
    (h : OS false P N l (fun E' => WO false P N (fun e E2 M2 => e = .normal ∧ OS false P N l (fun E3 => G false P N Fin .normal k E3 M2) (l.drop (n + 1)) E2 M2) l ((l.drop n).take 1) [] E' M) (l.take n) E M) :
    W false P N Fin (.region id l.toArray true) k E M := by
  refine ⟨⟨fun base w0 a w hA hS => ?_⟩⟩
  have hn : n < l.length := by simp only [midB, Bool.and_eq_true, decide_eq_true_eq] at hB; simpa using hB.1.1.1.2
  refine wp_region_mid n hm hB (wpStill_mono (fun a' ⟨E', k1, k2⟩ => ?_) _ _ (h.out base w0 a { w with drawn := w.drawn + 1 } hA hS.drew))
  have h1 := k2.out.out base w0 a' _ k1 hS.drew
  have hone : (l.drop n).take 1 = [l[n]] := by rw [List.drop_eq_getElem_cons hn]; rfl
  rw [hone] at h1
  unfold wpOp
  rw [show l.toArray[n]? = some l[n] by simp [hn]]
  have key : ∀ a2 w2, wpList P l.toArray (Lift false base N w0 (post false P N (fun e E2 M2 => e = .normal ∧ OS false P N l (fun E3 => G false P N Fin .normal k E3 M2) (l.drop (n + 1)) E2 M2) [])) [] a2 w2 →
      wpStill P l.toArray w2 (fun a3 => Lift false base N w0 (post false P N Fin k) .normal a3 w2) (l.drop (n + 1)) a2 := by
    intro a2 w2 h2
    obtain ⟨E2, M2, hA2, hS2, _, h3⟩ := h2
    exact wpStill_mono (fun a3 ⟨E3, k3, k4⟩ => ⟨E3, M2, k3, hS2, k4.out⟩) _ _ (h3.out base w0 a2 w2 hA2 hS2)
  unfold wpList at h1
  have hno : ∀ e a w, e ≠ .normal → ¬ Lift false base N w0 (post false P N (fun e E2 M2 => e = .normal ∧ OS false P N l (fun E3 => G false P N Fin .normal k E3 M2) (l.drop (n + 1)) E2 M2) []) e a w := by
    rintro e a w hne ⟨E2, M2, _, _, h3, _⟩
    exact hne h3
  dsimp only
  split
  · rename_i hw
    rw [if_pos hw] at h1
    rcases h1 with h1 | ⟨_, a2, w2, h2⟩
    · exact .inl (wp_other key hno h1)
    · exact absurd h2 (hno _ _ _ (by simp))
  · rename_i hw
    rw [if_neg hw] at h1
    exact key _ _ h1

/-- A loop of at most one round, and the end's test. -/
theorem W_rounds2 {pr : Bool} {c : Code} (h : W pr P N Fin c (.stop (fun E1 M1 => W pr P N Fin c (.stop (fun _ _ => False) :: k) E1 M1) :: k) E M) : W pr P N Fin (.loop c) k E M := by
  refine ⟨⟨fun base w0 a w hA hS => wp_loop_rounds 2 ?_⟩⟩
  rw [rounds_succ]
  refine wp_mono (h.out.out base w0 a w hA hS) ?_
  rintro e a' w' ⟨E', M', h1, h2, h3⟩
  cases e with
  | normal =>
    show Code.rounds P c _ 1 a' w'
    rw [rounds_succ]
    have h4 : W pr P N Fin c (.stop (fun _ _ => False) :: k) E' M' := h3
    refine wp_mono (h4.out.out base w0 a' w' h1 h2) ?_
    rintro e a2 w2 ⟨E2, M2, k1, k2, k3⟩
    cases e with
    | normal => exact False.elim k3
    | _ => exact ⟨E2, M2, k1, k2, k3⟩
  | _ => exact ⟨E', M', h1, h2, h3⟩
end
end Go.Proofs.Ytjkpfliaflmppaa.Vm

namespace Go.Proofs.Ytjkpfliaflmppaa.Vm
open Go Go.RowKit

structure OA (P : Program) (N : Fm) (Fin : Post) (k : List Kn) (l : List Oper) (f : Nat) (listed : Array Bool) (E : Env) (M : Mem) : Prop where
  out : ∀ base w0 a w, Ag N E a → Sim false base w0 w M → wpAny P .any l.toArray (Lift false base N w0 (post false P N Fin k)) f listed a w

section
variable {P : Program} {N : Fm} {Fin : Post} {k : List Kn} {E : Env} {M : Mem} {l : List Oper} {f : Nat} {listed : Array Bool}

theorem W_region_any {id : Nat} (hm : P.follows .mixedOrders = true) (h : OA P N Fin k l l.toArray.size (Array.replicate l.toArray.size false) E M) : W false P N Fin (.region id l.toArray true) k E M :=
  ⟨⟨fun base w0 a w hA hS => wp_region_any hm (h.out base w0 a _ hA hS.drew)⟩⟩

/-- One operation, and what may come then. -/
def Step (P : Program) (N : Fm) (Fin : Post) (k : List Kn) (l : List Oper) (f : Nat) (listed : Array Bool) (E : Env) (M : Mem) (i : Nat) : Prop :=
  WO false P N (fun e E2 M2 => e = .normal ∧ OA P N Fin k l f (listed.setIfInBounds i true) E2 M2) l ((l.drop i).take 1) [] E M

theorem OA_step {rs : List Nat} (hr : Region.ready .any l.toArray listed = rs) (hne : rs.isEmpty = false) (hlt : ∀ i ∈ rs, i < l.length) (h : ∀ i ∈ rs, Step P N Fin k l f listed E M i) : OA P N Fin k l (f + 1) listed E M := by
  refine ⟨fun base w0 a w hA hS => ⟨fun h0 => ?_, fun i hi => ?_⟩⟩
  · rw [hr] at h0; subst h0; simp at hne
  rw [hr] at hi
  have hn := hlt i hi
  have h1 := (h i hi).out.out base w0 a w hA hS
  have hone : (l.drop i).take 1 = [l[i]] := by rw [List.drop_eq_getElem_cons hn]; rfl
  rw [hone] at h1
  unfold wpOp
  rw [show l.toArray[i]? = some l[i] by simp [hn]]
  have key : ∀ a2 w2, wpList P l.toArray (Lift false base N w0 (post false P N (fun e E2 M2 => e = .normal ∧ OA P N Fin k l f (listed.setIfInBounds i true) E2 M2) [])) [] a2 w2 →
      wpAny P .any l.toArray (Lift false base N w0 (post false P N Fin k)) f (listed.setIfInBounds i true) a2 w2 := by
    intro a2 w2 h2
    obtain ⟨E2, M2, hA2, hS2, _, h3⟩ := h2
    exact h3.out base w0 a2 w2 hA2 hS2
  unfold wpList at h1
  have hno : ∀ e a w, e ≠ .normal → ¬ Lift false base N w0 (post false P N (fun e E2 M2 => e = .normal ∧ OA P N Fin k l f (listed.setIfInBounds i true) E2 M2) []) e a w := by
    rintro e a w hne ⟨E2, M2, _, _, h3, _⟩
    exact hne h3
  dsimp only
  split
  · rename_i hw
    rw [if_pos hw] at h1
    rcases h1 with h1 | ⟨_, a2, w2, h2⟩
    · exact .inl (wp_other key hno h1)
    · exact absurd h2 (hno _ _ _ (by simp))
  · rename_i hw
    rw [if_neg hw] at h1
    exact key _ _ h1

/-- From n on there is one order alone. -/
theorem OA_seq (n : Nat) (hs : Region.seqB .any l.toArray (l.drop n).length n listed = true) (hf : (l.drop n).length = f) (h : WO false P N Fin l (l.drop n) k E M) : OA P N Fin k l f listed E M := by
  subst hf
  exact ⟨fun base w0 a w hA hS => wpAny_of_seq (l.drop n) n listed a w (fun j => by simp [List.getElem?_drop]) hs (h.out.out base w0 a w hA hS)⟩
end
end Go.Proofs.Ytjkpfliaflmppaa.Vm

namespace Go.Proofs.Ytjkpfliaflmppaa.Vm
open Go Go.RowKit

section
variable {P : Program} {N : Fm} {Fin : Post} {k : List Kn} {l : List Oper}

/-- How many operations are left. -/
def left (listed : Array Bool) : Nat → Nat
  | 0 => 0
  | n + 1 => left listed n + (if listed.getD n true = true then 0 else 1)

theorem left_same {listed : Array Bool} {i : Nat} : ∀ n, n ≤ i → left (listed.setIfInBounds i true) n = left listed n
  | 0, _ => rfl
  | n + 1, h => by
    have h1 := left_same (listed := listed) (i := i) n (by omega)
    have h2 : (listed.setIfInBounds i true).getD n true = listed.getD n true := getD_set_ne true (by omega)
    simp only [left, h1, h2]
theorem left_set {listed : Array Bool} {i : Nat} (hl : listed.getD i true = false) (hs : i < listed.size) : ∀ n, i < n → left (listed.setIfInBounds i true) n + 1 = left listed n
  | 0, h => by omega
  | n + 1, h => by
    simp only [left]
    by_cases hin : i = n
    · subst hin
      rw [left_same i (Nat.le_refl _), hl]
      have : (listed.setIfInBounds i true).getD i true = true := by simp [hs]
      rw [this]; simp
    · have := left_set hl hs n (by omega)
      rw [getD_set_ne true hin]; omega

/-- Each operation waits for earlier ones alone. -/
def earlierB (ops : Array Oper) : Bool :=
  (List.range ops.size).all fun i => match ops[i]? with
    | some o => o.after.all fun e => !Region.binds .any e || decide (e.on < i)
    | none => true

theorem none_left {ops : Array Oper} (h : earlierB ops = true) {listed : Array Bool} (hs : listed.size = ops.size) (hr : Region.ready .any ops listed = []) : ∀ i, i < ops.size → listed.getD i true = true := by
  intro i
  induction i using Nat.strongRecOn with
  | _ i ih =>
    intro hi
    cases hl : listed.getD i true with
    | true => rfl
    | false =>
      have h1 := List.all_eq_true.1 h i (List.mem_range.2 hi)
      have ho : ops[i]? = some ops[i] := by simp [hi]
      rw [ho] at h1
      dsimp only at h1
      have hmem : i ∈ Region.ready .any ops listed := by
        refine mem_ready.2 ⟨hl, ops[i], ho, fun e he hb => ?_⟩
        have h2 := Array.all_eq_true_iff_forall_mem.1 h1 e he
        simp only [hb, Bool.not_true, Bool.false_or, decide_eq_true_eq] at h2
        have h3 := ih e.on h2 (by omega)
        have h4 : e.on < listed.size := by omega
        simp [h4] at h3 ⊢
        exact h3
      rw [hr] at hmem
      cases hmem

/-- I tells of each set of operations done what holds of slots and memory. 'ws': what each operation waits for. -/
theorem OA_inv2 (ws : List (List Nat)) (hw : ((List.range l.length).all fun i => (ws.getD i []).all fun j => Region.waitsFor .any l.toArray i j) = true)
    (I : (Nat → Bool) → Env → Mem → Prop)
    (hstep : ∀ i, i < l.length → ∀ (done : Nat → Bool) E M, I done E M → done i = false → (∀ j ∈ ws.getD i [], done j = true) →
      WO false P N (fun e E2 M2 => e = .normal ∧ I (fun j => if j = i then true else done j) E2 M2) l ((l.drop i).take 1) [] E M)
    (hend : ∀ (done : Nat → Bool) E M, I done E M → (∀ i, i < l.length → done i = true) → ∃ E2 M2, (∀ n v, Env.get? E2 n = some v → E.get? n = some v) ∧ Rk M M2 ∧ G false P N Fin .normal k E2 M2)
    (hac : earlierB l.toArray = true) :
    ∀ f listed E M, listed.size = l.length → left listed l.length ≤ f → I (fun j => listed.getD j false) E M → OA P N Fin k l f listed E M := by
  have hnd : ∀ listed : Array Bool, listed.size = l.length → Region.ready .any l.toArray listed = [] → ∀ i, i < l.length → listed.getD i true = true :=
    fun listed hs hr i hi => none_left hac (by simpa using hs) hr i (by simpa using hi)
  intro f
  induction f with
  | zero =>
    intro listed E M hsz hf hI
    have hr : Region.ready .any l.toArray listed = [] := by
      rw [List.eq_nil_iff_forall_not_mem]
      intro i hi
      obtain ⟨h1, o, ho, _⟩ := mem_ready.1 hi
      have hil : i < l.length := by have := (Array.getElem?_eq_some_iff.1 ho).1; simpa using this
      have := left_set h1 (by omega) l.length hil
      omega
    have hall := hnd listed hsz hr
    obtain ⟨E2, M2, q1, q2, q3⟩ := hend _ E M hI (fun i hi => by
      have := hall i hi
      simp [show i < listed.size by omega] at this ⊢; exact this)
    exact ⟨fun base w0 a w hA hS => ⟨hr, E2, M2, ⟨hA.defers, hA.size, fun n v h => hA.val n v (q1 n v h)⟩, hS.rk q2, q3.out⟩⟩
  | succ f ih =>
    intro listed E M hsz hf hI
    refine ⟨fun base w0 a w hA hS => ⟨fun hr => ?_, fun i hi => ?_⟩⟩
    · have hall := hnd listed hsz hr
      obtain ⟨E2, M2, q1, q2, q3⟩ := hend _ E M hI (fun i hi => by
        have := hall i hi
        simp [show i < listed.size by omega] at this ⊢; exact this)
      exact ⟨E2, M2, ⟨hA.defers, hA.size, fun n v h => hA.val n v (q1 n v h)⟩, hS.rk q2, q3.out⟩
    · obtain ⟨h1, o, ho, hdep⟩ := mem_ready.1 hi
      have hil : i < l.length := by have := (Array.getElem?_eq_some_iff.1 ho).1; simpa using this
      have his : i < listed.size := by omega
      have hdo : listed.getD i false = false := getD_both h1
      have hws : ∀ j ∈ ws.getD i [], listed.getD j false = true := by
        intro j hj
        have h2 := List.all_eq_true.1 (List.all_eq_true.1 hw i (List.mem_range.2 hil)) j hj
        obtain ⟨o', ho', e, he, hb, hon⟩ := Region.waitsFor_spec h2
        obtain rfl : o' = o := Option.some.inj (ho'.symm.trans ho)
        rw [← hon]
        exact hdep e he hb
      have h := hstep i hil _ E M hI hdo hws
      have h1' := h.out.out base w0 a w hA hS
      have hone : (l.drop i).take 1 = [l[i]] := by rw [List.drop_eq_getElem_cons hil]; rfl
      rw [hone] at h1'
      unfold wpOp
      rw [show l.toArray[i]? = some l[i] by simp [hil]]
      have key : ∀ a2 w2, wpList P l.toArray (Lift false base N w0 (post false P N (fun e E2 M2 => e = .normal ∧ I (fun j => if j = i then true else listed.getD j false) E2 M2) [])) [] a2 w2 →
          wpAny P .any l.toArray (Lift false base N w0 (post false P N Fin k)) f (listed.setIfInBounds i true) a2 w2 := by
        intro a2 w2 h2
        obtain ⟨E2, M2, hA2, hS2, _, hI2⟩ := h2
        have e2 : (fun j => (listed.setIfInBounds i true).getD j false) = fun j => if j = i then true else listed.getD j false := by
          funext j
          by_cases hij : i = j
          · subst hij; simp [his]
          · rw [getD_set_ne false hij, if_neg (Ne.symm hij)]
        refine (ih (listed.setIfInBounds i true) E2 M2 (by simpa using hsz) (by have := left_set h1 his l.length hil; omega) ?_).out base w0 a2 w2 hA2 hS2
        rw [e2]
        exact hI2
      unfold wpList at h1'
      have hno : ∀ e a w, e ≠ .normal → ¬ Lift false base N w0 (post false P N (fun e E2 M2 => e = .normal ∧ I (fun j => if j = i then true else listed.getD j false) E2 M2) []) e a w := by
        rintro e a w hne ⟨E2, M2, _, _, h3, _⟩
        exact hne h3
      dsimp only
      split
      · rename_i hw
        rw [if_pos hw] at h1'
        rcases h1' with h1' | ⟨_, a2, w2, h2⟩
        · exact .inl (wp_other key hno h1')
        · exact absurd h2 (hno _ _ _ (by simp))
      · rename_i hw
        rw [if_neg hw] at h1'
        exact key _ _ h1'

theorem left_all (n : Nat) : ∀ m, left (Array.replicate n false) m ≤ m
  | 0 => Nat.le_refl _
  | m + 1 => by
    have := left_all n m
    simp only [left]
    split <;> omega

theorem W_region_inv2 {E : Env} {M : Mem} {id : Nat} (hm : P.follows .mixedOrders = true) (ws : List (List Nat)) (hw : ((List.range l.length).all fun i => (ws.getD i []).all fun j => Region.waitsFor .any l.toArray i j) = true)
    (hac : earlierB l.toArray = true) (I : (Nat → Bool) → Env → Mem → Prop) (h0 : I (fun _ => false) E M)
    (hstep : ∀ i, i < l.length → ∀ (done : Nat → Bool) E M, I done E M → done i = false → (∀ j ∈ ws.getD i [], done j = true) →
      WO false P N (fun e E2 M2 => e = .normal ∧ I (fun j => if j = i then true else done j) E2 M2) l ((l.drop i).take 1) [] E M)
    (hend : ∀ (done : Nat → Bool) E M, I done E M → (∀ i, i < l.length → done i = true) → ∃ E2 M2, (∀ n v, Env.get? E2 n = some v → E.get? n = some v) ∧ Rk M M2 ∧ G false P N Fin .normal k E2 M2) :
    W false P N Fin (.region id l.toArray true) k E M := by
  refine W_region_any hm (OA_inv2 ws hw I hstep hend hac _ _ E M (by simp) ?_ ?_)
  · have := left_all l.toArray.size l.length
    simpa using this
  · have e : (fun j => (Array.replicate l.toArray.size false).getD j false) = fun _ => false := by
      funext j; exact getD_replicate_false _ _
    rw [e]; exact h0
theorem W_region_inv {E : Env} {M : Mem} {id : Nat} (hm : P.follows .mixedOrders = true) (ws : List (List Nat)) (hw : ((List.range l.length).all fun i => (ws.getD i []).all fun j => Region.waitsFor .any l.toArray i j) = true)
    (hac : earlierB l.toArray = true) (I : (Nat → Bool) → Env → Mem → Prop) (h0 : I (fun _ => false) E M)
    (hstep : ∀ i, i < l.length → ∀ (done : Nat → Bool) E M, I done E M → done i = false → (∀ j ∈ ws.getD i [], done j = true) →
      WO false P N (fun e E2 M2 => e = .normal ∧ I (fun j => if j = i then true else done j) E2 M2) l ((l.drop i).take 1) [] E M)
    (hend : ∀ (done : Nat → Bool) E M, I done E M → (∀ i, i < l.length → done i = true) → G false P N Fin .normal k E M) :
    W false P N Fin (.region id l.toArray true) k E M :=
  W_region_inv2 hm ws hw hac I h0 hstep fun done E M hI hall => ⟨E, M, fun _ _ h => h, .rfl, hend done E M hI hall⟩
end
end Go.Proofs.Ytjkpfliaflmppaa.Vm
