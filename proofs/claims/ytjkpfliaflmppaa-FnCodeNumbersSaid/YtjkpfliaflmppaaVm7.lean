/- More rules of the engine: rows split and put together, methods called through interfaces, copy, make with room to spare. No condition. -/
import Derived.Test.YtjkpfliaflmppaaVm6
namespace Go.Proofs.Ytjkpfliaflmppaa.Vm
open Go Go.RowKit

theorem Rk.app {M L : Mem} (m : Mem) (h : Rk M L) : Rk (m ++ M) (m ++ L) := by
  induction m with
  | nil => exact h
  | cons s m ih => exact .cons .head ih
theorem Rk.left (m M : Mem) : Rk (M ++ m) M := by
  induction M with
  | nil => exact .nil
  | cons s M ih => exact .cons .head ih
theorem Rk.right (m M : Mem) : Rk (m ++ M) M := by
  induction m with
  | nil => exact .rfl
  | cons s m ih => exact .drop ih

theorem Sim.split {pr : Bool} {base : Nat} {w0 w : World} {M : Mem} {own : Bool} {b o o2 : Nat} {xs ys : List Value} (h : Sim pr base w0 w (⟨own, b, o, xs ++ ys⟩ :: M)) (ho : o2 = o + xs.length) :
    Sim pr base w0 w (⟨own, b, o, xs⟩ :: ⟨own, b, o2, ys⟩ :: M) := by
  subst ho
  obtain ⟨c, T, lo, hi, hh, h1, h2, h3⟩ := h.seg _ (.head _)
  simp only [List.length_append] at h1 h2 h3
  have hd := h.dis
  cases hd with
  | cons hd1 hd2 =>
    refine ⟨h.bel, h.hb, ?_, ?_, h.same⟩
    · intro s hs
      cases hs with
      | head =>
        refine ⟨c, T, lo, hi, hh, by simp only; omega, fun i hi => ?_, fun ho => ⟨(h3 ho).1, fun i hi => (h3 ho).2 i (by simp only at hi; omega)⟩⟩
        have := h2 i (by simp only at hi; omega)
        rw [List.getElem?_append_left hi] at this
        exact this
      | tail _ hs =>
        cases hs with
        | head =>
          refine ⟨c, T, lo, hi, hh, by simp only; omega, fun i hi => ?_, fun ho => ⟨(h3 ho).1, fun i hi => ?_⟩⟩
          · have := h2 (xs.length + i) (by simp only at hi; omega)
            rw [List.getElem?_append_right (by omega), Nat.add_sub_cancel_left] at this
            rw [Nat.add_assoc]; exact this
          · have := (h3 ho).2 (xs.length + i) (by simp only at hi; omega)
            simp only at this ⊢
            omega
        | tail _ hs => exact h.seg s (.tail _ hs)
    · refine .cons (fun t ht => ?_) (.cons (fun t ht => ?_) hd2)
      · cases ht with
        | head => exact .inr (.inr (.inl (Nat.le_refl _)))
        | tail _ ht =>
          have := hd1 t ht
          unfold Sg.apart at *
          simp only [List.length_append] at this ⊢
          rcases this with h | h | h | h
          · exact .inl h
          · exact .inr (.inl h)
          · exact .inr (.inr (.inl (by omega)))
          · exact .inr (.inr (.inr (by omega)))
      · have := hd1 t ht
        unfold Sg.apart at *
        simp only [List.length_append] at this ⊢
        rcases this with h | h | h | h
        · exact .inl h
        · exact .inr (.inl h)
        · exact .inr (.inr (.inl (by omega)))
        · exact .inr (.inr (.inr (by omega)))

section
variable {pr : Bool} {P : Program} {N : Fm} {Fin : Post} {k : List Kn} {E : Env} {M : Mem} {Q : Post}
variable {ops : List Oper} {rest : List Oper} {d : Nat} {op : Op} {ty : TypeId} {pos : String} {after : Array Edge} {g : Option (Nat × Bool)} {v : Value}

theorem O_split {own : Bool} {b o o2 : Nat} {xs ys l : List Value} (hl : l = xs ++ ys) (ho : o2 = o + xs.length) (h : WO pr P N Fin ops rest k E (⟨own, b, o, xs⟩ :: ⟨own, b, o2, ys⟩ :: M)) :
    WO pr P N Fin ops rest k E (⟨own, b, o, l⟩ :: M) := by
  subst hl
  exact ⟨⟨fun base w0 a w hA hS => h.out.out base w0 a w hA (hS.split ho)⟩⟩

/-! ### Methods called through interfaces -/

theorem OL_invoke {r : Operand} {nm : String} {rv : Value} {xs : List Operand} {ts : Array TypeId} {f : FuncId} {args : Array Value} {vs : List Value} {R : Value → Mem → Prop}
    (hc : ev E r = some rv) (hx : evs E xs = some vs) (hm : ∀ w, (callMethod rv nm vs.toArray).run P w = .ok (.enter f args) w) (hg : On E ops g) (hd : Nat.blt d N.n = true)
    (hR : HC P f args M R) (h : ∀ v M', R v M' → OL false P N ops Q rest ((d, v) :: E) M') :
    OL false P N ops Q (⟨some d, .call { callee := .invoke r nm, args := xs.toArray, argTypes := ts }, ty, pos, after, g⟩ :: rest) E M := by
  constructor
  intro base w0 a w hA hS
  unfold wpList
  rw [if_pos (On.wanted (o := ⟨some d, .call { callee := .invoke r nm, args := xs.toArray, argTypes := ts }, ty, pos, after, g⟩) hg hA)]
  refine .inl ?_
  unfold Oper.wp
  have hr : (execOp a.eval ⟨some d, .call { callee := .invoke r nm, args := xs.toArray, argTypes := ts }, ty, pos, after, g⟩).run P w = .ok (.enter f args) w := by
    have e : xs.toArray.map a.eval = vs.toArray := by simp [hA.evals hx]
    simp [execOp, resolve, e, hA.eval hc, invoke]
    exact hm w
  rw [hr]
  refine (hR.out base w0 w hS).mono fun e w' ⟨v, M', he, hS', hv⟩ => ?_
  subst he
  exact (h v M' hv).out base w0 _ w' (hA.put hd v) hS'

theorem O_invoke {r : Operand} {nm : String} {rv : Value} {xs : List Operand} {ts : Array TypeId} {f : FuncId} {args : Array Value} {vs : List Value} {R : Value → Mem → Prop}
    (hc : ev E r = some rv) (hx : evs E xs = some vs) (hm : ∀ w, (callMethod rv nm vs.toArray).run P w = .ok (.enter f args) w) (hg : On E ops g) (hd : Nat.blt d N.n = true)
    (hR : HC P f args M R) (h : ∀ v M', R v M' → WO false P N Fin ops rest k ((d, v) :: E) M') :
    WO false P N Fin ops (⟨some d, .call { callee := .invoke r nm, args := xs.toArray, argTypes := ts }, ty, pos, after, g⟩ :: rest) k E M := ⟨OL_invoke hc hx hm hg hd hR fun v M' hv => (h v M' hv).out⟩

/-! ### copy -/

/-- 'copy' of n elements' cells ys into a row from place i on. -/
theorem run_copy {t e t2 ty : TypeId} {I : TypeInfo} {base : Nat} {w0 : World} {b o bx ox ln cn n lx cx size i : Nat} {l ys : List Value} {w : World} (ht : Und P t (.slice e))
    (hI : P.info? e = some I) (hsz : I.size = size) (hn : min lx ln = n) (hx : (loadCells ⟨bx, ox, none⟩ (n * size)).run P w = .ok ys.toArray w)
    (hS : Sim false base w0 w (⟨true, b, o, l⟩ :: M)) (hv : ∀ v ∈ ys, v.oneCell' = true) (hl : i + ys.length ≤ l.length) :
    ∃ w', (Builtin.copy_ #[t, t2] ty #[.slice (some ⟨b, o + i, none⟩) ln cn, .slice (some ⟨bx, ox, none⟩) lx cx]).run P w = .ok (.int .i64 n) w' ∧ Sim false base w0 w' (⟨true, b, o, putAt l i ys⟩ :: M) := by
  obtain ⟨w', h1, h2⟩ := run_storeCells (P := P) (i := i) ys 0 l w hS hv (by omega)
  refine ⟨w', ?_, h2⟩
  unfold Builtin.copy_
  have hn' : Nat.min lx ln = n := hn
  simp [ht.run, sizeOf, typeInfo, hI, hsz, Builtin.lenOf, Builtin.firstCells, hn', hx, h1, goInt]

/-- 'copy' where one of both is empty. -/
theorem run_copy0 {t e t2 ty : TypeId} {I : TypeInfo} {bd bs : Option Addr} {ln cn lx cx : Nat} {w : World} (ht : Und P t (.slice e))
    (hI : P.info? e = some I) (hn : min lx ln = 0) :
    (Builtin.copy_ #[t, t2] ty #[.slice bd ln cn, .slice bs lx cx]).run P w = .ok (.int .i64 0) w := by
  unfold Builtin.copy_
  have hn' : Nat.min lx ln = 0 := hn
  cases bd <;> cases bs <;> simp [ht.run, sizeOf, typeInfo, hI, Builtin.lenOf, Builtin.firstCells, hn', goInt, loadCells, loadCellsFrom, storeCells]

theorem P_copy0 {t e t2 : TypeId} {I : TypeInfo} {x y : Operand} {bd bs : Option Addr} {ln cn lx cx : Nat} (ht : Und P t (.slice e)) (hI : P.info? e = some I)
    (hx : ev E x = some (.slice bd ln cn)) (hy : ev E y = some (.slice bs lx cx)) (hn : min lx ln = 0) :
    Pure P N E M (.call { callee := .builtin .copy, args := #[x, y], argTypes := #[t, t2] }) (.int .i64 0) := by
  constructor
  intro pr base w0 a w hA hS d ty pos after g
  simp [execOp, resolve, invoke, builtin, hA.eval hx, hA.eval hy, run_copy0 ht hI hn]

theorem O_copy {t e t2 : TypeId} {I : TypeInfo} {x y : Operand} {b o p bx ox px ln cn n lx cx size i j : Nat} {l l' lsrc : List Value} {ownx : Bool} {M0 : Mem} (ht : Und P t (.slice e))
    (hI : P.info? e = some I) (hsz : I.size = size) (hx : ev E x = some (.slice (some ⟨b, p, none⟩) ln cn)) (hy : ev E y = some (.slice (some ⟨bx, px, none⟩) lx cx)) (hn : min lx ln = n)
    (hp : p = o + i) (hpx : px = ox + j) (hm : Take1 M ⟨true, b, o, l⟩ M0) (hmx : (⟨ownx, bx, ox, lsrc⟩ : Sg) ∈ M) (hj : j + n * size ≤ lsrc.length) (hv : ∀ v ∈ lsrc, v.oneCell' = true)
    (hl : i + n * size ≤ l.length) (hl' : putAt l i ((lsrc.drop j).take (n * size)) = l') (hg : On E ops g) (hd : Nat.blt d N.n = true)
    (h : WO false P N Fin ops rest k ((d, .int .i64 n) :: E) (⟨true, b, o, l'⟩ :: M0)) :
    WO false P N Fin ops (⟨some d, .call { callee := .builtin .copy, args := #[x, y], argTypes := #[t, t2] }, ty, pos, after, g⟩ :: rest) k E M := by
  subst hp; subst hpx; subst hl'
  refine ⟨⟨?_⟩⟩
  intro base w0 a w hA hS
  unfold wpList
  rw [if_pos (On.wanted (o := ⟨some d, .call { callee := .builtin .copy, args := #[x, y], argTypes := #[t, t2] }, ty, pos, after, g⟩) hg hA)]
  refine .inl ?_
  unfold Oper.wp
  have h1 := run_loadCells (P := P) (hS.seg _ hmx) hj
  have hlen : i + ((lsrc.drop j).take (n * size)).length ≤ l.length := by
    have : ((lsrc.drop j).take (n * size)).length ≤ n * size := List.length_take_le _ _
    omega
  obtain ⟨w', h2, h3⟩ := run_copy (P := P) (t2 := t2) (ty := ty) (o := o) (i := i) (cn := cn) (cx := cx) (ys := (lsrc.drop j).take (n * size)) ht hI hsz hn h1 (hS.rk (.cons hm .rfl)) (fun v hv' => hv v (List.mem_of_mem_drop (List.mem_of_mem_take hv'))) hlen
  have hr : (execOp a.eval ⟨some d, .call { callee := .builtin .copy, args := #[x, y], argTypes := #[t, t2] }, ty, pos, after, g⟩).run P w = .ok (.value (.int .i64 n)) w' := by
    simp [execOp, resolve, invoke, builtin, hA.eval hx, hA.eval hy, h2]
  rw [hr]
  exact h.out.out base w0 _ _ (hA.put hd _) h3

/-! ### make with room to spare, empty structs, slices held against nil -/

theorem O_makeCap {t e : TypeId} {I : TypeInfo} {x y : Operand} {kd kd2 : IntKind} {n c : Nat} {v : Value} (ht : Und P t (.slice e)) (hI : P.info? e = some I) (hs : I.size = 1) (hz : I.zero = some v)
    (hv : v.cells = #[v]) (hx : ev E x = some (.int kd (n : Int))) (hy : ev E y = some (.int kd2 (c : Int))) (hn : n ≤ c) (hc : 0 < c) (h1 : I.bytes * c ≤ 281474976710656) (h2 : c ≤ 9223372036854775807) (hg : On E ops g) (hd : Nat.blt d N.n = true)
    (h : ∀ b, WO false P N Fin ops rest k ((d, .slice (some ⟨b, 0, none⟩) n c) :: E) (⟨true, b, 0, List.replicate c v⟩ :: M)) : WO false P N Fin ops (⟨some d, .makeSlice t x y, ty, pos, after, g⟩ :: rest) k E M := by
  refine ⟨⟨?_⟩⟩
  intro base w0 a w hA hS
  unfold wpList
  rw [if_pos (On.wanted (o := ⟨some d, .makeSlice t x y, ty, pos, after, g⟩) hg hA)]
  refine .inl ?_
  unfold Oper.wp
  have hw : ∀ z : Nat, z ≤ c → IntKind.i64.wrap (z : Int) = z := fun z hz => wrap_id (k := .i64) (by simp only [IntKind.min, IntKind.signed, IntKind.bits]; omega) (by simp [IntKind.max, IntKind.signed, IntKind.bits]; omega)
  have hr : (execOp a.eval ⟨some d, .makeSlice t x y, ty, pos, after, g⟩).run P w = .ok (.value (.slice (some ⟨w.heap.size, 0, none⟩) n c)) (w.alloc (.cells (Array.replicate c v) e)) := by
    have c2 : ¬ (281474976710656 : Int) < I.bytes * c := by
      have : (I.bytes : Int) * c = ((I.bytes * c : Nat) : Int) := by simp
      omega
    have c3 : ¬ (c : Int) < n := by omega
    have c4 : ¬ c < n := by omega
    have hc0 : ¬ c = 0 := by omega
    have hc2 : ¬ (c : Int) < 0 := by omega
    have hn2 : ¬ (n : Int) < 0 := by omega
    simp [execOp, Instr.makeSlice, hA.eval hx, hA.eval hy, ht.run, asInt, asIntOf, typeInfo, hI, hw n hn, hw c (Nat.le_refl _), c2, c3, c4, sizeOf, hs, hc0, hc2, hn2, newRow, zeroValue, hz, hv, range_map_const]
  rw [hr]
  have := hS.alloc (Array.replicate c v) e
  simp only [Array.toList_replicate] at this
  exact (h w.heap.size).out.out base w0 _ _ (hA.put hd _) this

/-- A struct without cells. -/
theorem P_load_empty {t : TypeId} {I : TypeInfo} {x : Operand} {ad : Addr} (ht : AggT P t) (hI : P.info? t = some I) (hs : I.size = 0) (hx : ev E x = some (.pointer (some ad))) : Pure P N E M (.load t x) (.agg #[]) := by
  constructor
  intro pr base w0 a w hA hS d ty pos after g
  obtain ⟨D, ht, hD⟩ := ht.out
  cases D <;> simp [isAggD] at hD <;> simp [execOp, Instr.loadAt, Instr.sureAddr, hA.eval hx, loadVar, isAgg, run_under ht, sizeOf, typeInfo, hI, hs, loadCells, loadCellsFrom]

/-- Is the slice nil? -/
def NilS : Value → Bool → Prop
  | .slice none _ _, r => r = true
  | .slice (some _) _ _, r => r = false
  | _, _ => False

theorem run_equalIn_snil {t e : TypeId} (ht : Und P t (.slice e)) (dp : Nat) (v : Value) (r : Bool) (hr : NilS v r) (w : World) :
    (Op.equalIn (dp + 1) t v (.slice none 0 0)).run P w = .ok r w := by
  match v, hr with
  | .slice none l c, hr => simp [NilS] at hr; subst hr; simp [Op.equalIn, ht.run]
  | .slice (some ad) l c, hr => simp [NilS] at hr; subst hr; simp [Op.equalIn, ht.run]

theorem P_snil {t e t2 : TypeId} {x : Operand} {v : Value} {r : Bool} (ht : Und P t (.slice e)) (hx : ev E x = some v) (hr : NilS v r) : Pure P N E M (.binOp .eql t x (.const (.slice none 0 0)) t2) (.bool r) := by
  constructor
  intro pr base w0 a w hA hS d ty pos after g
  have h1 : (Op.equal t v (.slice none 0 0)).run P w = .ok r w := run_equalIn_snil ht 9999 v r hr w
  have h2 : (eqGuard .eql t x (.const (.slice none 0 0)) v (.slice none 0 0)).run P w = .ok () w := by cases v <;> simp [NilS] at hr <;> simp [eqGuard]
  have h3 : binOp .eql t v (.slice none 0 0) = (do pure (.bool (← Op.equal t v (.slice none 0 0)))) := by cases v <;> simp [NilS] at hr <;> rfl
  have he : a.eval (.const (.slice none 0 0)) = .slice none 0 0 := rfl
  simp only [execOp, hA.eval hx, he, h3]
  simp [h1, h2]
end
end Go.Proofs.Ytjkpfliaflmppaa.Vm
