/- Continuation stacks for the engine: each goal bears its code once. No condition. More rules of the engine: boxes, fields, structs, interface values, append, results that lie in memory. No condition. More rules of the engine: rows of cells read and written whole, append, results in memory, errors held against nil. No condition. Rules for unsigned numbers, told as natural numbers. No condition. More rules of the engine: rows split and put together, methods called through interfaces, copy, make with room to spare. No condition. A function that defers one call, which does nothing in the end. No condition. Regions that draw their order and hold one operation that writes, in their middle. No condition. Regions that draw their order, walked order by order. No condition. Regions that draw their order, walked by what holds of each set of operations done. No condition. -/
import Derived.Test.YtcibehgcibojnaaW4x02
import Derived.Recover

namespace Go.Proofs.Ytcibehgcibojnaa.Vm
open Go Go.RowKit
inductive Kn where
  | code (c : Code)
  | blk (id : Nat)
  | stop (K : Env → Mem → Prop)
def post (pr : Bool) (P : Program) (N : Fm) (Fin : Post) : List Kn → Post
  | [] => Fin
  | .code c :: k => Then (V pr P N c (post pr P N Fin k)) (post pr P N Fin k)
  | .blk id :: k => InBlock id (post pr P N Fin k)
  | .stop K :: k => Then K (post pr P N Fin k)
structure W (pr : Bool) (P : Program) (N : Fm) (Fin : Post) (c : Code) (k : List Kn) (E : Env) (M : Mem) : Prop where
  out : V pr P N c (post pr P N Fin k) E M
structure WO (pr : Bool) (P : Program) (N : Fm) (Fin : Post) (ops rest : List Oper) (k : List Kn) (E : Env) (M : Mem) : Prop where
  out : OL pr P N ops (post pr P N Fin k) rest E M
structure G (pr : Bool) (P : Program) (N : Fm) (Fin : Post) (e : Exit) (k : List Kn) (E : Env) (M : Mem) : Prop where
  out : post pr P N Fin k e E M
section
variable {pr : Bool} {P : Program} {N : Fm} {Fin : Post} {k : List Kn} {E : Env} {M : Mem}
theorem isO {ops rest : List Oper} (h : WO pr P N Fin ops rest k E M) : WO pr P N Fin ops rest k E M := h
theorem W_seq {x y : Code} (h : W pr P N Fin x (.code y :: k) E M) : W pr P N Fin (.seq x y) k E M := ⟨V_seq h.out⟩
theorem W_block {id : Nat} {c : Code} (h : W pr P N Fin c (.blk id :: k) E M) : W pr P N Fin (.block id c) k E M := ⟨V_block h.out⟩
theorem W_skip (h : G pr P N Fin .normal k E M) : W pr P N Fin .skip k E M := ⟨V_skip h.out⟩
theorem W_exit {id : Nat} (h : G pr P N Fin (.exit id) k E M) : W pr P N Fin (.exit id) k E M := ⟨V_exit h.out⟩
theorem W_ret (h : G pr P N Fin .ret k E M) : W pr P N Fin .ret k E M := ⟨V_ret h.out⟩
theorem W_cond_t {c : Operand} {x y : Code} (hc : ev E c = some (.bool true)) (h : W pr P N Fin x k E M) : W pr P N Fin (.cond c x y) k E M := ⟨V_cond_t hc h.out⟩
theorem W_cond_f {c : Operand} {x y : Code} (hc : ev E c = some (.bool false)) (h : W pr P N Fin y k E M) : W pr P N Fin (.cond c x y) k E M := ⟨V_cond_f hc h.out⟩
theorem W_region {id : Nat} {l : List Oper} (h : WO pr P N Fin l l k E M) : W pr P N Fin (.region id l.toArray false) k E M := ⟨V_region h.out⟩
theorem OS_mono {ops rest : List Oper} {K K' : Env → Prop} (hK : ∀ E, K E → K' E) (h : OS pr P N ops K rest E M) : OS pr P N ops K' rest E M :=
  ⟨fun base w0 a w hA hS => wpStill_mono (fun _ ⟨E', k1, k2⟩ => ⟨E', k1, hK _ k2⟩) _ _ (h.out base w0 a w hA hS)⟩
theorem W_region_still {id : Nat} {l : List Oper} (hm : P.follows .mixedOrders = true) (hB : Region.lexB .any l.toArray = true)
    (h : OS false P N l (fun E' => G false P N Fin .normal k E' M) l E M) : W false P N Fin (.region id l.toArray true) k E M := ⟨V_region_still hm hB (OS_mono (fun _ h => h.out) h)⟩
theorem W_weak {c : Code} {L : Env} {M' : Mem} (hs : Sub E L) (ht : Rk M M') (h : W pr P N Fin c k L M') : W pr P N Fin c k E M := ⟨V_weak hs ht h.out⟩
theorem W_loop {α : Type} {c : Code} (St : α → Env) (Ms : α → Mem) (inv : α → Prop) (μ : α → Nat) (x0 : α) (h0 : inv x0) (hE : Sub E (St x0)) (hM : Rk M (Ms x0))
    (round : ∀ x, inv x → W pr P N Fin c (.stop (fun E' M' => ∃ x', inv x' ∧ μ x' < μ x ∧ Sub E' (St x') ∧ Rk M' (Ms x')) :: k) (St x) (Ms x)) : W pr P N Fin (.loop c) k E M :=
  ⟨V_loop St Ms inv μ x0 h0 hE hM fun x hx => (round x hx).out⟩
theorem G_code {c : Code} (h : W pr P N Fin c k E M) : G pr P N Fin .normal (.code c :: k) E M := ⟨h.out⟩
theorem G_blk {id : Nat} (h : G pr P N Fin .normal k E M) : G pr P N Fin .normal (.blk id :: k) E M := ⟨h.out⟩
theorem G_stop {K : Env → Mem → Prop} (h : K E M) : G pr P N Fin .normal (.stop K :: k) E M := ⟨h⟩
theorem G_fin {e : Exit} (h : Fin e E M) : G pr P N Fin e [] E M := ⟨h⟩
theorem G_exit_blk {id : Nat} (h : G pr P N Fin .normal k E M) : G pr P N Fin (.exit id) (.blk id :: k) E M := by
  constructor
  show InBlock id (post pr P N Fin k) (.exit id) E M
  simp only [InBlock, if_true]
  exact h.out
theorem G_exit_other {id id' : Nat} (hne : Nat.beq id id' = false) (h : G pr P N Fin (.exit id) k E M) : G pr P N Fin (.exit id) (.blk id' :: k) E M := by
  constructor
  show InBlock id' (post pr P N Fin k) (.exit id) E M
  have : ¬ id = id' := by intro h; subst h; simp at hne
  simp only [InBlock, if_neg this]
  exact h.out
theorem G_exit_code {id : Nat} {c : Code} (h : G pr P N Fin (.exit id) k E M) : G pr P N Fin (.exit id) (.code c :: k) E M := ⟨h.out⟩
theorem G_exit_stop {id : Nat} {K : Env → Mem → Prop} (h : G pr P N Fin (.exit id) k E M) : G pr P N Fin (.exit id) (.stop K :: k) E M := ⟨h.out⟩
theorem G_ret_blk {id : Nat} (h : G pr P N Fin .ret k E M) : G pr P N Fin .ret (.blk id :: k) E M := ⟨h.out⟩
theorem G_ret_code {c : Code} (h : G pr P N Fin .ret k E M) : G pr P N Fin .ret (.code c :: k) E M := ⟨h.out⟩
theorem G_ret_stop {K : Env → Mem → Prop} (h : G pr P N Fin .ret k E M) : G pr P N Fin .ret (.stop K :: k) E M := ⟨h.out⟩
variable {ops : List Oper} {rest : List Oper} {d : Nat} {op : Op} {ty : TypeId} {pos : String} {after : Array Edge} {g : Option (Nat × Bool)} {v : Value}
theorem O_nil (h : G pr P N Fin .normal k E M) : WO pr P N Fin ops [] k E M := ⟨OL_nil h.out⟩
theorem O_pure (hp : Pure P N E M op v) (hg : On E ops g) (hd : Nat.blt d N.n = true) (h : WO pr P N Fin ops rest k ((d, v) :: E) M) : WO pr P N Fin ops (⟨some d, op, ty, pos, after, g⟩ :: rest) k E M := ⟨OL_pure hp hg hd h.out⟩
theorem O_off (hg : Off E ops g) (hd : Nat.blt d N.n = true) (h : WO pr P N Fin ops rest k ((d, undef) :: E) M) : WO pr P N Fin ops (⟨some d, op, ty, pos, after, g⟩ :: rest) k E M := ⟨OL_off hg hd h.out⟩
theorem O_weak {M' : Mem} (ht : Rk M M') (h : WO pr P N Fin ops rest k E M') : WO pr P N Fin ops rest k E M := ⟨⟨fun base w0 a w hA hS => h.out.out base w0 a w hA (hS.rk ht)⟩⟩
theorem isS {ops rest : List Oper} {K : Env → Prop} (h : OS pr P N ops K rest E M) : OS pr P N ops K rest E M := h
def yes : BinOp → Int → Int → Prop
  | .eql, x, y => x = y
  | .neq, x, y => x ≠ y
  | .lss, x, y => x < y
  | .leq, x, y => x ≤ y
  | .gtr, x, y => y < x
  | .geq, x, y => y ≤ x
  | _, _, _ => True
def no : BinOp → Int → Int → Prop
  | .eql, x, y => x ≠ y
  | .neq, x, y => x = y
  | .lss, x, y => y ≤ x
  | .leq, x, y => y < x
  | .gtr, x, y => x ≤ y
  | .geq, x, y => x < y
  | _, _, _ => True
theorem cmp_yes {o : BinOp} {p q : Int} {r : Bool} (h : cmp o p q = some r) (hr : r = true) : yes o p q := by
  subst hr
  cases o <;> simp [cmp, yes] at * <;> first | exact h | omega
theorem cmp_no {o : BinOp} {p q : Int} {r : Bool} (h : cmp o p q = some r) (hr : r = false) : no o p q := by
  subst hr
  cases o <;> simp [cmp, no] at * <;> first | exact h | omega
theorem O_store {t : TypeId} {p x : Operand} {b o n : Nat} {l : List Value} {v : Value} {M' : Mem} (ht : Cel P t 1) (hp : ev E p = some (.pointer (some ⟨b, o + n, none⟩))) (hx : ev E x = some v)
    (hv : v.oneCell' = true) (hg : On E ops g) (hn : n < l.length) (hu : Upd1 M ⟨true, b, o, l⟩ (l.set n v) M') (h : WO false P N Fin ops rest k E M') : WO false P N Fin ops (⟨none, .store t p x, ty, pos, after, g⟩ :: rest) k E M :=
  ⟨OL_store ht hp hx hv hg hn hu h.out⟩
theorem O_storei {t : TypeId} {p x : Operand} {b o : Nat} {l : List Int} {kd : IntKind} {z v : Int} {M' : Mem} (ht : Cel P t 1) (hp : ev E p = some (.pointer (some ⟨b, o + z.toNat, none⟩)))
    (hx : ev E x = some (.int kd v)) (hg : On E ops g) (hu : Upd1 M ⟨true, b, o, ints kd l⟩ (ints kd (wr l z v)) M') (hn : z.toNat < l.length) (h : WO false P N Fin ops rest k E M') :
    WO false P N Fin ops (⟨none, .store t p x, ty, pos, after, g⟩ :: rest) k E M :=
  ⟨OL_storei ht hp hx hg hn hu h.out⟩
theorem O_call {c : Operand} {xs : List Operand} {ts : Array TypeId} {f : FuncId} {first captured : Array Value} {vs : List Value} {R : Value → Mem → Prop}
    (hc : ev E c = some (.func (.func f) first captured)) (hx : evs E xs = some vs) (hf : Callable P f) (hg : On E ops g) (hd : Nat.blt d N.n = true)
    (hR : HC P f (first ++ vs.toArray ++ captured) M R) (h : ∀ v M', R v M' → WO false P N Fin ops rest k ((d, v) :: E) M') :
    WO false P N Fin ops (⟨some d, .call { callee := .value c, args := xs.toArray, argTypes := ts }, ty, pos, after, g⟩ :: rest) k E M := ⟨OL_call hc hx hf hg hd hR fun v M' hv => (h v M' hv).out⟩
theorem O_make1 {t e : TypeId} {I : TypeInfo} {x : Operand} {kd : IntKind} {z : Int} {v : Value} (ht : Und P t (.slice e)) (hI : P.info? e = some I) (hs : I.size = 1) (hz : I.zero = some v)
    (hv : v.cells = #[v]) (hx : ev E x = some (.int kd z)) (h0 : 0 ≤ z) (h1 : (I.bytes : Int) * z ≤ 281474976710656) (h2 : z ≤ 9223372036854775807) (hg : On E ops g) (hd : Nat.blt d N.n = true)
    (h : ∀ b, WO false P N Fin ops rest k ((d, .slice (some ⟨b, 0, none⟩) z.toNat z.toNat) :: E) (⟨true, b, 0, List.replicate z.toNat v⟩ :: M)) : WO false P N Fin ops (⟨some d, .makeSlice t x x, ty, pos, after, g⟩ :: rest) k E M :=
  ⟨OL_make1 ht hI hs hz hv hx h0 h1 h2 hg hd fun b => (h b).out⟩
theorem HC_of_W {f : FuncId} {fn : Func} {c : Code} {vs : List Value} {R : Value → Mem → Prop} {rs : List ResultVar} {n : Nat} (hf : P.funcs[f]? = some fn) (hb : fn.body = some c) (hN : fn.ntmps = n)
    (hrs : fn.results.toList = rs) (hs : Nat.ble vs.length n = true) (h : W pr P ⟨n, []⟩ (Ends rs R) c [] (zipEnv 0 vs) M) : HCp pr P f vs.toArray M R := HC_of_V hf hb hN hrs hs h.out
end
end Go.Proofs.Ytcibehgcibojnaa.Vm

namespace Go.Proofs.Ytcibehgcibojnaa.Vm
open Go Go.RowKit
section
variable {pr : Bool} {P : Program} {N : Fm} {Fin : Post} {k : List Kn} {E : Env} {M : Mem} {Q : Post}
variable {ops : List Oper} {rest : List Oper} {d : Nat} {op : Op} {ty : TypeId} {pos : String} {after : Array Edge} {g : Option (Nat × Bool)} {v : Value}
def fieldOff (P : Program) (s : TypeId) (f : Nat) : Option Nat :=
  match P.underlying s with
  | some (.struct fs) => match fs[f]? with
    | some fd => if P.cellsOf fd.type = 0 then none else some fd.offset
    | none => none
  | _ => none
structure Fld (P : Program) (s : TypeId) (f off : Nat) : Prop where
  out : fieldOff P s f = some off
theorem add_place (b o n : Nat) : Addr.add ⟨b, o, none⟩ n = ⟨b, o + n, none⟩ := by
  unfold Addr.add; split
  · rename_i h; simp [h]
  · rfl
theorem P_field {s : TypeId} {x : Operand} {f off b o : Nat} (hf : Fld P s f off) (hx : ev E x = some (.pointer (some ⟨b, o, none⟩))) :
    Pure P N E M (.fieldAddr s x f) (.pointer (some ⟨b, o + off, none⟩)) := by
  constructor
  intro pr base w0 a w hA hS d ty pos after g
  have hf := hf.out
  unfold fieldOff at hf
  split at hf
  · rename_i fs hs
    split at hf
    · rename_i fd hfd
      split at hf
      · simp at hf
      · rename_i hc
        simp at hf
        subst hf
        obtain ⟨I, hI, hsz⟩ := size_of (P := P) (t := fd.type) rfl (by omega)
        have hz : I.size ≠ 0 := by rw [hsz]; exact hc
        simp [execOp, Instr.fieldAt, hA.eval hx, run_under hs, hfd, Instr.sureAddr, fieldPlace, sizeOf, typeInfo, hI, hz, add_place]
    · simp at hf
  · simp at hf
theorem P_indexA {t e : TypeId} {x i : Operand} {b o len n : Nat} {kd : IntKind} {z : Int} (ht : Und P t (.array len e)) (he : Cel P e n) (hn : 0 < n)
    (hx : ev E x = some (.pointer (some ⟨b, o, none⟩))) (hi : ev E i = some (.int kd z)) (h0 : 0 ≤ z) (h1 : z < len) :
    Pure P N E M (.indexAddr t x i) (.pointer (some ⟨b, o + z.toNat * n, none⟩)) := by
  constructor
  intro pr base w0 a w hA hS d ty pos after g
  obtain ⟨I, hI, hs⟩ := size_of he.out hn
  simp [execOp, hA.eval hx, hA.eval hi, Instr.indexAt, Instr.sureAddr, asIntOf, ht.run, sizeOf, typeInfo, hI, hs, h0, h1, add_place]
theorem P_extract {x : Operand} {i : Nat} {vs : List Value} {v : Value} (hx : ev E x = some (.tuple vs.toArray)) (hv : vs[i]? = some v) : Pure P N E M (.extract x i) v := by
  constructor
  intro pr base w0 a w hA hS d ty pos after g
  simp [execOp, Instr.extract, hA.eval hx, hv]
theorem P_mkfunc {fn : Fn} {xs : List Operand} {vs : List Value} (hx : evs E xs = some vs) : Pure P N E M (.makeFunc fn #[] xs.toArray) (.func fn #[] vs.toArray) := by
  constructor
  intro pr base w0 a w hA hS d ty pos after g
  have e : xs.toArray.map a.eval = vs.toArray := by simp [hA.evals hx]
  simp [execOp, Instr.makeFunc, e]
theorem P_mkiface {t : TypeId} {x : Operand} {v : Value} (ht : NonIfT P t) (hx : ev E x = some v) : Pure P N E M (.makeInterface t x) (.iface t v) := by
  constructor
  intro pr base w0 a w hA hS d ty pos after g
  obtain ⟨D, ht, hD⟩ := ht.out
  cases D <;> simp [isIface] at hD <;> simp [execOp, Instr.makeInterface, hA.eval hx, run_under ht]
def evps (E : Env) : List (Nat × Operand) → Option (List (Nat × Value))
  | [] => some []
  | (i, x) :: xs => match ev E x, evps E xs with
    | some v, some vs => some ((i, v) :: vs)
    | _, _ => none
theorem Ag.evalps {a : Act} (h : Ag N E a) : ∀ {xs : List (Nat × Operand)} {vs : List (Nat × Value)}, evps E xs = some vs → xs.map (fun p => (p.1, a.eval p.2)) = vs
  | [], vs, hv => by simp [evps] at hv; simp [hv]
  | (i, x) :: xs, vs, hv => by
    simp only [evps] at hv
    split at hv
    · rename_i v vs' h1 h2
      simp at hv
      subst hv
      simp [h.eval h1, h.evalps h2]
    · simp at hv
theorem OL_new {v : Value} {c : List Value} {T : TypeId} (hg : On E ops g) (hd : Nat.blt d N.n = true)
    (hr : ∀ base w0 a w, Ag N E a → Sim false base w0 w M → ∀ ty pos after g, (execOp a.eval ⟨some d, op, ty, pos, after, g⟩).run P w = .ok (.value (.pointer (some ⟨w.heap.size, 0, none⟩))) (w.alloc (.cells c.toArray T)))
    (h : ∀ b, OL false P N ops Q rest ((d, .pointer (some ⟨b, 0, none⟩)) :: E) (⟨true, b, 0, c⟩ :: M)) : OL false P N ops Q (⟨some d, op, ty, pos, after, g⟩ :: rest) E M := by
  constructor
  intro base w0 a w hA hS
  unfold wpList
  rw [if_pos (On.wanted (o := ⟨some d, op, ty, pos, after, g⟩) hg hA)]
  refine .inl ?_
  unfold Oper.wp
  rw [hr base w0 a w hA hS]
  have := hS.alloc c.toArray T
  exact (h w.heap.size).out base w0 _ _ (hA.put hd _) this
theorem O_box {t : TypeId} {x : Operand} {v : Value} (hx : ev E x = some v) (hg : On E ops g) (hd : Nat.blt d N.n = true)
    (h : ∀ b, WO false P N Fin ops rest k ((d, .pointer (some ⟨b, 0, none⟩)) :: E) (⟨true, b, 0, v.cells.toList⟩ :: M)) : WO false P N Fin ops (⟨some d, .box t x, ty, pos, after, g⟩ :: rest) k E M :=
  ⟨OL_new (v := v) (c := v.cells.toList) (T := t) hg hd (fun base w0 a w hA hS ty pos after g => by
    simp [execOp, Instr.box, hA.eval hx, newVar, newRow]) fun b => (h b).out⟩
def zeroOf (P : Program) (t : TypeId) : Option (List Value) := ((P.info? t).bind (·.zero)).map (·.cells.toList)
theorem O_alloc {t : TypeId} {c : List Value} (hz : zeroOf P t = some c) (hg : On E ops g) (hd : Nat.blt d N.n = true)
    (h : ∀ b, WO false P N Fin ops rest k ((d, .pointer (some ⟨b, 0, none⟩)) :: E) (⟨true, b, 0, c⟩ :: M)) : WO false P N Fin ops (⟨some d, .alloc t, ty, pos, after, g⟩ :: rest) k E M :=
  ⟨OL_new (v := .nilFunc) (c := c) (T := t) hg hd (fun base w0 a w hA hS ty pos after g => by
    unfold zeroOf at hz
    cases hI : P.info? t with
    | none => simp [hI] at hz
    | some I =>
      cases hZ : I.zero with
      | none => simp [hI, hZ] at hz
      | some z =>
        simp [hI, hZ] at hz
        subst hz
        simp [execOp, Instr.alloc, zeroValue, typeInfo, hI, hZ, newVar, newRow]) fun b => (h b).out⟩
theorem O_buildSlice {t T : TypeId} {n : Nat} {xs : List (Nat × Operand)} {vs : List (Nat × Value)} {c : List Value} (hx : evps E xs = some vs)
    (hr : ∀ w, (Instr.buildSlice t n vs.toArray).run P w = .ok (.slice (some ⟨w.heap.size, 0, none⟩) n n) (w.alloc (.cells c.toArray T))) (hg : On E ops g) (hd : Nat.blt d N.n = true)
    (h : ∀ b, WO false P N Fin ops rest k ((d, .slice (some ⟨b, 0, none⟩) n n) :: E) (⟨true, b, 0, c⟩ :: M)) : WO false P N Fin ops (⟨some d, .buildSlice t n xs.toArray, ty, pos, after, g⟩ :: rest) k E M := by
  refine ⟨⟨?_⟩⟩
  intro base w0 a w hA hS
  unfold wpList
  rw [if_pos (On.wanted (o := ⟨some d, .buildSlice t n xs.toArray, ty, pos, after, g⟩) hg hA)]
  refine .inl ?_
  unfold Oper.wp
  have e : (xs.toArray.map fun (i, x) => (i, a.eval x)) = vs.toArray := by
    have : xs.toArray.map (fun p : Nat × Operand => (p.1, a.eval p.2)) = vs.toArray := by simp [hA.evalps hx]
    exact this
  have h1 : (execOp a.eval ⟨some d, .buildSlice t n xs.toArray, ty, pos, after, g⟩).run P w = .ok (.value (.slice (some ⟨w.heap.size, 0, none⟩) n n)) (w.alloc (.cells c.toArray T)) := by
    simp only [execOp, e]
    simp [hr]
  rw [h1]
  exact (h w.heap.size).out.out base w0 _ _ (hA.put hd _) (hS.alloc c.toArray _)
end
end Go.Proofs.Ytcibehgcibojnaa.Vm

namespace Go.Proofs.Ytcibehgcibojnaa.Vm
open Go Go.RowKit
section
variable {pr : Bool} {P : Program} {N : Fm} {Fin : Post} {k : List Kn} {E : Env} {M : Mem} {Q : Post}
variable {ops : List Oper} {rest : List Oper} {d : Nat} {op : Op} {ty : TypeId} {pos : String} {after : Array Edge} {g : Option (Nat × Bool)} {v : Value}
theorem run_loadCellsFrom {w : World} {b o : Nat} {l : List Value} : ∀ (n i : Nat) (acc : Array Value), (∀ j, j < n → w.cell? ⟨b, o + (i + j), none⟩ = l[j]?) → n ≤ l.length →
    (loadCellsFrom ⟨b, o, none⟩ i n acc).run P w = .ok (acc ++ (l.take n).toArray) w
  | 0, i, acc, _, _ => by simp [loadCellsFrom]
  | n + 1, i, acc, hc, hn => by
    cases l with
    | nil => simp at hn
    | cons v l =>
      have h0 := hc 0 (by omega)
      simp only [Nat.add_zero, List.getElem?_cons_zero] at h0
      have hrec := run_loadCellsFrom (b := b) (o := o) (l := l) n (i + 1) (acc.push v) (fun j hj => by
        have := hc (j + 1) (by omega)
        simp only [List.getElem?_cons_succ] at this
        rw [← this]; congr 2; omega) (by simpa using hn)
      simp only [loadCellsFrom, add_place]
      simp [h0, hrec]
theorem run_loadCells {base : Nat} {w : World} {s : Sg} (hs : s.lies base w) {i n : Nat} (hn : i + n ≤ s.l.length) :
    (loadCells ⟨s.b, s.o + i, none⟩ n).run P w = .ok ((s.l.drop i).take n).toArray w := by
  have := run_loadCellsFrom (P := P) (w := w) (b := s.b) (o := s.o + i) (l := s.l.drop i) n 0 #[] (fun j hj => by
    have h1 : j + i < s.l.length := by omega
    rw [List.getElem?_drop]
    have h2 : s.l[i + j]? = some s.l[i + j] := by simp
    rw [h2]
    have := hs.cell h2
    rw [← this]; congr 2; omega) (by simp; omega)
  simpa [loadCells] using this
def putAt : List Value → Nat → List Value → List Value
  | l, _, [] => l
  | l, i, v :: vs => putAt (l.set i v) (i + 1) vs
theorem putAt_append : ∀ (ys xs zs : List Value), ys.length ≤ zs.length → putAt (xs ++ zs) xs.length ys = xs ++ ys ++ zs.drop ys.length
  | [], xs, zs, _ => by simp [putAt]
  | y :: ys, xs, zs, h => by
    cases zs with
    | nil => simp at h
    | cons z zs =>
      have e : (xs ++ z :: zs).set xs.length y = (xs ++ [y]) ++ zs := by simp
      have := putAt_append ys (xs ++ [y]) zs (by simpa using h)
      simp only [List.length_append, List.length_cons, List.length_nil] at this
      simp only [putAt, e]
      rw [show xs.length + 1 = xs.length + (0 + 1) by omega, this]
      simp
theorem run_storeCells {base : Nat} {w0 : World} {b o i : Nat} : ∀ (vs : List Value) (j : Nat) (l : List Value) (w : World), Sim false base w0 w (⟨true, b, o, l⟩ :: M) → (∀ v ∈ vs, v.oneCell' = true) → i + j + vs.length ≤ l.length →
    ∃ w', (storeCells ⟨b, o + i, none⟩ vs j).run P w = .ok () w' ∧ Sim false base w0 w' (⟨true, b, o, putAt l (i + j) vs⟩ :: M)
  | [], j, l, w, hS, _, _ => ⟨w, by simp [storeCells], hS⟩
  | v :: vs, j, l, w, hS, hv, hl => by
    simp only [List.length_cons] at hl
    have hi : i + j < l.length := by omega
    have hs := hS.seg _ (.head _)
    have hc := hs.cell (i := i + j) (v := l[i + j]) (by simp [hi])
    have hf := hs.free rfl hi
    have hS' : Sim false base w0 (w.setCell ⟨b, o + (i + j), none⟩ v) (⟨true, b, o, l.set (i + j) v⟩ :: M) := hS.set (s := ⟨true, b, o, l⟩) rfl hi .head
    obtain ⟨w', h1, h2⟩ := run_storeCells (o := o) (i := i) vs (j + 1) (l.set (i + j) v) _ hS' (fun u hu => hv u (.tail _ hu)) (by simp; omega)
    refine ⟨w', ?_, h2⟩
    simp only [storeCells, add_place]
    have e : o + i + j = o + (i + j) := by omega
    rw [e]
    simp only at hc hf
    simp [run_store P w _ v .plain (hv v (.head _)), hc, hf, h1]
theorem growBy_le (n : Nat) : ∀ (r c : Nat), c ≤ 2 * n + 192 → Builtin.growBy n r c ≤ 2 * n + 192
  | 0, c, h => h
  | r + 1, c, h => by
    unfold Builtin.growBy
    split
    · exact h
    · exact growBy_le n r _ (by omega)
theorem nextslicecap_le {n c : Nat} (h : c < n) : Builtin.nextslicecap n c ≤ 2 * n + 192 := by
  unfold Builtin.nextslicecap
  split
  · omega
  · split
    · omega
    · exact growBy_le n 4 c (by omega)
def Own (s : Value) (size : Nat) (xs : List Value) (m : Mem) : Prop :=
  (s = .slice none 0 0 ∧ xs = [] ∧ m = []) ∨
  ∃ b len cap sp, s = .slice (some ⟨b, 0, none⟩) len cap ∧ m = [⟨true, b, 0, xs ++ sp⟩] ∧ xs.length = len * size ∧ (xs ++ sp).length = cap * size
theorem Own.of_new {size b len : Nat} {xs : List Value} (h : xs.length = len * size) : Own (.slice (some ⟨b, 0, none⟩) len len) size xs [⟨true, b, 0, xs⟩] :=
  .inr ⟨b, len, len, [], rfl, by simp, h, by simpa using h⟩
theorem zeroCells_length (z : Array Value) (n : Nat) : (Builtin.zeroCells z n).size = n * z.size := by simp [Builtin.zeroCells]
theorem run_append_grow {t e t2 e2 ty : TypeId} {I : TypeInfo} {z : Value} {sb : Option Addr} {bx ox n cx size len cap : Nat} {xs ys : List Value} {w : World} (ht : Und P t (.slice e)) (ht2 : Und P t2 (.slice e2))
    (hI : P.info? e = some I) (hsz : I.size = size) (hs0 : 0 < I.bytes) (hz : I.zero = some z) (hcap : cap < len + n)
    (hfirst : (Builtin.firstCells size len (.slice sb len cap)).run P w.drew = .ok xs.toArray w.drew) (hx : (loadCells ⟨bx, ox, none⟩ (n * size)).run P w.drew = .ok ys.toArray w.drew)
    (hroom : (2 * (len + n) + 192) * I.bytes ≤ 281474976710656) :
    ∃ q, len + n ≤ q ∧ (Builtin.append_ #[t, t2] ty #[.slice sb len cap, .slice (some ⟨bx, ox, none⟩) n cx]).run P w =
      .ok (.slice (some ⟨w.heap.size, 0, none⟩) (len + n) q) (w.drew.alloc (.cells (xs.toArray ++ ys.toArray ++ Builtin.zeroCells z.cells (q - (len + n))) e)) := by
  have hnc : ¬ len + n ≤ cap := by omega
  have hcaps := nextslicecap_le hcap
  have hbig : ¬ 281474976710656 < Builtin.nextslicecap (len + n) cap * I.bytes := by
    have := Nat.mul_le_mul_right I.bytes hcaps
    omega
  have hb : ¬ I.bytes = 0 := by omega
  refine ⟨Question.cut (.appendCap (len + n) cap e) (w.tape w.drawn (.appendCap (len + n) cap e)), by simp [Question.cut], ?_⟩
  have hfx : (Builtin.firstCells size n (.slice (some ⟨bx, ox, none⟩) n cx)).run P w.drew = .ok ys.toArray w.drew := hx
  unfold Builtin.append_
  simp [ht.run, ht2.run, sizeOf, typeInfo, hI, hsz, Builtin.lenOf, hnc, hbig, hb, hfirst, zeroValue, hz, hfx, newRow, Question.forced]
  exact congrArg (fun c => w.drew.alloc (.cells c e)) (Array.ext' (by simp))
theorem run_append_fit {t e t2 e2 ty : TypeId} {I : TypeInfo} {base : Nat} {w0 : World} {b bx ox n cx size len cap : Nat} {xs ys sp : List Value} {w : World} (ht : Und P t (.slice e)) (ht2 : Und P t2 (.slice e2))
    (hI : P.info? e = some I) (hsz : I.size = size) (hcap : len + n ≤ cap) (hlen : xs.length = len * size) (hsp : (xs ++ sp).length = cap * size) (hys : ys.length = n * size)
    (hx : (loadCells ⟨bx, ox, none⟩ (n * size)).run P w = .ok ys.toArray w) (hS : Sim false base w0 w (⟨true, b, 0, xs ++ sp⟩ :: M)) (hv : ∀ v ∈ ys, v.oneCell' = true) :
    ∃ w', (Builtin.append_ #[t, t2] ty #[.slice (some ⟨b, 0, none⟩) len cap, .slice (some ⟨bx, ox, none⟩) n cx]).run P w = .ok (.slice (some ⟨b, 0, none⟩) (len + n) cap) w' ∧
      Sim false base w0 w' (⟨true, b, 0, (xs ++ ys) ++ sp.drop ys.length⟩ :: M) := by
  have h0 : len * size + n * size ≤ cap * size := by rw [← Nat.add_mul]; exact Nat.mul_le_mul_right _ hcap
  have h1 : ys.length ≤ sp.length := by simp only [List.length_append] at hsp; omega
  obtain ⟨w', h2, h3⟩ := run_storeCells (P := P) (i := len * size) ys 0 (xs ++ sp) w hS hv (by rw [hsp]; omega)
  refine ⟨w', ?_, ?_⟩
  · unfold Builtin.append_
    simp only [Nat.zero_add] at h2
    simp [ht.run, ht2.run, sizeOf, typeInfo, hI, hsz, Builtin.lenOf, hcap, Builtin.firstCells, hx, add_place, h2]
  · rw [Nat.add_zero, ← hlen, putAt_append ys xs sp h1] at h3
    exact h3
theorem OL_append {t e : TypeId} {I : TypeInfo} {z : Value} {s x : Operand} {t2 e2 : TypeId} {sv : Value} {bx ox n cx size : Nat} {ownx : Bool} {lx xs : List Value} {m M0 : Mem} {len : Nat} (ht : Und P t (.slice e)) (ht2 : Und P t2 (.slice e2))
    (hI : P.info? e = some I) (hsz : I.size = size) (hs0 : 0 < size) (hb0 : 0 < I.bytes) (hz : I.zero = some z) (hzs : z.cells.size = size) (hs : ev E s = some sv) (hx : ev E x = some (.slice (some ⟨bx, ox, none⟩) n cx))
    (hown : Own sv size xs m) (hM : Rk M (m ++ M0)) (hlen : xs.length = len * size) (hm : (⟨ownx, bx, ox, lx⟩ : Sg) ∈ M0) (hn : n * size ≤ lx.length) (hv : ∀ v ∈ lx, v.oneCell' = true) (hn0 : 0 < n ∨ sv ≠ .slice none 0 0)
    (hroom : (2 * (len + n) + 192) * I.bytes ≤ 281474976710656) (hg : On E ops g) (hd : Nat.blt d N.n = true)
    (h : ∀ b cap sp, ((xs ++ lx.take (n * size)) ++ sp).length = cap * size → OL false P N ops Q rest ((d, .slice (some ⟨b, 0, none⟩) (len + n) cap) :: E) (⟨true, b, 0, (xs ++ lx.take (n * size)) ++ sp⟩ :: M0)) :
    OL false P N ops Q (⟨some d, .call { callee := .builtin .append, args := #[s, x], argTypes := #[t, t2] }, ty, pos, after, g⟩ :: rest) E M := by
  constructor
  intro base w0 a w hA hS
  unfold wpList
  rw [if_pos (On.wanted (o := ⟨some d, .call { callee := .builtin .append, args := #[s, x], argTypes := #[t, t2] }, ty, pos, after, g⟩) hg hA)]
  refine .inl ?_
  unfold Oper.wp
  have hS1 := hS.rk hM
  have hx1 : (loadCells ⟨bx, ox, none⟩ (n * size)).run P w = .ok (lx.take (n * size)).toArray w := by
    have := run_loadCells (P := P) (i := 0) (n := n * size) (hS1.seg _ (List.mem_append_right _ hm)) (by simpa using hn)
    simpa using this
  have hx2 : (loadCells ⟨bx, ox, none⟩ (n * size)).run P w.drew = .ok (lx.take (n * size)).toArray w.drew := by
    have := run_loadCells (P := P) (i := 0) (n := n * size) ((hS1.drew).seg _ (List.mem_append_right _ hm)) (by simpa using hn)
    simpa using this
  have hyl : (lx.take (n * size)).length = n * size := by simp; omega
  have hM0 : Sim false base w0 w M0 := by
    refine hS1.of_mem (fun _ h => List.mem_append_right _ h) ?_
    exact hS1.dis.sublist (List.sublist_append_right m M0)
  have key : ∃ w' b cap sp, (Builtin.append_ #[t, t2] ty #[sv, .slice (some ⟨bx, ox, none⟩) n cx]).run P w = .ok (.slice (some ⟨b, 0, none⟩) (len + n) cap) w' ∧
      ((xs ++ lx.take (n * size)) ++ sp).length = cap * size ∧ Sim false base w0 w' (⟨true, b, 0, (xs ++ lx.take (n * size)) ++ sp⟩ :: M0) := by
    have grown : ∀ q, len + n ≤ q → ((xs ++ lx.take (n * size)) ++ (Builtin.zeroCells z.cells (q - (len + n))).toList).length = q * size ∧
        Sim false base w0 (w.drew.alloc (.cells (xs.toArray ++ (lx.take (n * size)).toArray ++ Builtin.zeroCells z.cells (q - (len + n))) e)) (⟨true, w.heap.size, 0, (xs ++ lx.take (n * size)) ++ (Builtin.zeroCells z.cells (q - (len + n))).toList⟩ :: M0) := by
      intro q hq
      refine ⟨?_, ?_⟩
      · simp only [List.length_append, hyl, hlen, Array.length_toList, zeroCells_length, hzs]
        rw [← Nat.add_mul, ← Nat.add_mul]
        congr 1
        omega
      · have := (Sim.drew hM0).alloc (xs.toArray ++ (lx.take (n * size)).toArray ++ Builtin.zeroCells z.cells (q - (len + n))) e
        simpa using this
    rcases hown with ⟨rfl, rfl, rfl⟩ | ⟨b, len', cap, sp, rfl, rfl, hl', hc'⟩
    · have hl0 : len = 0 := by
        rcases Nat.eq_zero_or_pos len with h | h
        · exact h
        · have := Nat.mul_pos h hs0; simp at hlen; omega
      subst hl0
      have hn1 : 0 < n := by
        rcases hn0 with h | h
        · exact h
        · exact absurd rfl h
      obtain ⟨q, hq, hr⟩ := run_append_grow (ty := ty) (P := P) (sb := none) (cap := 0) (xs := []) (cx := cx) ht ht2 hI hsz hb0 hz (by omega) (by simp [Builtin.firstCells]) hx2 hroom
      exact ⟨_, _, q, _, hr, (grown q hq).1, (grown q hq).2⟩
    · have hll : len' = len := Nat.eq_of_mul_eq_mul_right hs0 (by omega)
      subst hll
      by_cases hfit : len' + n ≤ cap
      · obtain ⟨w', h1, h2⟩ := run_append_fit (ty := ty) (P := P) (cx := cx) ht ht2 hI hsz hfit hl' hc' hyl hx1 hS1 (fun v hv' => hv v (List.mem_of_mem_take hv'))
        refine ⟨w', b, cap, _, h1, ?_, h2⟩
        simp only [List.length_append, List.length_drop, hyl] at hc' ⊢
        have h0 : len' * size + n * size ≤ cap * size := by rw [← Nat.add_mul]; exact Nat.mul_le_mul_right _ hfit
        omega
      · have hfirst : (Builtin.firstCells size len' (.slice (some ⟨b, 0, none⟩) len' cap)).run P w.drew = .ok xs.toArray w.drew := by
          have := run_loadCells (P := P) (i := 0) (n := len' * size) ((hS1.drew).seg _ (.head _)) (by simp; omega)
          simp only [Nat.add_zero, List.drop_zero] at this
          simp only [Builtin.firstCells]
          have e : (xs ++ sp).take (len' * size) = xs := by rw [← hl']; simp
          rw [e] at this
          exact this
        obtain ⟨q, hq, hr⟩ := run_append_grow (ty := ty) (P := P) (cx := cx) ht ht2 hI hsz hb0 hz (by omega) hfirst hx2 hroom
        exact ⟨_, _, q, _, hr, (grown q hq).1, (grown q hq).2⟩
  obtain ⟨w', b, cap, sp, h1, h2, h3⟩ := key
  have hr : (execOp a.eval ⟨some d, .call { callee := .builtin .append, args := #[s, x], argTypes := #[t, t2] }, ty, pos, after, g⟩).run P w = .ok (.value (.slice (some ⟨b, 0, none⟩) (len + n) cap)) w' := by
    simp [execOp, resolve, invoke, builtin, hA.eval hs, hA.eval hx, h1]
  rw [hr]
  exact (h b cap sp h2).out base w0 _ _ (hA.put hd _) h3
theorem O_append {t e : TypeId} {I : TypeInfo} {z : Value} {s x : Operand} {t2 e2 : TypeId} {sv : Value} {bx ox n cx size : Nat} {ownx : Bool} {lx xs : List Value} {m M0 : Mem} {len : Nat} (ht : Und P t (.slice e)) (ht2 : Und P t2 (.slice e2))
    (hI : P.info? e = some I) (hsz : I.size = size) (hs0 : 0 < size) (hb0 : 0 < I.bytes) (hz : I.zero = some z) (hzs : z.cells.size = size) (hs : ev E s = some sv) (hx : ev E x = some (.slice (some ⟨bx, ox, none⟩) n cx))
    (hown : Own sv size xs m) (hM : Rk M (m ++ M0)) (hlen : xs.length = len * size) (hm : (⟨ownx, bx, ox, lx⟩ : Sg) ∈ M0) (hn : n * size ≤ lx.length) (hv : ∀ v ∈ lx, v.oneCell' = true) (hn0 : 0 < n ∨ sv ≠ .slice none 0 0)
    (hroom : (2 * (len + n) + 192) * I.bytes ≤ 281474976710656) (hg : On E ops g) (hd : Nat.blt d N.n = true)
    (h : ∀ b cap sp, ((xs ++ lx.take (n * size)) ++ sp).length = cap * size → WO false P N Fin ops rest k ((d, .slice (some ⟨b, 0, none⟩) (len + n) cap) :: E) (⟨true, b, 0, (xs ++ lx.take (n * size)) ++ sp⟩ :: M0)) :
    WO false P N Fin ops (⟨some d, .call { callee := .builtin .append, args := #[s, x], argTypes := #[t, t2] }, ty, pos, after, g⟩ :: rest) k E M :=
  ⟨OL_append ht ht2 hI hsz hs0 hb0 hz hzs hs hx hown hM hlen hm hn hv hn0 hroom hg hd fun b cap sp hh => (h b cap sp hh).out⟩
def ResL (P : Program) (E : Env) (M : Mem) : List ResultVar → List Value → Prop
  | [], [] => True
  | .tmp t :: rs, v :: vs => E.get? t = some v ∧ ResL P E M rs vs
  | .cell p t :: rs, v :: vs => (∃ own b o D l, E.get? p = some (.pointer (some ⟨b, o, none⟩)) ∧ (⟨own, b, o, v :: l⟩ : Sg) ∈ M ∧ P.underlying t = some D ∧ isAggD D = false) ∧ ResL P E M rs vs
  | _, _ => False
theorem mapM_resL {pr : Bool} {base : Nat} {w0 w : World} {a : Act} (h : Ag N E a) (hS : Sim pr base w0 w M) : ∀ (rs : List ResultVar) (vs : List Value), ResL P E M rs vs → (rs.mapM (resAt a.tmps)).run P w = .ok vs w
  | [], [], _ => by simp
  | [], v :: vs, hv => by simp [ResL] at hv
  | .tmp t :: rs, [], hv => by simp [ResL] at hv
  | .cell p t :: rs, [], hv => by simp [ResL] at hv
  | .tmp t :: rs, v :: vs, hv => by
    have h3 := h.val _ _ hv.1
    have h4 := mapM_resL h hS rs vs hv.2
    have h5 : (resAt a.tmps (.tmp t)).run P w = .ok v w := by simp [resAt, Array.getD_eq_getD_getElem?, h3]
    rw [List.mapM_cons, Sem.run_bind, h5, Result.andThen_ok, Sem.run_bind, h4]
    rfl
  | .cell p t :: rs, v :: vs, hv => by
    obtain ⟨⟨own, b, o, D, l, h1, h2, h3, h6⟩, hv2⟩ := hv
    have h4 := mapM_resL h hS rs vs hv2
    have h7 := h.val _ _ h1
    have hc := (hS.seg _ h2).cell (i := 0) (v := v) rfl
    have h5 : (resAt a.tmps (.cell p t)).run P w = .ok v w := by
      simp [resAt, Array.getD_eq_getD_getElem?, h7, asAddr]
      exact run_loadVar h3 h6 hc
    rw [List.mapM_cons, Sem.run_bind, h5, Result.andThen_ok, Sem.run_bind, h4]
    rfl
def tupled : List Value → Value
  | [v] => v
  | vs => .tuple vs.toArray
def EndsM (P : Program) (rs : List ResultVar) (R : Value → Mem → Prop) : Post
  | .normal, E, M | .ret, E, M => ∃ vs, ResL P E M rs vs ∧ R (tupled vs) M
  | _, _, _ => False
theorem HC_of_WM {f : FuncId} {fn : Func} {c : Code} {vs : List Value} {R : Value → Mem → Prop} {rs : List ResultVar} {n : Nat} (hf : P.funcs[f]? = some fn) (hb : fn.body = some c) (hN : fn.ntmps = n)
    (hrs : fn.results.toList = rs) (hs : Nat.ble vs.length n = true) (h : W pr P ⟨n, []⟩ (EndsM P rs R) c [] (zipEnv 0 vs) M) : HCp pr P f vs.toArray M R := by
  constructor
  intro base w0 w hS
  have hle : vs.length ≤ n := by simpa using hs
  have hend : ∀ (a : Act) (E' : Env) (M' : Mem) (w' : World), Ag ⟨n, []⟩ E' a → Sim pr base w0 w' M' → (∃ vs, ResL P E' M' rs vs ∧ R (tupled vs) M') →
      a.defers = [] ∧ ∃ v, (results fn a.tmps).run P w' = .ok v w' ∧ ∃ v' M', Ending.returned v = .returned v' ∧ Sim pr base w0 w' M' ∧ R v' M' := by
    intro a E' M' w' hA' hS' ⟨us, h1, h2⟩
    refine ⟨hA'.defers, tupled us, ?_, _, M', rfl, hS', h2⟩
    rw [results_eq, Sem.run_bind]
    have h3 : (fn.results.mapM (resAt a.tmps)).run P w' = .ok us.toArray w' := by
      rw [Array.mapM_eq_mapM_toList]
      simp only [Sem.run_map, hrs, mapM_resL hA' hS' _ _ h1]
      rfl
    rw [h3]
    match us with
    | [] => simp [tupled]
    | [u] => simp [tupled]
    | u :: u2 :: us => simp [tupled]
  refine calls_of_wp hf hb (wp_mono (h.out.out base w0 _ w ⟨rfl, by simp [hN]; omega, fun i v hv => ?_⟩ hS) ?_)
  · obtain ⟨h1, h2⟩ := zipEnv_get vs 0 i v hv
    simp only [Nat.sub_zero] at h2
    have hi : i < vs.length := by
      rcases Nat.lt_or_ge i vs.length with h | h
      · exact h
      · simp [List.getElem?_eq_none h] at h2
    rw [Array.getElem?_append_left (by simpa using hi)]
    simpa using h2
  · intro e a w' ⟨E', M', hA', hS', hq⟩
    cases e with
    | normal => exact hend a E' M' w' hA' hS' hq
    | ret => exact hend a E' M' w' hA' hS' hq
    | _ => exact hq.elim
end
end Go.Proofs.Ytcibehgcibojnaa.Vm

namespace Go.Proofs.Ytcibehgcibojnaa.Vm
open Go Go.RowKit
section
variable {pr : Bool} {P : Program} {N : Fm} {E : Env} {M : Mem}
theorem P_is {op : Op} {v v' : Value} (h : Pure P N E M op v) (e : v = v') : Pure P N E M op v' := e ▸ h
theorem P_loadAt {t : TypeId} {x : Operand} {own : Bool} {b p o n : Nat} {l : List Value} {v : Value} (ht : PlainT P t)
    (hx : ev E x = some (.pointer (some ⟨b, p, none⟩))) (hp : p = o + n) (hm : (⟨own, b, o, l⟩ : Sg) ∈ M) (hv : l[n]? = some v) : Pure P N E M (.load t x) v := by
  subst hp; exact P_load ht hx hm hv
variable {Fin : Post} {k : List Kn} {ops : List Oper} {rest : List Oper} {d : Nat} {op : Op} {ty : TypeId} {pos : String} {after : Array Edge} {g : Option (Nat × Bool)} {v : Value}
end
end Go.Proofs.Ytcibehgcibojnaa.Vm

namespace Go.Proofs.Ytcibehgcibojnaa.Vm
open Go Go.RowKit
theorem Rk.app {M L : Mem} (m : Mem) (h : Rk M L) : Rk (m ++ M) (m ++ L) := by
  induction m with
  | nil => exact h
  | cons s m ih => exact .cons .head ih
theorem Rk.left (m M : Mem) : Rk (M ++ m) M := by
  induction M with
  | nil => exact .nil
  | cons s M ih => exact .cons .head ih
theorem Sim.split {pr : Bool} {base : Nat} {w0 w : World} {M : Mem} {own : Bool} {b o o2 : Nat} {xs ys : List Value} (h : Sim pr base w0 w (⟨own, b, o, xs ++ ys⟩ :: M)) (ho : o2 = o + xs.length) :
    Sim pr base w0 w (⟨own, b, o, xs⟩ :: ⟨own, b, o2, ys⟩ :: M) := by
  subst ho
  obtain ⟨c, T, lo, hi, hh, h1, h2, h3⟩ := h.seg _ (.head _)
  simp only [List.length_append] at h1 h2 h3
  have hd := h.dis
  cases hd with
  | cons hd1 hd2 =>
    refine ⟨h.bel, h.hb, ?_, ?_, h.same⟩
    · intro s hs
      cases hs with
      | head =>
        refine ⟨c, T, lo, hi, hh, by simp only; omega, fun i hi => ?_, fun ho => h3 ho⟩
        have := h2 i (by simp only at hi; omega)
        rw [List.getElem?_append_left hi] at this
        exact this
      | tail _ hs =>
        cases hs with
        | head =>
          refine ⟨c, T, lo, hi, hh, by simp only; omega, fun i hi => ?_, fun ho => h3 ho⟩
          have := h2 (xs.length + i) (by simp only at hi; omega)
          rw [List.getElem?_append_right (by omega), Nat.add_sub_cancel_left] at this
          rw [Nat.add_assoc]; exact this
        | tail _ hs => exact h.seg s (.tail _ hs)
    · refine .cons (fun t ht => ?_) (.cons (fun t ht => ?_) hd2)
      · cases ht with
        | head => exact .inr (.inr (.inl (Nat.le_refl _)))
        | tail _ ht =>
          have := hd1 t ht
          unfold Sg.apart at *
          simp only [List.length_append] at this ⊢
          rcases this with h | h | h | h
          · exact .inl h
          · exact .inr (.inl h)
          · exact .inr (.inr (.inl (by omega)))
          · exact .inr (.inr (.inr (by omega)))
      · have := hd1 t ht
        unfold Sg.apart at *
        simp only [List.length_append] at this ⊢
        rcases this with h | h | h | h
        · exact .inl h
        · exact .inr (.inl h)
        · exact .inr (.inr (.inl (by omega)))
        · exact .inr (.inr (.inr (by omega)))
section
variable {pr : Bool} {P : Program} {N : Fm} {Fin : Post} {k : List Kn} {E : Env} {M : Mem} {Q : Post}
variable {ops : List Oper} {rest : List Oper} {d : Nat} {op : Op} {ty : TypeId} {pos : String} {after : Array Edge} {g : Option (Nat × Bool)} {v : Value}
end
end Go.Proofs.Ytcibehgcibojnaa.Vm

namespace Go.Proofs.Ytcibehgcibojnaa.Vm
open Go Go.RowKit
section
variable {pr : Bool} {P : Program} {M : Mem}
end
inductive SetAt : List Value → Nat → Value → List Value → Prop where
  | zero {u v : Value} {l : List Value} : SetAt (u :: l) 0 v (v :: l)
  | succ {x v : Value} {n : Nat} {l l' : List Value} : SetAt l n v l' → SetAt (x :: l) (n + 1) v (x :: l')
theorem SetAt.eq {l l' : List Value} {n : Nat} {v : Value} (h : SetAt l n v l') : l' = l.set n v ∧ n < l.length := by
  induction h with
  | zero => exact ⟨rfl, by simp⟩
  | succ _ ih => exact ⟨by rw [ih.1]; rfl, by simpa using ih.2⟩
section
variable {P : Program} {N : Fm} {Fin : Post} {k : List Kn} {E : Env} {M : Mem}
variable {ops : List Oper} {rest : List Oper} {ty : TypeId} {pos : String} {after : Array Edge} {g : Option (Nat × Bool)}
inductive UpdC : Mem → Nat → Nat → Nat → Value → Mem → Prop where
  | head {M : Mem} {b o n : Nat} {v : Value} {l l' : List Value} : SetAt l n v l' → UpdC (⟨true, b, o, l⟩ :: M) b o n v (⟨true, b, o, l'⟩ :: M)
  | tail {M M' : Mem} {x : Sg} {b o n : Nat} {v : Value} : UpdC M b o n v M' → UpdC (x :: M) b o n v (x :: M')
end
section
variable {P : Program} {N : Fm} {E : Env} {M : Mem}
theorem P_slice1E {t e : TypeId} {x : Operand} {lo hi : Option Operand} {b o len cap o' len' cap' : Nat} {l h : Int} (ht : Und P t (.slice e)) (he : Cel P e 1)
    (hx : ev E x = some (.slice (some ⟨b, o, none⟩) len cap)) (hl : bnd E lo 0 l) (hh : bnd E hi len h) (h0 : 0 ≤ l) (h1 : l ≤ h) (h2 : h ≤ cap) (h3 : l < cap) (ho : o + l.toNat = o') (hn : h.toNat - l.toNat = len') (hc : cap - l.toNat = cap') :
    Pure P N E M (.slice t x lo hi none) (.slice (some ⟨b, o', none⟩) len' cap') := by
  subst ho; subst hn; subst hc
  exact P_slice1 ht he hx hl hh h0 h1 h2 h3
end
end Go.Proofs.Ytcibehgcibojnaa.Vm

namespace Go.Proofs.Ytcibehgcibojnaa.Vm
open Go Go.RowKit
section
variable {P : Program} {ops : Array Oper} {md : Region.Mode} {w : World}
end
theorem wp_other {P : Program} {o : Oper} {a : Act} {w : World} {K K' : Act → World → Prop} {Q Q' : Exit → Act → World → Prop} (h : ∀ a w, K a w → K' a w) (hq : ∀ e a w, e ≠ .normal → ¬ Q e a w)
    (hh : o.wp P a w K Q) : o.wp P a w K' Q' := by
  unfold Oper.wp at *
  generalize (execOp a.eval o).run P w = r at *
  cases r with
  | ok n w' =>
    cases n <;> simp only [Oper.upon] at hh ⊢ <;>
      first
        | exact h _ _ hh
        | exact Calls.mono hh (fun e w'' he => by
            cases e with
            | returned v => exact h _ _ he
            | panicked c => exact absurd he (hq _ _ _ (by simp))
            | outgrown => obtain ⟨a2, w2, h2⟩ := he; exact absurd h2 (hq _ _ _ (by simp)))
        | exact Rows.mono hh (fun _ _ he => h _ _ he)
  | halt x w' => cases x <;> simp only [Oper.upon] at hh ⊢ <;> exact absurd hh (hq _ _ _ (by simp))
section
variable {P : Program} {N : Fm} {Fin : Post} {k : List Kn} {E : Env} {M : Mem}
end
end Go.Proofs.Ytcibehgcibojnaa.Vm

namespace Go.Proofs.Ytcibehgcibojnaa.Vm
open Go Go.RowKit
structure OA (P : Program) (N : Fm) (Fin : Post) (k : List Kn) (l : List Oper) (f : Nat) (listed : Array Bool) (E : Env) (M : Mem) : Prop where
  out : ∀ base w0 a w, Ag N E a → Sim false base w0 w M → wpAny P .any l.toArray (Lift false base N w0 (post false P N Fin k)) f listed a w
section
variable {P : Program} {N : Fm} {Fin : Post} {k : List Kn} {E : Env} {M : Mem} {l : List Oper} {f : Nat} {listed : Array Bool}
theorem W_region_any {id : Nat} (hm : P.follows .mixedOrders = true) (h : OA P N Fin k l l.toArray.size (Array.replicate l.toArray.size false) E M) : W false P N Fin (.region id l.toArray true) k E M :=
  ⟨⟨fun base w0 a w hA hS => wp_region_any hm (h.out base w0 a _ hA hS.drew)⟩⟩
theorem OA_seq (n : Nat) (hs : Region.seqB .any l.toArray (l.drop n).length n listed = true) (hf : (l.drop n).length = f) (h : WO false P N Fin l (l.drop n) k E M) : OA P N Fin k l f listed E M := by
  subst hf
  exact ⟨fun base w0 a w hA hS => wpAny_of_seq (l.drop n) n listed a w (fun j => by simp [List.getElem?_drop]) hs (h.out.out base w0 a w hA hS)⟩
end
end Go.Proofs.Ytcibehgcibojnaa.Vm

namespace Go.Proofs.Ytcibehgcibojnaa.Vm
open Go Go.RowKit
section
variable {P : Program} {N : Fm} {Fin : Post} {k : List Kn} {l : List Oper}
def left (listed : Array Bool) : Nat → Nat
  | 0 => 0
  | n + 1 => left listed n + (if listed.getD n true = true then 0 else 1)
theorem left_same {listed : Array Bool} {i : Nat} : ∀ n, n ≤ i → left (listed.setIfInBounds i true) n = left listed n
  | 0, _ => rfl
  | n + 1, h => by
    have h1 := left_same (listed := listed) (i := i) n (by omega)
    have h2 : (listed.setIfInBounds i true).getD n true = listed.getD n true := getD_set_ne true (by omega)
    simp only [left, h1, h2]
theorem left_set {listed : Array Bool} {i : Nat} (hl : listed.getD i true = false) (hs : i < listed.size) : ∀ n, i < n → left (listed.setIfInBounds i true) n + 1 = left listed n
  | 0, h => by omega
  | n + 1, h => by
    simp only [left]
    by_cases hin : i = n
    · subst hin
      rw [left_same i (Nat.le_refl _), hl]
      have : (listed.setIfInBounds i true).getD i true = true := by simp [hs]
      rw [this]; simp
    · have := left_set hl hs n (by omega)
      rw [getD_set_ne true hin]; omega
def earlierB (ops : Array Oper) : Bool :=
  (List.range ops.size).all fun i => match ops[i]? with
    | some o => o.after.all fun e => !Region.binds .any e || decide (e.on < i)
    | none => true
theorem none_left {ops : Array Oper} (h : earlierB ops = true) {listed : Array Bool} (hs : listed.size = ops.size) (hr : Region.ready .any ops listed = []) : ∀ i, i < ops.size → listed.getD i true = true := by
  intro i
  induction i using Nat.strongRecOn with
  | _ i ih =>
    intro hi
    cases hl : listed.getD i true with
    | true => rfl
    | false =>
      have h1 := List.all_eq_true.1 h i (List.mem_range.2 hi)
      have ho : ops[i]? = some ops[i] := by simp [hi]
      rw [ho] at h1
      dsimp only at h1
      have hmem : i ∈ Region.ready .any ops listed := by
        refine mem_ready.2 ⟨hl, ops[i], ho, fun e he hb => ?_⟩
        have h2 := Array.all_eq_true_iff_forall_mem.1 h1 e he
        simp only [hb, Bool.not_true, Bool.false_or, decide_eq_true_eq] at h2
        have h3 := ih e.on h2 (by omega)
        have h4 : e.on < listed.size := by omega
        simp [h4] at h3 ⊢
        exact h3
      rw [hr] at hmem
      cases hmem
end
end Go.Proofs.Ytcibehgcibojnaa.Vm
