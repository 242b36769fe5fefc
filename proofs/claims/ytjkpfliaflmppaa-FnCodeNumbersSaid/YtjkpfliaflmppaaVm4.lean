/- More rules of the engine: boxes, fields, structs, interface values, append, results that lie in memory. No condition. -/
import Derived.Test.YtjkpfliaflmppaaVm3
namespace Go.Proofs.Ytjkpfliaflmppaa.Vm
open Go Go.RowKit

section
variable {pr : Bool} {P : Program} {N : Fm} {Fin : Post} {k : List Kn} {E : Env} {M : Mem} {Q : Post}
variable {ops : List Oper} {rest : List Oper} {d : Nat} {op : Op} {ty : TypeId} {pos : String} {after : Array Edge} {g : Option (Nat × Bool)} {v : Value}

/-! ### One cell at the head of a row -/

theorem P_load0 {t : TypeId} {x : Operand} {own : Bool} {b o : Nat} {l : List Value} {v : Value} (ht : PlainT P t)
    (hx : ev E x = some (.pointer (some ⟨b, o, none⟩))) (hm : (⟨own, b, o, v :: l⟩ : Sg) ∈ M) : Pure P N E M (.load t x) v :=
  P_load (n := 0) ht hx hm rfl

theorem O_store0 {t : TypeId} {p x : Operand} {b o : Nat} {l : List Value} {u v : Value} {M' : Mem} (ht : Cel P t 1) (hp : ev E p = some (.pointer (some ⟨b, o, none⟩))) (hx : ev E x = some v)
    (hv : v.oneCell' = true) (hg : On E ops g) (hu : Upd1 M ⟨true, b, o, u :: l⟩ (v :: l) M') (h : WO false P N Fin ops rest k E M') : WO false P N Fin ops (⟨none, .store t p x, ty, pos, after, g⟩ :: rest) k E M :=
  O_store (n := 0) ht hp hx hv hg (by simp) hu h

/-! ### Fields, arrays -/

/-- The place of a field in its struct. -/
def fieldOff (P : Program) (s : TypeId) (f : Nat) : Option Nat :=
  match P.underlying s with
  | some (.struct fs) => match fs[f]? with
    | some fd => if P.cellsOf fd.type = 0 then none else some fd.offset
    | none => none
  | _ => none

structure Fld (P : Program) (s : TypeId) (f off : Nat) : Prop where
  out : fieldOff P s f = some off

theorem add_place (b o n : Nat) : Addr.add ⟨b, o, none⟩ n = ⟨b, o + n, none⟩ := by
  unfold Addr.add; split
  · rename_i h; simp [h]
  · rfl

theorem P_field {s : TypeId} {x : Operand} {f off b o : Nat} (hf : Fld P s f off) (hx : ev E x = some (.pointer (some ⟨b, o, none⟩))) :
    Pure P N E M (.fieldAddr s x f) (.pointer (some ⟨b, o + off, none⟩)) := by
  constructor
  intro pr base w0 a w hA hS d ty pos after g
  have hf := hf.out
  unfold fieldOff at hf
  split at hf
  · rename_i fs hs
    split at hf
    · rename_i fd hfd
      split at hf
      · simp at hf
      · rename_i hc
        simp at hf
        subst hf
        obtain ⟨I, hI, hsz⟩ := size_of (P := P) (t := fd.type) rfl (by omega)
        have hz : I.size ≠ 0 := by rw [hsz]; exact hc
        simp [execOp, Instr.fieldAt, hA.eval hx, run_under hs, hfd, Instr.sureAddr, fieldPlace, sizeOf, typeInfo, hI, hz, add_place]
    · simp at hf
  · simp at hf

/-- 'arr[i]' as a place, arr an array behind an address. -/
theorem P_indexA {t e : TypeId} {x i : Operand} {b o len n : Nat} {kd : IntKind} {z : Int} (ht : Und P t (.array len e)) (he : Cel P e n) (hn : 0 < n)
    (hx : ev E x = some (.pointer (some ⟨b, o, none⟩))) (hi : ev E i = some (.int kd z)) (h0 : 0 ≤ z) (h1 : z < len) :
    Pure P N E M (.indexAddr t x i) (.pointer (some ⟨b, o + z.toNat * n, none⟩)) := by
  constructor
  intro pr base w0 a w hA hS d ty pos after g
  obtain ⟨I, hI, hs⟩ := size_of he.out hn
  simp [execOp, hA.eval hx, hA.eval hi, Instr.indexAt, Instr.sureAddr, asIntOf, ht.run, sizeOf, typeInfo, hI, hs, h0, h1, add_place]
theorem P_indexA1 {t e : TypeId} {x i : Operand} {b o len : Nat} {kd : IntKind} {z : Int} (ht : Und P t (.array len e)) (he : Cel P e 1)
    (hx : ev E x = some (.pointer (some ⟨b, o, none⟩))) (hi : ev E i = some (.int kd z)) (h0 : 0 ≤ z) (h1 : z < len) :
    Pure P N E M (.indexAddr t x i) (.pointer (some ⟨b, o + z.toNat, none⟩)) := by
  have := P_indexA (N := N) (M := M) ht he (by omega) hx hi h0 h1
  simpa using this

/-- 'arr[:]' and its kin, arr an array behind an address. -/
theorem P_sliceA {t e : TypeId} {x : Operand} {lo hi : Option Operand} {b o len n : Nat} {l h : Int} (ht : Und P t (.array len e)) (he : Cel P e n) (hn : 0 < n)
    (hx : ev E x = some (.pointer (some ⟨b, o, none⟩))) (hl : bnd E lo 0 l) (hh : bnd E hi len h) (h0 : 0 ≤ l) (h1 : l ≤ h) (h2 : h ≤ len) (h3 : l < len) :
    Pure P N E M (.slice t x lo hi none) (.slice (some ⟨b, o + l.toNat * n, none⟩) (h.toNat - l.toNat) (len - l.toNat)) := by
  constructor
  intro pr bs w0 a w hA hS d ty pos after g
  obtain ⟨I, hI, hs⟩ := size_of he.out hn
  have hne : ¬ len = l.toNat := by omega
  have hlh : (l : Int) ≤ h.toNat := by omega
  have hh0 : 0 ≤ h := by omega
  have hl' : lo.map a.eval = none ∧ l = 0 ∨ ∃ k, lo.map a.eval = some (.int k l) := by
    cases lo with
    | none => exact .inl ⟨rfl, hl⟩
    | some y => obtain ⟨k, hk⟩ := hl; exact .inr ⟨k, by simp [hA.eval hk]⟩
  have hh' : hi.map a.eval = none ∧ h = len ∨ ∃ k, hi.map a.eval = some (.int k h) := by
    cases hi with
    | none => exact .inl ⟨rfl, hh⟩
    | some y => obtain ⟨k, hk⟩ := hh; exact .inr ⟨k, by simp [hA.eval hk]⟩
  have hb : (Instr.sliceBounds false len len (lo.map a.eval) (hi.map a.eval) none).run P w = .ok (l.toNat, h.toNat, len) w := by
    rcases hl' with ⟨e1, rfl⟩ | ⟨k1, e1⟩ <;> rcases hh' with ⟨e2, rfl⟩ | ⟨k2, e2⟩ <;>
      simp [Instr.sliceBounds, Instr.sliceBound, e1, e2, asIntOf, h0, hh0, h1, h2, hlh]
    intro hm; omega
  simp [execOp, Instr.sliceAt, hA.eval hx, Instr.sureAddr, ht.run, hb, sizeOf, typeInfo, hI, hs, hne, add_place]

/-- A slice expression that ends at the capacity's very end. -/
theorem P_slice_end {t e : TypeId} {x : Operand} {lo hi : Option Operand} {ad : Option Addr} {len cap n : Nat} {l h : Int} (ht : Und P t (.slice e)) (he : Cel P e n) (hn : 0 < n)
    (hx : ev E x = some (.slice ad len cap)) (hl : bnd E lo 0 l) (hh : bnd E hi len h) (h0 : 0 ≤ l) (h1 : l ≤ h) (h2 : h ≤ cap) (h3 : l = cap) :
    Pure P N E M (.slice t x lo hi none) (.slice ad 0 0) := by
  constructor
  intro pr bs w0 a w hA hS d ty pos after g
  obtain ⟨I, hI, hs⟩ := size_of he.out hn
  have e3 : cap = l.toNat := by omega
  have e4 : h.toNat = l.toNat := by omega
  have hlh : (l : Int) ≤ h.toNat := by omega
  have hh0 : 0 ≤ h := by omega
  have hl' : lo.map a.eval = none ∧ l = 0 ∨ ∃ k, lo.map a.eval = some (.int k l) := by
    cases lo with
    | none => exact .inl ⟨rfl, hl⟩
    | some y => obtain ⟨k, hk⟩ := hl; exact .inr ⟨k, by simp [hA.eval hk]⟩
  have hh' : hi.map a.eval = none ∧ h = len ∨ ∃ k, hi.map a.eval = some (.int k h) := by
    cases hi with
    | none => exact .inl ⟨rfl, hh⟩
    | some y => obtain ⟨k, hk⟩ := hh; exact .inr ⟨k, by simp [hA.eval hk]⟩
  have hb : (Instr.sliceBounds true len cap (lo.map a.eval) (hi.map a.eval) none).run P w = .ok (l.toNat, h.toNat, cap) w := by
    rcases hl' with ⟨e1, rfl⟩ | ⟨k1, e1⟩ <;> rcases hh' with ⟨e2, rfl⟩ | ⟨k2, e2⟩ <;>
      simp [Instr.sliceBounds, Instr.sliceBound, e1, e2, asIntOf, h0, hh0, h1, h2, hlh]
    intro hm; omega
  have e5 : cap - l.toNat = 0 := by omega
  simp [execOp, Instr.sliceAt, Instr.slice, hA.eval hx, ht.run, hb, sizeOf, typeInfo, hI, hs, e4, e5]
  intro hne; exact absurd e3 hne

/-! ### Values -/

theorem P_extract {x : Operand} {i : Nat} {vs : List Value} {v : Value} (hx : ev E x = some (.tuple vs.toArray)) (hv : vs[i]? = some v) : Pure P N E M (.extract x i) v := by
  constructor
  intro pr base w0 a w hA hS d ty pos after g
  simp [execOp, Instr.extract, hA.eval hx, hv]

theorem P_mkfunc {fn : Fn} {xs : List Operand} {vs : List Value} (hx : evs E xs = some vs) : Pure P N E M (.makeFunc fn #[] xs.toArray) (.func fn #[] vs.toArray) := by
  constructor
  intro pr base w0 a w hA hS d ty pos after g
  have e : xs.toArray.map a.eval = vs.toArray := by simp [hA.evals hx]
  simp [execOp, Instr.makeFunc, e]

theorem P_mkiface {t : TypeId} {x : Operand} {v : Value} (ht : NonIfT P t) (hx : ev E x = some v) : Pure P N E M (.makeInterface t x) (.iface t v) := by
  constructor
  intro pr base w0 a w hA hS d ty pos after g
  obtain ⟨D, ht, hD⟩ := ht.out
  cases D <;> simp [isIface] at hD <;> simp [execOp, Instr.makeInterface, hA.eval hx, run_under ht]

/-- The parts of a composite literal. -/
def evps (E : Env) : List (Nat × Operand) → Option (List (Nat × Value))
  | [] => some []
  | (i, x) :: xs => match ev E x, evps E xs with
    | some v, some vs => some ((i, v) :: vs)
    | _, _ => none

theorem Ag.evalps {a : Act} (h : Ag N E a) : ∀ {xs : List (Nat × Operand)} {vs : List (Nat × Value)}, evps E xs = some vs → xs.map (fun p => (p.1, a.eval p.2)) = vs
  | [], vs, hv => by simp [evps] at hv; simp [hv]
  | (i, x) :: xs, vs, hv => by
    simp only [evps] at hv
    split at hv
    · rename_i v vs' h1 h2
      simp at hv
      subst hv
      simp [h.eval h1, h.evalps h2]
    · simp at hv

theorem P_build {t : TypeId} {xs : List (Nat × Operand)} {vs : List (Nat × Value)} {v : Value} (hx : evps E xs = some vs) (h : ∀ w, (Instr.build t vs.toArray).run P w = .ok v w) :
    Pure P N E M (.build t xs.toArray) v := by
  constructor
  intro pr base w0 a w hA hS d ty pos after g
  have e : xs.toArray.map (fun p : Nat × Operand => (p.1, a.eval p.2)) = vs.toArray := by simp [hA.evalps hx]
  have e' : (xs.toArray.map fun (i, x) => (i, a.eval x)) = vs.toArray := e
  simp only [execOp, e']
  simp [h]

/-! ### New memory -/

theorem OL_new {v : Value} {c : List Value} {T : TypeId} (hg : On E ops g) (hd : Nat.blt d N.n = true)
    (hr : ∀ base w0 a w, Ag N E a → Sim false base w0 w M → ∀ ty pos after g, (execOp a.eval ⟨some d, op, ty, pos, after, g⟩).run P w = .ok (.value (.pointer (some ⟨w.heap.size, 0, none⟩))) (w.alloc (.cells c.toArray T)))
    (h : ∀ b, OL false P N ops Q rest ((d, .pointer (some ⟨b, 0, none⟩)) :: E) (⟨true, b, 0, c⟩ :: M)) : OL false P N ops Q (⟨some d, op, ty, pos, after, g⟩ :: rest) E M := by
  constructor
  intro base w0 a w hA hS
  unfold wpList
  rw [if_pos (On.wanted (o := ⟨some d, op, ty, pos, after, g⟩) hg hA)]
  refine .inl ?_
  unfold Oper.wp
  rw [hr base w0 a w hA hS]
  have := hS.alloc c.toArray T
  exact (h w.heap.size).out base w0 _ _ (hA.put hd _) this

theorem O_box {t : TypeId} {x : Operand} {v : Value} (hx : ev E x = some v) (hg : On E ops g) (hd : Nat.blt d N.n = true)
    (h : ∀ b, WO false P N Fin ops rest k ((d, .pointer (some ⟨b, 0, none⟩)) :: E) (⟨true, b, 0, v.cells.toList⟩ :: M)) : WO false P N Fin ops (⟨some d, .box t x, ty, pos, after, g⟩ :: rest) k E M :=
  ⟨OL_new (v := v) (c := v.cells.toList) (T := t) hg hd (fun base w0 a w hA hS ty pos after g => by
    simp [execOp, Instr.box, hA.eval hx, newVar, newRow]) fun b => (h b).out⟩

def zeroOf (P : Program) (t : TypeId) : Option (List Value) := ((P.info? t).bind (·.zero)).map (·.cells.toList)

theorem O_alloc {t : TypeId} {c : List Value} (hz : zeroOf P t = some c) (hg : On E ops g) (hd : Nat.blt d N.n = true)
    (h : ∀ b, WO false P N Fin ops rest k ((d, .pointer (some ⟨b, 0, none⟩)) :: E) (⟨true, b, 0, c⟩ :: M)) : WO false P N Fin ops (⟨some d, .alloc t, ty, pos, after, g⟩ :: rest) k E M :=
  ⟨OL_new (v := .nilFunc) (c := c) (T := t) hg hd (fun base w0 a w hA hS ty pos after g => by
    unfold zeroOf at hz
    cases hI : P.info? t with
    | none => simp [hI] at hz
    | some I =>
      cases hZ : I.zero with
      | none => simp [hI, hZ] at hz
      | some z =>
        simp [hI, hZ] at hz
        subst hz
        simp [execOp, Instr.alloc, zeroValue, typeInfo, hI, hZ, newVar, newRow]) fun b => (h b).out⟩

theorem O_buildSlice {t T : TypeId} {n : Nat} {xs : List (Nat × Operand)} {vs : List (Nat × Value)} {c : List Value} (hx : evps E xs = some vs)
    (hr : ∀ w, (Instr.buildSlice t n vs.toArray).run P w = .ok (.slice (some ⟨w.heap.size, 0, none⟩) n n) (w.alloc (.cells c.toArray T))) (hg : On E ops g) (hd : Nat.blt d N.n = true)
    (h : ∀ b, WO false P N Fin ops rest k ((d, .slice (some ⟨b, 0, none⟩) n n) :: E) (⟨true, b, 0, c⟩ :: M)) : WO false P N Fin ops (⟨some d, .buildSlice t n xs.toArray, ty, pos, after, g⟩ :: rest) k E M := by
  refine ⟨⟨?_⟩⟩
  intro base w0 a w hA hS
  unfold wpList
  rw [if_pos (On.wanted (o := ⟨some d, .buildSlice t n xs.toArray, ty, pos, after, g⟩) hg hA)]
  refine .inl ?_
  unfold Oper.wp
  have e : (xs.toArray.map fun (i, x) => (i, a.eval x)) = vs.toArray := by
    have : xs.toArray.map (fun p : Nat × Operand => (p.1, a.eval p.2)) = vs.toArray := by simp [hA.evalps hx]
    exact this
  have h1 : (execOp a.eval ⟨some d, .buildSlice t n xs.toArray, ty, pos, after, g⟩).run P w = .ok (.value (.slice (some ⟨w.heap.size, 0, none⟩) n n)) (w.alloc (.cells c.toArray T)) := by
    simp only [execOp, e]
    simp [hr]
  rw [h1]
  exact (h w.heap.size).out.out base w0 _ _ (hA.put hd _) (hS.alloc c.toArray _)
end
end Go.Proofs.Ytjkpfliaflmppaa.Vm
