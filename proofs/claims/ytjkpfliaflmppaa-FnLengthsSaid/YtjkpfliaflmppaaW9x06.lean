/- Rules whose table facts and rows of memory are found by instances: short words. No condition. Regions that draw their order, of operations that turn nothing that is known (they read, or call what leaves all rows as they are): walked once, each operation over what it waits for. No condition. A scope with jumps back to one label. No condition. -/
import Derived.Test.YtjkpfliaflmppaaW9x05
import Derived.ScopeJumps

namespace Go.Proofs.Ytjkpfliaflmppaa.Vm
open Go Go.RowKit

class UndC (P : Program) (t : TypeId) (D : outParam TypeDesc) : Prop where
  out : Und P t D
class CelC (P : Program) (t : TypeId) (n : outParam Nat) : Prop where
  out : Cel P t n
class PlainC (P : Program) (t : TypeId) : Prop where
  out : PlainT P t
class NonIfC (P : Program) (t : TypeId) : Prop where
  out : NonIfT P t
class FldC (P : Program) (s : TypeId) (f : Nat) (off : outParam Nat) : Prop where
  out : Fld P s f off

class TakeI (M : Mem) (b o : Nat) (own : outParam Bool) (l : outParam (List Value)) (M0 : outParam Mem) : Prop where
  out : Take1 M ⟨own, b, o, l⟩ M0
instance (priority := high) {M : Mem} {b o : Nat} {own : Bool} {l : List Value} : TakeI (⟨own, b, o, l⟩ :: M) b o own l M := ⟨.head⟩
instance {M M0 : Mem} {b o : Nat} {own : Bool} {l : List Value} {x : Sg} [h : TakeI M b o own l M0] : TakeI (x :: M) b o own l (x :: M0) := ⟨.tail h.out⟩

/-- A row's cells put anew, in its place. -/
class UpdI (M : Mem) (b o : Nat) (l l' : List Value) (M' : outParam Mem) : Prop where
  out : Upd1 M ⟨true, b, o, l⟩ l' M'
instance (priority := high) {M : Mem} {b o : Nat} {l l' : List Value} : UpdI (⟨true, b, o, l⟩ :: M) b o l l' (⟨true, b, o, l'⟩ :: M) := ⟨.head⟩
instance {M M' : Mem} {b o : Nat} {l l' : List Value} {x : Sg} [h : UpdI M b o l l' M'] : UpdI (x :: M) b o l l' (x :: M') := ⟨.tail h.out⟩
class SetI (l : List Value) (n : Nat) (v : Value) (l' : outParam (List Value)) : Prop where
  out : SetAt l n v l'
instance {u v : Value} {l : List Value} : SetI (u :: l) 0 v (v :: l) := ⟨.zero⟩
instance {x v : Value} {l l' : List Value} {n : Nat} [h : SetI l n v l'] : SetI (x :: l) (n + 1) v (x :: l') := ⟨.succ h.out⟩
class UpdCI (M : Mem) (b o n : Nat) (v : Value) (M' : outParam Mem) : Prop where
  out : UpdC M b o n v M'
instance (priority := high) {M : Mem} {b o n : Nat} {v : Value} {l l' : List Value} [h : SetI l n v l'] : UpdCI (⟨true, b, o, l⟩ :: M) b o n v (⟨true, b, o, l'⟩ :: M) := ⟨.head h.out⟩
instance {M M' : Mem} {b o n : Nat} {v : Value} {x : Sg} [h : UpdCI M b o n v M'] : UpdCI (x :: M) b o n v (x :: M') := ⟨.tail h.out⟩

/-- Rows put together by '++'. -/
instance {M M0 : Mem} {b o : Nat} {own : Bool} {l : List Value} {x : Sg} {L : Mem} [h : TakeI (x :: (L ++ M)) b o own l M0] : TakeI ((x :: L) ++ M) b o own l M0 := ⟨h.out⟩
instance {M M0 : Mem} {b o : Nat} {own : Bool} {l : List Value} [h : TakeI M b o own l M0] : TakeI ([] ++ M) b o own l M0 := ⟨h.out⟩
instance {M M' : Mem} {b o : Nat} {l l' : List Value} {x : Sg} {L : Mem} [h : UpdI (x :: (L ++ M)) b o l l' M'] : UpdI ((x :: L) ++ M) b o l l' M' := ⟨h.out⟩
instance {M M' : Mem} {b o : Nat} {l l' : List Value} [h : UpdI M b o l l' M'] : UpdI ([] ++ M) b o l l' M' := ⟨h.out⟩

section
variable {P : Program} {N : Fm} {Fin : Post} {k : List Kn} {E : Env} {M : Mem}
variable {ops : List Oper} {rest : List Oper} {d : Nat} {ty : TypeId} {pos : String} {after : Array Edge} {g : Option (Nat × Bool)}

theorem I_load0 {t : TypeId} {x : Operand} {own : Bool} {b o : Nat} {l : List Value} {v : Value} {M0 : Mem} [ht : PlainC P t]
    (hx : ev E x = some (.pointer (some ⟨b, o, none⟩))) [hm : TakeI M b o own (v :: l) M0] : Pure P N E M (.load t x) v := P_load0 ht.out hx hm.out.mem
theorem I_load {t : TypeId} {x : Operand} {own : Bool} {b o n : Nat} {l : List Value} {v : Value} {M0 : Mem} [ht : PlainC P t]
    (hx : ev E x = some (.pointer (some ⟨b, o + n, none⟩))) [hm : TakeI M b o own l M0] (hv : l[n]? = some v) : Pure P N E M (.load t x) v := P_load ht.out hx hm.out.mem hv
theorem I_loadi {t : TypeId} {x : Operand} {own : Bool} {b o : Nat} {l : List Int} {kd : IntKind} {z : Int} {M0 : Mem} [ht : UndC P t (.int kd)]
    (hx : ev E x = some (.pointer (some ⟨b, o + z.toNat, none⟩))) [hm : TakeI M b o own (ints kd l) M0] (h : z.toNat < l.length) : Pure P N E M (.load t x) (.int kd (rd l z)) := P_loadi ht.out hx hm.out.mem h
theorem I_index1 {t e : TypeId} {x i : Operand} {b o len cap : Nat} {kd : IntKind} {z : Int} [ht : UndC P t (.slice e)] [he : CelC P e 1]
    (hx : ev E x = some (.slice (some ⟨b, o, none⟩) len cap)) (hi : ev E i = some (.int kd z)) (h0 : 0 ≤ z) (h1 : z < len) : Pure P N E M (.indexAddr t x i) (.pointer (some ⟨b, o + z.toNat, none⟩)) := P_index1 ht.out he.out hx hi h0 h1
theorem I_index {t e : TypeId} {x i : Operand} {b o len cap n : Nat} {kd : IntKind} {z : Int} [ht : UndC P t (.slice e)] [he : CelC P e n] (hn : Nat.blt 0 n = true)
    (hx : ev E x = some (.slice (some ⟨b, o, none⟩) len cap)) (hi : ev E i = some (.int kd z)) (h0 : 0 ≤ z) (h1 : z < len) : Pure P N E M (.indexAddr t x i) (.pointer (some ⟨b, o + z.toNat * n, none⟩)) :=
  P_index ht.out he.out (by simpa [Nat.blt_eq] using hn) hx hi h0 h1
theorem I_field {s : TypeId} {x : Operand} {f off b o : Nat} [hf : FldC P s f off] (hx : ev E x = some (.pointer (some ⟨b, o, none⟩))) : Pure P N E M (.fieldAddr s x f) (.pointer (some ⟨b, o + off, none⟩)) := P_field hf.out hx
theorem I_convk {s t : TypeId} {x : Operand} {kd k2 : IntKind} {p : Int} [hs : UndC P s (.int kd)] [ht : UndC P t (.int k2)] (hx : ev E x = some (.int kd p)) (h : inK k2 p) : Pure P N E M (.convert s t x) (.int k2 p) := P_convk hs.out ht.out hx h
theorem I_len {x : Operand} {t e : TypeId} {base : Option Addr} {len cap : Nat} [ht : UndC P t (.slice e)] (hx : ev E x = some (.slice base len cap)) :
    Pure P N E M (.call { callee := .builtin .len, args := #[x], argTypes := #[t] }) (.int .i64 len) := P_len ht.out hx
theorem I_mkiface {t : TypeId} {x : Operand} {v : Value} [ht : NonIfC P t] (hx : ev E x = some v) : Pure P N E M (.makeInterface t x) (.iface t v) := P_mkiface ht.out hx

theorem I_indexA1 {t e : TypeId} {x i : Operand} {b o len : Nat} {kd : IntKind} {z : Int} [ht : UndC P t (.array len e)] [he : CelC P e 1]
    (hx : ev E x = some (.pointer (some ⟨b, o, none⟩))) (hi : ev E i = some (.int kd z)) (h0 : 0 ≤ z) (h1 : z < len) : Pure P N E M (.indexAddr t x i) (.pointer (some ⟨b, o + z.toNat, none⟩)) := P_indexA1 ht.out he.out hx hi h0 h1
theorem I_indexA {t e : TypeId} {x i : Operand} {b o len n : Nat} {kd : IntKind} {z : Int} [ht : UndC P t (.array len e)] [he : CelC P e n] (hn : Nat.blt 0 n = true)
    (hx : ev E x = some (.pointer (some ⟨b, o, none⟩))) (hi : ev E i = some (.int kd z)) (h0 : 0 ≤ z) (h1 : z < len) : Pure P N E M (.indexAddr t x i) (.pointer (some ⟨b, o + z.toNat * n, none⟩)) :=
  P_indexA ht.out he.out (by simpa [Nat.blt_eq] using hn) hx hi h0 h1

/-- Stores: the row that is written keeps its place. -/
theorem I_store {t : TypeId} {p x : Operand} {b o n : Nat} {l : List Value} {v : Value} {M0 M' : Mem} [ht : CelC P t 1] (hp : ev E p = some (.pointer (some ⟨b, o + n, none⟩))) (hx : ev E x = some v)
    (hv : v.oneCell' = true) (hg : On E ops g) [hm : TakeI M b o true l M0] (hn : n < l.length) [hu : UpdI M b o l (l.set n v) M'] (h : WO false P N Fin ops rest k E M') : WO false P N Fin ops (⟨none, .store t p x, ty, pos, after, g⟩ :: rest) k E M :=
  O_store ht.out hp hx hv hg hn hu.out h
theorem I_storeC {t : TypeId} {p x : Operand} {b o n : Nat} {v : Value} {M' : Mem} [ht : CelC P t 1] (hp : ev E p = some (.pointer (some ⟨b, o + n, none⟩))) (hx : ev E x = some v)
    (hv : v.oneCell' = true) (hg : On E ops g) [hu : UpdCI M b o n v M'] (h : WO false P N Fin ops rest k E M') : WO false P N Fin ops (⟨none, .store t p x, ty, pos, after, g⟩ :: rest) k E M :=
  O_storeC ht.out hp hx hv hg hu.out h
theorem I_store0 {t : TypeId} {p x : Operand} {b o : Nat} {l : List Value} {u v : Value} {M0 M' : Mem} [ht : CelC P t 1] (hp : ev E p = some (.pointer (some ⟨b, o, none⟩))) (hx : ev E x = some v)
    (hv : v.oneCell' = true) (hg : On E ops g) [hm : TakeI M b o true (u :: l) M0] [hu : UpdI M b o (u :: l) (v :: l) M'] (h : WO false P N Fin ops rest k E M') : WO false P N Fin ops (⟨none, .store t p x, ty, pos, after, g⟩ :: rest) k E M :=
  O_store0 ht.out hp hx hv hg hu.out h
theorem I_storei {t : TypeId} {p x : Operand} {b o : Nat} {l : List Int} {kd : IntKind} {z v : Int} {M0 M' : Mem} [ht : CelC P t 1] (hp : ev E p = some (.pointer (some ⟨b, o + z.toNat, none⟩)))
    (hx : ev E x = some (.int kd v)) (hg : On E ops g) [hm : TakeI M b o true (ints kd l) M0] (hn : z.toNat < l.length) [hu : UpdI M b o (ints kd l) (ints kd (wr l z v)) M'] (h : WO false P N Fin ops rest k E M') :
    WO false P N Fin ops (⟨none, .store t p x, ty, pos, after, g⟩ :: rest) k E M :=
  O_storei ht.out hp hx hg hu.out hn h
end
end Go.Proofs.Ytjkpfliaflmppaa.Vm

namespace Go.Proofs.Ytjkpfliaflmppaa.Vm
open Go Go.RowKit

/-- What is put into a slot, if anything is. -/
def putU (a : Act) : Option (Nat × Value) → Act
  | some (d, v) => a.put (some d) v
  | none => a
/-- The operation puts u, and all rows stay. -/
structure Qt (P : Program) (N : Fm) (l : List Oper) (E : Env) (M : Mem) (o : Oper) (u : Option (Nat × Value)) : Prop where
  out : ∀ base w0 a w, Ag N E a → Sim false base w0 w M → ∀ F : Exit → Act → World → Prop, (∀ w', Sim false base w0 w' M → F .normal (putU a u) w') → wpList P l.toArray F [o] a w
  hd : ∀ p, u = some p → Nat.blt p.1 N.n = true
abbrev UEnv := List (Option (Nat × Value))
def somes : UEnv → Env
  | [] => []
  | some p :: l => p :: somes l
  | none :: l => somes l

/-- What the operations of these numbers have put. -/
def pick (done : UEnv) : List Nat → Env
  | [] => []
  | j :: js => match done[j]? with
    | some (some p) => p :: pick done js
    | _ => pick done js

def QSd (P : Program) (N : Fm) (l : List Oper) (E : Env) (M : Mem) (K : UEnv → Prop) : UEnv → List (List Nat) → List Oper → Prop
  | done, _, [] => K done
  | done, ws, o :: rest => ∃ u, Qt P N l (pick done (ws.headD []) ++ E) M o u ∧ QSd P N l E M K (done ++ [u]) ws.tail rest
structure QS (P : Program) (N : Fm) (l : List Oper) (E : Env) (M : Mem) (K : UEnv → Prop) (done : UEnv) (ws : List (List Nat)) (rest : List Oper) : Prop where
  out : QSd P N l E M K done ws rest

section
variable {P : Program} {N : Fm} {Fin : Post} {k : List Kn} {E : Env} {M : Mem} {l : List Oper} {K : UEnv → Prop} {done : UEnv} {ws : List (List Nat)} {w : List Nat} {rest : List Oper}
variable {d : Nat} {op : Op} {ty : TypeId} {pos : String} {after : Array Edge} {g : Option (Nat × Bool)} {v : Value}

theorem QS_nil (h : K done) : QS P N l E M K done ws [] := ⟨h⟩
theorem QS_of {o : Oper} {u : Option (Nat × Value)} (h1 : Qt P N l (pick done w ++ E) M o u) (h : QS P N l E M K (done ++ [u]) ws rest) : QS P N l E M K done (w :: ws) (o :: rest) := ⟨⟨u, h1, h.out⟩⟩
theorem hd_some {N : Fm} {d : Nat} {v : Value} (hd : Nat.blt d N.n = true) : ∀ p, some (d, v) = some p → Nat.blt p.1 N.n = true := by
  rintro _ ⟨⟩; exact hd
theorem QS_pure (hp : Pure P N (pick done w ++ E) M op v) (hg : On (pick done w ++ E) l g) (hd : Nat.blt d N.n = true) (h : QS P N l E M K (done ++ [some (d, v)]) ws rest) :
    QS P N l E M K done (w :: ws) (⟨some d, op, ty, pos, after, g⟩ :: rest) := by
  refine QS_of ⟨fun base w0 a w1 hA hS F hF => ?_, hd_some hd⟩ h
  unfold wpList
  rw [if_pos (On.wanted (o := ⟨some d, op, ty, pos, after, g⟩) hg hA)]
  refine .inl ?_
  unfold Oper.wp
  rw [hp.out false base w0 a w1 hA hS]
  exact hF _ hS
theorem QS_off (hg : Off (pick done w ++ E) l g) (hd : Nat.blt d N.n = true) (h : QS P N l E M K (done ++ [some (d, undef)]) ws rest) : QS P N l E M K done (w :: ws) (⟨some d, op, ty, pos, after, g⟩ :: rest) := by
  refine QS_of ⟨fun base w0 a w1 hA hS F hF => ?_, hd_some hd⟩ h
  unfold wpList
  rw [if_neg (by rw [Off.wanted (o := ⟨some d, op, ty, pos, after, g⟩) hg hA]; simp)]
  exact hF _ hS
theorem QS_call {c : Operand} {xs : List Operand} {ts : Array TypeId} {f : FuncId} {first captured : Array Value} {vs : List Value}
    (hc : ev (pick done w ++ E) c = some (.func (.func f) first captured)) (hx : evs (pick done w ++ E) xs = some vs) (hf : Callable P f) (hg : On (pick done w ++ E) l g) (hd : Nat.blt d N.n = true)
    (hR : HC P f (first ++ vs.toArray ++ captured) M (fun u M' => u = v ∧ Rk M' M)) (h : QS P N l E M K (done ++ [some (d, v)]) ws rest) :
    QS P N l E M K done (w :: ws) (⟨some d, .call { callee := .value c, args := xs.toArray, argTypes := ts }, ty, pos, after, g⟩ :: rest) := by
  refine QS_of ⟨fun base w0 a w1 hA hS F hF => ?_, hd_some hd⟩ h
  unfold wpList
  rw [if_pos (On.wanted (o := ⟨some d, .call { callee := .value c, args := xs.toArray, argTypes := ts }, ty, pos, after, g⟩) hg hA)]
  refine .inl ?_
  unfold Oper.wp
  have hr : (execOp a.eval ⟨some d, .call { callee := .value c, args := xs.toArray, argTypes := ts }, ty, pos, after, g⟩).run P w1 = .ok (.enter f (first ++ vs.toArray ++ captured)) w1 := by
    have e : xs.toArray.map a.eval = vs.toArray := by simp [hA.evals hx]
    simp [execOp, resolve, e, hA.eval hc, Deferred.ofValue, invoke, run_callFunc hf]
  rw [hr]
  refine (hR.out base w0 w1 hS).mono fun e w' ⟨u, M', he, hS', hu, hrk⟩ => ?_
  subst he; subst hu
  exact hF _ (hS'.rk hrk)
theorem upd_mem {M : Mem} {s : Sg} (h : s ∈ M) : Upd1 M s s.l M := by
  induction M with
  | nil => cases h
  | cons x M ih =>
    cases h with
    | head => exact .head
    | tail _ h => exact .tail (ih h)
/-- A store of what stands there already. -/
theorem QS_store {t : TypeId} {p x : Operand} {b o n : Nat} {c : List Value} (ht : Cel P t 1) (hp : ev (pick done w ++ E) p = some (.pointer (some ⟨b, o + n, none⟩))) (hx : ev (pick done w ++ E) x = some v)
    (hv : v.oneCell' = true) (hg : On (pick done w ++ E) l g) (hm : (⟨true, b, o, c⟩ : Sg) ∈ M) (hc : c[n]? = some v) (h : QS P N l E M K (done ++ [none]) ws rest) :
    QS P N l E M K done (w :: ws) (⟨none, .store t p x, ty, pos, after, g⟩ :: rest) := by
  refine QS_of (u := none) ⟨fun base w0 a w1 hA hS F hF => ?_, fun _ h => by cases h⟩ h
  have hn : n < c.length := (List.getElem?_eq_some_iff.1 hc).1
  have hs := hS.seg _ hm
  have hcell := hs.cell (i := n) (v := v) hc
  have hf := hs.free rfl hn
  have hu : Upd1 M ⟨true, b, o, c⟩ (c.set n v) M := by
    have e : c.set n v = c := by
      rw [← (List.getElem?_eq_some_iff.1 hc).2]; simp
    rw [e]; exact upd_mem hm
  unfold wpList
  rw [if_pos (On.wanted (o := ⟨none, .store t p x, ty, pos, after, g⟩) hg hA)]
  refine .inl ?_
  unfold Oper.wp
  have hr : (execOp a.eval ⟨none, .store t p x, ty, pos, after, g⟩).run P w1 = .ok .skip (w1.setCell ⟨b, o + n, none⟩ v) := by
    simp only [execOp, Instr.storeAt, Instr.sureAddr, hA.eval hp, hA.eval hx]
    simp [run_storeVar1 ht hv hcell hf]
  rw [hr]
  exact hF _ (hS.set rfl hn hu)
theorem QS_store0 {t : TypeId} {p x : Operand} {b o : Nat} {c : List Value} (ht : Cel P t 1) (hp : ev (pick done w ++ E) p = some (.pointer (some ⟨b, o, none⟩))) (hx : ev (pick done w ++ E) x = some v)
    (hv : v.oneCell' = true) (hg : On (pick done w ++ E) l g) (hm : (⟨true, b, o, v :: c⟩ : Sg) ∈ M) (h : QS P N l E M K (done ++ [none]) ws rest) :
    QS P N l E M K done (w :: ws) (⟨none, .store t p x, ty, pos, after, g⟩ :: rest) := QS_store (n := 0) ht hp hx hv hg hm rfl h
theorem QS_cmp {x y : Operand} {t t2 : TypeId} {kd : IntKind} {p q : Int} {bop : BinOp} {r : Bool} (hx : ev (pick done w ++ E) x = some (.int kd p)) (hy : ev (pick done w ++ E) y = some (.int kd q)) (hr : cmp bop p q = some r)
    (hg : On (pick done w ++ E) l g) (hd : Nat.blt d N.n = true) (h1 : yes bop p q → QS P N l E M K (done ++ [some (d, .bool true)]) ws rest) (h2 : no bop p q → QS P N l E M K (done ++ [some (d, .bool false)]) ws rest) :
    QS P N l E M K done (w :: ws) (⟨some d, .binOp bop t x y t2, ty, pos, after, g⟩ :: rest) := by
  cases r
  · exact QS_pure (P_cmp hx hy hr) hg hd (h2 (cmp_no hr rfl))
  · exact QS_pure (P_cmp hx hy hr) hg hd (h1 (cmp_yes hr rfl))
theorem isQS (h : QS P N l E M K done ws rest) : QS P N l E M K done ws rest := h

theorem get_ne {E : Env} {k n : Nat} {v : Value} (h : k ≠ n) : Env.get? ((k, v) :: E) n = E.get? n := by
  have : Nat.beq k n = false := by
    cases hb : Nat.beq k n with
    | false => rfl
    | true => exact absurd (Nat.eq_of_beq_eq_true hb) h
  simp [Env.get?, this]
theorem get_eq {E : Env} {n : Nat} {v : Value} : Env.get? ((n, v) :: E) n = some v := by simp [Env.get?]

theorem get_none {E : Env} {n : Nat} (h : E.get? n = none) : ∀ p ∈ E, p.1 ≠ n := by
  induction E with
  | nil => intro p hp; cases hp
  | cons q E ih =>
    obtain ⟨k, v⟩ := q
    intro p hp hk
    cases hp with
    | head => simp only at hk; subst hk; rw [get_eq] at h; cases h
    | tail _ hp =>
      have hkn : k ≠ n := fun e => by subst e; rw [get_eq] at h; cases h
      rw [get_ne hkn] at h
      exact ih h p hp hk
/-- All that L tells, E' tells. -/
def Le (E' L : Env) : Prop := ∀ n v, L.get? n = some v → E'.get? n = some v
theorem Le.cons {E' L : Env} {d : Nat} {v : Value} (h : Le E' L) (hn : L.get? d = none) : Le ((d, v) :: E') L := by
  intro n u hu
  by_cases hd : d = n
  · subst hd; rw [hn] at hu; cases hu
  · rw [get_ne hd]; exact h n u hu
theorem Le.app {E' B : Env} : ∀ {A : Env}, (∀ p ∈ A, E'.get? p.1 = some p.2) → Le E' B → Le E' (A ++ B)
  | [], _, h => h
  | (k, x) :: A, h1, h => by
    intro n u hu
    by_cases hk : k = n
    · subst hk
      have : Env.get? ((k, x) :: (A ++ B)) k = some x := get_eq
      rw [List.cons_append, this] at hu
      cases hu
      exact h1 _ (.head _)
    · rw [List.cons_append, get_ne hk] at hu
      exact Le.app (fun p hp => h1 p (.tail _ hp)) h n u hu
theorem Le.ag {N : Fm} {E' L : Env} {a : Act} (h : Le E' L) (hA : Ag N E' a) : Ag N L a := ⟨hA.defers, hA.size, fun n v hv => hA.val n v (h n v hv)⟩
theorem mem_pick {done : UEnv} : ∀ {js : List Nat} {p : Nat × Value}, p ∈ pick done js → ∃ j ∈ js, done[j]? = some (some p)
  | [], _, h => by cases h
  | j :: js, p, h => by
    simp only [pick] at h
    split at h
    · rename_i q hq
      cases h with
      | head => exact ⟨j, .head _, hq⟩
      | tail _ h => obtain ⟨j', h1, h2⟩ := mem_pick h; exact ⟨j', .tail _ h1, h2⟩
    · obtain ⟨j', h1, h2⟩ := mem_pick h; exact ⟨j', .tail _ h1, h2⟩
theorem QS_all {rest : List Oper} : ∀ {done : UEnv} {ws : List (List Nat)}, QSd P N l E M K done ws rest → ∃ more : UEnv, more.length = rest.length ∧ K (done ++ more) ∧
    ∀ i (hi : i < rest.length) (hm : i < more.length), Qt P N l (pick (done ++ more.take i) (ws.getD i []) ++ E) M rest[i] more[i] := by
  induction rest with
  | nil => intro done ws h; exact ⟨[], rfl, by rw [List.append_nil]; exact h, fun i hi => absurd hi (Nat.not_lt_zero _)⟩
  | cons o rest ih =>
    intro done ws h
    obtain ⟨u, h1, h2⟩ := h
    obtain ⟨more, k1, k2, k3⟩ := ih h2
    refine ⟨u :: more, by simp [k1], by simpa using k2, fun i hi hm => ?_⟩
    cases i with
    | zero =>
      have e : ws.headD [] = ws.getD 0 [] := by cases ws <;> rfl
      rw [e] at h1
      simpa using h1
    | succ i =>
      have := k3 i (by simpa using hi) (by simpa using hm)
      have e : ws.tail.getD i [] = ws.getD (i + 1) [] := by cases ws <;> simp
      rw [e] at this
      simpa using this
/-- The slots differ, and nothing was known of them. -/
def chkU (E : Env) : UEnv → Bool
  | [] => true
  | some (d, _) :: L => (E.get? d).isNone && ((Env.get? (somes L) d).isNone && chkU E L)
  | none :: L => chkU E L
theorem somes_mem {p : Nat × Value} : ∀ {L : UEnv}, some p ∈ L → p ∈ somes L
  | some q :: L, h => by
    cases h with
    | head => exact .head _
    | tail _ h => exact .tail _ (somes_mem h)
  | none :: L, h => by
    cases h with
    | tail _ h => exact somes_mem (L := L) h
theorem mem_somes {p : Nat × Value} : ∀ {L : UEnv}, p ∈ somes L → some p ∈ L
  | some q :: L, h => by
    cases h with
    | head => exact .head _
    | tail _ h => exact .tail _ (mem_somes h)
  | none :: L, h => .tail _ (mem_somes h)
theorem chkU_spec {E : Env} : ∀ {L : UEnv}, chkU E L = true → (∀ p, some p ∈ L → E.get? p.1 = none) ∧ (∀ (i j : Nat) (p q : Nat × Value), L[i]? = some (some p) → L[j]? = some (some q) → i ≠ j → p.1 ≠ q.1)
  | [], _ => ⟨fun p h => (by cases h), fun i j p q h => (by simp at h)⟩
  | none :: L, h => by
    obtain ⟨k1, k2⟩ := chkU_spec (L := L) h
    refine ⟨fun p hp => ?_, fun i j p q hi hj hij => ?_⟩
    · cases hp with
      | tail _ hp => exact k1 p hp
    · cases i with
      | zero => simp at hi
      | succ i =>
        cases j with
        | zero => simp at hj
        | succ j => exact k2 i j p q (by simpa using hi) (by simpa using hj) (by omega)
  | some (d, v) :: L, h => by
    simp only [chkU, Bool.and_eq_true, Option.isNone_iff_eq_none] at h
    obtain ⟨h1, h2, h3⟩ := h
    obtain ⟨k1, k2⟩ := chkU_spec h3
    have hn := get_none h2
    refine ⟨fun p hp => ?_, fun i j p q hi hj hij => ?_⟩
    · cases hp with
      | head => exact h1
      | tail _ hp => exact k1 p hp
    · cases i with
      | zero =>
        cases j with
        | zero => exact absurd rfl hij
        | succ j =>
          simp at hi hj
          subst hi
          exact fun e => hn _ (somes_mem (List.mem_of_getElem? hj)) e.symm
      | succ i =>
        cases j with
        | zero =>
          simp at hi hj
          subst hj
          exact fun e => hn _ (somes_mem (List.mem_of_getElem? hi)) e
        | succ j => exact k2 i j p q (by simpa using hi) (by simpa using hj) (by omega)

theorem W_region_quiet {id : Nat} (hm : P.follows .mixedOrders = true) (ws : List (List Nat)) (hw : ((List.range l.length).all fun i => (ws.getD i []).all fun j => Region.waitsFor .any l.toArray i j) = true)
    (hac : earlierB l.toArray = true) (h : QS P N l E M (fun done => chkU E done = true ∧ G false P N Fin .normal k (somes done ++ E) M) [] ws l) : W false P N Fin (.region id l.toArray true) k E M := by
  obtain ⟨full, hlen, ⟨hc, hG⟩, hq⟩ := QS_all h.out
  simp only [List.nil_append] at hc hG hq
  obtain ⟨hf1, hf2⟩ := chkU_spec hc
  refine W_region_inv2 hm ws hw hac (fun done E' M' => Le E' E ∧ (∀ (i : Nat) (p : Nat × Value), full[i]? = some (some p) → done i = true → E'.get? p.1 = some p.2) ∧ Rk M' M) ⟨fun _ _ h => h, fun i p _ h => (by cases h), .rfl⟩ ?_ ?_
  · intro i hi done E' M' ⟨hs, hd, hrk⟩ hno hdone
    have hif : i < full.length := by omega
    have hqt := hq i hi hif
    have hone : (l.drop i).take 1 = [l[i]] := by rw [List.drop_eq_getElem_cons hi]; rfl
    rw [hone]
    have hfi : full[i]? = some full[i] := List.getElem?_eq_getElem hif
    generalize full[i] = u at hqt hfi
    refine ⟨⟨fun base w0 a w hA hS => hqt.out base w0 a w (Le.ag (Le.app (fun p hp => ?_) hs) hA) (hS.rk hrk) _ fun w' hS' => ?_⟩⟩
    · obtain ⟨j, hj, hjp⟩ := mem_pick hp
      refine hd j p ?_ (hdone j hj)
      rw [List.getElem?_take] at hjp
      split at hjp
      · exact hjp
      · cases hjp
    · cases u with
      | none =>
        refine ⟨E', M, hA, hS', rfl, hs, ?_, .rfl⟩
        intro j p hj hdj
        by_cases hji : j = i
        · subst hji; rw [hfi] at hj; cases hj
        · exact hd j p hj (by simpa [hji] using hdj)
      | some q =>
        obtain ⟨d, v⟩ := q
        refine ⟨(d, v) :: E', M, hA.put (hqt.hd _ rfl) _, hS', rfl, hs.cons (hf1 (d, v) (List.mem_of_getElem? hfi)), ?_, .rfl⟩
        intro j p hj hdj
        by_cases hji : j = i
        · subst hji; rw [hfi] at hj; cases hj; exact get_eq
        · have hdj' : done j = true := by simpa [hji] using hdj
          rw [get_ne (fun e => hf2 j i p (d, v) hj hfi hji e.symm)]
          exact hd j p hj hdj'
  · intro done E' M' ⟨hs, hd, hrk⟩ hall
    refine ⟨somes full ++ E, M, Le.app (fun p hp => ?_) hs, hrk, hG⟩
    obtain ⟨i, hi, hip⟩ := List.mem_iff_getElem.1 (mem_somes hp)
    exact hd i p (by rw [List.getElem?_eq_getElem hi, hip]) (hall i (by omega))
end
end Go.Proofs.Ytjkpfliaflmppaa.Vm

namespace Go.Proofs.Ytjkpfliaflmppaa.Vm
open Go Go.RowKit

/-- By a jump to l: J; by any other way: Q. -/
def Jump (l : Nat) (J : Env → Mem → Prop) (Q : Post) : Post
  | .goto l', E, M => l' = l ∧ J E M
  | e, E, M => Q e E M

section
variable {pr : Bool} {P : Program} {N : Fm} {Fin : Post} {k : List Kn} {E : Env} {M : Mem}

theorem W_label {l : Nat} (h : G pr P N Fin .normal k E M) : W pr P N Fin (.label l) k E M := ⟨⟨fun _ _ _ _ hA hS => wp_label ⟨E, M, hA, hS, h.out⟩⟩⟩
theorem W_goto {l : Nat} (h : G pr P N Fin (.goto l) k E M) : W pr P N Fin (.goto l) k E M := ⟨⟨fun _ _ _ _ hA hS => wp_goto ⟨E, M, hA, hS, h.out⟩⟩⟩
theorem G_goto_code {l : Nat} {c : Code} (h : G pr P N Fin (.goto l) k E M) : G pr P N Fin (.goto l) (.code c :: k) E M := ⟨h.out⟩
theorem G_goto_blk {l id : Nat} (h : G pr P N Fin (.goto l) k E M) : G pr P N Fin (.goto l) (.blk id :: k) E M := ⟨h.out⟩
theorem G_goto_stop {l : Nat} {K : Env → Mem → Prop} (h : G pr P N Fin (.goto l) k E M) : G pr P N Fin (.goto l) (.stop K :: k) E M := ⟨h.out⟩

theorem lift_jump {base : Nat} {w0 : World} {l : Nat} {J : Env → Mem → Prop} {Q : Post} {e : Exit} {a : Act} {w : World} (h : Lift pr base N w0 (Jump l J Q) e a w) :
    Exit.jump l (fun a w => ∃ E M, Ag N E a ∧ Sim pr base w0 w M ∧ J E M) (Lift pr base N w0 Q) e a w := by
  obtain ⟨E', M', h1, h2, h3⟩ := h
  cases e with
  | goto l' => exact ⟨h3.1, E', M', h1, h2, h3.2⟩
  | _ => exact ⟨E', M', h1, h2, h3⟩

theorem W_scope {α : Type} {c rest : Code} (l : Nat) (hf : findLabel c l = some rest) (St : α → Env) (Ms : α → Mem) (inv : α → Prop) (μ : α → Nat)
    (first : W pr P N (Jump l (fun E' M' => ∃ x, inv x ∧ Sub E' (St x) ∧ Rk M' (Ms x)) (fun e E M => G pr P N Fin e k E M)) c [] E M)
    (pass : ∀ x, inv x → W pr P N (Jump l (fun E' M' => ∃ x', inv x' ∧ μ x' < μ x ∧ Sub E' (St x') ∧ Rk M' (Ms x')) (fun e E M => G pr P N Fin e k E M)) rest [] (St x) (Ms x)) :
    W pr P N Fin (.scope c) k E M := by
  have key : ∀ base w0 n x a w, μ x < n → inv x → Ag N (St x) a → Sim pr base w0 w (Ms x) → ∀ b kk cs, ∃ e a' w', Lift pr base N w0 (post pr P N Fin k) e a' w' ∧
      Arrives P (lone (b.at a (.code rest :: .inScope c :: kk)) cs w) b kk cs e a' w' := by
    intro base w0 n
    induction n with
    | zero => intro x a w h; omega
    | succ n ih =>
      intro x a w hn hx hA hS b kk cs
      have hg : gotoIn l (.inScope c :: kk) = some (.code rest :: .inScope c :: kk) := by simp [gotoIn, hf]
      obtain ⟨e, a₁, w₁, hq, harr⟩ := ((pass x hx).out.out base w0 a w hA hS) b (.inScope c :: kk) cs
      have hq' := lift_jump hq
      cases e with
      | normal => obtain ⟨E1, M1, q1, q2, q3⟩ := hq; exact ⟨.normal, a₁, w₁, ⟨E1, M1, q1, q2, q3.out⟩, Steps.trans harr (.one step_inScope)⟩
      | exit id => obtain ⟨E1, M1, q1, q2, q3⟩ := hq; exact ⟨.exit id, a₁, w₁, ⟨E1, M1, q1, q2, q3.out⟩, fun k' hk => harr k' (by simp [exitTo, hk])⟩
      | goto l' =>
        obtain ⟨rfl, E1, M1, q1, q2, x', p1, p2, p3, p4⟩ := hq'
        obtain ⟨e₂, a₂, w₂, hq₂, harr₂⟩ := ih x' a₁ w₁ (by omega) p1 (q1.sub p3) (q2.rk p4) b kk cs
        exact ⟨e₂, a₂, w₂, hq₂, .of_steps (harr _ hg) harr₂⟩
      | ret => obtain ⟨E1, M1, q1, q2, q3⟩ := hq; exact ⟨_, a₁, w₁, ⟨E1, M1, q1, q2, q3.out⟩, harr⟩
      | panic ch => obtain ⟨E1, M1, q1, q2, q3⟩ := hq; exact ⟨_, a₁, w₁, ⟨E1, M1, q1, q2, q3.out⟩, harr⟩
      | outgrown => obtain ⟨E1, M1, q1, q2, q3⟩ := hq; exact ⟨_, a₁, w₁, ⟨E1, M1, q1, q2, q3.out⟩, harr⟩
  refine ⟨⟨fun base w0 a w hA hS => ?_⟩⟩
  intro b kk cs
  have hg : gotoIn l (.inScope c :: kk) = some (.code rest :: .inScope c :: kk) := by simp [gotoIn, hf]
  obtain ⟨e, a₁, w₁, hq, harr⟩ := (first.out.out base w0 a w hA hS) b (.inScope c :: kk) cs
  have hq' := lift_jump hq
  cases e with
  | normal => obtain ⟨E1, M1, q1, q2, q3⟩ := hq; exact ⟨.normal, a₁, w₁, ⟨E1, M1, q1, q2, q3.out⟩, .head step_scope (Steps.trans harr (.one step_inScope))⟩
  | exit id => obtain ⟨E1, M1, q1, q2, q3⟩ := hq; exact ⟨.exit id, a₁, w₁, ⟨E1, M1, q1, q2, q3.out⟩, fun k' hk => .head step_scope (harr k' (by simp [exitTo, hk]))⟩
  | goto l' =>
    obtain ⟨rfl, E1, M1, q1, q2, x, p1, p3, p4⟩ := hq'
    obtain ⟨e₂, a₂, w₂, hq₂, harr₂⟩ := key base w0 _ x a₁ w₁ (Nat.lt_succ_self _) p1 (q1.sub p3) (q2.rk p4) b kk cs
    exact ⟨e₂, a₂, w₂, hq₂, .of_steps (.head step_scope (harr _ hg)) harr₂⟩
  | ret => obtain ⟨E1, M1, q1, q2, q3⟩ := hq; exact ⟨_, a₁, w₁, ⟨E1, M1, q1, q2, q3.out⟩, .of_steps (.one step_scope) harr⟩
  | panic ch => obtain ⟨E1, M1, q1, q2, q3⟩ := hq; exact ⟨_, a₁, w₁, ⟨E1, M1, q1, q2, q3.out⟩, .of_steps (.one step_scope) harr⟩
  | outgrown => obtain ⟨E1, M1, q1, q2, q3⟩ := hq; exact ⟨_, a₁, w₁, ⟨E1, M1, q1, q2, q3.out⟩, .of_steps (.one step_scope) harr⟩
/-- Out of the scope. -/
theorem G_leave {l : Nat} {J : Env → Mem → Prop} {e : Exit} (he : ∀ l', e ≠ .goto l') (h : G pr P N Fin e k E M) : G pr P N (Jump l J (fun e E M => G pr P N Fin e k E M)) e [] E M := by
  refine ⟨?_⟩
  cases e with
  | goto l' => exact absurd rfl (he l')
  | _ => exact h
theorem G_jump {l : Nat} {J : Env → Mem → Prop} {Q : Post} (h : J E M) : G pr P N (Jump l J Q) (.goto l) [] E M := ⟨⟨rfl, h⟩⟩
end
end Go.Proofs.Ytjkpfliaflmppaa.Vm
