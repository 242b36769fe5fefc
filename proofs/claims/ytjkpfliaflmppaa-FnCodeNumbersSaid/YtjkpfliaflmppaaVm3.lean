/- Continuation stacks for the engine: each goal bears its code once. No condition. -/
import Derived.Test.YtjkpfliaflmppaaVm2
namespace Go.Proofs.Ytjkpfliaflmppaa.Vm
open Go Go.RowKit

/-- What stands behind a piece of code. -/
inductive Kn where
  | code (c : Code)
  | blk (id : Nat)
  | stop (K : Env → Mem → Prop)

def post (pr : Bool) (P : Program) (N : Fm) (Fin : Post) : List Kn → Post
  | [] => Fin
  | .code c :: k => Then (V pr P N c (post pr P N Fin k)) (post pr P N Fin k)
  | .blk id :: k => InBlock id (post pr P N Fin k)
  | .stop K :: k => Then K (post pr P N Fin k)

structure W (pr : Bool) (P : Program) (N : Fm) (Fin : Post) (c : Code) (k : List Kn) (E : Env) (M : Mem) : Prop where
  out : V pr P N c (post pr P N Fin k) E M
structure WO (pr : Bool) (P : Program) (N : Fm) (Fin : Post) (ops rest : List Oper) (k : List Kn) (E : Env) (M : Mem) : Prop where
  out : OL pr P N ops (post pr P N Fin k) rest E M
/-- To leave with e: the stack k goes on. -/
structure G (pr : Bool) (P : Program) (N : Fm) (Fin : Post) (e : Exit) (k : List Kn) (E : Env) (M : Mem) : Prop where
  out : post pr P N Fin k e E M

section
variable {pr : Bool} {P : Program} {N : Fm} {Fin : Post} {k : List Kn} {E : Env} {M : Mem}

theorem isW {c : Code} (h : W pr P N Fin c k E M) : W pr P N Fin c k E M := h
theorem isG {e : Exit} (h : G pr P N Fin e k E M) : G pr P N Fin e k E M := h
theorem isO {ops rest : List Oper} (h : WO pr P N Fin ops rest k E M) : WO pr P N Fin ops rest k E M := h
theorem isD {ops rest : List Oper} {d : Nat} {op : Op} {ty : TypeId} {pos : String} {after : Array Edge} {g : Option (Nat × Bool)} (h : WO pr P N Fin ops (⟨some d, op, ty, pos, after, g⟩ :: rest) k E M) : WO pr P N Fin ops (⟨some d, op, ty, pos, after, g⟩ :: rest) k E M := h
theorem isN {ops rest : List Oper} {op : Op} {ty : TypeId} {pos : String} {after : Array Edge} {g : Option (Nat × Bool)} (h : WO pr P N Fin ops (⟨none, op, ty, pos, after, g⟩ :: rest) k E M) : WO pr P N Fin ops (⟨none, op, ty, pos, after, g⟩ :: rest) k E M := h
theorem isB {ops rest : List Oper} {d : Nat} {bop : BinOp} {t t2 : TypeId} {x y : Operand} {ty : TypeId} {pos : String} {after : Array Edge} {g : Option (Nat × Bool)} (h : WO pr P N Fin ops (⟨some d, .binOp bop t x y t2, ty, pos, after, g⟩ :: rest) k E M) :
  WO pr P N Fin ops (⟨some d, .binOp bop t x y t2, ty, pos, after, g⟩ :: rest) k E M := h
theorem isL {ops rest : List Oper} {d : Nat} {t : TypeId} {x : Operand} {ty : TypeId} {pos : String} {after : Array Edge} {g : Option (Nat × Bool)} (h : WO pr P N Fin ops (⟨some d, .load t x, ty, pos, after, g⟩ :: rest) k E M) :
  WO pr P N Fin ops (⟨some d, .load t x, ty, pos, after, g⟩ :: rest) k E M := h
theorem isI {ops rest : List Oper} {d : Nat} {t : TypeId} {x y : Operand} {ty : TypeId} {pos : String} {after : Array Edge} {g : Option (Nat × Bool)} (h : WO pr P N Fin ops (⟨some d, .indexAddr t x y, ty, pos, after, g⟩ :: rest) k E M) :
  WO pr P N Fin ops (⟨some d, .indexAddr t x y, ty, pos, after, g⟩ :: rest) k E M := h

theorem W_seq {x y : Code} (h : W pr P N Fin x (.code y :: k) E M) : W pr P N Fin (.seq x y) k E M := ⟨V_seq h.out⟩
theorem W_block {id : Nat} {c : Code} (h : W pr P N Fin c (.blk id :: k) E M) : W pr P N Fin (.block id c) k E M := ⟨V_block h.out⟩
theorem W_skip (h : G pr P N Fin .normal k E M) : W pr P N Fin .skip k E M := ⟨V_skip h.out⟩
theorem W_exit {id : Nat} (h : G pr P N Fin (.exit id) k E M) : W pr P N Fin (.exit id) k E M := ⟨V_exit h.out⟩
theorem W_ret (h : G pr P N Fin .ret k E M) : W pr P N Fin .ret k E M := ⟨V_ret h.out⟩
theorem W_cond_t {c : Operand} {x y : Code} (hc : ev E c = some (.bool true)) (h : W pr P N Fin x k E M) : W pr P N Fin (.cond c x y) k E M := ⟨V_cond_t hc h.out⟩
theorem W_cond_f {c : Operand} {x y : Code} (hc : ev E c = some (.bool false)) (h : W pr P N Fin y k E M) : W pr P N Fin (.cond c x y) k E M := ⟨V_cond_f hc h.out⟩
theorem W_cond {c : Operand} {x y : Code} {t : Bool} (hc : ev E c = some (.bool t)) (h1 : t = true → W pr P N Fin x k E M) (h2 : t = false → W pr P N Fin y k E M) : W pr P N Fin (.cond c x y) k E M :=
  ⟨V_cond hc (fun h => (h1 h).out) (fun h => (h2 h).out)⟩
theorem W_region {id : Nat} {l : List Oper} (h : WO pr P N Fin l l k E M) : W pr P N Fin (.region id l.toArray false) k E M := ⟨V_region h.out⟩

theorem OS_mono {ops rest : List Oper} {K K' : Env → Prop} (hK : ∀ E, K E → K' E) (h : OS pr P N ops K rest E M) : OS pr P N ops K' rest E M :=
  ⟨fun base w0 a w hA hS => wpStill_mono (fun _ ⟨E', k1, k2⟩ => ⟨E', k1, hK _ k2⟩) _ _ (h.out base w0 a w hA hS)⟩

theorem W_region_still {id : Nat} {l : List Oper} (hm : P.follows .mixedOrders = true) (hB : Region.lexB .any l.toArray = true)
    (h : OS false P N l (fun E' => G false P N Fin .normal k E' M) l E M) : W false P N Fin (.region id l.toArray true) k E M := ⟨V_region_still hm hB (OS_mono (fun _ h => h.out) h)⟩
theorem W_region_tail {id : Nat} {l : List Oper} (n : Nat) (hm : P.follows .mixedOrders = true) (hB : Region.lexTailB .any l.toArray n = true)
    (h : OS false P N l (fun E' => WO false P N Fin l (l.drop n) k E' M) (l.take n) E M) : W false P N Fin (.region id l.toArray true) k E M := ⟨V_region_tail n hm hB (OS_mono (fun _ h => h.out) h)⟩

theorem W_weak {c : Code} {L : Env} {M' : Mem} (hs : Sub E L) (ht : Rk M M') (h : W pr P N Fin c k L M') : W pr P N Fin c k E M := ⟨V_weak hs ht h.out⟩

theorem W_loop {α : Type} {c : Code} (St : α → Env) (Ms : α → Mem) (inv : α → Prop) (μ : α → Nat) (x0 : α) (h0 : inv x0) (hE : Sub E (St x0)) (hM : Rk M (Ms x0))
    (round : ∀ x, inv x → W pr P N Fin c (.stop (fun E' M' => ∃ x', inv x' ∧ μ x' < μ x ∧ Sub E' (St x') ∧ Rk M' (Ms x')) :: k) (St x) (Ms x)) : W pr P N Fin (.loop c) k E M :=
  ⟨V_loop St Ms inv μ x0 h0 hE hM fun x hx => (round x hx).out⟩

theorem G_code {c : Code} (h : W pr P N Fin c k E M) : G pr P N Fin .normal (.code c :: k) E M := ⟨h.out⟩
theorem G_blk {id : Nat} (h : G pr P N Fin .normal k E M) : G pr P N Fin .normal (.blk id :: k) E M := ⟨h.out⟩
theorem G_stop {K : Env → Mem → Prop} (h : K E M) : G pr P N Fin .normal (.stop K :: k) E M := ⟨h⟩
theorem G_fin {e : Exit} (h : Fin e E M) : G pr P N Fin e [] E M := ⟨h⟩
theorem G_exit_blk {id : Nat} (h : G pr P N Fin .normal k E M) : G pr P N Fin (.exit id) (.blk id :: k) E M := by
  constructor
  show InBlock id (post pr P N Fin k) (.exit id) E M
  simp only [InBlock, if_true]
  exact h.out
theorem G_exit_other {id id' : Nat} (hne : Nat.beq id id' = false) (h : G pr P N Fin (.exit id) k E M) : G pr P N Fin (.exit id) (.blk id' :: k) E M := by
  constructor
  show InBlock id' (post pr P N Fin k) (.exit id) E M
  have : ¬ id = id' := by intro h; subst h; simp at hne
  simp only [InBlock, if_neg this]
  exact h.out
theorem G_exit_code {id : Nat} {c : Code} (h : G pr P N Fin (.exit id) k E M) : G pr P N Fin (.exit id) (.code c :: k) E M := ⟨h.out⟩
theorem G_exit_stop {id : Nat} {K : Env → Mem → Prop} (h : G pr P N Fin (.exit id) k E M) : G pr P N Fin (.exit id) (.stop K :: k) E M := ⟨h.out⟩
theorem G_ret_blk {id : Nat} (h : G pr P N Fin .ret k E M) : G pr P N Fin .ret (.blk id :: k) E M := ⟨h.out⟩
theorem G_ret_code {c : Code} (h : G pr P N Fin .ret k E M) : G pr P N Fin .ret (.code c :: k) E M := ⟨h.out⟩
theorem G_ret_stop {K : Env → Mem → Prop} (h : G pr P N Fin .ret k E M) : G pr P N Fin .ret (.stop K :: k) E M := ⟨h.out⟩

variable {ops : List Oper} {rest : List Oper} {d : Nat} {op : Op} {ty : TypeId} {pos : String} {after : Array Edge} {g : Option (Nat × Bool)} {v : Value}

theorem O_nil (h : G pr P N Fin .normal k E M) : WO pr P N Fin ops [] k E M := ⟨OL_nil h.out⟩
theorem O_pure (hp : Pure P N E M op v) (hg : On E ops g) (hd : Nat.blt d N.n = true) (h : WO pr P N Fin ops rest k ((d, v) :: E) M) : WO pr P N Fin ops (⟨some d, op, ty, pos, after, g⟩ :: rest) k E M := ⟨OL_pure hp hg hd h.out⟩
theorem O_off (hg : Off E ops g) (hd : Nat.blt d N.n = true) (h : WO pr P N Fin ops rest k ((d, undef) :: E) M) : WO pr P N Fin ops (⟨some d, op, ty, pos, after, g⟩ :: rest) k E M := ⟨OL_off hg hd h.out⟩

/-- Less is known of memory. -/
theorem O_weak {M' : Mem} (ht : Rk M M') (h : WO pr P N Fin ops rest k E M') : WO pr P N Fin ops rest k E M := ⟨⟨fun base w0 a w hA hS => h.out.out base w0 a w hA (hS.rk ht)⟩⟩

theorem isS {ops rest : List Oper} {K : Env → Prop} (h : OS pr P N ops K rest E M) : OS pr P N ops K rest E M := h
theorem isSB {ops rest : List Oper} {K : Env → Prop} {d : Nat} {bop : BinOp} {t t2 : TypeId} {x y : Operand} {ty : TypeId} {pos : String} {after : Array Edge} {g : Option (Nat × Bool)} (h : OS pr P N ops K (⟨some d, .binOp bop t x y t2, ty, pos, after, g⟩ :: rest) E M) :
  OS pr P N ops K (⟨some d, .binOp bop t x y t2, ty, pos, after, g⟩ :: rest) E M := h
theorem isSL {ops rest : List Oper} {K : Env → Prop} {d : Nat} {t : TypeId} {x : Operand} {ty : TypeId} {pos : String} {after : Array Edge} {g : Option (Nat × Bool)} (h : OS pr P N ops K (⟨some d, .load t x, ty, pos, after, g⟩ :: rest) E M) :
  OS pr P N ops K (⟨some d, .load t x, ty, pos, after, g⟩ :: rest) E M := h
theorem isSI {ops rest : List Oper} {K : Env → Prop} {d : Nat} {t : TypeId} {x y : Operand} {ty : TypeId} {pos : String} {after : Array Edge} {g : Option (Nat × Bool)} (h : OS pr P N ops K (⟨some d, .indexAddr t x y, ty, pos, after, g⟩ :: rest) E M) :
  OS pr P N ops K (⟨some d, .indexAddr t x y, ty, pos, after, g⟩ :: rest) E M := h

/-- A comparison: both ways. -/
theorem O_if {x y : Operand} {t t2 : TypeId} {kd : IntKind} {p q : Int} {bop : BinOp} {r : Bool} {A B : Prop} (hx : ev E x = some (.int kd p)) (hy : ev E y = some (.int kd q)) (hr : cmp bop p q = some r)
    (hg : On E ops g) (hd : Nat.blt d N.n = true) (hA : r = true → A) (hB : r = false → B) (h1 : A → WO pr P N Fin ops rest k ((d, .bool true) :: E) M) (h2 : B → WO pr P N Fin ops rest k ((d, .bool false) :: E) M) :
    WO pr P N Fin ops (⟨some d, .binOp bop t x y t2, ty, pos, after, g⟩ :: rest) k E M := by
  refine O_pure (P_cmp hx hy hr) hg hd ?_
  cases r
  · exact h2 (hB rfl)
  · exact h1 (hA rfl)
theorem S_if {K : Env → Prop} {x y : Operand} {t t2 : TypeId} {kd : IntKind} {p q : Int} {bop : BinOp} {r : Bool} {A B : Prop} (hx : ev E x = some (.int kd p)) (hy : ev E y = some (.int kd q)) (hr : cmp bop p q = some r)
    (hg : On E ops g) (hd : Nat.blt d N.n = true) (hA : r = true → A) (hB : r = false → B) (h1 : A → OS pr P N ops K rest ((d, .bool true) :: E) M) (h2 : B → OS pr P N ops K rest ((d, .bool false) :: E) M) :
    OS pr P N ops K (⟨some d, .binOp bop t x y t2, ty, pos, after, g⟩ :: rest) E M := by
  refine OS_pure (P_cmp hx hy hr) hg hd ?_
  cases r
  · exact h2 (hB rfl)
  · exact h1 (hA rfl)

/-- What a comparison says, both ways. -/
def yes : BinOp → Int → Int → Prop
  | .eql, x, y => x = y
  | .neq, x, y => x ≠ y
  | .lss, x, y => x < y
  | .leq, x, y => x ≤ y
  | .gtr, x, y => y < x
  | .geq, x, y => y ≤ x
  | _, _, _ => True
def no : BinOp → Int → Int → Prop
  | .eql, x, y => x ≠ y
  | .neq, x, y => x = y
  | .lss, x, y => y ≤ x
  | .leq, x, y => y < x
  | .gtr, x, y => x ≤ y
  | .geq, x, y => x < y
  | _, _, _ => True
theorem cmp_yes {o : BinOp} {p q : Int} {r : Bool} (h : cmp o p q = some r) (hr : r = true) : yes o p q := by
  subst hr
  cases o <;> simp [cmp, yes] at * <;> first | exact h | omega
theorem cmp_no {o : BinOp} {p q : Int} {r : Bool} (h : cmp o p q = some r) (hr : r = false) : no o p q := by
  subst hr
  cases o <;> simp [cmp, no] at * <;> first | exact h | omega

theorem O_cmp {x y : Operand} {t t2 : TypeId} {kd : IntKind} {p q : Int} {bop : BinOp} {r : Bool} (hx : ev E x = some (.int kd p)) (hy : ev E y = some (.int kd q)) (hr : cmp bop p q = some r)
    (hg : On E ops g) (hd : Nat.blt d N.n = true) (h1 : yes bop p q → WO pr P N Fin ops rest k ((d, .bool true) :: E) M) (h2 : no bop p q → WO pr P N Fin ops rest k ((d, .bool false) :: E) M) :
    WO pr P N Fin ops (⟨some d, .binOp bop t x y t2, ty, pos, after, g⟩ :: rest) k E M :=
  O_if hx hy hr hg hd (cmp_yes hr) (cmp_no hr) h1 h2
theorem S_cmp {K : Env → Prop} {x y : Operand} {t t2 : TypeId} {kd : IntKind} {p q : Int} {bop : BinOp} {r : Bool} (hx : ev E x = some (.int kd p)) (hy : ev E y = some (.int kd q)) (hr : cmp bop p q = some r)
    (hg : On E ops g) (hd : Nat.blt d N.n = true) (h1 : yes bop p q → OS pr P N ops K rest ((d, .bool true) :: E) M) (h2 : no bop p q → OS pr P N ops K rest ((d, .bool false) :: E) M) :
    OS pr P N ops K (⟨some d, .binOp bop t x y t2, ty, pos, after, g⟩ :: rest) E M :=
  S_if hx hy hr hg hd (cmp_yes hr) (cmp_no hr) h1 h2

theorem O_store {t : TypeId} {p x : Operand} {b o n : Nat} {l : List Value} {v : Value} {M' : Mem} (ht : Cel P t 1) (hp : ev E p = some (.pointer (some ⟨b, o + n, none⟩))) (hx : ev E x = some v)
    (hv : v.oneCell' = true) (hg : On E ops g) (hn : n < l.length) (hu : Upd1 M ⟨true, b, o, l⟩ (l.set n v) M') (h : WO false P N Fin ops rest k E M') : WO false P N Fin ops (⟨none, .store t p x, ty, pos, after, g⟩ :: rest) k E M :=
  ⟨OL_store ht hp hx hv hg hn hu h.out⟩
theorem O_storei {t : TypeId} {p x : Operand} {b o : Nat} {l : List Int} {kd : IntKind} {z v : Int} {M' : Mem} (ht : Cel P t 1) (hp : ev E p = some (.pointer (some ⟨b, o + z.toNat, none⟩)))
    (hx : ev E x = some (.int kd v)) (hg : On E ops g) (hu : Upd1 M ⟨true, b, o, ints kd l⟩ (ints kd (wr l z v)) M') (hn : z.toNat < l.length) (h : WO false P N Fin ops rest k E M') :
    WO false P N Fin ops (⟨none, .store t p x, ty, pos, after, g⟩ :: rest) k E M :=
  ⟨OL_storei ht hp hx hg hn hu h.out⟩
theorem O_call {c : Operand} {xs : List Operand} {ts : Array TypeId} {f : FuncId} {first captured : Array Value} {vs : List Value} {R : Value → Mem → Prop}
    (hc : ev E c = some (.func (.func f) first captured)) (hx : evs E xs = some vs) (hf : Callable P f) (hg : On E ops g) (hd : Nat.blt d N.n = true)
    (hR : HC P f (first ++ vs.toArray ++ captured) M R) (h : ∀ v M', R v M' → WO false P N Fin ops rest k ((d, v) :: E) M') :
    WO false P N Fin ops (⟨some d, .call { callee := .value c, args := xs.toArray, argTypes := ts }, ty, pos, after, g⟩ :: rest) k E M := ⟨OL_call hc hx hf hg hd hR fun v M' hv => (h v M' hv).out⟩
theorem O_callP {c : Operand} {xs : List Operand} {ts : Array TypeId} {f : FuncId} {first captured : Array Value} {vs : List Value} {v : Value}
    (hc : ev E c = some (.func (.func f) first captured)) (hx : evs E xs = some vs) (hf : Callable P f) (hg : On E ops g) (hd : Nat.blt d N.n = true)
    (hR : HP P f (first ++ vs.toArray ++ captured) M v) (h : WO pr P N Fin ops rest k ((d, v) :: E) M) :
    WO pr P N Fin ops (⟨some d, .call { callee := .value c, args := xs.toArray, argTypes := ts }, ty, pos, after, g⟩ :: rest) k E M := ⟨OL_callP hc hx hf hg hd hR h.out⟩
theorem O_make1 {t e : TypeId} {I : TypeInfo} {x : Operand} {kd : IntKind} {z : Int} {v : Value} (ht : Und P t (.slice e)) (hI : P.info? e = some I) (hs : I.size = 1) (hz : I.zero = some v)
    (hv : v.cells = #[v]) (hx : ev E x = some (.int kd z)) (h0 : 0 ≤ z) (h1 : (I.bytes : Int) * z ≤ 281474976710656) (h2 : z ≤ 9223372036854775807) (hg : On E ops g) (hd : Nat.blt d N.n = true)
    (h : ∀ b, WO false P N Fin ops rest k ((d, .slice (some ⟨b, 0, none⟩) z.toNat z.toNat) :: E) (⟨true, b, 0, List.replicate z.toNat v⟩ :: M)) : WO false P N Fin ops (⟨some d, .makeSlice t x x, ty, pos, after, g⟩ :: rest) k E M :=
  ⟨OL_make1 ht hI hs hz hv hx h0 h1 h2 hg hd fun b => (h b).out⟩

theorem HC_of_W {f : FuncId} {fn : Func} {c : Code} {vs : List Value} {R : Value → Mem → Prop} {rs : List ResultVar} {n : Nat} (hf : P.funcs[f]? = some fn) (hb : fn.body = some c) (hN : fn.ntmps = n)
    (hrs : fn.results.toList = rs) (hs : Nat.ble vs.length n = true) (h : W pr P ⟨n, []⟩ (Ends rs R) c [] (zipEnv 0 vs) M) : HCp pr P f vs.toArray M R := HC_of_V hf hb hN hrs hs h.out
end
end Go.Proofs.Ytjkpfliaflmppaa.Vm
