/- Steps reckoned by functions: rules with few side conditions, so that the words of a walk are short. No condition. Drawn regions: quiet operations, and one that comes last of all; a struct stored as it stands. No condition. -/
import Derived.Test.YtjkpfliaflmppaaW9x06

namespace Go.Proofs.Ytjkpfliaflmppaa.Vm
open Go Go.RowKit

/-- Whether the operation is carried out, as far as it is known. -/
def onB (E : Env) (ops : List Oper) : Option (Nat × Bool) → Option Bool
  | none => some true
  | some (j, t) => match ops[j]? with
    | some o => match o.dst with
      | some d => match E.get? d with
        | some (.bool b) => match b, t with | true, true => some true | false, false => some true | _, _ => some false
        | some _ => some false
        | none => none
      | none => none
    | none => none

theorem onB_on {E : Env} {ops : List Oper} {g : Option (Nat × Bool)} (h : onB E ops g = some true) : On E ops g := by
  cases g with
  | none => trivial
  | some jt =>
    obtain ⟨j, t⟩ := jt
    simp only [onB] at h
    split at h
    · rename_i o ho
      split at h
      · rename_i d hd
        split at h
        · rename_i b hb
          refine ⟨d, by simp [ho, hd], ?_⟩
          rw [hb]
          split at h <;> first | rfl | cases h
        · cases h
        · cases h
      · cases h
    · cases h
theorem onB_off {E : Env} {ops : List Oper} {g : Option (Nat × Bool)} (h : onB E ops g = some false) : Off E ops g := by
  cases g with
  | none => cases h
  | some jt =>
    obtain ⟨j, t⟩ := jt
    simp only [onB] at h
    split at h
    · rename_i o ho
      split at h
      · rename_i d hd
        split at h
        · rename_i b hb
          refine ⟨d, .bool b, by simp [ho, hd], hb, ?_⟩
          show b ≠ t
          cases b <;> cases t <;> simp_all
        · rename_i v hnb hv
          refine ⟨d, _, by simp [ho, hd], hv, ?_⟩
          cases v <;> first | trivial | (exfalso; exact hnb _ rfl)
        · cases h
      · cases h
    · cases h

/-- One operation that turns no row: carried out with v, or passed over. -/
structure PS (P : Program) (N : Fm) (ops : List Oper) (E : Env) (M : Mem) (o : Oper) (d : Nat) (v : Value) : Prop where
  dst : o.dst = some d
  lt : Nat.blt d N.n = true
  how : (On E ops o.guard ∧ Pure P N E M o.op v) ∨ (Off E ops o.guard ∧ v = undef)

section
variable {pr : Bool} {P : Program} {N : Fm} {Fin : Post} {k : List Kn} {E : Env} {M : Mem} {ops rest : List Oper} {o : Oper} {d : Nat} {v : Value}

theorem oo (h : PS P N ops E M o d v) (h2 : WO pr P N Fin ops rest k ((d, v) :: E) M) : WO pr P N Fin ops (o :: rest) k E M := by
  obtain ⟨dst, op, ty, pos, after, g⟩ := o
  obtain ⟨h1, hl, ⟨hg, hp⟩ | ⟨hg, rfl⟩⟩ := h
  · simp only at h1; subst h1; exact O_pure hp hg hl h2
  · simp only at h1; subst h1; exact O_off hg hl h2
theorem ss {K : Env → Prop} (h : PS P N ops E M o d v) (h2 : OS pr P N ops K rest ((d, v) :: E) M) : OS pr P N ops K (o :: rest) E M := by
  obtain ⟨dst, op, ty, pos, after, g⟩ := o
  obtain ⟨h1, hl, ⟨hg, hp⟩ | ⟨hg, rfl⟩⟩ := h
  · simp only at h1; subst h1; exact OS_pure hp hg hl h2
  · simp only at h1; subst h1; exact OS_off hg hl h2
theorem qq {K : UEnv → Prop} {done : UEnv} {w : List Nat} {ws : List (List Nat)} (h : PS P N ops (pick done w ++ E) M o d v) (h2 : QS P N ops E M K (done ++ [some (d, v)]) ws rest) : QS P N ops E M K done (w :: ws) (o :: rest) := by
  obtain ⟨dst, op, ty, pos, after, g⟩ := o
  obtain ⟨h1, hl, ⟨hg, hp⟩ | ⟨hg, rfl⟩⟩ := h
  · simp only at h1; subst h1; exact QS_pure hp hg hl h2
  · simp only at h1; subst h1; exact QS_off hg hl h2

/-- The slot and the operation, if it is carried out. -/
def onS (n : Nat) (ops : List Oper) (E : Env) (o : Oper) : Option (Nat × Op) :=
  match o.dst with
  | none => none
  | some d => bif Nat.blt d n then (match onB E ops o.guard with | some true => some (d, o.op) | _ => none) else none
theorem onS_spec {op : Op} (h : onS N.n ops E o = some (d, op)) : o.dst = some d ∧ Nat.blt d N.n = true ∧ On E ops o.guard ∧ o.op = op := by
  unfold onS at h
  split at h
  · cases h
  · rename_i d' hd
    cases hb : Nat.blt d' N.n with
    | false => rw [hb] at h; cases h
    | true =>
      rw [hb] at h
      simp only [cond_true] at h
      split at h
      · rename_i hon
        cases h
        exact ⟨hd, hb, onB_on hon, rfl⟩
      · cases h
theorem ps_of {op : Op} (h : onS N.n ops E o = some (d, op)) (hp : Pure P N E M op v) : PS P N ops E M o d v := by
  obtain ⟨h1, h2, h3, h4⟩ := onS_spec h
  subst h4
  exact ⟨h1, h2, .inl ⟨h3, hp⟩⟩

/-! ### What is reckoned from slots alone -/

def reck (E : Env) : Op → Option Value
  | .move x => ev E x
  | .assign x => ev E x
  | .nilCheck x => match ev E x with | some (.pointer (some a)) => some (.pointer (some a)) | _ => none
  | .pick c x y => match ev E c with | some (.bool true) => ev E x | some (.bool false) => ev E y | _ => none
  | .unOp .not _ x => match ev E x with | some (.bool true) => some (.bool false) | some (.bool false) => some (.bool true) | _ => none
  | .extract x i => match ev E x with | some (.tuple vs) => vs.toList[i]? | _ => none
  | .makeFunc fn ⟨[]⟩ ⟨xs⟩ => match evs E xs with | some vs => some (.func fn #[] vs.toArray) | none => none
  | _ => none
theorem reck_pure {op : Op} (h : reck E op = some v) : Pure P N E M op v := by
  unfold reck at h
  split at h
  · exact P_move h
  · exact P_assign h
  · split at h
    · rename_i hx; cases h; exact P_nil hx
    · cases h
  · split at h
    · rename_i hc; exact P_pick_t hc h
    · rename_i hc; exact P_pick_f hc h
    · cases h
  · split at h
    · rename_i hx; cases h; exact P_not hx
    · rename_i hx; cases h; exact P_not hx
    · cases h
  · split at h
    · rename_i vs hx; exact P_extract (vs := vs.toList) (by simpa using hx) h
    · cases h
  · split at h
    · rename_i vs hx; cases h; exact P_mkfunc hx
    · cases h
  · cases h
def calS (n : Nat) (ops : List Oper) (E : Env) (o : Oper) : Option (Nat × Value) :=
  match o.dst with
  | none => none
  | some d => bif Nat.blt d n then (match onB E ops o.guard with
    | some true => (match reck E o.op with | some v => some (d, v) | none => none)
    | some false => some (d, undef)
    | none => none) else none
theorem Pc (h : calS N.n ops E o = some (d, v)) : PS P N ops E M o d v := by
  unfold calS at h
  split at h
  · cases h
  · rename_i d' hd
    cases hb : Nat.blt d' N.n with
    | false => rw [hb] at h; cases h
    | true =>
      rw [hb] at h
      simp only [cond_true] at h
      split at h
      · rename_i hon
        split at h
        · rename_i hc; cases h; exact ⟨hd, hb, .inl ⟨onB_on hon, reck_pure hc⟩⟩
        · cases h
      · rename_i hon; cases h; exact ⟨hd, hb, .inr ⟨onB_off hon, rfl⟩⟩
      · cases h

/-! ### Numbers -/

class KB (k : IntKind) (lo hi : outParam Int) : Prop where
  out : ∀ n, lo ≤ n → n ≤ hi → inK k n
instance : KB .i64 (-9223372036854775808) 9223372036854775807 := ⟨fun _ => inK_i64⟩
instance : KB .u64 0 18446744073709551615 := ⟨fun _ => inK_u64⟩
instance : KB .u32 0 4294967295 := ⟨fun _ => inK_u32⟩
instance : KB .u16 0 65535 := ⟨fun _ => inK_u16⟩
instance : KB .u8 0 255 := ⟨fun _ => inK_u8⟩
instance : KB .i32 (-2147483648) 2147483647 := ⟨fun _ => inK_i32⟩

def bin2 (n : Nat) (ops : List Oper) (E : Env) (o : Oper) : Option (Nat × BinOp × IntKind × Int × IntKind × Int) :=
  match onS n ops E o with
  | some (d, .binOp b _ x y _) => match ev E x, ev E y with
    | some (.int k p), some (.int k' q) => some (d, b, k, p, k', q)
    | _, _ => none
  | _ => none
theorem bin2_spec {b : BinOp} {kd kd' : IntKind} {p q : Int} (h : bin2 N.n ops E o = some (d, b, kd, p, kd', q)) : ∃ t x y t2, onS N.n ops E o = some (d, .binOp b t x y t2) ∧ ev E x = some (.int kd p) ∧ ev E y = some (.int kd' q) := by
  unfold bin2 at h
  split at h
  · rename_i d' b' t x y t2 hon
    split at h
    · rename_i hx hy; cases h; exact ⟨t, x, y, t2, hon, hx, hy⟩
    · cases h
  · cases h
def arS (n : Nat) (ops : List Oper) (E : Env) (o : Oper) : Option (Nat × IntKind × IntKind × Int) :=
  match bin2 n ops E o with
  | some (d, .add, k, p, k', q) => some (d, k, k', p + q)
  | some (d, .sub, k, p, k', q) => some (d, k, k', p - q)
  | some (d, .mul, k, p, k', q) => some (d, k, k', p * q)
  | _ => none
theorem Pa {kd : IntKind} {r lo hi : Int} (h : arS N.n ops E o = some (d, kd, kd, r)) [hk : KB kd lo hi] (h1 : lo ≤ r) (h2 : r ≤ hi) : PS P N ops E M o d (.int kd r) := by
  unfold arS at h
  split at h
  · rename_i hb; cases h; obtain ⟨t, x, y, t2, hon, hx, hy⟩ := bin2_spec hb; exact ps_of hon (P_ar hx hy rfl (hk.out _ h1 h2))
  · rename_i hb; cases h; obtain ⟨t, x, y, t2, hon, hx, hy⟩ := bin2_spec hb; exact ps_of hon (P_ar hx hy rfl (hk.out _ h1 h2))
  · rename_i hb; cases h; obtain ⟨t, x, y, t2, hon, hx, hy⟩ := bin2_spec hb; exact ps_of hon (P_ar hx hy rfl (hk.out _ h1 h2))
  · cases h
class YesI (b : BinOp) (p q : Int) (A B : outParam Prop) : Prop where
  out : ∃ r, cmp b p q = some r ∧ (r = true → A) ∧ (r = false → B)
instance {p q : Int} : YesI .eql p q (p = q) (p ≠ q) := ⟨_, rfl, fun h => cmp_yes (o := .eql) rfl h, fun h => cmp_no (o := .eql) rfl h⟩
instance {p q : Int} : YesI .neq p q (p ≠ q) (p = q) := ⟨_, rfl, fun h => cmp_yes (o := .neq) rfl h, fun h => cmp_no (o := .neq) rfl h⟩
instance {p q : Int} : YesI .lss p q (p < q) (q ≤ p) := ⟨_, rfl, fun h => cmp_yes (o := .lss) rfl h, fun h => cmp_no (o := .lss) rfl h⟩
instance {p q : Int} : YesI .leq p q (p ≤ q) (q < p) := ⟨_, rfl, fun h => cmp_yes (o := .leq) rfl h, fun h => cmp_no (o := .leq) rfl h⟩
instance {p q : Int} : YesI .gtr p q (q < p) (p ≤ q) := ⟨_, rfl, fun h => cmp_yes (o := .gtr) rfl h, fun h => cmp_no (o := .gtr) rfl h⟩
instance {p q : Int} : YesI .geq p q (q ≤ p) (p < q) := ⟨_, rfl, fun h => cmp_yes (o := .geq) rfl h, fun h => cmp_no (o := .geq) rfl h⟩
theorem ps_cmp {b : BinOp} {kd : IntKind} {p q : Int} {r : Bool} (h : bin2 N.n ops E o = some (d, b, kd, p, kd, q)) (hr : cmp b p q = some r) : PS P N ops E M o d (.bool r) := by
  obtain ⟨t, x, y, t2, hon, hx, hy⟩ := bin2_spec h
  exact ps_of hon (P_cmp hx hy hr)
theorem ob {b : BinOp} {kd : IntKind} {p q : Int} {A B : Prop} (h : bin2 N.n ops E o = some (d, b, kd, p, kd, q)) [hy : YesI b p q A B] (h1 : A → WO pr P N Fin ops rest k ((d, .bool true) :: E) M) (h2 : B → WO pr P N Fin ops rest k ((d, .bool false) :: E) M) :
    WO pr P N Fin ops (o :: rest) k E M := by
  obtain ⟨r, hr, hA, hB⟩ := hy.out
  have := ps_cmp (P := P) (M := M) h hr
  cases r
  · exact oo this (h2 (hB rfl))
  · exact oo this (h1 (hA rfl))
theorem sb {K : Env → Prop} {b : BinOp} {kd : IntKind} {p q : Int} {A B : Prop} (h : bin2 N.n ops E o = some (d, b, kd, p, kd, q)) [hy : YesI b p q A B] (h1 : A → OS pr P N ops K rest ((d, .bool true) :: E) M) (h2 : B → OS pr P N ops K rest ((d, .bool false) :: E) M) :
    OS pr P N ops K (o :: rest) E M := by
  obtain ⟨r, hr, hA, hB⟩ := hy.out
  have := ps_cmp (P := P) (M := M) h hr
  cases r
  · exact ss this (h2 (hB rfl))
  · exact ss this (h1 (hA rfl))
theorem qb {K : UEnv → Prop} {done : UEnv} {w : List Nat} {ws : List (List Nat)} {b : BinOp} {kd : IntKind} {p q : Int} {A B : Prop} (h : bin2 N.n ops (pick done w ++ E) o = some (d, b, kd, p, kd, q)) [hy : YesI b p q A B]
    (h1 : A → QS P N ops E M K (done ++ [some (d, .bool true)]) ws rest) (h2 : B → QS P N ops E M K (done ++ [some (d, .bool false)]) ws rest) : QS P N ops E M K done (w :: ws) (o :: rest) := by
  obtain ⟨r, hr, hA, hB⟩ := hy.out
  have := ps_cmp (P := P) (M := M) h hr
  cases r
  · exact qq this (h2 (hB rfl))
  · exact qq this (h1 (hA rfl))
def cvS (n : Nat) (ops : List Oper) (E : Env) (o : Oper) : Option (Nat × TypeId × TypeId × IntKind × Int) :=
  match onS n ops E o with
  | some (d, .convert s t x) => match ev E x with
    | some (.int k p) => some (d, s, t, k, p)
    | _ => none
  | _ => none
theorem Pv {s t : TypeId} {kd k2 : IntKind} {p lo hi : Int} (h : cvS N.n ops E o = some (d, s, t, kd, p)) [hs : UndC P s (.int kd)] [ht : UndC P t (.int k2)] [hk : KB k2 lo hi] (h1 : lo ≤ p) (h2 : p ≤ hi) : PS P N ops E M o d (.int k2 p) := by
  unfold cvS at h
  split at h
  · rename_i hon
    split at h
    · rename_i hx; cases h; exact ps_of hon (I_convk hx (hk.out _ h1 h2))
    · cases h
  · cases h

/-! ### Memory -/

class NthI (l : List Value) (n : Nat) (v : outParam Value) : Prop where
  out : l[n]? = some v
instance {v : Value} {l : List Value} : NthI (v :: l) 0 v := ⟨rfl⟩
instance {x v : Value} {l : List Value} {n : Nat} [h : NthI l n v] : NthI (x :: l) (n + 1) v := ⟨by simpa using h.out⟩
/-- The cell at a place. -/
class CellI (M : Mem) (b a : Nat) (v : outParam Value) : Prop where
  out : ∃ own o n l, (⟨own, b, o, l⟩ : Sg) ∈ M ∧ a = o + n ∧ l[n]? = some v
instance (priority := 1100) {M : Mem} {b o : Nat} {own : Bool} {l : List Value} {v : Value} : CellI (⟨own, b, o, v :: l⟩ :: M) b o v := ⟨⟨own, o, 0, v :: l, .head _, rfl, rfl⟩⟩
instance (priority := 1050) {M : Mem} {b o n : Nat} {own : Bool} {l : List Value} {v : Value} [h : NthI l n v] : CellI (⟨own, b, o, l⟩ :: M) b (o + n) v := ⟨⟨own, o, n, l, .head _, rfl, h.out⟩⟩
instance {M : Mem} {b a : Nat} {v : Value} {x : Sg} [h : CellI M b a v] : CellI (x :: M) b a v := ⟨by obtain ⟨own, o, n, l, h1, h2⟩ := h.out; exact ⟨own, o, n, l, .tail _ h1, h2⟩⟩
instance {M L : Mem} {b a : Nat} {v : Value} {x : Sg} [h : CellI (x :: (L ++ M)) b a v] : CellI ((x :: L) ++ M) b a v := ⟨h.out⟩
instance {M : Mem} {b a : Nat} {v : Value} [h : CellI M b a v] : CellI ([] ++ M) b a v := ⟨h.out⟩
/-- .. put anew. -/
class PutI (M : Mem) (b a : Nat) (v : Value) (M' : outParam Mem) : Prop where
  out : ∃ o n l, a = o + n ∧ n < l.length ∧ Upd1 M ⟨true, b, o, l⟩ (l.set n v) M'
instance (priority := 1100) {M : Mem} {b o : Nat} {l : List Value} {u v : Value} : PutI (⟨true, b, o, u :: l⟩ :: M) b o v (⟨true, b, o, v :: l⟩ :: M) := ⟨⟨o, 0, u :: l, rfl, by simp, .head⟩⟩
instance (priority := 1050) {M : Mem} {b o n : Nat} {l l' : List Value} {v : Value} [h : SetI l n v l'] : PutI (⟨true, b, o, l⟩ :: M) b (o + n) v (⟨true, b, o, l'⟩ :: M) :=
  ⟨⟨o, n, l, rfl, h.out.eq.2, by rw [h.out.eq.1]; exact .head⟩⟩
instance {M M' : Mem} {b a : Nat} {v : Value} {x : Sg} [h : PutI M b a v M'] : PutI (x :: M) b a v (x :: M') := ⟨by obtain ⟨o, n, l, h1, h2, h3⟩ := h.out; exact ⟨o, n, l, h1, h2, .tail h3⟩⟩
instance {M M' L : Mem} {b a : Nat} {v : Value} {x : Sg} [h : PutI (x :: (L ++ M)) b a v M'] : PutI ((x :: L) ++ M) b a v M' := ⟨h.out⟩
instance {M M' : Mem} {b a : Nat} {v : Value} [h : PutI M b a v M'] : PutI ([] ++ M) b a v M' := ⟨h.out⟩

def ldS (n : Nat) (ops : List Oper) (E : Env) (o : Oper) : Option (Nat × TypeId × Nat × Nat) :=
  match onS n ops E o with
  | some (d, .load t x) => match ev E x with
    | some (.pointer (some ⟨b, a, none⟩)) => some (d, t, b, a)
    | _ => none
  | _ => none
theorem ldS_spec {t : TypeId} {b a : Nat} (h : ldS N.n ops E o = some (d, t, b, a)) : ∃ x, onS N.n ops E o = some (d, .load t x) ∧ ev E x = some (.pointer (some ⟨b, a, none⟩)) := by
  unfold ldS at h
  split at h
  · rename_i x hon
    split at h
    · rename_i hx; cases h; exact ⟨_, hon, hx⟩
    · cases h
  · cases h
theorem Pl {t : TypeId} {b a : Nat} (h : ldS N.n ops E o = some (d, t, b, a)) [ht : PlainC P t] [hm : CellI M b a v] : PS P N ops E M o d v := by
  obtain ⟨x, hon, hx⟩ := ldS_spec h
  obtain ⟨own, o', n, l, h1, h2, h3⟩ := hm.out
  subst h2
  exact ps_of hon (P_load ht.out hx h1 h3)
theorem Px {t : TypeId} {b o' n : Nat} {own : Bool} {l : List Value} {M0 : Mem} (h : ldS N.n ops E o = some (d, t, b, o' + n)) [ht : PlainC P t] [hm : TakeI M b o' own l M0] (hv : l[n]? = some v) : PS P N ops E M o d v := by
  obtain ⟨x, hon, hx⟩ := ldS_spec h
  exact ps_of hon (I_load hx hv)
theorem Pi {t : TypeId} {b o' : Nat} {own : Bool} {l : List Int} {kd : IntKind} {z : Int} {M0 : Mem} (h : ldS N.n ops E o = some (d, t, b, o' + z.toNat)) [ht : UndC P t (.int kd)] [hm : TakeI M b o' own (ints kd l) M0] (hz : z.toNat < l.length) :
    PS P N ops E M o d (.int kd (rd l z)) := by
  obtain ⟨x, hon, hx⟩ := ldS_spec h
  exact ps_of hon (I_loadi hx hz)

class MulI (z : Int) (n : Nat) (r : outParam Nat) : Prop where
  out : r = z.toNat * n ∧ 0 < n
instance {z : Int} : MulI z 1 z.toNat := ⟨by simp⟩
instance {z : Int} : MulI z 2 (z.toNat * 2) := ⟨by simp⟩
instance {z : Int} : MulI z 3 (z.toNat * 3) := ⟨by simp⟩
instance {z : Int} : MulI z 4 (z.toNat * 4) := ⟨by simp⟩
instance {z : Int} : MulI z 5 (z.toNat * 5) := ⟨by simp⟩
def ixS (n : Nat) (ops : List Oper) (E : Env) (o : Oper) : Option (Nat × TypeId × Nat × Nat × Nat × Int) :=
  match onS n ops E o with
  | some (d, .indexAddr t x i) => match ev E x with
    | some (.slice (some ⟨b, a, none⟩) len _) => match ev E i with
      | some (.int _ z) => some (d, t, b, a, len, z)
      | _ => none
    | _ => none
  | _ => none
theorem Pj {t e : TypeId} {b a len n r : Nat} {z : Int} (h : ixS N.n ops E o = some (d, t, b, a, len, z)) [ht : UndC P t (.slice e)] [he : CelC P e n] [hr : MulI z n r] (h0 : 0 ≤ z) (h1 : z < len) : PS P N ops E M o d (.pointer (some ⟨b, a + r, none⟩)) := by
  obtain ⟨rfl, hn⟩ := hr.out
  unfold ixS at h
  split at h
  · rename_i hon
    split at h
    · rename_i hx
      split at h
      · rename_i hi; cases h; exact ps_of hon (P_index ht.out he.out hn hx hi h0 h1)
      · cases h
    · cases h
  · cases h
def iaS (n : Nat) (ops : List Oper) (E : Env) (o : Oper) : Option (Nat × TypeId × Nat × Nat × Int) :=
  match onS n ops E o with
  | some (d, .indexAddr t x i) => match ev E x with
    | some (.pointer (some ⟨b, a, none⟩)) => match ev E i with
      | some (.int _ z) => some (d, t, b, a, z)
      | _ => none
    | _ => none
  | _ => none
theorem Pk {t e : TypeId} {b a len n r : Nat} {z : Int} (h : iaS N.n ops E o = some (d, t, b, a, z)) [ht : UndC P t (.array len e)] [he : CelC P e n] [hr : MulI z n r] (h0 : 0 ≤ z) (h1 : z < len) : PS P N ops E M o d (.pointer (some ⟨b, a + r, none⟩)) := by
  obtain ⟨rfl, hn⟩ := hr.out
  unfold iaS at h
  split at h
  · rename_i hon
    split at h
    · rename_i hx
      split at h
      · rename_i hi; cases h; exact ps_of hon (P_indexA ht.out he.out hn hx hi h0 h1)
      · cases h
    · cases h
  · cases h
def fdS (n : Nat) (ops : List Oper) (E : Env) (o : Oper) : Option (Nat × TypeId × Nat × Nat × Nat) :=
  match onS n ops E o with
  | some (d, .fieldAddr s x f) => match ev E x with
    | some (.pointer (some ⟨b, a, none⟩)) => some (d, s, f, b, a)
    | _ => none
  | _ => none
theorem Pf {s : TypeId} {f b a off : Nat} (h : fdS N.n ops E o = some (d, s, f, b, a)) [hf : FldC P s f off] : PS P N ops E M o d (.pointer (some ⟨b, a + off, none⟩)) := by
  unfold fdS at h
  split at h
  · rename_i hon
    split at h
    · rename_i hx; cases h; exact ps_of hon (I_field hx)
    · cases h
  · cases h
def miS (n : Nat) (ops : List Oper) (E : Env) (o : Oper) : Option (Nat × TypeId × Value) :=
  match onS n ops E o with
  | some (d, .makeInterface t x) => match ev E x with
    | some v => some (d, t, v)
    | none => none
  | _ => none
theorem Pm {t : TypeId} (h : miS N.n ops E o = some (d, t, v)) [ht : NonIfC P t] : PS P N ops E M o d (.iface t v) := by
  unfold miS at h
  split at h
  · rename_i hon
    split at h
    · rename_i hx; cases h; exact ps_of hon (I_mkiface hx)
    · cases h
  · cases h
def lnS (n : Nat) (ops : List Oper) (E : Env) (o : Oper) : Option (Nat × TypeId × Nat) :=
  match onS n ops E o with
  | some (d, .call ⟨.builtin .len, ⟨[x]⟩, ⟨[t]⟩⟩) => match ev E x with
    | some (.slice _ len _) => some (d, t, len)
    | _ => none
  | _ => none
theorem Pn {t e : TypeId} {len : Nat} (h : lnS N.n ops E o = some (d, t, len)) [ht : UndC P t (.slice e)] : PS P N ops E M o d (.int .i64 len) := by
  unfold lnS at h
  split at h
  · rename_i hon
    split at h
    · rename_i hx; cases h; exact ps_of hon (P_len ht.out hx)
    · cases h
  · cases h

def stS (ops : List Oper) (E : Env) (o : Oper) : Option (TypeId × Nat × Nat × Value) :=
  match o.dst with
  | some _ => none
  | none => match onB E ops o.guard with
    | some true => match o.op with
      | .store t p x => match ev E p with
        | some (.pointer (some ⟨b, a, none⟩)) => match ev E x with
          | some v => some (t, b, a, v)
          | none => none
        | _ => none
      | _ => none
    | _ => none
theorem stS_spec {t : TypeId} {b a : Nat} (h : stS ops E o = some (t, b, a, v)) : ∃ p x ty pos after g, o = ⟨none, .store t p x, ty, pos, after, g⟩ ∧ On E ops g ∧ ev E p = some (.pointer (some ⟨b, a, none⟩)) ∧ ev E x = some v := by
  obtain ⟨dst, op, ty, pos, after, g⟩ := o
  unfold stS at h
  split at h
  · cases h
  · rename_i hd
    split at h
    · rename_i hon
      split at h
      · rename_i p x hop
        split at h
        · rename_i hp
          split at h
          · rename_i hx; cases h; simp only at hd hop hon; subst hd; subst hop; exact ⟨p, x, ty, pos, after, g, rfl, onB_on hon, hp, hx⟩
          · cases h
        · cases h
      · cases h
    · cases h
theorem os {t : TypeId} {b a : Nat} {M' : Mem} (h : stS ops E o = some (t, b, a, v)) [ht : CelC P t 1] (hv : v.oneCell' = true) [hu : PutI M b a v M'] (h2 : WO false P N Fin ops rest k E M') : WO false P N Fin ops (o :: rest) k E M := by
  obtain ⟨p, x, ty, pos, after, g, rfl, hg, hp, hx⟩ := stS_spec h
  obtain ⟨o', n, l, rfl, hn, hup⟩ := hu.out
  exact O_store ht.out hp hx hv hg hn hup h2
theorem ot {t : TypeId} {b o' : Nat} {l : List Int} {kd : IntKind} {z u : Int} {M0 M' : Mem} (h : stS ops E o = some (t, b, o' + z.toNat, .int kd u)) [ht : CelC P t 1] [hm : TakeI M b o' true (ints kd l) M0] (hn : z.toNat < l.length)
    [hu : UpdI M b o' (ints kd l) (ints kd (wr l z u)) M'] (h2 : WO false P N Fin ops rest k E M') : WO false P N Fin ops (o :: rest) k E M := by
  obtain ⟨p, x, ty, pos, after, g, rfl, hg, hp, hx⟩ := stS_spec h
  exact O_storei ht.out hp hx hg hu.out hn h2

/-! ### Code -/

inductive St where
  | w (c : Code) (k : List Kn)
  | g (e : Exit) (k : List Kn)
def St.says (pr : Bool) (P : Program) (N : Fm) (Fin : Post) (E : Env) (M : Mem) : St → Prop
  | .w c k => W pr P N Fin c k E M
  | .g e k => G pr P N Fin e k E M
def stepK (E : Env) : St → Option St
  | .w (.seq x y) k => some (.w x (.code y :: k))
  | .w (.block id c) k => some (.w c (.blk id :: k))
  | .w .skip k => some (.g .normal k)
  | .w (.exit id) k => some (.g (.exit id) k)
  | .w .ret k => some (.g .ret k)
  | .w (.label _) k => some (.g .normal k)
  | .w (.goto l) k => some (.g (.goto l) k)
  | .w (.cond c x y) k => match ev E c with
    | some (.bool true) => some (.w x k)
    | some (.bool false) => some (.w y k)
    | _ => none
  | .w _ _ => none
  | .g .normal (.code c :: k) => some (.w c k)
  | .g .normal (.blk _ :: k) => some (.g .normal k)
  | .g .normal _ => none
  | .g (.exit id') (.blk id :: k) => bif Nat.beq id' id then some (.g .normal k) else some (.g (.exit id') k)
  | .g (.exit id') (_ :: k) => some (.g (.exit id') k)
  | .g .ret (_ :: k) => some (.g .ret k)
  | .g (.goto l) (_ :: k) => some (.g (.goto l) k)
  | .g _ _ => none
theorem stepK_spec {s s' : St} (h : stepK E s = some s') (h2 : s'.says pr P N Fin E M) : s.says pr P N Fin E M := by
  unfold stepK at h
  split at h
  · cases h; exact W_seq h2
  · cases h; exact W_block h2
  · cases h; exact W_skip h2
  · cases h; exact W_exit h2
  · cases h; exact W_ret h2
  · cases h; exact W_label h2
  · cases h; exact W_goto h2
  · split at h
    · rename_i hc; cases h; exact W_cond_t hc h2
    · rename_i hc; cases h; exact W_cond_f hc h2
    · cases h
  · cases h
  · cases h; exact G_code h2
  · cases h; exact G_blk h2
  · cases h
  · rename_i id' id k
    cases hb : Nat.beq id' id with
    | true =>
      rw [hb] at h
      cases h
      have := Nat.eq_of_beq_eq_true hb
      subst this
      exact G_exit_blk h2
    | false =>
      rw [hb] at h
      cases h
      exact G_exit_other hb h2
  · rename_i id' x k hx
    cases h
    cases x with
    | code c => exact G_exit_code h2
    | blk id => exact absurd rfl (hx id)
    | stop K => exact G_exit_stop h2
  · rename_i x k
    cases h
    cases x with
    | code c => exact G_ret_code h2
    | blk id => exact G_ret_blk h2
    | stop K => exact G_ret_stop h2
  · rename_i l x k
    cases h
    cases x with
    | code c => exact G_goto_code h2
    | blk id => exact G_goto_blk h2
    | stop K => exact G_goto_stop h2
  · cases h
def runK (E : Env) : Nat → St → St
  | 0, s => s
  | n + 1, s => match stepK E s with
    | some s' => runK E n s'
    | none => s
theorem runK_spec : ∀ (n : Nat) {s : St}, (runK E n s).says pr P N Fin E M → s.says pr P N Fin E M
  | 0, _, h => h
  | n + 1, s, h => by
    simp only [runK] at h
    split at h
    · rename_i s' hs; exact stepK_spec hs (runK_spec n h)
    · exact h
def normK (E : Env) (s : St) : Option St := match stepK E s with
  | some s' => some (runK E 100 s')
  | none => none
theorem normK_spec {s s' : St} (h : normK E s = some s') (h2 : s'.says pr P N Fin E M) : s.says pr P N Fin E M := by
  unfold normK at h
  split at h
  · rename_i hs; cases h; exact stepK_spec hs (runK_spec 100 h2)
  · cases h
theorem wo {c : Code} {id : Nat} {l : List Oper} {k' : List Kn} (h : runK E 100 (.w c k) = .w (.region id l.toArray false) k') (h2 : WO pr P N Fin l l k' E M) : W pr P N Fin c k E M :=
  runK_spec 100 (s := .w c k) (by rw [h]; exact W_region h2)
theorem wc {c c' : Code} {k' : List Kn} (h : normK E (.w c k) = some (.w c' k')) (h2 : W pr P N Fin c' k' E M) : W pr P N Fin c k E M := normK_spec (s := .w c k) h h2
theorem wg {c : Code} {e : Exit} {k' : List Kn} (h : normK E (.w c k) = some (.g e k')) (h2 : G pr P N Fin e k' E M) : W pr P N Fin c k E M := normK_spec (s := .w c k) h h2
theorem go {e : Exit} {id : Nat} {l : List Oper} {k' : List Kn} (h : runK E 100 (.g e k) = .w (.region id l.toArray false) k') (h2 : WO pr P N Fin l l k' E M) : G pr P N Fin e k E M :=
  runK_spec 100 (s := .g e k) (by rw [h]; exact W_region h2)
theorem gc {e : Exit} {c' : Code} {k' : List Kn} (h : normK E (.g e k) = some (.w c' k')) (h2 : W pr P N Fin c' k' E M) : G pr P N Fin e k E M := normK_spec (s := .g e k) h h2
theorem gg {e e' : Exit} {k' : List Kn} (h : normK E (.g e k) = some (.g e' k')) (h2 : G pr P N Fin e' k' E M) : G pr P N Fin e k E M := normK_spec (s := .g e k) h h2
end
end Go.Proofs.Ytjkpfliaflmppaa.Vm

namespace Go.Proofs.Ytjkpfliaflmppaa.Vm
open Go Go.RowKit

/-- Each operation below n is waited for by a later one. -/
def covB (ws : List (List Nat)) (n : Nat) : Bool := (List.range n).all fun i => (List.range (n + 1)).any fun j => Nat.blt i j && (ws.getD j []).any fun x => Nat.beq x i
theorem covB_spec {ws : List (List Nat)} {n : Nat} (h : covB ws n = true) : ∀ i, i < n → ∃ j, i < j ∧ j ≤ n ∧ i ∈ ws.getD j [] := by
  intro i hi
  have h1 := List.all_eq_true.1 h i (List.mem_range.2 hi)
  obtain ⟨j, hj, h2⟩ := List.any_eq_true.1 h1
  rw [Bool.and_eq_true] at h2
  obtain ⟨h3, h4⟩ := h2
  obtain ⟨x, hx, h5⟩ := List.any_eq_true.1 h4
  have := Nat.eq_of_beq_eq_true h5
  subst this
  exact ⟨j, by simpa [Nat.blt_eq] using h3, by have := List.mem_range.1 hj; omega, hx⟩
theorem cov_all {ws : List (List Nat)} {n : Nat} (h : covB ws n = true) {done : Nat → Bool} (hc : ∀ i, done i = true → ∀ j ∈ ws.getD i [], done j = true) (hl : ∀ j ∈ ws.getD n [], done j = true) : ∀ m i, n - i ≤ m → i < n → done i = true := by
  intro m
  induction m with
  | zero => intro i h1 h2; omega
  | succ m ih =>
    intro i h1 h2
    obtain ⟨j, hj1, hj2, hj3⟩ := covB_spec h i h2
    by_cases hjn : j = n
    · subst hjn; exact hl i hj3
    · exact hc j (ih j (by omega) (by omega)) i hj3

theorem wpList1_mono {P : Program} {ops : Array Oper} {F F' : Exit → Act → World → Prop} {o : Oper} {a : Act} {w : World} (hF : ∀ a w, F .normal a w → F' .normal a w) (hno : ∀ e a w, e ≠ .normal → ¬ F e a w)
    (h : wpList P ops F [o] a w) : wpList P ops F' [o] a w := by
  have key : ∀ a w, wpList P ops F [] a w → wpList P ops F' [] a w := fun a w h => hF a w h
  unfold wpList at h ⊢
  split
  · rename_i hw
    rw [if_pos hw] at h
    rcases h with h | ⟨_, a2, w2, h2⟩
    · exact .inl (wp_other key hno h)
    · exact absurd h2 (hno _ _ _ (by simp))
  · rename_i hw
    rw [if_neg hw] at h
    exact key _ _ h

section
variable {P : Program} {N : Fm} {Fin : Post} {k : List Kn} {E : Env} {M : Mem} {l : List Oper}

/-- A struct stored as it stands. -/
theorem QS_storeAgg {K : UEnv → Prop} {done : UEnv} {w : List Nat} {ws : List (List Nat)} {rest : List Oper} {t : TypeId} {p x : Operand} {b o n : Nat} {c cs : List Value} {M0 : Mem} {ty : TypeId} {pos : String} {after : Array Edge} {g : Option (Nat × Bool)} (hn : Cel P t n) (hn0 : 0 < n)
    (hp : ev (pick done w ++ E) p = some (.pointer (some ⟨b, o, none⟩))) (hx : ev (pick done w ++ E) x = some (.agg cs.toArray)) (hcs : cs.length = n) (hv : ∀ v ∈ cs, v.oneCell' = true) (hg : On (pick done w ++ E) l g)
    (hm : Take1 M ⟨true, b, o, c⟩ M0) (hb : Rk (⟨true, b, o, c⟩ :: M0) M) (hl : c.length = n) (hc : c = cs) (h : QS P N l E M K (done ++ [none]) ws rest) : QS P N l E M K done (w :: ws) (⟨none, .store t p x, ty, pos, after, g⟩ :: rest) := by
  subst hc
  refine QS_of (u := none) ⟨fun base w0 a w1 hA hS F hF => ?_, fun _ h => by cases h⟩ h
  unfold wpList
  rw [if_pos (On.wanted (o := ⟨none, .store t p x, ty, pos, after, g⟩) hg hA)]
  refine .inl ?_
  unfold Oper.wp
  obtain ⟨I, hI, hs⟩ := size_of hn.out hn0
  obtain ⟨w', h1, h2⟩ := run_storeCells (P := P) (i := 0) c 0 c w1 (hS.rk (.cons hm .rfl)) hv (by omega)
  have hr : (execOp a.eval ⟨none, .store t p x, ty, pos, after, g⟩).run P w1 = .ok .skip w' := by
    simp only [execOp, Instr.storeAt, Instr.sureAddr, hA.eval hp, hA.eval hx]
    simp at h1
    simp [storeVar, Value.cells, sizeOf, typeInfo, hI, hs, hcs, h1]
  rw [hr]
  have e : putAt c 0 c = c := by
    have := putAt_append c [] c (Nat.le_refl _)
    simpa using this
  rw [e] at h2
  exact hF _ (h2.rk hb)

theorem W_region_last {id : Nat} (n : Nat) (hn : l.length = n + 1) (hm : P.follows .mixedOrders = true) (ws : List (List Nat)) (hw : ((List.range l.length).all fun i => (ws.getD i []).all fun j => Region.waitsFor .any l.toArray i j) = true)
    (hac : earlierB l.toArray = true) (hcov : covB ws n = true)
    (h : QS P N l E M (fun done => chkU E done = true ∧ WO false P N (fun e E2 M2 => e = .normal ∧ G false P N Fin .normal k E2 M2) l (l.drop n) [] (somes done ++ E) M) [] ws (l.take n)) : W false P N Fin (.region id l.toArray true) k E M := by
  obtain ⟨full, hlen, ⟨hc, hG⟩, hq⟩ := QS_all h.out
  simp only [List.nil_append] at hc hG hq
  have hlen' : full.length = n := by rw [hlen, List.length_take]; omega
  obtain ⟨hf1, hf2⟩ := chkU_spec hc
  refine W_region_inv2 hm ws hw hac (fun done E' M' => (∀ i, done i = true → ∀ j ∈ ws.getD i [], done j = true) ∧
    (done n = false → Le E' E ∧ (∀ (i : Nat) (p : Nat × Value), full[i]? = some (some p) → done i = true → E'.get? p.1 = some p.2) ∧ Rk M' M) ∧ (done n = true → G false P N Fin .normal k E' M'))
    ⟨fun i h => (by cases h), fun _ => ⟨fun _ _ h => h, fun i p _ h => (by cases h), .rfl⟩, fun h => (by cases h)⟩ ?_ ?_
  · intro i hi done E' M' ⟨hcl, hA1, hA2⟩ hno hdone
    have hcl' : ∀ i', (if i' = i then true else done i') = true → ∀ j ∈ ws.getD i' [], (if j = i then true else done j) = true := by
      intro i' hi' j hj
      by_cases hji : j = i
      · simp [hji]
      · rw [if_neg hji]
        by_cases hii : i' = i
        · subst hii; exact hdone j hj
        · rw [if_neg hii] at hi'; exact hcl i' hi' j hj
    have hone : (l.drop i).take 1 = [l[i]] := by rw [List.drop_eq_getElem_cons hi]; rfl
    rw [hone]
    by_cases hin : i = n
    · subst hin
      obtain ⟨hs, hd, hrk⟩ := hA1 hno
      have hall := cov_all hcov hcl hdone i
      have hlast : l.drop i = [l[i]] := by
        rw [List.drop_eq_getElem_cons hi, List.drop_eq_nil_of_le (by omega)]
      rw [hlast] at hG
      have hle : Le E' (somes full ++ E) := Le.app (fun p hp => by
        obtain ⟨j, hj, hjp⟩ := List.mem_iff_getElem.1 (mem_somes hp)
        exact hd j p (by rw [List.getElem?_eq_getElem hj, hjp]) (hall j (by omega) (by omega))) hs
      refine ⟨⟨fun base w0 a w hA hS => ?_⟩⟩
      refine wpList1_mono (fun a2 w2 hx => ?_) (fun e a2 w2 hne hx => ?_) (hG.out.out base w0 a w (hle.ag hA) (hS.rk hrk))
      · obtain ⟨E2, M2, q1, q2, _, q3⟩ := hx
        exact ⟨E2, M2, q1, q2, rfl, hcl', fun h => (by simp at h), fun _ => q3⟩
      · obtain ⟨E2, M2, q1, q2, q3, _⟩ := hx
        exact hne q3
    · have hno2 : done n = false := by
        cases hdn : done n with
        | false => rfl
        | true => have := cov_all hcov hcl (hcl n hdn) n i (by omega) (by omega); rw [this] at hno; cases hno
      obtain ⟨hs, hd, hrk⟩ := hA1 hno2
      have hif : i < full.length := by omega
      have hit : i < (l.take n).length := by rw [List.length_take]; omega
      have hqt := hq i hit hif
      have hli : (l.take n)[i] = l[i] := List.getElem_take
      rw [hli] at hqt
      have hfi : full[i]? = some full[i] := List.getElem?_eq_getElem hif
      generalize full[i] = u at hqt hfi
      refine ⟨⟨fun base w0 a w hA hS => hqt.out base w0 a w (Le.ag (Le.app (fun p hp => ?_) hs) hA) (hS.rk hrk) _ fun w' hS' => ?_⟩⟩
      · obtain ⟨j, hj, hjp⟩ := mem_pick hp
        refine hd j p ?_ (hdone j hj)
        rw [List.getElem?_take] at hjp
        split at hjp
        · exact hjp
        · cases hjp
      · have hni : ¬ n = i := fun e => hin e.symm
        cases u with
        | none =>
          refine ⟨E', M, hA, hS', rfl, hcl', fun _ => ⟨hs, ?_, .rfl⟩, fun h => (by simp [hni, hno2] at h)⟩
          intro j p hj hdj
          by_cases hji : j = i
          · subst hji; rw [hfi] at hj; cases hj
          · exact hd j p hj (by simpa [hji] using hdj)
        | some q =>
          obtain ⟨d, v⟩ := q
          refine ⟨(d, v) :: E', M, hA.put (hqt.hd _ rfl) _, hS', rfl, hcl', fun _ => ⟨hs.cons (hf1 (d, v) (List.mem_of_getElem? hfi)), ?_, .rfl⟩, fun h => (by simp [hni, hno2] at h)⟩
          intro j p hj hdj
          by_cases hji : j = i
          · subst hji; rw [hfi] at hj; cases hj; exact get_eq
          · have hdj' : done j = true := by simpa [hji] using hdj
            rw [get_ne (fun e => hf2 j i p (d, v) hj hfi hji e.symm)]
            exact hd j p hj hdj'
  · intro done E' M' ⟨hcl, hA1, hA2⟩ hall
    exact ⟨E', M', fun _ _ h => h, .rfl, hA2 (hall n (by omega))⟩

/-- A result, wherever it lies. -/
structure ResV (P : Program) (N : Fm) (E : Env) (M : Mem) (r : ResultVar) (v : Value) : Prop where
  out : ∀ pr base w0 w a, Ag N E a → Sim pr base w0 w M → (resAt a.tmps r).run P w = .ok v w
theorem ResV.tmp {t : Nat} {v : Value} (h : E.get? t = some v) : ResV P N E M (.tmp t) v := ⟨fun pr base w0 w a hA hS => by
  have h3 := hA.val _ _ h
  simp [resAt, Array.getD_eq_getD_getElem?, h3]⟩
theorem ResV.agg {p t b n : Nat} {own : Bool} {cs : List Value} (h : E.get? p = some (.pointer (some ⟨b, 0, none⟩))) (hm : (⟨own, b, 0, cs⟩ : Sg) ∈ M) (ht : AggT P t) (hn : Cel P t n) (hn0 : 0 < n) (hc : cs.length = n) : ResV P N E M (.cell p t) (.agg cs.toArray) :=
  ⟨fun pr base w0 w a hA hS => by
    have h3 := hA.val _ _ h
    obtain ⟨I, hI, hs⟩ := size_of hn.out hn0
    have h1 := run_loadCells (P := P) (i := 0) (n := n) (hS.seg _ hm) (by simp only; omega)
    simp only [List.drop_zero, ← hc, List.take_length] at h1
    obtain ⟨D, ht, hD⟩ := ht.out
    cases D <;> simp [isAggD] at hD <;> simp [resAt, Array.getD_eq_getD_getElem?, h3, asAddr, loadVar, isAgg, run_under ht, sizeOf, typeInfo, hI, hs, ← hc] <;> (simp at h1; simp [h1])⟩
def ResG (P : Program) (N : Fm) (E : Env) (M : Mem) : List ResultVar → List Value → Prop
  | [], [] => True
  | r :: rs, v :: vs => ResV P N E M r v ∧ ResG P N E M rs vs
  | _, _ => False
theorem mapM_resG {pr : Bool} {base : Nat} {w0 w : World} {a : Act} (h : Ag N E a) (hS : Sim pr base w0 w M) : ∀ (rs : List ResultVar) (vs : List Value), ResG P N E M rs vs → (rs.mapM (resAt a.tmps)).run P w = .ok vs w
  | [], [], _ => by simp
  | [], v :: vs, hv => by simp [ResG] at hv
  | r :: rs, [], hv => by simp [ResG] at hv
  | r :: rs, v :: vs, hv => by
    have h4 := mapM_resG h hS rs vs hv.2
    have h5 := hv.1.out _ _ _ _ _ h hS
    rw [List.mapM_cons, Sem.run_bind, h5, Result.andThen_ok, Sem.run_bind, h4]
    rfl
def EndsR (P : Program) (N : Fm) (rs : List ResultVar) (R : Value → Mem → Prop) : Post
  | .normal, E, M | .ret, E, M => ∃ vs, ResG P N E M rs vs ∧ R (tupled vs) M
  | _, _, _ => False

theorem HC_of_WR {pr : Bool} {f : FuncId} {fn : Func} {c : Code} {vs : List Value} {R : Value → Mem → Prop} {rs : List ResultVar} {n : Nat} (hf : P.funcs[f]? = some fn) (hb : fn.body = some c) (hN : fn.ntmps = n)
    (hrs : fn.results.toList = rs) (hs : Nat.ble vs.length n = true) (h : W pr P ⟨n, []⟩ (EndsR P ⟨n, []⟩ rs R) c [] (zipEnv 0 vs) M) : HCp pr P f vs.toArray M R := by
  constructor
  intro base w0 w hS
  have hle : vs.length ≤ n := by simpa using hs
  have hend : ∀ (a : Act) (E' : Env) (M' : Mem) (w' : World), Ag ⟨n, []⟩ E' a → Sim pr base w0 w' M' → (∃ vs, ResG P ⟨n, []⟩ E' M' rs vs ∧ R (tupled vs) M') →
      a.defers = [] ∧ ∃ v, (results fn a.tmps).run P w' = .ok v w' ∧ ∃ v' M', Ending.returned v = .returned v' ∧ Sim pr base w0 w' M' ∧ R v' M' := by
    intro a E' M' w' hA' hS' ⟨us, h1, h2⟩
    refine ⟨hA'.defers, tupled us, ?_, _, M', rfl, hS', h2⟩
    rw [results_eq, Sem.run_bind]
    have h3 : (fn.results.mapM (resAt a.tmps)).run P w' = .ok us.toArray w' := by
      rw [Array.mapM_eq_mapM_toList]
      simp only [Sem.run_map, hrs, mapM_resG hA' hS' _ _ h1]
      rfl
    rw [h3]
    match us with
    | [] => simp [tupled]
    | [u] => simp [tupled]
    | u :: u2 :: us => simp [tupled]
  refine calls_of_wp hf hb (wp_mono (h.out.out base w0 _ w ⟨rfl, by simp [hN]; omega, fun i v hv => ?_⟩ hS) ?_)
  · obtain ⟨h1, h2⟩ := zipEnv_get vs 0 i v hv
    simp only [Nat.sub_zero] at h2
    have hi : i < vs.length := by
      rcases Nat.lt_or_ge i vs.length with h | h
      · exact h
      · simp [List.getElem?_eq_none h] at h2
    rw [Array.getElem?_append_left (by simpa using hi)]
    simpa using h2
  · intro e a w' ⟨E', M', hA', hS', hq⟩
    cases e with
    | normal => exact hend a E' M' w' hA' hS' hq
    | ret => exact hend a E' M' w' hA' hS' hq
    | _ => exact hq.elim
end
end Go.Proofs.Ytjkpfliaflmppaa.Vm
