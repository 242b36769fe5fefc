/- The engine's rules for operations that only compute or read. No condition. -/
import Derived.Test.YtjkpfliaflmppaaVm0
namespace Go.Proofs.Ytjkpfliaflmppaa.Vm
open Go Go.RowKit

section
variable {pr : Bool} {P : Program} {N : Fm} {E : Env} {M : Mem}

def isAggD : TypeDesc → Bool
  | .struct _ => true
  | .array _ _ => true
  | _ => false
def isIface : TypeDesc → Bool
  | .interface _ => true
  | _ => false

theorem P_move {x : Operand} {v : Value} (h : ev E x = some v) : Pure P N E M (.move x) v := by
  constructor
  intro pr base w0 a w hA hS d ty pos after g
  simp [execOp, hA.eval h, Sem.run, pure]
theorem P_assign {x : Operand} {v : Value} (h : ev E x = some v) : Pure P N E M (.assign x) v := by
  constructor
  intro pr base w0 a w hA hS d ty pos after g
  simp [execOp, hA.eval h, Sem.run, pure]

theorem P_pick_t {c x y : Operand} {v : Value} (hc : ev E c = some (.bool true)) (h : ev E x = some v) : Pure P N E M (.pick c x y) v := by
  constructor
  intro pr base w0 a w hA hS d ty pos after g
  simp [execOp, hA.eval h, hA.eval hc, Sem.run, pure, bind, Sem.bind, asBool]
theorem P_pick_f {c x y : Operand} {v : Value} (hc : ev E c = some (.bool false)) (h : ev E y = some v) : Pure P N E M (.pick c x y) v := by
  constructor
  intro pr base w0 a w hA hS d ty pos after g
  simp [execOp, hA.eval h, hA.eval hc, Sem.run, pure, bind, Sem.bind, asBool]
theorem P_pick {c x y : Operand} {t : Bool} {u v : Value} (hc : ev E c = some (.bool t)) (h : ev E x = some u) (h' : ev E y = some v) : Pure P N E M (.pick c x y) (if t = true then u else v) := by
  constructor
  intro pr base w0 a w hA hS d ty pos after g
  cases t <;> simp [execOp, hA.eval h, hA.eval h', hA.eval hc, Sem.run, pure, bind, Sem.bind, asBool]

/-! ### Numbers -/

theorem wrap_id {k : IntKind} {n : Int} (h1 : k.min ≤ n) (h2 : n ≤ k.max) : k.wrap n = n := by
  cases k <;> simp [IntKind.wrap, IntKind.min, IntKind.max, IntKind.signed, IntKind.bits] at * <;> omega

structure inK (k : IntKind) (n : Int) : Prop where
  lo : k.min ≤ n
  hi : n ≤ k.max
theorem inK_i64 {n : Int} (h1 : -9223372036854775808 ≤ n) (h2 : n ≤ 9223372036854775807) : inK .i64 n := ⟨h1, h2⟩
theorem inK_u64 {n : Int} (h1 : 0 ≤ n) (h2 : n ≤ 18446744073709551615) : inK .u64 n := ⟨h1, h2⟩
theorem inK_u32 {n : Int} (h1 : 0 ≤ n) (h2 : n ≤ 4294967295) : inK .u32 n := ⟨h1, h2⟩
theorem inK_u8 {n : Int} (h1 : 0 ≤ n) (h2 : n ≤ 255) : inK .u8 n := ⟨h1, h2⟩
theorem inK_u16 {n : Int} (h1 : 0 ≤ n) (h2 : n ≤ 65535) : inK .u16 n := ⟨h1, h2⟩
theorem inK_i32 {n : Int} (h1 : -2147483648 ≤ n) (h2 : n ≤ 2147483647) : inK .i32 n := ⟨h1, h2⟩

def ar : BinOp → Int → Int → Option Int
  | .add, x, y => some (x + y)
  | .sub, x, y => some (x - y)
  | .mul, x, y => some (x * y)
  | _, _, _ => none

/-- '+', '-', '*' that stay in their kind. -/
theorem P_ar {op : BinOp} {t t2 : TypeId} {x y : Operand} {k : IntKind} {p q r : Int} (hx : ev E x = some (.int k p)) (hy : ev E y = some (.int k q)) (hr : ar op p q = some r) (h : inK k r) :
    Pure P N E M (.binOp op t x y t2) (.int k r) := by
  constructor
  intro pr base w0 a w hA hS d ty pos after g
  have hw := wrap_id h.lo h.hi
  cases op <;> simp [ar] at hr <;> subst hr <;>
    simp [execOp, hA.eval hx, hA.eval hy, Sem.run, pure, bind, Sem.bind, eqGuard, binOp, Op.intArith, hw]

/-- .. whatever comes. -/
theorem P_arw {op : BinOp} {t t2 : TypeId} {x y : Operand} {k : IntKind} {p q r : Int} (hx : ev E x = some (.int k p)) (hy : ev E y = some (.int k q)) (hr : ar op p q = some r) :
    Pure P N E M (.binOp op t x y t2) (.int k (k.wrap r)) := by
  constructor
  intro pr base w0 a w hA hS d ty pos after g
  cases op <;> simp [ar] at hr <;> subst hr <;>
    simp [execOp, hA.eval hx, hA.eval hy, Sem.run, pure, bind, Sem.bind, eqGuard, binOp, Op.intArith]

def cmp : BinOp → Int → Int → Option Bool
  | .eql, x, y => some (x == y)
  | .neq, x, y => some (x != y)
  | .lss, x, y => some (decide (x < y))
  | .leq, x, y => some (decide (x ≤ y))
  | .gtr, x, y => some (decide (x > y))
  | .geq, x, y => some (decide (x ≥ y))
  | _, _, _ => none

theorem P_cmp {op : BinOp} {t t2 : TypeId} {x y : Operand} {k : IntKind} {p q : Int} {r : Bool} (hx : ev E x = some (.int k p)) (hy : ev E y = some (.int k q)) (hr : cmp op p q = some r) :
    Pure P N E M (.binOp op t x y t2) (.bool r) := by
  constructor
  intro pr base w0 a w hA hS d ty pos after g
  cases op <;> simp [cmp] at hr <;> subst hr <;>
    simp [execOp, hA.eval hx, hA.eval hy, Sem.run, pure, bind, Sem.bind, eqGuard, binOp, Op.intCmp]

theorem P_quo {t t2 : TypeId} {x y : Operand} {k : IntKind} {p q : Int} (hx : ev E x = some (.int k p)) (hy : ev E y = some (.int k q)) (h0 : 0 ≤ p) (h1 : 0 < q) (h2 : inK k p) :
    Pure P N E M (.binOp .quo t x y t2) (.int k (p / q)) := by
  constructor
  intro pr base w0 a w hA hS d ty pos after g
  have hq : q ≠ 0 := by omega
  have hw : k.wrap (p.tdiv q) = p / q := by
    rw [Int.tdiv_eq_ediv_of_nonneg h0]
    have h3 : 0 ≤ p / q := Int.ediv_nonneg h0 (by omega)
    have h4 : p / q ≤ p := Int.ediv_le_self _ h0
    have h5 : k.min ≤ 0 := by cases k <;> decide
    exact wrap_id (Int.le_trans h5 h3) (Int.le_trans h4 h2.hi)
  simp [execOp, hA.eval hx, hA.eval hy, Sem.run, pure, bind, Sem.bind, eqGuard, binOp, Op.intDiv, hq, hw]

theorem P_rem {t t2 : TypeId} {x y : Operand} {k : IntKind} {p q : Int} (hx : ev E x = some (.int k p)) (hy : ev E y = some (.int k q)) (h0 : 0 ≤ p) (h1 : 0 < q) :
    Pure P N E M (.binOp .rem t x y t2) (.int k (p % q)) := by
  constructor
  intro pr base w0 a w hA hS d ty pos after g
  have hq : q ≠ 0 := by omega
  simp [execOp, hA.eval hx, hA.eval hy, Sem.run, pure, bind, Sem.bind, eqGuard, binOp, Op.intDiv, hq, Int.tmod_eq_emod_of_nonneg h0]

/-- '<<' -/
theorem P_shl {t t2 : TypeId} {x y : Operand} {k k2 : IntKind} {p q : Int} (hx : ev E x = some (.int k p)) (hy : ev E y = some (.int k2 q)) (h0 : 0 ≤ q) :
    Pure P N E M (.binOp .shl t x y t2) (.int k (k.wrap (p * 2 ^ min q.toNat k.bits))) := by
  constructor
  intro pr base w0 a w hA hS d ty pos after g
  have hq : ¬ q < 0 := by omega
  simp [execOp, hA.eval hx, hA.eval hy, Sem.run, pure, bind, Sem.bind, eqGuard, binOp, Op.shift, hq]
theorem P_shr {t t2 : TypeId} {x y : Operand} {k k2 : IntKind} {p q : Int} (hx : ev E x = some (.int k p)) (hy : ev E y = some (.int k2 q)) (h0 : 0 ≤ q) :
    Pure P N E M (.binOp .shr t x y t2) (.int k (p.fdiv (2 ^ min q.toNat k.bits))) := by
  constructor
  intro pr base w0 a w hA hS d ty pos after g
  have hq : ¬ q < 0 := by omega
  simp [execOp, hA.eval hx, hA.eval hy, Sem.run, pure, bind, Sem.bind, eqGuard, binOp, Op.shift, hq]

def bitop (op : BinOp) (k : IntKind) (p q : Int) : Option Int :=
  match op with
  | .and => some (k.wrap (BitVec.ofInt k.bits p &&& BitVec.ofInt k.bits q).toNat)
  | .or => some (k.wrap (BitVec.ofInt k.bits p ||| BitVec.ofInt k.bits q).toNat)
  | .xor => some (k.wrap (BitVec.ofInt k.bits p ^^^ BitVec.ofInt k.bits q).toNat)
  | _ => none

theorem P_bits {op : BinOp} {t t2 : TypeId} {x y : Operand} {k : IntKind} {p q r : Int} (hx : ev E x = some (.int k p)) (hy : ev E y = some (.int k q)) (hr : bitop op k p q = some r) :
    Pure P N E M (.binOp op t x y t2) (.int k r) := by
  constructor
  intro pr base w0 a w hA hS d ty pos after g
  cases op <;> simp [bitop] at hr <;> subst hr <;>
    simp [execOp, hA.eval hx, hA.eval hy, Sem.run, pure, bind, Sem.bind, eqGuard, binOp, Op.intBits]

theorem P_neg {t : TypeId} {x : Operand} {k : IntKind} {p : Int} (hx : ev E x = some (.int k p)) : Pure P N E M (.unOp .neg t x) (.int k (k.wrap (0 - p))) := by
  constructor
  intro pr base w0 a w hA hS d ty pos after g
  simp [execOp, hA.eval hx, Sem.run, pure, bind, Sem.bind, Op.unary, Op.intArith]
/-- '^x' of an int -/
theorem P_inv {t : TypeId} {x : Operand} {p : Int} (hx : ev E x = some (.int .i64 p)) (h : inK .i64 p) : Pure P N E M (.unOp .xor t x) (.int .i64 (-1 - p)) := by
  constructor
  intro pr base w0 a w hA hS d ty pos after g
  have e : IntKind.i64.wrap ((BitVec.ofInt 64 (-1) ^^^ BitVec.ofInt 64 p).toNat : Int) = -1 - p := by
    have h1 : (BitVec.ofInt 64 (-1) ^^^ BitVec.ofInt 64 p) = ~~~ (BitVec.ofInt 64 p) := by
      have : (BitVec.ofInt 64 (-1)) = BitVec.allOnes 64 := by decide
      rw [this, BitVec.allOnes_xor]
    rw [h1]
    have h2 : (~~~ (BitVec.ofInt 64 p)).toNat = 2 ^ 64 - 1 - (BitVec.ofInt 64 p).toNat := by simp [BitVec.toNat_not]
    have h3 : ((BitVec.ofInt 64 p).toNat : Int) = p % 2 ^ 64 := by
      rw [BitVec.toNat_ofInt]; simp; omega
    have h5 : (BitVec.ofInt 64 p).toNat < 2 ^ 64 := (BitVec.ofInt 64 p).isLt
    have h4 : IntKind.i64.min ≤ p ∧ p ≤ IntKind.i64.max := ⟨h.lo, h.hi⟩
    simp only [IntKind.min, IntKind.max, IntKind.signed, IntKind.bits] at h4
    rw [h2]
    simp only [IntKind.wrap, IntKind.signed, IntKind.bits]
    simp at h4 h3 h5 ⊢
    omega
  simp [execOp, hA.eval hx, Sem.run, pure, bind, Sem.bind, Op.unary, Op.intBits, IntKind.signed]
  simpa [IntKind.bits] using e
theorem P_not {t : TypeId} {x : Operand} {p : Bool} (hx : ev E x = some (.bool p)) : Pure P N E M (.unOp .not t x) (.bool (!p)) := by
  constructor
  intro pr base w0 a w hA hS d ty pos after g
  simp [execOp, hA.eval hx, Sem.run, pure, bind, Sem.bind, Op.unary]

/-! Facts on the tables, each behind a name of its own: two of them that differ in a number are told apart at once. -/
structure Und (P : Program) (t : TypeId) (D : TypeDesc) : Prop where
  out : P.underlying t = some D
structure Cel (P : Program) (t : TypeId) (n : Nat) : Prop where
  out : P.cellsOf t = n
structure PlainT (P : Program) (t : TypeId) : Prop where
  out : ∃ D, P.underlying t = some D ∧ isAggD D = false
structure AggT (P : Program) (t : TypeId) : Prop where
  out : ∃ D, P.underlying t = some D ∧ isAggD D = true
structure IfT (P : Program) (t : TypeId) : Prop where
  out : ∃ D, P.underlying t = some D ∧ isIface D = true
structure NonIfT (P : Program) (t : TypeId) : Prop where
  out : ∃ D, P.underlying t = some D ∧ isIface D = false

theorem run_under {t : TypeId} {D : TypeDesc} (h : P.underlying t = some D) (w : World) : (underlying t).run P w = .ok D w := by
  simp [underlying, program, Sem.run, bind, Sem.bind, pure, h]
theorem Und.run {t : TypeId} {D : TypeDesc} (h : Und P t D) (w : World) : (underlying t).run P w = .ok D w := run_under h.out w

theorem P_conv {s t : TypeId} {x : Operand} {k k2 : IntKind} {p : Int} (hs : Und P s (.int k)) (ht : Und P t (.int k2)) (hx : ev E x = some (.int k p)) :
    Pure P N E M (.convert s t x) (.int k2 (k2.wrap p)) := by
  constructor
  intro pr base w0 a w hA hS d ty pos after g
  simp [execOp, hA.eval hx, Sem.run, pure, bind, Sem.bind, convert, underlying, program, hs.out, ht.out, Conv.intToInt]
/-- a conversion that keeps the number -/
theorem P_convk {s t : TypeId} {x : Operand} {k k2 : IntKind} {p : Int} (hs : Und P s (.int k)) (ht : Und P t (.int k2)) (hx : ev E x = some (.int k p)) (h : inK k2 p) :
    Pure P N E M (.convert s t x) (.int k2 p) := by
  have := P_conv (M := M) (N := N) hs ht hx
  rwa [wrap_id h.lo h.hi] at this

/-! ### Places and loads -/

theorem size_of {t : TypeId} {n : Nat} (h : P.cellsOf t = n) (h0 : 0 < n) : ∃ i, P.info? t = some i ∧ i.size = n := by
  unfold Program.cellsOf at h
  cases hi : P.info? t with
  | none => rw [hi] at h; simp at h; omega
  | some i => rw [hi] at h; simp at h; exact ⟨i, rfl, h⟩

/-- 'xs[i]' as a place: a slice of elements of n cells. -/
theorem P_index {t e : TypeId} {x i : Operand} {b o len cap n : Nat} {k : IntKind} {z : Int} (ht : Und P t (.slice e)) (he : Cel P e n) (hn : 0 < n)
    (hx : ev E x = some (.slice (some ⟨b, o, none⟩) len cap)) (hi : ev E i = some (.int k z)) (h0 : 0 ≤ z) (h1 : z < len) :
    Pure P N E M (.indexAddr t x i) (.pointer (some ⟨b, o + z.toNat * n, none⟩)) := by
  constructor
  intro pr base w0 a w hA hS d ty pos after g
  obtain ⟨I, hI, hs⟩ := size_of he.out hn
  have : (Addr.add ⟨b, o, none⟩ (z.toNat * n)) = ⟨b, o + z.toNat * n, none⟩ := by
    unfold Addr.add; split
    · rename_i h; simp [h]
    · rfl
  simp [execOp, hA.eval hx, hA.eval hi, Instr.indexAt, asIntOf, underlying, program, ht.out, sizeOf, typeInfo, hI, hs, h0, h1, this, Sem.run, pure, bind, Sem.bind]

/-- .. of elements of one cell. -/
theorem P_index1 {t e : TypeId} {x i : Operand} {b o len cap : Nat} {k : IntKind} {z : Int} (ht : Und P t (.slice e)) (he : Cel P e 1)
    (hx : ev E x = some (.slice (some ⟨b, o, none⟩) len cap)) (hi : ev E i = some (.int k z)) (h0 : 0 ≤ z) (h1 : z < len) :
    Pure P N E M (.indexAddr t x i) (.pointer (some ⟨b, o + z.toNat, none⟩)) := by
  have := P_index (N := N) (M := M) ht he (by omega) hx hi h0 h1
  simpa using this

theorem run_loadVar {t : TypeId} {D : TypeDesc} (ht : P.underlying t = some D) (hD : isAggD D = false) {w : World} {ad : Addr} {v : Value} (h : w.cell? ad = some v) : (loadVar t ad).run P w = .ok v w := by
  cases D <;> simp [isAggD] at hD <;> simp [loadVar, isAgg, underlying, program, ht, load, Sem.run, pure, bind, Sem.bind, h]

theorem P_load {t : TypeId} {x : Operand} {own : Bool} {b o n : Nat} {l : List Value} {v : Value} (ht : PlainT P t)
    (hx : ev E x = some (.pointer (some ⟨b, o + n, none⟩))) (hm : (⟨own, b, o, l⟩ : Sg) ∈ M) (hv : l[n]? = some v) : Pure P N E M (.load t x) v := by
  constructor
  intro pr base w0 a w hA hS d ty pos after g
  have hc := (hS.seg _ hm).cell hv
  obtain ⟨D, ht, hD⟩ := ht.out
  have := run_loadVar ht hD hc
  simp only [execOp, Instr.loadAt, Instr.sureAddr, hA.eval hx]
  simp [this]

def ints (k : IntKind) (l : List Int) : List Value := l.map (.int k)
theorem ints_length (k : IntKind) (l : List Int) : (ints k l).length = l.length := by simp [ints]
theorem ints_get {k : IntKind} {l : List Int} {i : Nat} (h : i < l.length) : (ints k l)[i]? = some (.int k (l.getD i 0)) := by
  simp [ints, h]
theorem ints_set (k : IntKind) (l : List Int) (i : Nat) (z : Int) : (ints k l).set i (.int k z) = ints k (l.set i z) := by
  simp [ints, List.map_set]

/-- An element of a row of numbers. -/
def rd (l : List Int) (z : Int) : Int := l.getD z.toNat 0
def wr (l : List Int) (z v : Int) : List Int := l.set z.toNat v
theorem wr_length (l : List Int) (z v : Int) : (wr l z v).length = l.length := by simp [wr]

theorem P_loadi {t : TypeId} {x : Operand} {own : Bool} {b o : Nat} {l : List Int} {k : IntKind} {z : Int} (ht : Und P t (.int k))
    (hx : ev E x = some (.pointer (some ⟨b, o + z.toNat, none⟩))) (hm : (⟨own, b, o, ints k l⟩ : Sg) ∈ M) (h : z.toNat < l.length) : Pure P N E M (.load t x) (.int k (rd l z)) :=
  P_load ⟨_, ht.out, rfl⟩ hx hm (ints_get h)

theorem P_nil {x : Operand} {ad : Addr} (hx : ev E x = some (.pointer (some ad))) : Pure P N E M (.nilCheck x) (.pointer (some ad)) := by
  constructor
  intro pr base w0 a w hA hS d ty pos after g
  simp [execOp, hA.eval hx, Sem.run, pure]
end
attribute [irreducible] ints
end Go.Proofs.Ytjkpfliaflmppaa.Vm
