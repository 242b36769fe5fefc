/- Rules for unsigned numbers, told as natural numbers. No condition. -/
import Derived.Test.YtjkpfliaflmppaaVm5
namespace Go.Proofs.Ytjkpfliaflmppaa.Vm
open Go Go.RowKit

section
variable {pr : Bool} {P : Program} {N : Fm} {E : Env} {M : Mem}

theorem wrap_nat {k : IntKind} (hk : k.signed = false) (n : Nat) : k.wrap (n : Int) = ((n % 2 ^ k.bits : Nat) : Int) := by
  cases k <;> simp [IntKind.signed] at hk <;> simp [IntKind.wrap, IntKind.signed, IntKind.bits]

theorem wrap_nat_lt {k : IntKind} (hk : k.signed = false) {n : Nat} (h : n < 2 ^ k.bits) : k.wrap (n : Int) = (n : Int) := by
  rw [wrap_nat hk, Nat.mod_eq_of_lt h]

/-- '&', '|', '^' of natural numbers. -/
def bitN : BinOp → Nat → Nat → Option Nat
  | .and, p, q => some (p &&& q)
  | .or, p, q => some (p ||| q)
  | .xor, p, q => some (p ^^^ q)
  | _, _, _ => none

theorem ofInt_nat (n p : Nat) (h : p < 2 ^ n) : (BitVec.ofInt n (p : Int)).toNat = p := by
  rw [BitVec.ofInt_natCast, BitVec.toNat_ofNat, Nat.mod_eq_of_lt h]

theorem P_bitN {op : BinOp} {t t2 : TypeId} {x y : Operand} {k : IntKind} {p q r : Nat} (hx : ev E x = some (.int k (p : Int))) (hy : ev E y = some (.int k (q : Int))) (hr : bitN op p q = some r) (hk : k.signed = false)
    (hp : p < 2 ^ k.bits) (hq : q < 2 ^ k.bits) : Pure P N E M (.binOp op t x y t2) (.int k (r : Int)) := by
  cases op <;> simp [bitN] at hr <;> subst hr
  · have := P_bits (P := P) (N := N) (M := M) (op := .and) (t := t) (t2 := t2) hx hy rfl
    rw [BitVec.toNat_and, ofInt_nat _ _ hp, ofInt_nat _ _ hq, wrap_nat_lt hk (Nat.lt_of_le_of_lt Nat.and_le_left hp)] at this
    exact this
  · have := P_bits (P := P) (N := N) (M := M) (op := .or) (t := t) (t2 := t2) hx hy rfl
    rw [BitVec.toNat_or, ofInt_nat _ _ hp, ofInt_nat _ _ hq, wrap_nat_lt hk (Nat.or_lt_two_pow hp hq)] at this
    exact this
  · have := P_bits (P := P) (N := N) (M := M) (op := .xor) (t := t) (t2 := t2) hx hy rfl
    rw [BitVec.toNat_xor, ofInt_nat _ _ hp, ofInt_nat _ _ hq, wrap_nat_lt hk (Nat.xor_lt_two_pow hp hq)] at this
    exact this

theorem P_shrN {t t2 : TypeId} {x y : Operand} {k k2 : IntKind} {p q : Nat} (hx : ev E x = some (.int k (p : Int))) (hy : ev E y = some (.int k2 (q : Int))) (hp : p < 2 ^ k.bits) :
    Pure P N E M (.binOp .shr t x y t2) (.int k ((p / 2 ^ q : Nat) : Int)) := by
  have := P_shr (P := P) (N := N) (M := M) (t := t) (t2 := t2) hx hy (by omega)
  have e : (p : Int).fdiv (2 ^ min (q : Int).toNat k.bits) = ((p / 2 ^ q : Nat) : Int) := by
    simp only [Int.toNat_natCast]
    rw [Int.fdiv_eq_ediv_of_nonneg _ (by exact Int.le_of_lt (Int.pow_pos (by omega)))]
    have h2 : ((p : Int) / 2 ^ min q k.bits) = ((p / 2 ^ min q k.bits : Nat) : Int) := by simp
    rw [h2]
    congr 1
    rcases Nat.le_total q k.bits with h | h
    · rw [Nat.min_eq_left h]
    · rw [Nat.min_eq_right h, Nat.div_eq_of_lt hp, Nat.div_eq_of_lt (Nat.lt_of_lt_of_le hp (Nat.pow_le_pow_right (by omega) h))]
  rw [e] at this
  exact this

theorem P_shlN {t t2 : TypeId} {x y : Operand} {k k2 : IntKind} {p q : Nat} (hx : ev E x = some (.int k (p : Int))) (hy : ev E y = some (.int k2 (q : Int))) (hk : k.signed = false) :
    Pure P N E M (.binOp .shl t x y t2) (.int k ((p * 2 ^ q % 2 ^ k.bits : Nat) : Int)) := by
  have := P_shl (P := P) (N := N) (M := M) (t := t) (t2 := t2) hx hy (by omega)
  have e : k.wrap ((p : Int) * 2 ^ min (q : Int).toNat k.bits) = ((p * 2 ^ q % 2 ^ k.bits : Nat) : Int) := by
    simp only [Int.toNat_natCast]
    have h2 : ((p : Int) * 2 ^ min q k.bits) = ((p * 2 ^ min q k.bits : Nat) : Int) := by simp
    rw [h2, wrap_nat hk]
    congr 1
    rcases Nat.le_total q k.bits with h | h
    · rw [Nat.min_eq_left h]
    · rw [Nat.min_eq_right h]
      have h3 : 2 ^ q = 2 ^ k.bits * 2 ^ (q - k.bits) := by rw [← Nat.pow_add]; congr 1; omega
      rw [h3, ← Nat.mul_assoc, Nat.mul_mod_left, Nat.mul_right_comm, Nat.mul_mod_left]
  rw [e] at this
  exact this

theorem P_convN {s t : TypeId} {x : Operand} {k k2 : IntKind} {p : Nat} (hs : Und P s (.int k)) (ht : Und P t (.int k2)) (hx : ev E x = some (.int k (p : Int))) (hk : k2.signed = false) :
    Pure P N E M (.convert s t x) (.int k2 ((p % 2 ^ k2.bits : Nat) : Int)) := by
  have := P_conv (P := P) (N := N) (M := M) hs ht hx
  rw [wrap_nat hk] at this
  exact this

/-- Sums, differences and products, told as natural numbers and cut to their kind. -/
theorem P_addN {t t2 : TypeId} {x y : Operand} {k : IntKind} {p q : Nat} (hx : ev E x = some (.int k (p : Int))) (hy : ev E y = some (.int k (q : Int))) (hk : k.signed = false) :
    Pure P N E M (.binOp .add t x y t2) (.int k (((p + q) % 2 ^ k.bits : Nat) : Int)) := by
  have := P_arw (P := P) (N := N) (M := M) (op := .add) (t := t) (t2 := t2) hx hy rfl
  have e : k.wrap ((p : Int) + q) = (((p + q) % 2 ^ k.bits : Nat) : Int) := by rw [← wrap_nat hk]; simp
  rw [e] at this
  exact this
/-- .. with the result as one says it. -/
theorem P_shlE {t t2 : TypeId} {x y : Operand} {k k2 : IntKind} {p q r : Nat} (hx : ev E x = some (.int k (p : Int))) (hy : ev E y = some (.int k2 (q : Int))) (hk : k.signed = false) (hr : p * 2 ^ q % 2 ^ k.bits = r) :
    Pure P N E M (.binOp .shl t x y t2) (.int k (r : Int)) := by subst hr; exact P_shlN hx hy hk
theorem P_shrE {t t2 : TypeId} {x y : Operand} {k k2 : IntKind} {p q r : Nat} (hx : ev E x = some (.int k (p : Int))) (hy : ev E y = some (.int k2 (q : Int))) (hp : p < 2 ^ k.bits) (hr : p / 2 ^ q = r) :
    Pure P N E M (.binOp .shr t x y t2) (.int k (r : Int)) := by subst hr; exact P_shrN hx hy hp
theorem P_addE {t t2 : TypeId} {x y : Operand} {k : IntKind} {p q r : Nat} (hx : ev E x = some (.int k (p : Int))) (hy : ev E y = some (.int k (q : Int))) (hk : k.signed = false) (hr : (p + q) % 2 ^ k.bits = r) :
    Pure P N E M (.binOp .add t x y t2) (.int k (r : Int)) := by subst hr; exact P_addN hx hy hk
/-- Any result that is equal. -/
theorem P_is {op : Op} {v v' : Value} (h : Pure P N E M op v) (e : v = v') : Pure P N E M op v' := e ▸ h

/-! ### Places that are told by a sum -/

theorem P_loadAt {t : TypeId} {x : Operand} {own : Bool} {b p o n : Nat} {l : List Value} {v : Value} (ht : PlainT P t)
    (hx : ev E x = some (.pointer (some ⟨b, p, none⟩))) (hp : p = o + n) (hm : (⟨own, b, o, l⟩ : Sg) ∈ M) (hv : l[n]? = some v) : Pure P N E M (.load t x) v := by
  subst hp; exact P_load ht hx hm hv

theorem P_loadAggAt {t : TypeId} {x : Operand} {own : Bool} {b p o n i : Nat} {l cs : List Value} (ht : AggT P t) (hn : Cel P t n) (hn0 : 0 < n)
    (hx : ev E x = some (.pointer (some ⟨b, p, none⟩))) (hp : p = o + i) (hm : (⟨own, b, o, l⟩ : Sg) ∈ M) (hl : i + n ≤ l.length) (hc : (l.drop i).take n = cs) : Pure P N E M (.load t x) (.agg cs.toArray) := by
  subst hp; exact P_loadAgg ht hn hn0 hx hm hl hc

variable {Fin : Post} {k : List Kn} {ops : List Oper} {rest : List Oper} {d : Nat} {op : Op} {ty : TypeId} {pos : String} {after : Array Edge} {g : Option (Nat × Bool)} {v : Value}

theorem O_storeAt {t : TypeId} {p x : Operand} {b q o n : Nat} {l l' : List Value} {v : Value} {M' : Mem} (ht : Cel P t 1) (hp : ev E p = some (.pointer (some ⟨b, q, none⟩))) (hq : q = o + n) (hx : ev E x = some v)
    (hv : v.oneCell' = true) (hg : On E ops g) (hn : n < l.length) (hl : l.set n v = l') (hu : Upd1 M ⟨true, b, o, l⟩ l' M') (h : WO false P N Fin ops rest k E M') : WO false P N Fin ops (⟨none, .store t p x, ty, pos, after, g⟩ :: rest) k E M := by
  subst hq; subst hl; exact O_store ht hp hx hv hg hn hu h
theorem O_storeiE {t : TypeId} {p x : Operand} {b o : Nat} {l l' : List Int} {kd : IntKind} {z v : Int} {M' : Mem} (ht : Cel P t 1) (hp : ev E p = some (.pointer (some ⟨b, o + z.toNat, none⟩)))
    (hx : ev E x = some (.int kd v)) (hl : wr l z v = l') (hg : On E ops g) (hu : Upd1 M ⟨true, b, o, ints kd l⟩ (ints kd l') M') (hn : z.toNat < l.length) (h : WO false P N Fin ops rest k E M') :
    WO false P N Fin ops (⟨none, .store t p x, ty, pos, after, g⟩ :: rest) k E M := by
  subst hl; exact O_storei ht hp hx hg hu hn h
end
end Go.Proofs.Ytjkpfliaflmppaa.Vm
