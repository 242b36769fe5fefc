/- Rules whose table facts and rows of memory are found by instances: short words. No condition. -/
import Derived.Test.YtjkpfliaflmppaaVm11
namespace Go.Proofs.Ytjkpfliaflmppaa.Vm
open Go Go.RowKit

class UndC (P : Program) (t : TypeId) (D : outParam TypeDesc) : Prop where
  out : Und P t D
class CelC (P : Program) (t : TypeId) (n : outParam Nat) : Prop where
  out : Cel P t n
class PlainC (P : Program) (t : TypeId) : Prop where
  out : PlainT P t
class NonIfC (P : Program) (t : TypeId) : Prop where
  out : NonIfT P t
class FldC (P : Program) (s : TypeId) (f : Nat) (off : outParam Nat) : Prop where
  out : Fld P s f off

class TakeI (M : Mem) (b o : Nat) (own : outParam Bool) (l : outParam (List Value)) (M0 : outParam Mem) : Prop where
  out : Take1 M ⟨own, b, o, l⟩ M0
instance (priority := high) {M : Mem} {b o : Nat} {own : Bool} {l : List Value} : TakeI (⟨own, b, o, l⟩ :: M) b o own l M := ⟨.head⟩
instance {M M0 : Mem} {b o : Nat} {own : Bool} {l : List Value} {x : Sg} [h : TakeI M b o own l M0] : TakeI (x :: M) b o own l (x :: M0) := ⟨.tail h.out⟩

/-- A row's cells put anew, in its place. -/
class UpdI (M : Mem) (b o : Nat) (l l' : List Value) (M' : outParam Mem) : Prop where
  out : Upd1 M ⟨true, b, o, l⟩ l' M'
instance (priority := high) {M : Mem} {b o : Nat} {l l' : List Value} : UpdI (⟨true, b, o, l⟩ :: M) b o l l' (⟨true, b, o, l'⟩ :: M) := ⟨.head⟩
instance {M M' : Mem} {b o : Nat} {l l' : List Value} {x : Sg} [h : UpdI M b o l l' M'] : UpdI (x :: M) b o l l' (x :: M') := ⟨.tail h.out⟩
class SetI (l : List Value) (n : Nat) (v : Value) (l' : outParam (List Value)) : Prop where
  out : SetAt l n v l'
instance {u v : Value} {l : List Value} : SetI (u :: l) 0 v (v :: l) := ⟨.zero⟩
instance {x v : Value} {l l' : List Value} {n : Nat} [h : SetI l n v l'] : SetI (x :: l) (n + 1) v (x :: l') := ⟨.succ h.out⟩
class UpdCI (M : Mem) (b o n : Nat) (v : Value) (M' : outParam Mem) : Prop where
  out : UpdC M b o n v M'
instance (priority := high) {M : Mem} {b o n : Nat} {v : Value} {l l' : List Value} [h : SetI l n v l'] : UpdCI (⟨true, b, o, l⟩ :: M) b o n v (⟨true, b, o, l'⟩ :: M) := ⟨.head h.out⟩
instance {M M' : Mem} {b o n : Nat} {v : Value} {x : Sg} [h : UpdCI M b o n v M'] : UpdCI (x :: M) b o n v (x :: M') := ⟨.tail h.out⟩

/-- Rows put together by '++'. -/
instance {M M0 : Mem} {b o : Nat} {own : Bool} {l : List Value} {x : Sg} {L : Mem} [h : TakeI (x :: (L ++ M)) b o own l M0] : TakeI ((x :: L) ++ M) b o own l M0 := ⟨h.out⟩
instance {M M0 : Mem} {b o : Nat} {own : Bool} {l : List Value} [h : TakeI M b o own l M0] : TakeI ([] ++ M) b o own l M0 := ⟨h.out⟩
instance {M M' : Mem} {b o : Nat} {l l' : List Value} {x : Sg} {L : Mem} [h : UpdI (x :: (L ++ M)) b o l l' M'] : UpdI ((x :: L) ++ M) b o l l' M' := ⟨h.out⟩
instance {M M' : Mem} {b o : Nat} {l l' : List Value} [h : UpdI M b o l l' M'] : UpdI ([] ++ M) b o l l' M' := ⟨h.out⟩

section
variable {P : Program} {N : Fm} {Fin : Post} {k : List Kn} {E : Env} {M : Mem}
variable {ops : List Oper} {rest : List Oper} {d : Nat} {ty : TypeId} {pos : String} {after : Array Edge} {g : Option (Nat × Bool)}

theorem I_load0 {t : TypeId} {x : Operand} {own : Bool} {b o : Nat} {l : List Value} {v : Value} {M0 : Mem} [ht : PlainC P t]
    (hx : ev E x = some (.pointer (some ⟨b, o, none⟩))) [hm : TakeI M b o own (v :: l) M0] : Pure P N E M (.load t x) v := P_load0 ht.out hx hm.out.mem
theorem I_load {t : TypeId} {x : Operand} {own : Bool} {b o n : Nat} {l : List Value} {v : Value} {M0 : Mem} [ht : PlainC P t]
    (hx : ev E x = some (.pointer (some ⟨b, o + n, none⟩))) [hm : TakeI M b o own l M0] (hv : l[n]? = some v) : Pure P N E M (.load t x) v := P_load ht.out hx hm.out.mem hv
theorem I_loadi {t : TypeId} {x : Operand} {own : Bool} {b o : Nat} {l : List Int} {kd : IntKind} {z : Int} {M0 : Mem} [ht : UndC P t (.int kd)]
    (hx : ev E x = some (.pointer (some ⟨b, o + z.toNat, none⟩))) [hm : TakeI M b o own (ints kd l) M0] (h : z.toNat < l.length) : Pure P N E M (.load t x) (.int kd (rd l z)) := P_loadi ht.out hx hm.out.mem h
theorem I_index1 {t e : TypeId} {x i : Operand} {b o len cap : Nat} {kd : IntKind} {z : Int} [ht : UndC P t (.slice e)] [he : CelC P e 1]
    (hx : ev E x = some (.slice (some ⟨b, o, none⟩) len cap)) (hi : ev E i = some (.int kd z)) (h0 : 0 ≤ z) (h1 : z < len) : Pure P N E M (.indexAddr t x i) (.pointer (some ⟨b, o + z.toNat, none⟩)) := P_index1 ht.out he.out hx hi h0 h1
theorem I_index {t e : TypeId} {x i : Operand} {b o len cap n : Nat} {kd : IntKind} {z : Int} [ht : UndC P t (.slice e)] [he : CelC P e n] (hn : Nat.blt 0 n = true)
    (hx : ev E x = some (.slice (some ⟨b, o, none⟩) len cap)) (hi : ev E i = some (.int kd z)) (h0 : 0 ≤ z) (h1 : z < len) : Pure P N E M (.indexAddr t x i) (.pointer (some ⟨b, o + z.toNat * n, none⟩)) :=
  P_index ht.out he.out (by simpa [Nat.blt_eq] using hn) hx hi h0 h1
theorem I_field {s : TypeId} {x : Operand} {f off b o : Nat} [hf : FldC P s f off] (hx : ev E x = some (.pointer (some ⟨b, o, none⟩))) : Pure P N E M (.fieldAddr s x f) (.pointer (some ⟨b, o + off, none⟩)) := P_field hf.out hx
theorem I_convk {s t : TypeId} {x : Operand} {kd k2 : IntKind} {p : Int} [hs : UndC P s (.int kd)] [ht : UndC P t (.int k2)] (hx : ev E x = some (.int kd p)) (h : inK k2 p) : Pure P N E M (.convert s t x) (.int k2 p) := P_convk hs.out ht.out hx h
theorem I_len {x : Operand} {t e : TypeId} {base : Option Addr} {len cap : Nat} [ht : UndC P t (.slice e)] (hx : ev E x = some (.slice base len cap)) :
    Pure P N E M (.call { callee := .builtin .len, args := #[x], argTypes := #[t] }) (.int .i64 len) := P_len ht.out hx
theorem I_mkiface {t : TypeId} {x : Operand} {v : Value} [ht : NonIfC P t] (hx : ev E x = some v) : Pure P N E M (.makeInterface t x) (.iface t v) := P_mkiface ht.out hx

theorem I_indexA1 {t e : TypeId} {x i : Operand} {b o len : Nat} {kd : IntKind} {z : Int} [ht : UndC P t (.array len e)] [he : CelC P e 1]
    (hx : ev E x = some (.pointer (some ⟨b, o, none⟩))) (hi : ev E i = some (.int kd z)) (h0 : 0 ≤ z) (h1 : z < len) : Pure P N E M (.indexAddr t x i) (.pointer (some ⟨b, o + z.toNat, none⟩)) := P_indexA1 ht.out he.out hx hi h0 h1
theorem I_indexA {t e : TypeId} {x i : Operand} {b o len n : Nat} {kd : IntKind} {z : Int} [ht : UndC P t (.array len e)] [he : CelC P e n] (hn : Nat.blt 0 n = true)
    (hx : ev E x = some (.pointer (some ⟨b, o, none⟩))) (hi : ev E i = some (.int kd z)) (h0 : 0 ≤ z) (h1 : z < len) : Pure P N E M (.indexAddr t x i) (.pointer (some ⟨b, o + z.toNat * n, none⟩)) :=
  P_indexA ht.out he.out (by simpa [Nat.blt_eq] using hn) hx hi h0 h1

/-- Stores: the row that is written keeps its place. -/
theorem I_store {t : TypeId} {p x : Operand} {b o n : Nat} {l : List Value} {v : Value} {M0 M' : Mem} [ht : CelC P t 1] (hp : ev E p = some (.pointer (some ⟨b, o + n, none⟩))) (hx : ev E x = some v)
    (hv : v.oneCell' = true) (hg : On E ops g) [hm : TakeI M b o true l M0] (hn : n < l.length) [hu : UpdI M b o l (l.set n v) M'] (h : WO false P N Fin ops rest k E M') : WO false P N Fin ops (⟨none, .store t p x, ty, pos, after, g⟩ :: rest) k E M :=
  O_store ht.out hp hx hv hg hn hu.out h
theorem I_storeC {t : TypeId} {p x : Operand} {b o n : Nat} {v : Value} {M' : Mem} [ht : CelC P t 1] (hp : ev E p = some (.pointer (some ⟨b, o + n, none⟩))) (hx : ev E x = some v)
    (hv : v.oneCell' = true) (hg : On E ops g) [hu : UpdCI M b o n v M'] (h : WO false P N Fin ops rest k E M') : WO false P N Fin ops (⟨none, .store t p x, ty, pos, after, g⟩ :: rest) k E M :=
  O_storeC ht.out hp hx hv hg hu.out h
theorem I_store0 {t : TypeId} {p x : Operand} {b o : Nat} {l : List Value} {u v : Value} {M0 M' : Mem} [ht : CelC P t 1] (hp : ev E p = some (.pointer (some ⟨b, o, none⟩))) (hx : ev E x = some v)
    (hv : v.oneCell' = true) (hg : On E ops g) [hm : TakeI M b o true (u :: l) M0] [hu : UpdI M b o (u :: l) (v :: l) M'] (h : WO false P N Fin ops rest k E M') : WO false P N Fin ops (⟨none, .store t p x, ty, pos, after, g⟩ :: rest) k E M :=
  O_store0 ht.out hp hx hv hg hu.out h
theorem I_storei {t : TypeId} {p x : Operand} {b o : Nat} {l : List Int} {kd : IntKind} {z v : Int} {M0 M' : Mem} [ht : CelC P t 1] (hp : ev E p = some (.pointer (some ⟨b, o + z.toNat, none⟩)))
    (hx : ev E x = some (.int kd v)) (hg : On E ops g) [hm : TakeI M b o true (ints kd l) M0] (hn : z.toNat < l.length) [hu : UpdI M b o (ints kd l) (ints kd (wr l z v)) M'] (h : WO false P N Fin ops rest k E M') :
    WO false P N Fin ops (⟨none, .store t p x, ty, pos, after, g⟩ :: rest) k E M :=
  O_storei ht.out hp hx hg hu.out hn h
end
end Go.Proofs.Ytjkpfliaflmppaa.Vm
