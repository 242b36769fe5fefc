/- Inverse, shifts by one, remainders by two, pointers held against each other. No condition. Facts on the translation's tables: cells of types, places of fields, functions that have a body. No condition. The table facts as instances. No condition. getCounts, getBuckets. Conditions: the text's letters are less than k; at most 1000 letters. getBuckets: where each letter's part begins, or ends. Conditions: as getCounts. -/
import Derived.Test.YtcibehgcibojnaaW4x05
import Derived.Test.YtcibehgcibojnaaW4x03
import Derived.Test.YtcibehgcibojnaaProg
import Derived.Test.YtcibehgcibojnaaW4x04
import Derived.Test.YtcibehgcibojnaaW4x02

namespace Go.Proofs.Ytcibehgcibojnaa.Vm
open Go Go.RowKit
section
variable {pr : Bool} {P : Program} {N : Fm} {k : List Kn} {E : Env} {M : Mem} {ops rest : List Oper} {o : Oper} {d : Nat} {v : Value}
def xoS (n : Nat) (ops : List Oper) (E : Env) (o : Oper) : Option (Nat × Int) :=
  match onS n ops E o with
  | some (d, .unOp .xor _ x) => match ev E x with
    | some (.int .i64 p) => some (d, p)
    | _ => none
  | _ => none
theorem Pz {p : Int} (h : xoS N.n ops E o = some (d, p)) (h1 : -9223372036854775808 ≤ p) (h2 : p ≤ 9223372036854775807) : PS P N ops E M o d (.int .i64 (-1 - p)) := by
  unfold xoS at h
  split at h
  · rename_i hon
    split at h
    · rename_i hx; cases h; exact ps_of hon (P_inv hx (inK_i64 h1 h2))
    · cases h
  · cases h
theorem P_shr1 {t t2 : TypeId} {x : Operand} {kd : IntKind} {k2 : IntKind} {p : Int} (hx : ev E x = some (.int .i64 p)) : Pure P N E M (.binOp .shr t x (.const (.int k2 1)) t2) (.int .i64 (p / 2)) := by
  refine P_is (P_shr hx rfl (by decide)) (congrArg (Value.int .i64) ?_)
  show p.fdiv (2 ^ min (1 : Int).toNat 64) = p / 2
  rw [show min (1 : Int).toNat 64 = 1 by decide, Int.fdiv_eq_ediv_of_nonneg _ (by decide)]
  rfl
theorem P_shl1 {t t2 : TypeId} {x : Operand} {k2 : IntKind} {p : Int} (hx : ev E x = some (.int .i64 p)) (h0 : 0 ≤ p) (h1 : p ≤ 1000000) : Pure P N E M (.binOp .shl t x (.const (.int k2 1)) t2) (.int .i64 (p * 2)) := by
  refine P_is (P_shl hx rfl (by decide)) (congrArg (Value.int .i64) ?_)
  show IntKind.i64.wrap (p * 2 ^ min (1 : Int).toNat 64) = p * 2
  rw [show min (1 : Int).toNat 64 = 1 by decide]
  exact wrap_id (show (-9223372036854775808 : Int) ≤ _ by omega) (show _ ≤ (9223372036854775807 : Int) by omega)
def shS (n : Nat) (ops : List Oper) (E : Env) (o : Oper) : Option (Nat × BinOp × Int) :=
  match onS n ops E o with
  | some (d, .binOp b _ x (.const (.int _ 1)) _) => match ev E x with
    | some (.int .i64 p) => some (d, b, p)
    | _ => none
  | _ => none
theorem Ph {p : Int} (h : shS N.n ops E o = some (d, .shr, p)) : PS P N ops E M o d (.int .i64 (p / 2)) := by
  unfold shS at h
  split at h
  · rename_i hon
    split at h
    · rename_i hx; cases h; exact ps_of hon (P_shr1 (kd := .i64) hx)
    · cases h
  · cases h
theorem Pg {p : Int} (h : shS N.n ops E o = some (d, .shl, p)) (h0 : 0 ≤ p) (h1 : p ≤ 1000000) : PS P N ops E M o d (.int .i64 (p * 2)) := by
  unfold shS at h
  split at h
  · rename_i hon
    split at h
    · rename_i hx; cases h; exact ps_of hon (P_shl1 hx h0 h1)
    · cases h
  · cases h
theorem or1 {p : Int} (h0 : 0 ≤ p) (h1 : p ≤ 1000000) : IntKind.i64.wrap ((BitVec.ofInt 64 (p * 2) ||| BitVec.ofInt 64 1).toNat : Int) = p * 2 + 1 := by
  obtain ⟨m, rfl⟩ : ∃ m : Nat, p = m := ⟨p.toNat, by omega⟩
  have e : (BitVec.ofInt 64 ((m : Int) * 2) ||| BitVec.ofInt 64 1).toNat = 2 * m + 1 := by
    rw [BitVec.toNat_or, BitVec.toNat_ofInt, BitVec.toNat_ofInt]
    have h2 : (((m : Int) * 2) % ((2 ^ 64 : Nat) : Int)).toNat = 2 * m := by omega
    have h3 : ((1 : Int) % ((2 ^ 64 : Nat) : Int)).toNat = 1 := by decide
    rw [h2, h3]
    have := Nat.two_pow_add_eq_or_of_lt (i := 1) (b := 1) (by decide) m
    simpa using this.symm
  rw [e]
  rw [wrap_id (show (-9223372036854775808 : Int) ≤ _ by omega) (show _ ≤ (9223372036854775807 : Int) by omega)]
  omega
theorem and1 {p : Int} (h0 : 0 ≤ p) (h1 : p ≤ 10000000) : IntKind.i64.wrap ((BitVec.ofInt 64 p &&& BitVec.ofInt 64 1).toNat : Int) = p % 2 := by
  obtain ⟨m, rfl⟩ : ∃ m : Nat, p = m := ⟨p.toNat, by omega⟩
  have e : (BitVec.ofInt 64 (m : Int) &&& BitVec.ofInt 64 1).toNat = m % 2 := by
    rw [BitVec.toNat_and, BitVec.toNat_ofInt, BitVec.toNat_ofInt]
    have h2 : ((m : Int) % ((2 ^ 64 : Nat) : Int)).toNat = m := by omega
    have h3 : ((1 : Int) % ((2 ^ 64 : Nat) : Int)).toNat = 1 := by decide
    rw [h2, h3]
    exact Nat.and_one_is_mod m
  rw [e]
  rw [wrap_id (show (-9223372036854775808 : Int) ≤ _ by omega) (show _ ≤ (9223372036854775807 : Int) by omega)]
  omega
theorem Po {p : Int} (h : bin2 N.n ops E o = some (d, .or, .i64, p * 2, .i64, 1)) (h0 : 0 ≤ p) (h1 : p ≤ 1000000) : PS P N ops E M o d (.int .i64 (p * 2 + 1)) := by
  obtain ⟨t, x, y, t2, hon, hx, hy⟩ := bin2_spec h
  exact ps_of hon (P_bits (op := .or) hx hy (congrArg some (or1 h0 h1)))
theorem Pe {p : Int} (h : bin2 N.n ops E o = some (d, .and, .i64, p, .i64, 1)) (h0 : 0 ≤ p) (h1 : p ≤ 10000000) : PS P N ops E M o d (.int .i64 (p % 2)) := by
  obtain ⟨t, x, y, t2, hon, hx, hy⟩ := bin2_spec h
  exact ps_of hon (P_bits (op := .and) hx hy (congrArg some (and1 h0 h1)))
theorem not_frozen {w : World} {b o : Nat} {c : Array Value} {T : TypeId} {lo hi : Nat} (h : w.heap[b]? = some (.cells c T (lo, hi))) (hl : hi ≤ lo) : w.frozen? ⟨b, o, none⟩ = false := by
  simp only [World.frozen?, h]
  simp only [Bool.and_eq_false_iff, decide_eq_false_iff_not]
  omega
theorem run_sameAddr_own {P : Program} {w : World} {b b' o o' : Nat} {c c' : Array Value} {T T' : TypeId} {lo hi lo' hi' : Nat} (hne : b ≠ b') (h : w.heap[b]? = some (.cells c T (lo, hi))) (hl : hi ≤ lo)
    (h' : w.heap[b']? = some (.cells c' T' (lo', hi'))) (hl' : hi' ≤ lo') : (sameAddr ⟨b, o, none⟩ ⟨b', o', none⟩).run P w = .ok false w := by
  have f1 := fun o => not_frozen (o := o) h hl
  have f2 := fun o => not_frozen (o := o) h' hl'
  simp [sameAddr, hne, f1, f2, noView, viewAt, mayBeOne, stringish, World.shape?, h, h']
theorem run_equalIn_ptr {P : Program} {w : World} {t e : TypeId} {I : TypeInfo} {b b' o o' : Nat} (ht : Und P t (.pointer e)) (hI : P.info? e = some I) (hI1 : I.size ≠ 0)
    (hs : (sameAddr ⟨b, o, none⟩ ⟨b', o', none⟩).run P w = .ok false w) (dp : Nat) : (Op.equalIn (dp + 1) t (.pointer (some ⟨b, o, none⟩)) (.pointer (some ⟨b', o', none⟩))).run P w = .ok false w := by
  simp [Op.equalIn, ht.run, sizeOf, typeInfo, hI, hI1, hs]
theorem P_peq {t e t2 : TypeId} {I : TypeInfo} {x y : Operand} {b b' o o' : Nat} {l l' : List Value} (ht : Und P t (.pointer e)) (hI : P.info? e = some I) (hI1 : I.size ≠ 0) (hx : ev E x = some (.pointer (some ⟨b, o, none⟩))) (hy : ev E y = some (.pointer (some ⟨b', o', none⟩)))
    {q q' : Nat} (hm : (⟨true, b, q, l⟩ : Sg) ∈ M) (hm' : (⟨true, b', q', l'⟩ : Sg) ∈ M) (hne : b ≠ b') : Pure P N E M (.binOp .eql t x y t2) (.bool false) := by
  constructor
  intro pr base w0 ac w hA hS dd ty pos after g
  obtain ⟨c, T, lo, hi, hh, _, _, h3⟩ := hS.seg _ hm
  obtain ⟨c', T', lo', hi', hh', _, _, h3'⟩ := hS.seg _ hm'
  have hs : (sameAddr ⟨b, o, none⟩ ⟨b', o', none⟩).run P w = .ok false w := run_sameAddr_own hne hh (h3 rfl).2 hh' (h3' rfl).2
  have h1 : (Op.equal t (.pointer (some ⟨b, o, none⟩)) (.pointer (some ⟨b', o', none⟩))).run P w = .ok false w := run_equalIn_ptr ht hI hI1 hs 9999
  have h2 : (eqGuard .eql t x y (.pointer (some ⟨b, o, none⟩)) (.pointer (some ⟨b', o', none⟩))).run P w = .ok () w := by simp [eqGuard]
  have h3 : binOp .eql t (.pointer (some ⟨b, o, none⟩)) (.pointer (some ⟨b', o', none⟩)) = (do pure (.bool (← Op.equal t (.pointer (some ⟨b, o, none⟩)) (.pointer (some ⟨b', o', none⟩))))) := rfl
  simp only [execOp, hA.eval hx, hA.eval hy, h3]
  simp [h1, h2]
end
end Go.Proofs.Ytcibehgcibojnaa.Vm

namespace Go.Proofs.Ytcibehgcibojnaa.Tb
open Go Go.Proofs.Ytcibehgcibojnaa.Vm
theorem mixed : Try.prog.follows .mixedOrders = true := by kernel_rfl
theorem c0 : Cel Try.prog 0 1 := ⟨by kernel_rfl⟩
theorem p0 : PlainT Try.prog 0 := ⟨_, Try.underlying0, rfl⟩
theorem n0 : NonIfT Try.prog 0 := ⟨_, Try.underlying0, rfl⟩
theorem c1 : Cel Try.prog 1 1 := ⟨by kernel_rfl⟩
theorem p1 : PlainT Try.prog 1 := ⟨_, Try.underlying1, rfl⟩
theorem n1 : NonIfT Try.prog 1 := ⟨_, Try.underlying1, rfl⟩
theorem c2 : Cel Try.prog 2 1 := ⟨by kernel_rfl⟩
theorem u2 : Und Try.prog 2 (.int .i64) := ⟨Try.underlying2⟩
theorem p2 : PlainT Try.prog 2 := ⟨_, Try.underlying2, rfl⟩
theorem n2 : NonIfT Try.prog 2 := ⟨_, Try.underlying2, rfl⟩
theorem c3 : Cel Try.prog 3 1 := ⟨by kernel_rfl⟩
theorem u3 : Und Try.prog 3 (.int .i64) := ⟨Try.underlying3⟩
theorem p3 : PlainT Try.prog 3 := ⟨_, Try.underlying3, rfl⟩
theorem n3 : NonIfT Try.prog 3 := ⟨_, Try.underlying3, rfl⟩
theorem c4 : Cel Try.prog 4 1 := ⟨by kernel_rfl⟩
theorem p4 : PlainT Try.prog 4 := ⟨_, Try.underlying4, rfl⟩
theorem n4 : NonIfT Try.prog 4 := ⟨_, Try.underlying4, rfl⟩
theorem c5 : Cel Try.prog 5 1 := ⟨by kernel_rfl⟩
theorem u5 : Und Try.prog 5 (.int .u8) := ⟨Try.underlying5⟩
theorem p5 : PlainT Try.prog 5 := ⟨_, Try.underlying5, rfl⟩
theorem n5 : NonIfT Try.prog 5 := ⟨_, Try.underlying5, rfl⟩
theorem c6 : Cel Try.prog 6 1 := ⟨by kernel_rfl⟩
theorem u6 : Und Try.prog 6 (.int .u8) := ⟨Try.underlying6⟩
theorem p6 : PlainT Try.prog 6 := ⟨_, Try.underlying6, rfl⟩
theorem n6 : NonIfT Try.prog 6 := ⟨_, Try.underlying6, rfl⟩
theorem c7 : Cel Try.prog 7 4 := ⟨by kernel_rfl⟩
theorem n7 : NonIfT Try.prog 7 := ⟨_, Try.underlying7, rfl⟩
theorem f7_0 : Fld Try.prog 7 0 0 := ⟨by kernel_rfl⟩
theorem f7_1 : Fld Try.prog 7 1 1 := ⟨by kernel_rfl⟩
theorem f7_2 : Fld Try.prog 7 2 2 := ⟨by kernel_rfl⟩
theorem f7_3 : Fld Try.prog 7 3 3 := ⟨by kernel_rfl⟩
theorem c8 : Cel Try.prog 8 4 := ⟨by kernel_rfl⟩
theorem n8 : NonIfT Try.prog 8 := ⟨_, Try.underlying8, rfl⟩
theorem f8_0 : Fld Try.prog 8 0 0 := ⟨by kernel_rfl⟩
theorem f8_1 : Fld Try.prog 8 1 1 := ⟨by kernel_rfl⟩
theorem f8_2 : Fld Try.prog 8 2 2 := ⟨by kernel_rfl⟩
theorem f8_3 : Fld Try.prog 8 3 3 := ⟨by kernel_rfl⟩
theorem c9 : Cel Try.prog 9 1 := ⟨by kernel_rfl⟩
theorem p9 : PlainT Try.prog 9 := ⟨_, Try.underlying9, rfl⟩
theorem n9 : NonIfT Try.prog 9 := ⟨_, Try.underlying9, rfl⟩
theorem c10 : Cel Try.prog 10 1 := ⟨by kernel_rfl⟩
theorem p10 : PlainT Try.prog 10 := ⟨_, Try.underlying10, rfl⟩
theorem n10 : NonIfT Try.prog 10 := ⟨_, Try.underlying10, rfl⟩
theorem c11 : Cel Try.prog 11 1 := ⟨by kernel_rfl⟩
theorem p11 : PlainT Try.prog 11 := ⟨_, Try.underlying11, rfl⟩
theorem n11 : NonIfT Try.prog 11 := ⟨_, Try.underlying11, rfl⟩
theorem c12 : Cel Try.prog 12 1 := ⟨by kernel_rfl⟩
theorem u12 : Und Try.prog 12 (.int .u64) := ⟨Try.underlying12⟩
theorem p12 : PlainT Try.prog 12 := ⟨_, Try.underlying12, rfl⟩
theorem n12 : NonIfT Try.prog 12 := ⟨_, Try.underlying12, rfl⟩
theorem c13 : Cel Try.prog 13 2 := ⟨by kernel_rfl⟩
theorem n13 : NonIfT Try.prog 13 := ⟨_, Try.underlying13, rfl⟩
theorem f13_0 : Fld Try.prog 13 0 0 := ⟨by kernel_rfl⟩
theorem f13_1 : Fld Try.prog 13 1 1 := ⟨by kernel_rfl⟩
theorem c14 : Cel Try.prog 14 2 := ⟨by kernel_rfl⟩
theorem n14 : NonIfT Try.prog 14 := ⟨_, Try.underlying14, rfl⟩
theorem f14_0 : Fld Try.prog 14 0 0 := ⟨by kernel_rfl⟩
theorem f14_1 : Fld Try.prog 14 1 1 := ⟨by kernel_rfl⟩
theorem c15 : Cel Try.prog 15 1 := ⟨by kernel_rfl⟩
theorem p15 : PlainT Try.prog 15 := ⟨_, Try.underlying15, rfl⟩
theorem n15 : NonIfT Try.prog 15 := ⟨_, Try.underlying15, rfl⟩
theorem c16 : Cel Try.prog 16 1 := ⟨by kernel_rfl⟩
theorem p16 : PlainT Try.prog 16 := ⟨_, Try.underlying16, rfl⟩
theorem n16 : NonIfT Try.prog 16 := ⟨_, Try.underlying16, rfl⟩
theorem c17 : Cel Try.prog 17 1 := ⟨by kernel_rfl⟩
theorem p17 : PlainT Try.prog 17 := ⟨_, Try.underlying17, rfl⟩
theorem n17 : NonIfT Try.prog 17 := ⟨_, Try.underlying17, rfl⟩
theorem c18 : Cel Try.prog 18 1 := ⟨by kernel_rfl⟩
theorem n18 : NonIfT Try.prog 18 := ⟨_, Try.underlying18, rfl⟩
theorem f18_0 : Fld Try.prog 18 0 0 := ⟨by kernel_rfl⟩
theorem c19 : Cel Try.prog 19 1 := ⟨by kernel_rfl⟩
theorem n19 : NonIfT Try.prog 19 := ⟨_, Try.underlying19, rfl⟩
theorem f19_0 : Fld Try.prog 19 0 0 := ⟨by kernel_rfl⟩
theorem c20 : Cel Try.prog 20 1 := ⟨by kernel_rfl⟩
theorem p20 : PlainT Try.prog 20 := ⟨_, Try.underlying20, rfl⟩
theorem c21 : Cel Try.prog 21 1 := ⟨by kernel_rfl⟩
theorem u21 : Und Try.prog 21 (.int .i32) := ⟨Try.underlying21⟩
theorem p21 : PlainT Try.prog 21 := ⟨_, Try.underlying21, rfl⟩
theorem n21 : NonIfT Try.prog 21 := ⟨_, Try.underlying21, rfl⟩
theorem c22 : Cel Try.prog 22 1 := ⟨by kernel_rfl⟩
theorem u22 : Und Try.prog 22 (.slice 5) := ⟨Try.underlying22⟩
theorem p22 : PlainT Try.prog 22 := ⟨_, Try.underlying22, rfl⟩
theorem n22 : NonIfT Try.prog 22 := ⟨_, Try.underlying22, rfl⟩
theorem c23 : Cel Try.prog 23 1 := ⟨by kernel_rfl⟩
theorem p23 : PlainT Try.prog 23 := ⟨_, Try.underlying23, rfl⟩
theorem n23 : NonIfT Try.prog 23 := ⟨_, Try.underlying23, rfl⟩
theorem c24 : Cel Try.prog 24 1 := ⟨by kernel_rfl⟩
theorem p24 : PlainT Try.prog 24 := ⟨_, Try.underlying24, rfl⟩
theorem n24 : NonIfT Try.prog 24 := ⟨_, Try.underlying24, rfl⟩
theorem c25 : Cel Try.prog 25 1 := ⟨by kernel_rfl⟩
theorem u25 : Und Try.prog 25 (.slice 3) := ⟨Try.underlying25⟩
theorem p25 : PlainT Try.prog 25 := ⟨_, Try.underlying25, rfl⟩
theorem n25 : NonIfT Try.prog 25 := ⟨_, Try.underlying25, rfl⟩
theorem c26 : Cel Try.prog 26 1 := ⟨by kernel_rfl⟩
theorem p26 : PlainT Try.prog 26 := ⟨_, Try.underlying26, rfl⟩
theorem n26 : NonIfT Try.prog 26 := ⟨_, Try.underlying26, rfl⟩
theorem c27 : Cel Try.prog 27 1 := ⟨by kernel_rfl⟩
theorem p27 : PlainT Try.prog 27 := ⟨_, Try.underlying27, rfl⟩
theorem n27 : NonIfT Try.prog 27 := ⟨_, Try.underlying27, rfl⟩
theorem c28 : Cel Try.prog 28 1 := ⟨by kernel_rfl⟩
theorem u28 : Und Try.prog 28 (.int .u16) := ⟨Try.underlying28⟩
theorem p28 : PlainT Try.prog 28 := ⟨_, Try.underlying28, rfl⟩
theorem n28 : NonIfT Try.prog 28 := ⟨_, Try.underlying28, rfl⟩
theorem c29 : Cel Try.prog 29 1 := ⟨by kernel_rfl⟩
theorem p29 : PlainT Try.prog 29 := ⟨_, Try.underlying29, rfl⟩
theorem n29 : NonIfT Try.prog 29 := ⟨_, Try.underlying29, rfl⟩
theorem c30 : Cel Try.prog 30 1 := ⟨by kernel_rfl⟩
theorem u30 : Und Try.prog 30 (.slice 4) := ⟨Try.underlying30⟩
theorem p30 : PlainT Try.prog 30 := ⟨_, Try.underlying30, rfl⟩
theorem n30 : NonIfT Try.prog 30 := ⟨_, Try.underlying30, rfl⟩
theorem c31 : Cel Try.prog 31 1 := ⟨by kernel_rfl⟩
theorem p31 : PlainT Try.prog 31 := ⟨_, Try.underlying31, rfl⟩
theorem n31 : NonIfT Try.prog 31 := ⟨_, Try.underlying31, rfl⟩
theorem c32 : Cel Try.prog 32 1 := ⟨by kernel_rfl⟩
theorem p32 : PlainT Try.prog 32 := ⟨_, Try.underlying32, rfl⟩
theorem n32 : NonIfT Try.prog 32 := ⟨_, Try.underlying32, rfl⟩
theorem c33 : Cel Try.prog 33 1 := ⟨by kernel_rfl⟩
theorem p33 : PlainT Try.prog 33 := ⟨_, Try.underlying33, rfl⟩
theorem n33 : NonIfT Try.prog 33 := ⟨_, Try.underlying33, rfl⟩
theorem c34 : Cel Try.prog 34 1 := ⟨by kernel_rfl⟩
theorem u34 : Und Try.prog 34 (.int .u64) := ⟨Try.underlying34⟩
theorem p34 : PlainT Try.prog 34 := ⟨_, Try.underlying34, rfl⟩
theorem n34 : NonIfT Try.prog 34 := ⟨_, Try.underlying34, rfl⟩
theorem c35 : Cel Try.prog 35 1 := ⟨by kernel_rfl⟩
theorem p35 : PlainT Try.prog 35 := ⟨_, Try.underlying35, rfl⟩
theorem n35 : NonIfT Try.prog 35 := ⟨_, Try.underlying35, rfl⟩
theorem c36 : Cel Try.prog 36 1 := ⟨by kernel_rfl⟩
theorem p36 : PlainT Try.prog 36 := ⟨_, Try.underlying36, rfl⟩
theorem n36 : NonIfT Try.prog 36 := ⟨_, Try.underlying36, rfl⟩
theorem c37 : Cel Try.prog 37 1 := ⟨by kernel_rfl⟩
theorem p37 : PlainT Try.prog 37 := ⟨_, Try.underlying37, rfl⟩
theorem n37 : NonIfT Try.prog 37 := ⟨_, Try.underlying37, rfl⟩
theorem c38 : Cel Try.prog 38 1 := ⟨by kernel_rfl⟩
theorem p38 : PlainT Try.prog 38 := ⟨_, Try.underlying38, rfl⟩
theorem n38 : NonIfT Try.prog 38 := ⟨_, Try.underlying38, rfl⟩
theorem c39 : Cel Try.prog 39 1 := ⟨by kernel_rfl⟩
theorem p39 : PlainT Try.prog 39 := ⟨_, Try.underlying39, rfl⟩
theorem n39 : NonIfT Try.prog 39 := ⟨_, Try.underlying39, rfl⟩
theorem c40 : Cel Try.prog 40 1 := ⟨by kernel_rfl⟩
theorem p40 : PlainT Try.prog 40 := ⟨_, Try.underlying40, rfl⟩
theorem n40 : NonIfT Try.prog 40 := ⟨_, Try.underlying40, rfl⟩
theorem c41 : Cel Try.prog 41 1 := ⟨by kernel_rfl⟩
theorem p41 : PlainT Try.prog 41 := ⟨_, Try.underlying41, rfl⟩
theorem n41 : NonIfT Try.prog 41 := ⟨_, Try.underlying41, rfl⟩
theorem c42 : Cel Try.prog 42 1 := ⟨by kernel_rfl⟩
theorem p42 : PlainT Try.prog 42 := ⟨_, Try.underlying42, rfl⟩
theorem n42 : NonIfT Try.prog 42 := ⟨_, Try.underlying42, rfl⟩
theorem c43 : Cel Try.prog 43 1 := ⟨by kernel_rfl⟩
theorem p43 : PlainT Try.prog 43 := ⟨_, Try.underlying43, rfl⟩
theorem n43 : NonIfT Try.prog 43 := ⟨_, Try.underlying43, rfl⟩
theorem c44 : Cel Try.prog 44 1 := ⟨by kernel_rfl⟩
theorem p44 : PlainT Try.prog 44 := ⟨_, Try.underlying44, rfl⟩
theorem n44 : NonIfT Try.prog 44 := ⟨_, Try.underlying44, rfl⟩
theorem c45 : Cel Try.prog 45 1 := ⟨by kernel_rfl⟩
theorem p45 : PlainT Try.prog 45 := ⟨_, Try.underlying45, rfl⟩
theorem n45 : NonIfT Try.prog 45 := ⟨_, Try.underlying45, rfl⟩
theorem c46 : Cel Try.prog 46 1 := ⟨by kernel_rfl⟩
theorem p46 : PlainT Try.prog 46 := ⟨_, Try.underlying46, rfl⟩
theorem n46 : NonIfT Try.prog 46 := ⟨_, Try.underlying46, rfl⟩
theorem c47 : Cel Try.prog 47 1 := ⟨by kernel_rfl⟩
theorem p47 : PlainT Try.prog 47 := ⟨_, Try.underlying47, rfl⟩
theorem n47 : NonIfT Try.prog 47 := ⟨_, Try.underlying47, rfl⟩
theorem c48 : Cel Try.prog 48 4 := ⟨by kernel_rfl⟩
theorem n48 : NonIfT Try.prog 48 := ⟨_, Try.underlying48, rfl⟩
theorem f48_0 : Fld Try.prog 48 0 0 := ⟨by kernel_rfl⟩
theorem f48_1 : Fld Try.prog 48 1 1 := ⟨by kernel_rfl⟩
theorem f48_2 : Fld Try.prog 48 2 2 := ⟨by kernel_rfl⟩
theorem f48_3 : Fld Try.prog 48 3 3 := ⟨by kernel_rfl⟩
theorem c49 : Cel Try.prog 49 4 := ⟨by kernel_rfl⟩
theorem n49 : NonIfT Try.prog 49 := ⟨_, Try.underlying49, rfl⟩
theorem f49_0 : Fld Try.prog 49 0 0 := ⟨by kernel_rfl⟩
theorem f49_1 : Fld Try.prog 49 1 1 := ⟨by kernel_rfl⟩
theorem f49_2 : Fld Try.prog 49 2 2 := ⟨by kernel_rfl⟩
theorem f49_3 : Fld Try.prog 49 3 3 := ⟨by kernel_rfl⟩
theorem u50 : Und Try.prog 50 (.array 0 16) := ⟨Try.underlying50⟩
theorem n50 : NonIfT Try.prog 50 := ⟨_, Try.underlying50, rfl⟩
theorem n51 : NonIfT Try.prog 51 := ⟨_, Try.underlying51, rfl⟩
theorem n52 : NonIfT Try.prog 52 := ⟨_, Try.underlying52, rfl⟩
theorem c53 : Cel Try.prog 53 1 := ⟨by kernel_rfl⟩
theorem p53 : PlainT Try.prog 53 := ⟨_, Try.underlying53, rfl⟩
theorem n53 : NonIfT Try.prog 53 := ⟨_, Try.underlying53, rfl⟩
theorem c54 : Cel Try.prog 54 1 := ⟨by kernel_rfl⟩
theorem u54 : Und Try.prog 54 (.int .u32) := ⟨Try.underlying54⟩
theorem p54 : PlainT Try.prog 54 := ⟨_, Try.underlying54, rfl⟩
theorem n54 : NonIfT Try.prog 54 := ⟨_, Try.underlying54, rfl⟩
theorem c55 : Cel Try.prog 55 1 := ⟨by kernel_rfl⟩
theorem u55 : Und Try.prog 55 (.int .u8) := ⟨Try.underlying55⟩
theorem p55 : PlainT Try.prog 55 := ⟨_, Try.underlying55, rfl⟩
theorem n55 : NonIfT Try.prog 55 := ⟨_, Try.underlying55, rfl⟩
theorem c56 : Cel Try.prog 56 1 := ⟨by kernel_rfl⟩
theorem u56 : Und Try.prog 56 (.int .u8) := ⟨Try.underlying56⟩
theorem p56 : PlainT Try.prog 56 := ⟨_, Try.underlying56, rfl⟩
theorem n56 : NonIfT Try.prog 56 := ⟨_, Try.underlying56, rfl⟩
theorem c57 : Cel Try.prog 57 1 := ⟨by kernel_rfl⟩
theorem p57 : PlainT Try.prog 57 := ⟨_, Try.underlying57, rfl⟩
theorem n57 : NonIfT Try.prog 57 := ⟨_, Try.underlying57, rfl⟩
theorem c58 : Cel Try.prog 58 1 := ⟨by kernel_rfl⟩
theorem p58 : PlainT Try.prog 58 := ⟨_, Try.underlying58, rfl⟩
theorem n58 : NonIfT Try.prog 58 := ⟨_, Try.underlying58, rfl⟩
theorem c59 : Cel Try.prog 59 1 := ⟨by kernel_rfl⟩
theorem u59 : Und Try.prog 59 (.int .i32) := ⟨Try.underlying59⟩
theorem p59 : PlainT Try.prog 59 := ⟨_, Try.underlying59, rfl⟩
theorem n59 : NonIfT Try.prog 59 := ⟨_, Try.underlying59, rfl⟩
theorem c60 : Cel Try.prog 60 1 := ⟨by kernel_rfl⟩
theorem u60 : Und Try.prog 60 (.int .i32) := ⟨Try.underlying60⟩
theorem p60 : PlainT Try.prog 60 := ⟨_, Try.underlying60, rfl⟩
theorem n60 : NonIfT Try.prog 60 := ⟨_, Try.underlying60, rfl⟩
theorem c61 : Cel Try.prog 61 11 := ⟨by kernel_rfl⟩
theorem n61 : NonIfT Try.prog 61 := ⟨_, Try.underlying61, rfl⟩
theorem f61_0 : Fld Try.prog 61 0 0 := ⟨by kernel_rfl⟩
theorem f61_1 : Fld Try.prog 61 1 1 := ⟨by kernel_rfl⟩
theorem f61_2 : Fld Try.prog 61 2 2 := ⟨by kernel_rfl⟩
theorem f61_3 : Fld Try.prog 61 3 3 := ⟨by kernel_rfl⟩
theorem f61_4 : Fld Try.prog 61 4 4 := ⟨by kernel_rfl⟩
theorem f61_5 : Fld Try.prog 61 5 5 := ⟨by kernel_rfl⟩
theorem f61_6 : Fld Try.prog 61 6 6 := ⟨by kernel_rfl⟩
theorem f61_7 : Fld Try.prog 61 7 7 := ⟨by kernel_rfl⟩
theorem f61_8 : Fld Try.prog 61 8 8 := ⟨by kernel_rfl⟩
theorem f61_9 : Fld Try.prog 61 9 9 := ⟨by kernel_rfl⟩
theorem f61_10 : Fld Try.prog 61 10 10 := ⟨by kernel_rfl⟩
theorem c62 : Cel Try.prog 62 11 := ⟨by kernel_rfl⟩
theorem n62 : NonIfT Try.prog 62 := ⟨_, Try.underlying62, rfl⟩
theorem f62_0 : Fld Try.prog 62 0 0 := ⟨by kernel_rfl⟩
theorem f62_1 : Fld Try.prog 62 1 1 := ⟨by kernel_rfl⟩
theorem f62_2 : Fld Try.prog 62 2 2 := ⟨by kernel_rfl⟩
theorem f62_3 : Fld Try.prog 62 3 3 := ⟨by kernel_rfl⟩
theorem f62_4 : Fld Try.prog 62 4 4 := ⟨by kernel_rfl⟩
theorem f62_5 : Fld Try.prog 62 5 5 := ⟨by kernel_rfl⟩
theorem f62_6 : Fld Try.prog 62 6 6 := ⟨by kernel_rfl⟩
theorem f62_7 : Fld Try.prog 62 7 7 := ⟨by kernel_rfl⟩
theorem f62_8 : Fld Try.prog 62 8 8 := ⟨by kernel_rfl⟩
theorem f62_9 : Fld Try.prog 62 9 9 := ⟨by kernel_rfl⟩
theorem f62_10 : Fld Try.prog 62 10 10 := ⟨by kernel_rfl⟩
theorem c63 : Cel Try.prog 63 1 := ⟨by kernel_rfl⟩
theorem p63 : PlainT Try.prog 63 := ⟨_, Try.underlying63, rfl⟩
theorem n63 : NonIfT Try.prog 63 := ⟨_, Try.underlying63, rfl⟩
theorem k3 : Callable Try.prog 3 := ⟨Try.f3, Try.func3, by kernel_rfl, by kernel_rfl⟩
theorem k4 : Callable Try.prog 4 := ⟨Try.f4, Try.func4, by kernel_rfl, by kernel_rfl⟩
theorem k5 : Callable Try.prog 5 := ⟨Try.f5, Try.func5, by kernel_rfl, by kernel_rfl⟩
theorem k6 : Callable Try.prog 6 := ⟨Try.f6, Try.func6, by kernel_rfl, by kernel_rfl⟩
theorem k7 : Callable Try.prog 7 := ⟨Try.f7, Try.func7, by kernel_rfl, by kernel_rfl⟩
theorem k8 : Callable Try.prog 8 := ⟨Try.f8, Try.func8, by kernel_rfl, by kernel_rfl⟩
theorem k9 : Callable Try.prog 9 := ⟨Try.f9, Try.func9, by kernel_rfl, by kernel_rfl⟩
theorem k10 : Callable Try.prog 10 := ⟨Try.f10, Try.func10, by kernel_rfl, by kernel_rfl⟩
theorem k12 : Callable Try.prog 12 := ⟨Try.f12, Try.func12, by kernel_rfl, by kernel_rfl⟩
theorem k13 : Callable Try.prog 13 := ⟨Try.f13, Try.func13, by kernel_rfl, by kernel_rfl⟩
theorem k14 : Callable Try.prog 14 := ⟨Try.f14, Try.func14, by kernel_rfl, by kernel_rfl⟩
theorem k15 : Callable Try.prog 15 := ⟨Try.f15, Try.func15, by kernel_rfl, by kernel_rfl⟩
theorem k16 : Callable Try.prog 16 := ⟨Try.f16, Try.func16, by kernel_rfl, by kernel_rfl⟩
theorem k17 : Callable Try.prog 17 := ⟨Try.f17, Try.func17, by kernel_rfl, by kernel_rfl⟩
theorem k18 : Callable Try.prog 18 := ⟨Try.f18, Try.func18, by kernel_rfl, by kernel_rfl⟩
theorem k19 : Callable Try.prog 19 := ⟨Try.f19, Try.func19, by kernel_rfl, by kernel_rfl⟩
theorem k20 : Callable Try.prog 20 := ⟨Try.f20, Try.func20, by kernel_rfl, by kernel_rfl⟩
theorem k21 : Callable Try.prog 21 := ⟨Try.f21, Try.func21, by kernel_rfl, by kernel_rfl⟩
theorem k22 : Callable Try.prog 22 := ⟨Try.f22, Try.func22, by kernel_rfl, by kernel_rfl⟩
theorem k23 : Callable Try.prog 23 := ⟨Try.f23, Try.func23, by kernel_rfl, by kernel_rfl⟩
theorem k24 : Callable Try.prog 24 := ⟨Try.f24, Try.func24, by kernel_rfl, by kernel_rfl⟩
theorem k25 : Callable Try.prog 25 := ⟨Try.f25, Try.func25, by kernel_rfl, by kernel_rfl⟩
theorem k26 : Callable Try.prog 26 := ⟨Try.f26, Try.func26, by kernel_rfl, by kernel_rfl⟩
theorem k27 : Callable Try.prog 27 := ⟨Try.f27, Try.func27, by kernel_rfl, by kernel_rfl⟩
end Go.Proofs.Ytcibehgcibojnaa.Tb

namespace Go.Proofs.Ytcibehgcibojnaa.Tb
open Go Go.Proofs.Ytcibehgcibojnaa.Vm
instance : CelC Try.prog 0 1 := ⟨c0⟩
instance : PlainC Try.prog 0 := ⟨p0⟩
instance : NonIfC Try.prog 0 := ⟨n0⟩
instance : CelC Try.prog 1 1 := ⟨c1⟩
instance : PlainC Try.prog 1 := ⟨p1⟩
instance : NonIfC Try.prog 1 := ⟨n1⟩
instance : CelC Try.prog 2 1 := ⟨c2⟩
instance : UndC Try.prog 2 (.int .i64) := ⟨u2⟩
instance : PlainC Try.prog 2 := ⟨p2⟩
instance : NonIfC Try.prog 2 := ⟨n2⟩
instance : CelC Try.prog 3 1 := ⟨c3⟩
instance : UndC Try.prog 3 (.int .i64) := ⟨u3⟩
instance : PlainC Try.prog 3 := ⟨p3⟩
instance : NonIfC Try.prog 3 := ⟨n3⟩
instance : CelC Try.prog 4 1 := ⟨c4⟩
instance : PlainC Try.prog 4 := ⟨p4⟩
instance : NonIfC Try.prog 4 := ⟨n4⟩
instance : CelC Try.prog 5 1 := ⟨c5⟩
instance : UndC Try.prog 5 (.int .u8) := ⟨u5⟩
instance : PlainC Try.prog 5 := ⟨p5⟩
instance : NonIfC Try.prog 5 := ⟨n5⟩
instance : CelC Try.prog 6 1 := ⟨c6⟩
instance : UndC Try.prog 6 (.int .u8) := ⟨u6⟩
instance : PlainC Try.prog 6 := ⟨p6⟩
instance : NonIfC Try.prog 6 := ⟨n6⟩
instance : CelC Try.prog 7 4 := ⟨c7⟩
instance : NonIfC Try.prog 7 := ⟨n7⟩
instance : CelC Try.prog 8 4 := ⟨c8⟩
instance : NonIfC Try.prog 8 := ⟨n8⟩
instance : CelC Try.prog 9 1 := ⟨c9⟩
instance : PlainC Try.prog 9 := ⟨p9⟩
instance : NonIfC Try.prog 9 := ⟨n9⟩
instance : CelC Try.prog 10 1 := ⟨c10⟩
instance : PlainC Try.prog 10 := ⟨p10⟩
instance : NonIfC Try.prog 10 := ⟨n10⟩
instance : CelC Try.prog 11 1 := ⟨c11⟩
instance : PlainC Try.prog 11 := ⟨p11⟩
instance : NonIfC Try.prog 11 := ⟨n11⟩
instance : CelC Try.prog 12 1 := ⟨c12⟩
instance : UndC Try.prog 12 (.int .u64) := ⟨u12⟩
instance : PlainC Try.prog 12 := ⟨p12⟩
instance : NonIfC Try.prog 12 := ⟨n12⟩
instance : CelC Try.prog 13 2 := ⟨c13⟩
instance : NonIfC Try.prog 13 := ⟨n13⟩
instance : CelC Try.prog 14 2 := ⟨c14⟩
instance : NonIfC Try.prog 14 := ⟨n14⟩
instance : CelC Try.prog 15 1 := ⟨c15⟩
instance : PlainC Try.prog 15 := ⟨p15⟩
instance : NonIfC Try.prog 15 := ⟨n15⟩
instance : CelC Try.prog 16 1 := ⟨c16⟩
instance : PlainC Try.prog 16 := ⟨p16⟩
instance : NonIfC Try.prog 16 := ⟨n16⟩
instance : CelC Try.prog 17 1 := ⟨c17⟩
instance : PlainC Try.prog 17 := ⟨p17⟩
instance : NonIfC Try.prog 17 := ⟨n17⟩
instance : CelC Try.prog 18 1 := ⟨c18⟩
instance : NonIfC Try.prog 18 := ⟨n18⟩
instance : CelC Try.prog 19 1 := ⟨c19⟩
instance : NonIfC Try.prog 19 := ⟨n19⟩
instance : CelC Try.prog 20 1 := ⟨c20⟩
instance : PlainC Try.prog 20 := ⟨p20⟩
instance : CelC Try.prog 21 1 := ⟨c21⟩
instance : UndC Try.prog 21 (.int .i32) := ⟨u21⟩
instance : PlainC Try.prog 21 := ⟨p21⟩
instance : NonIfC Try.prog 21 := ⟨n21⟩
instance : CelC Try.prog 22 1 := ⟨c22⟩
instance : UndC Try.prog 22 (.slice 5) := ⟨u22⟩
instance : PlainC Try.prog 22 := ⟨p22⟩
instance : NonIfC Try.prog 22 := ⟨n22⟩
instance : CelC Try.prog 23 1 := ⟨c23⟩
instance : PlainC Try.prog 23 := ⟨p23⟩
instance : NonIfC Try.prog 23 := ⟨n23⟩
instance : CelC Try.prog 24 1 := ⟨c24⟩
instance : PlainC Try.prog 24 := ⟨p24⟩
instance : NonIfC Try.prog 24 := ⟨n24⟩
instance : CelC Try.prog 25 1 := ⟨c25⟩
instance : UndC Try.prog 25 (.slice 3) := ⟨u25⟩
instance : PlainC Try.prog 25 := ⟨p25⟩
instance : NonIfC Try.prog 25 := ⟨n25⟩
instance : CelC Try.prog 26 1 := ⟨c26⟩
instance : PlainC Try.prog 26 := ⟨p26⟩
instance : NonIfC Try.prog 26 := ⟨n26⟩
instance : CelC Try.prog 27 1 := ⟨c27⟩
instance : PlainC Try.prog 27 := ⟨p27⟩
instance : NonIfC Try.prog 27 := ⟨n27⟩
instance : CelC Try.prog 28 1 := ⟨c28⟩
instance : UndC Try.prog 28 (.int .u16) := ⟨u28⟩
instance : PlainC Try.prog 28 := ⟨p28⟩
instance : NonIfC Try.prog 28 := ⟨n28⟩
instance : CelC Try.prog 29 1 := ⟨c29⟩
instance : PlainC Try.prog 29 := ⟨p29⟩
instance : NonIfC Try.prog 29 := ⟨n29⟩
instance : CelC Try.prog 30 1 := ⟨c30⟩
instance : UndC Try.prog 30 (.slice 4) := ⟨u30⟩
instance : PlainC Try.prog 30 := ⟨p30⟩
instance : NonIfC Try.prog 30 := ⟨n30⟩
instance : CelC Try.prog 31 1 := ⟨c31⟩
instance : PlainC Try.prog 31 := ⟨p31⟩
instance : NonIfC Try.prog 31 := ⟨n31⟩
instance : CelC Try.prog 32 1 := ⟨c32⟩
instance : PlainC Try.prog 32 := ⟨p32⟩
instance : NonIfC Try.prog 32 := ⟨n32⟩
instance : CelC Try.prog 33 1 := ⟨c33⟩
instance : PlainC Try.prog 33 := ⟨p33⟩
instance : NonIfC Try.prog 33 := ⟨n33⟩
instance : CelC Try.prog 34 1 := ⟨c34⟩
instance : UndC Try.prog 34 (.int .u64) := ⟨u34⟩
instance : PlainC Try.prog 34 := ⟨p34⟩
instance : NonIfC Try.prog 34 := ⟨n34⟩
instance : CelC Try.prog 35 1 := ⟨c35⟩
instance : PlainC Try.prog 35 := ⟨p35⟩
instance : NonIfC Try.prog 35 := ⟨n35⟩
instance : CelC Try.prog 36 1 := ⟨c36⟩
instance : PlainC Try.prog 36 := ⟨p36⟩
instance : NonIfC Try.prog 36 := ⟨n36⟩
instance : CelC Try.prog 37 1 := ⟨c37⟩
instance : PlainC Try.prog 37 := ⟨p37⟩
instance : NonIfC Try.prog 37 := ⟨n37⟩
instance : CelC Try.prog 38 1 := ⟨c38⟩
instance : PlainC Try.prog 38 := ⟨p38⟩
instance : NonIfC Try.prog 38 := ⟨n38⟩
instance : CelC Try.prog 39 1 := ⟨c39⟩
instance : PlainC Try.prog 39 := ⟨p39⟩
instance : NonIfC Try.prog 39 := ⟨n39⟩
instance : CelC Try.prog 40 1 := ⟨c40⟩
instance : PlainC Try.prog 40 := ⟨p40⟩
instance : NonIfC Try.prog 40 := ⟨n40⟩
instance : CelC Try.prog 41 1 := ⟨c41⟩
instance : PlainC Try.prog 41 := ⟨p41⟩
instance : NonIfC Try.prog 41 := ⟨n41⟩
instance : CelC Try.prog 42 1 := ⟨c42⟩
instance : PlainC Try.prog 42 := ⟨p42⟩
instance : NonIfC Try.prog 42 := ⟨n42⟩
instance : CelC Try.prog 43 1 := ⟨c43⟩
instance : PlainC Try.prog 43 := ⟨p43⟩
instance : NonIfC Try.prog 43 := ⟨n43⟩
instance : CelC Try.prog 44 1 := ⟨c44⟩
instance : PlainC Try.prog 44 := ⟨p44⟩
instance : NonIfC Try.prog 44 := ⟨n44⟩
instance : CelC Try.prog 45 1 := ⟨c45⟩
instance : PlainC Try.prog 45 := ⟨p45⟩
instance : NonIfC Try.prog 45 := ⟨n45⟩
instance : CelC Try.prog 46 1 := ⟨c46⟩
instance : PlainC Try.prog 46 := ⟨p46⟩
instance : NonIfC Try.prog 46 := ⟨n46⟩
instance : CelC Try.prog 47 1 := ⟨c47⟩
instance : PlainC Try.prog 47 := ⟨p47⟩
instance : NonIfC Try.prog 47 := ⟨n47⟩
instance : CelC Try.prog 48 4 := ⟨c48⟩
instance : NonIfC Try.prog 48 := ⟨n48⟩
instance : CelC Try.prog 49 4 := ⟨c49⟩
instance : NonIfC Try.prog 49 := ⟨n49⟩
instance : UndC Try.prog 50 (.array 0 16) := ⟨u50⟩
instance : NonIfC Try.prog 50 := ⟨n50⟩
instance : NonIfC Try.prog 51 := ⟨n51⟩
instance : NonIfC Try.prog 52 := ⟨n52⟩
instance : CelC Try.prog 53 1 := ⟨c53⟩
instance : PlainC Try.prog 53 := ⟨p53⟩
instance : NonIfC Try.prog 53 := ⟨n53⟩
instance : CelC Try.prog 54 1 := ⟨c54⟩
instance : UndC Try.prog 54 (.int .u32) := ⟨u54⟩
instance : PlainC Try.prog 54 := ⟨p54⟩
instance : NonIfC Try.prog 54 := ⟨n54⟩
instance : CelC Try.prog 55 1 := ⟨c55⟩
instance : UndC Try.prog 55 (.int .u8) := ⟨u55⟩
instance : PlainC Try.prog 55 := ⟨p55⟩
instance : NonIfC Try.prog 55 := ⟨n55⟩
instance : CelC Try.prog 56 1 := ⟨c56⟩
instance : UndC Try.prog 56 (.int .u8) := ⟨u56⟩
instance : PlainC Try.prog 56 := ⟨p56⟩
instance : NonIfC Try.prog 56 := ⟨n56⟩
instance : CelC Try.prog 57 1 := ⟨c57⟩
instance : PlainC Try.prog 57 := ⟨p57⟩
instance : NonIfC Try.prog 57 := ⟨n57⟩
instance : CelC Try.prog 58 1 := ⟨c58⟩
instance : PlainC Try.prog 58 := ⟨p58⟩
instance : NonIfC Try.prog 58 := ⟨n58⟩
instance : CelC Try.prog 59 1 := ⟨c59⟩
instance : UndC Try.prog 59 (.int .i32) := ⟨u59⟩
instance : PlainC Try.prog 59 := ⟨p59⟩
instance : NonIfC Try.prog 59 := ⟨n59⟩
instance : CelC Try.prog 60 1 := ⟨c60⟩
instance : UndC Try.prog 60 (.int .i32) := ⟨u60⟩
instance : PlainC Try.prog 60 := ⟨p60⟩
instance : NonIfC Try.prog 60 := ⟨n60⟩
instance : CelC Try.prog 61 11 := ⟨c61⟩
instance : NonIfC Try.prog 61 := ⟨n61⟩
instance : CelC Try.prog 62 11 := ⟨c62⟩
instance : NonIfC Try.prog 62 := ⟨n62⟩
instance : CelC Try.prog 63 1 := ⟨c63⟩
instance : PlainC Try.prog 63 := ⟨p63⟩
instance : NonIfC Try.prog 63 := ⟨n63⟩
instance : FldC Try.prog 7 0 0 := ⟨f7_0⟩
instance : FldC Try.prog 7 1 1 := ⟨f7_1⟩
instance : FldC Try.prog 7 2 2 := ⟨f7_2⟩
instance : FldC Try.prog 7 3 3 := ⟨f7_3⟩
instance : FldC Try.prog 8 0 0 := ⟨f8_0⟩
instance : FldC Try.prog 8 1 1 := ⟨f8_1⟩
instance : FldC Try.prog 8 2 2 := ⟨f8_2⟩
instance : FldC Try.prog 8 3 3 := ⟨f8_3⟩
instance : FldC Try.prog 13 0 0 := ⟨f13_0⟩
instance : FldC Try.prog 13 1 1 := ⟨f13_1⟩
instance : FldC Try.prog 14 0 0 := ⟨f14_0⟩
instance : FldC Try.prog 14 1 1 := ⟨f14_1⟩
instance : FldC Try.prog 18 0 0 := ⟨f18_0⟩
instance : FldC Try.prog 19 0 0 := ⟨f19_0⟩
instance : FldC Try.prog 48 0 0 := ⟨f48_0⟩
instance : FldC Try.prog 48 1 1 := ⟨f48_1⟩
instance : FldC Try.prog 48 2 2 := ⟨f48_2⟩
instance : FldC Try.prog 48 3 3 := ⟨f48_3⟩
instance : FldC Try.prog 49 0 0 := ⟨f49_0⟩
instance : FldC Try.prog 49 1 1 := ⟨f49_1⟩
instance : FldC Try.prog 49 2 2 := ⟨f49_2⟩
instance : FldC Try.prog 49 3 3 := ⟨f49_3⟩
instance : FldC Try.prog 61 0 0 := ⟨f61_0⟩
instance : FldC Try.prog 61 1 1 := ⟨f61_1⟩
instance : FldC Try.prog 61 2 2 := ⟨f61_2⟩
instance : FldC Try.prog 61 3 3 := ⟨f61_3⟩
instance : FldC Try.prog 61 4 4 := ⟨f61_4⟩
instance : FldC Try.prog 61 5 5 := ⟨f61_5⟩
instance : FldC Try.prog 61 6 6 := ⟨f61_6⟩
instance : FldC Try.prog 61 7 7 := ⟨f61_7⟩
instance : FldC Try.prog 61 8 8 := ⟨f61_8⟩
instance : FldC Try.prog 61 9 9 := ⟨f61_9⟩
instance : FldC Try.prog 61 10 10 := ⟨f61_10⟩
instance : FldC Try.prog 62 0 0 := ⟨f62_0⟩
instance : FldC Try.prog 62 1 1 := ⟨f62_1⟩
instance : FldC Try.prog 62 2 2 := ⟨f62_2⟩
instance : FldC Try.prog 62 3 3 := ⟨f62_3⟩
instance : FldC Try.prog 62 4 4 := ⟨f62_4⟩
instance : FldC Try.prog 62 5 5 := ⟨f62_5⟩
instance : FldC Try.prog 62 6 6 := ⟨f62_6⟩
instance : FldC Try.prog 62 7 7 := ⟨f62_7⟩
instance : FldC Try.prog 62 8 8 := ⟨f62_8⟩
instance : FldC Try.prog 62 9 9 := ⟨f62_9⟩
instance : FldC Try.prog 62 10 10 := ⟨f62_10⟩
end Go.Proofs.Ytcibehgcibojnaa.Tb

namespace Go.Proofs.Ytcibehgcibojnaa.Saib
open Go Go.RowKit Go.Proofs.Ytcibehgcibojnaa.Vm Go.Proofs.Ytcibehgcibojnaa.Sais
theorem getCounts_c (T : List Nat) (k : Nat) (hT : Txt T k) (C : List Int) (own : Bool) (bT oT lT cT bC oC lC cC : Nat) (F : Mem) (hlT : T.length ≤ lT) (hlC : k ≤ lC) (hC : C.length = k) :
    HC Try.prog 13 #[.slice (some ⟨bT, oT, none⟩) lT cT, .slice (some ⟨bC, oC, none⟩) lC cC, .int .i64 T.length, .int .i64 k]
      (⟨own, bT, oT, ints .u8 (T.map Nat.cast)⟩ :: ⟨true, bC, oC, ints .i64 C⟩ :: F)
      (fun v M' => v = .tuple #[] ∧ ∃ C', Cnt T T.length k C' ∧ M' = ⟨own, bT, oT, ints .u8 (T.map Nat.cast)⟩ :: ⟨true, bC, oC, ints .i64 C'⟩ :: F) := by
  obtain ⟨hn0, hn1, hk1, hlt⟩ := hT
  refine HC_of_W (fn := Try.f13) Try.func13 rfl rfl rfl rfl ?_
  repeat' (first|(refine isO ?_;first|refine oo (Pc rfl) ?_|refine oo (Pa rfl (by omega) (by omega)) ?_|(refine ob rfl ?_ ?_<;>intro hq<;>try (exfalso;omega))|refine oo (Pi rfl (by omega)) ?_|refine oo (Pl rfl) ?_|refine oo (Px rfl rfl) ?_|refine oo (Pj rfl (by omega) (by omega)) ?_|refine oo (Pk rfl (by omega) (by omega)) ?_|refine oo (Pf rfl) ?_|refine oo (Pv rfl (by omega) (by omega)) ?_|refine oo (Pn rfl) ?_|refine oo (Pm rfl) ?_|refine os rfl rfl ?_|refine ot rfl (by omega) ?_|refine O_nil ?_)|refine wo rfl ?_|refine wc rfl ?_|refine wg rfl ?_|refine go rfl ?_|refine gc rfl ?_|refine gg rfl ?_)
  refine W_loop (α := Nat × List Int) (fun x => [(0, .slice (some ⟨bT, oT, none⟩) lT cT), (1, .slice (some ⟨bC, oC, none⟩) lC cC), (2, .int .i64 T.length), (3, .int .i64 k), (8, .int .i64 x.1)])
    (fun x => ⟨own, bT, oT, ints .u8 (T.map Nat.cast)⟩ :: ⟨true, bC, oC, ints .i64 x.2⟩ :: F) (fun x => x.1 ≤ k ∧ x.2.length = k ∧ ∀ c, c < x.1 → rd x.2 (c : Int) = 0) (fun x => k - x.1) (0, C) ⟨by omega, hC, fun c hc => by omega⟩ ⟨rfl, rfl, rfl, rfl, rfl, trivial⟩ .rfl ?_
  rintro ⟨i, C1⟩ ⟨hi, hC1, hz⟩
  dsimp only at hi hC1 hz ⊢
  repeat' (first|(refine isO ?_;first|refine oo (Pc rfl) ?_|refine oo (Pa rfl (by omega) (by omega)) ?_|(refine ob rfl ?_ ?_<;>intro hq<;>try (exfalso;omega))|refine oo (Pi rfl (by omega)) ?_|refine oo (Pl rfl) ?_|refine oo (Px rfl rfl) ?_|refine oo (Pj rfl (by omega) (by omega)) ?_|refine oo (Pk rfl (by omega) (by omega)) ?_|refine oo (Pf rfl) ?_|refine oo (Pv rfl (by omega) (by omega)) ?_|refine oo (Pn rfl) ?_|refine oo (Pm rfl) ?_|refine os rfl rfl ?_|refine ot rfl (by omega) ?_|refine O_nil ?_)|refine wo rfl ?_|refine wc rfl ?_|refine wg rfl ?_|refine go rfl ?_|refine gc rfl ?_|refine gg rfl ?_)
  · refine G_stop ⟨(i + 1, wr C1 i 0), ⟨by dsimp only; omega, by rw [wr_length]; exact hC1, fun c hc => ?_⟩, by dsimp only; omega, ⟨rfl, rfl, rfl, rfl, rfl, trivial⟩, .rfl⟩
    dsimp only at hc ⊢
    rw [rd_wr (by omega)]
    by_cases e : c = i
    · rw [if_pos e]
    · rw [if_neg e]; exact hz c (by omega)
  · refine W_loop (α := Nat × List Int) (fun x => [(0, .slice (some ⟨bT, oT, none⟩) lT cT), (1, .slice (some ⟨bC, oC, none⟩) lC cC), (2, .int .i64 T.length), (3, .int .i64 k), (8, .int .i64 x.1)])
      (fun x => ⟨own, bT, oT, ints .u8 (T.map Nat.cast)⟩ :: ⟨true, bC, oC, ints .i64 x.2⟩ :: F) (fun x => x.1 ≤ T.length ∧ Cnt T x.1 k x.2) (fun x => T.length - x.1) (0, C1) ⟨by omega, .zero hC1 fun c hc => hz c (by omega)⟩ ⟨rfl, rfl, rfl, rfl, rfl, trivial⟩ .rfl ?_
    rintro ⟨i, C2⟩ ⟨hi, hC2⟩
    dsimp only at hi hC2 ⊢
    have hl2 := hC2.1
    have hc := rd_ch T i
    have hcl := hlt i
    have hlen : (T.map (Nat.cast : Nat → Int)).length = T.length := List.length_map _
    have h3 := hC2.2 _ hcl
    have h4 := cnt_le T i (ch T i)
    rw [← hc] at h3
    repeat' (first|(refine isO ?_;first|refine oo (Pc rfl) ?_|refine oo (Pa rfl (by omega) (by omega)) ?_|(refine ob rfl ?_ ?_<;>intro hq<;>try (exfalso;omega))|refine oo (Pi rfl (by omega)) ?_|refine oo (Pl rfl) ?_|refine oo (Px rfl rfl) ?_|refine oo (Pj rfl (by omega) (by omega)) ?_|refine oo (Pk rfl (by omega) (by omega)) ?_|refine oo (Pf rfl) ?_|refine oo (Pv rfl (by omega) (by omega)) ?_|refine oo (Pn rfl) ?_|refine oo (Pm rfl) ?_|refine os rfl rfl ?_|refine ot rfl (by omega) ?_|refine O_nil ?_)|refine wo rfl ?_|refine wc rfl ?_|refine wg rfl ?_|refine go rfl ?_|refine gc rfl ?_|refine gg rfl ?_)
    · refine G_stop ⟨(i + 1, wr C2 (ch T i : Nat) (rd C2 (ch T i : Nat) + 1)), ⟨by dsimp only; omega, hC2.step hcl⟩, by dsimp only; omega, ⟨rfl, rfl, rfl, rfl, rfl, trivial⟩, ?_⟩
      rw [← hc]
      exact .rfl
    · obtain rfl : i = T.length := by omega
      exact G_fin ⟨_, rfl, rfl, C2, hC2, rfl⟩
end Go.Proofs.Ytcibehgcibojnaa.Saib

namespace Go.Proofs.Ytcibehgcibojnaa.Saib
open Go Go.RowKit Go.Proofs.Ytcibehgcibojnaa.Vm Go.Proofs.Ytcibehgcibojnaa.Sais
theorem ends_c (T : List Nat) (k : Nat) (hT : Txt T k) (C B : List Int) (bB oB lB cB bC oC lC cC : Nat) (F : Mem) (hlB : k ≤ lB) (hlC : k ≤ lC) (hC : Cnt T T.length k C) (hB : B.length = k) :
    HC Try.prog 14 #[.slice (some ⟨bC, oC, none⟩) lC cC, .slice (some ⟨bB, oB, none⟩) lB cB, .int .i64 k, .bool true]
      (⟨true, bC, oC, ints .i64 C⟩ :: ⟨true, bB, oB, ints .i64 B⟩ :: F)
      (fun v M' => v = .tuple #[] ∧ ∃ B', EndsTo T k k B' ∧ M' = ⟨true, bC, oC, ints .i64 C⟩ :: ⟨true, bB, oB, ints .i64 B'⟩ :: F) := by
  obtain ⟨hn0, hn1, hk1, hlt⟩ := hT
  have hlC2 := hC.1
  refine HC_of_W (fn := Try.f14) Try.func14 rfl rfl rfl rfl ?_
  repeat' (first|(refine isO ?_;first|refine oo (Pc rfl) ?_|refine oo (Pa rfl (by omega) (by omega)) ?_|(refine ob rfl ?_ ?_<;>intro hq<;>try (exfalso;omega))|refine oo (Pi rfl (by omega)) ?_|refine oo (Pl rfl) ?_|refine oo (Px rfl rfl) ?_|refine oo (Pj rfl (by omega) (by omega)) ?_|refine oo (Pk rfl (by omega) (by omega)) ?_|refine oo (Pf rfl) ?_|refine oo (Pv rfl (by omega) (by omega)) ?_|refine oo (Pn rfl) ?_|refine oo (Pm rfl) ?_|refine os rfl rfl ?_|refine ot rfl (by omega) ?_|refine O_nil ?_)|refine wo rfl ?_|refine wc rfl ?_|refine wg rfl ?_|refine go rfl ?_|refine gc rfl ?_|refine gg rfl ?_)
  refine W_loop (α := Nat × List Int) (fun x => [(0, .slice (some ⟨bC, oC, none⟩) lC cC), (1, .slice (some ⟨bB, oB, none⟩) lB cB), (2, .int .i64 k), (8, .int .i64 x.1), (9, .int .i64 (bst T x.1 : Nat))])
    (fun x => ⟨true, bC, oC, ints .i64 C⟩ :: ⟨true, bB, oB, ints .i64 x.2⟩ :: F) (fun x => x.1 ≤ k ∧ EndsTo T x.1 k x.2) (fun x => k - x.1) (0, B) ⟨by omega, hB, fun c hc => by omega⟩ ⟨rfl, rfl, rfl, rfl, by rw [bst_zero]; rfl, trivial⟩ .rfl ?_
  rintro ⟨i, B1⟩ ⟨hi, hB1⟩
  dsimp only at hi hB1 ⊢
  have h1 := hB1.1
  have h2 := bst_le T i
  have h3 := bst_cnt T i
  have h4 := bst_le T (i + 1)
  by_cases hik : i < k
  · have h5 := hC.2 i hik
    have h6 : ((bst T i : Nat) : Int) + rd C i = (bst T (i + 1) : Nat) := by rw [h5, h3]; rfl
    repeat' (first|(refine isO ?_;first|refine oo (Pc rfl) ?_|refine oo (Pa rfl (by omega) (by omega)) ?_|(refine ob rfl ?_ ?_<;>intro hq<;>try (exfalso;omega))|refine oo (Pi rfl (by omega)) ?_|refine oo (Pl rfl) ?_|refine oo (Px rfl rfl) ?_|refine oo (Pj rfl (by omega) (by omega)) ?_|refine oo (Pk rfl (by omega) (by omega)) ?_|refine oo (Pf rfl) ?_|refine oo (Pv rfl (by omega) (by omega)) ?_|refine oo (Pn rfl) ?_|refine oo (Pm rfl) ?_|refine os rfl rfl ?_|refine ot rfl (by omega) ?_|refine O_nil ?_)|refine wo rfl ?_|refine wc rfl ?_|refine wg rfl ?_|refine go rfl ?_|refine gc rfl ?_|refine gg rfl ?_)
    rw [h6]
    exact G_stop ⟨(i + 1, wr B1 i (bst T (i + 1) : Nat)), ⟨by dsimp only; omega, hB1.step hik rfl⟩, by dsimp only; omega, ⟨rfl, rfl, rfl, rfl, rfl, trivial⟩, .rfl⟩
  · obtain rfl : i = k := by omega
    repeat' (first|(refine isO ?_;first|refine oo (Pc rfl) ?_|refine oo (Pa rfl (by omega) (by omega)) ?_|(refine ob rfl ?_ ?_<;>intro hq<;>try (exfalso;omega))|refine oo (Pi rfl (by omega)) ?_|refine oo (Pl rfl) ?_|refine oo (Px rfl rfl) ?_|refine oo (Pj rfl (by omega) (by omega)) ?_|refine oo (Pk rfl (by omega) (by omega)) ?_|refine oo (Pf rfl) ?_|refine oo (Pv rfl (by omega) (by omega)) ?_|refine oo (Pn rfl) ?_|refine oo (Pm rfl) ?_|refine os rfl rfl ?_|refine ot rfl (by omega) ?_|refine O_nil ?_)|refine wo rfl ?_|refine wc rfl ?_|refine wg rfl ?_|refine go rfl ?_|refine gc rfl ?_|refine gg rfl ?_)
    exact G_fin ⟨_, rfl, rfl, B1, hB1, rfl⟩
theorem begins_c (T : List Nat) (k : Nat) (hT : Txt T k) (C B : List Int) (bB oB lB cB bC oC lC cC : Nat) (F : Mem) (hlB : k ≤ lB) (hlC : k ≤ lC) (hC : Cnt T T.length k C) (hB : B.length = k) :
    HC Try.prog 14 #[.slice (some ⟨bC, oC, none⟩) lC cC, .slice (some ⟨bB, oB, none⟩) lB cB, .int .i64 k, .bool false]
      (⟨true, bC, oC, ints .i64 C⟩ :: ⟨true, bB, oB, ints .i64 B⟩ :: F)
      (fun v M' => v = .tuple #[] ∧ ∃ B', BeginsTo T k k B' ∧ M' = ⟨true, bC, oC, ints .i64 C⟩ :: ⟨true, bB, oB, ints .i64 B'⟩ :: F) := by
  obtain ⟨hn0, hn1, hk1, hlt⟩ := hT
  have hlC2 := hC.1
  refine HC_of_W (fn := Try.f14) Try.func14 rfl rfl rfl rfl ?_
  repeat' (first|(refine isO ?_;first|refine oo (Pc rfl) ?_|refine oo (Pa rfl (by omega) (by omega)) ?_|(refine ob rfl ?_ ?_<;>intro hq<;>try (exfalso;omega))|refine oo (Pi rfl (by omega)) ?_|refine oo (Pl rfl) ?_|refine oo (Px rfl rfl) ?_|refine oo (Pj rfl (by omega) (by omega)) ?_|refine oo (Pk rfl (by omega) (by omega)) ?_|refine oo (Pf rfl) ?_|refine oo (Pv rfl (by omega) (by omega)) ?_|refine oo (Pn rfl) ?_|refine oo (Pm rfl) ?_|refine os rfl rfl ?_|refine ot rfl (by omega) ?_|refine O_nil ?_)|refine wo rfl ?_|refine wc rfl ?_|refine wg rfl ?_|refine go rfl ?_|refine gc rfl ?_|refine gg rfl ?_)
  refine W_loop (α := Nat × List Int) (fun x => [(0, .slice (some ⟨bC, oC, none⟩) lC cC), (1, .slice (some ⟨bB, oB, none⟩) lB cB), (2, .int .i64 k), (8, .int .i64 x.1), (9, .int .i64 (bst T x.1 : Nat))])
    (fun x => ⟨true, bC, oC, ints .i64 C⟩ :: ⟨true, bB, oB, ints .i64 x.2⟩ :: F) (fun x => x.1 ≤ k ∧ BeginsTo T x.1 k x.2) (fun x => k - x.1) (0, B) ⟨by omega, hB, fun c hc => by omega⟩ ⟨rfl, rfl, rfl, rfl, by rw [bst_zero]; rfl, trivial⟩ .rfl ?_
  rintro ⟨i, B1⟩ ⟨hi, hB1⟩
  dsimp only at hi hB1 ⊢
  have h1 := hB1.1
  have h2 := bst_le T i
  have h3 := bst_cnt T i
  have h4 := bst_le T (i + 1)
  by_cases hik : i < k
  · have h5 := hC.2 i hik
    have h6 : ((bst T i : Nat) : Int) + rd C i = (bst T (i + 1) : Nat) := by rw [h5, h3]; rfl
    have h7 : ((bst T (i + 1) : Nat) : Int) - rd C i = (bst T i : Nat) := by omega
    repeat' (first|(refine isO ?_;first|refine oo (Pc rfl) ?_|refine oo (Pa rfl (by omega) (by omega)) ?_|(refine ob rfl ?_ ?_<;>intro hq<;>try (exfalso;omega))|refine oo (Pi rfl (by omega)) ?_|refine oo (Pl rfl) ?_|refine oo (Px rfl rfl) ?_|refine oo (Pj rfl (by omega) (by omega)) ?_|refine oo (Pk rfl (by omega) (by omega)) ?_|refine oo (Pf rfl) ?_|refine oo (Pv rfl (by omega) (by omega)) ?_|refine oo (Pn rfl) ?_|refine oo (Pm rfl) ?_|refine os rfl rfl ?_|refine ot rfl (by omega) ?_|refine O_nil ?_)|refine wo rfl ?_|refine wc rfl ?_|refine wg rfl ?_|refine go rfl ?_|refine gc rfl ?_|refine gg rfl ?_)
    rw [h6, h7]
    exact G_stop ⟨(i + 1, wr B1 i (bst T i : Nat)), ⟨by dsimp only; omega, hB1.step hik rfl⟩, by dsimp only; omega, ⟨rfl, rfl, rfl, rfl, rfl, trivial⟩, .rfl⟩
  · obtain rfl : i = k := by omega
    repeat' (first|(refine isO ?_;first|refine oo (Pc rfl) ?_|refine oo (Pa rfl (by omega) (by omega)) ?_|(refine ob rfl ?_ ?_<;>intro hq<;>try (exfalso;omega))|refine oo (Pi rfl (by omega)) ?_|refine oo (Pl rfl) ?_|refine oo (Px rfl rfl) ?_|refine oo (Pj rfl (by omega) (by omega)) ?_|refine oo (Pk rfl (by omega) (by omega)) ?_|refine oo (Pf rfl) ?_|refine oo (Pv rfl (by omega) (by omega)) ?_|refine oo (Pn rfl) ?_|refine oo (Pm rfl) ?_|refine os rfl rfl ?_|refine ot rfl (by omega) ?_|refine O_nil ?_)|refine wo rfl ?_|refine wc rfl ?_|refine wg rfl ?_|refine go rfl ?_|refine gc rfl ?_|refine gg rfl ?_)
    exact G_fin ⟨_, rfl, rfl, B1, hB1, rfl⟩
end Go.Proofs.Ytcibehgcibojnaa.Saib
